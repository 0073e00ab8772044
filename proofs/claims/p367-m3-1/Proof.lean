import JvmDerived
import JvmDerived.Pilot.@@N@@Statement
import JvmDerived.Pilot.@@N@@Code
set_option linter.unusedVariables false
set_option linter.unusedSimpArgs false
namespace Jvm.Pilot.@@N@@
open Jvm Jvm.ClassFile Sem Op Lib Jvm.Free Jvm.Stand Jvm.LawKit Jvm.RoadKit Bundle Jvm.Pilot.@@N@@.Jvm.D
section Own
variable {p : Program} {l : Launch} {e : Env} {R : Room} {s : State} {m : MethodId} {args : Array Value} {below : List Frame} {meth : Method} {c : Code} {T : State} {locs : List Loc} {cells slots : Nat} {Z : State} {h h' : Heap} {a b : Addr} {G : State → Outcome → Prop} {Q : Option Value → Heap → List Loc → Prop} {C K : Nat}
/-- the run comes to an end of which G holds -/
def own_Goes (p : Program) (e : Env) (below : List Frame) (G : State → Outcome → Prop) (S : State) : Prop := ∃ s₂ o, Steps p.tables e below S s₂ ∧ s₂.status = .running ∧ Ended s₂ below o ∧ G s₂ o
theorem own_step {S S' : State} (k : ∀ t, Steps p.tables e below S' t → Steps p.tables e below S t) (h : own_Goes p e below G S') : own_Goes p e below G S := by
  obtain ⟨s₂, o, h1, h2⟩ := h
  exact ⟨s₂, o, k _ h1, h2⟩
theorem own_jump {S S' : State} (k : Steps p.tables e below S S') (h : own_Goes p e below G S') : own_Goes p e below G S := own_step (fun _ q => k.trans q) h
def own_Fin (s : State) (Q : Option Value → Heap → List Loc → Prop) (C K : Nat) : State → Outcome → Prop := fun U o => ∃ v L, o = .returned v ∧ Q v U.heap L ∧ FrameEnd s o U L C K
theorem own_ret0 (X : Stand p l e R s m args below meth c T locs cells slots) (hx : p.tables.exec = Jvm.exec) (hlk : meth.locks = false) (hret : meth.sig.returnType = none) {pc : Nat} {Ls : Array Slot} (hd : decode c.code pc = .ok (.return_, 1)) (hq : Q none T.heap locs) (hc : cells ≤ C) (hk : slots ≤ K) :
    own_Goes p e below (own_Fin s Q C K) (T.setTop (mkF m pc Ls [])) := by
  obtain ⟨fs, hr, hrun, hended, hW, hsame⟩ := X.leave (v := none) (fun _ => rfl)
  exact ⟨_, _, X.returnOut hx hret hd hr, hrun, hended, _, _, rfl, hq, ⟨_, rfl⟩, hW, hsame.mono hc hk⟩
theorem own_retV (X : Stand p l e R s m args below meth c T locs cells slots) (hx : p.tables.exec = Jvm.exec) (hlk : meth.locks = false) {t : FieldType} (hret : meth.sig.returnType = some t) {w : Value} (hn : narrow t w = w) {i : Instr}
    (hi : (i = .ireturn ∧ (t = .int ∨ t = .boolean ∨ t = .byte ∨ t = .char ∨ t = .short) ∧ ∃ z, w = .int z) ∨ (i = .lreturn ∧ t = .long ∧ ∃ z, w = .long z) ∨ (i = .dreturn ∧ t = .double ∧ ∃ z, w = .double z) ∨ (i = .freturn ∧ t = .float ∧ ∃ z, w = .float z) ∨ (i = .areturn ∧ t.isReference = true ∧ w.isRef = true))
    {pc : Nat} {Ls : Array Slot} {rest : List Value} (hd : decode c.code pc = .ok (i, 1)) (hq : Q (some w) T.heap locs) (hc : cells ≤ C) (hk : slots ≤ K) :
    own_Goes p e below (own_Fin s Q C K) (T.setTop (mkF m pc Ls (w :: rest))) := by
  obtain ⟨fs, hr, hrun, hended, hW, hsame⟩ := X.leave (v := some w) (fun h => by rw [hret] at h; cases h)
  exact ⟨_, _, retOut X hx hret hn hi hd hr, hrun, hended, _, _, rfl, hq, ⟨_, rfl⟩, hW, hsame.mono hc hk⟩
theorem own_nb {z : Int32} (h : z = 0 ∨ z = 1) : narrow .boolean (.int z) = .int z := by
  rcases h with rfl | rfl <;> rfl
theorem own_01 {q : Prop} [Decidable q] {x y : Int32} (hx : x = 0 ∨ x = 1) (hy : y = 0 ∨ y = 1) : (if q then x else y) = 0 ∨ (if q then x else y) = 1 := by
  split
  · exact hx
  · exact hy
/-- the law's own promise -/
def own_Q0 (n0 : Nat) (v : Option Value) (h : Heap) (L : List Loc) : Prop := v = some (.int 1) ∧ Fr n0 L
theorem own_retL {n0 : Nat} (X : Stand p l e R s m args below meth c T locs cells slots) (hx : p.tables.exec = Jvm.exec) (hlk : meth.locks = false) (hret : meth.sig.returnType = some .boolean) {pc : Nat} {Ls : Array Slot} {z : Int32} {rest : List Value} (hd : decode c.code pc = .ok (.ireturn, 1)) (hz : z = 1) (N : Fr n0 locs) (hc : cells ≤ C) (hk : slots ≤ K) :
    own_Goes p e below (own_Fin s (own_Q0 n0) C K) (T.setTop (mkF m pc Ls (.int z :: rest))) := by
  subst hz
  exact own_retV X hx hlk hret (own_nb (Or.inr rfl)) (Or.inl ⟨rfl, Or.inr (Or.inl rfl), _, rfl⟩) hd ⟨rfl, N⟩ hc hk
/-! arrays of ints and of longs, by their lists -/
theorem own_getI (xs : List Int32) (n : Nat) : (xs.map Value.int).getD n (Value.int 0) = Value.int (xs.getD n 0) := by
  simp only [List.getD_eq_getElem?_getD, List.getElem?_map]
  cases xs[n]? <;> rfl
theorem own_getJ (xs : List Int64) (n : Nat) : (xs.map Value.long).getD n (Value.long 0) = Value.long (xs.getD n 0) := by
  simp only [List.getD_eq_getElem?_getD, List.getElem?_map]
  cases xs[n]? <;> rfl
theorem own_newI {k : ClassId} {z : Int32} (A : Arr Z h a (newA k .int z) .int) (q : ¬ z < 0) (n : Nat) : Arv Z h a k .int z ((List.replicate n (0 : Int32)).map Value.int) (Value.int 0) :=
  (Arv.new A q).pad fun i => by rw [List.map_replicate]; exact pad_rep [] (Value.int 0) n i
theorem own_newJ {k : ClassId} {z : Int32} (A : Arr Z h a (newA k .long z) .long) (q : ¬ z < 0) (n : Nat) : Arv Z h a k .long z ((List.replicate n (0 : Int64)).map Value.long) (Value.long 0) :=
  (Arv.new A q).pad fun i => by rw [List.map_replicate]; exact pad_rep [] (Value.long 0) n i
theorem own_ial (X : Stand p l e R s m args below meth c T locs cells slots) (hx : p.tables.exec = Jvm.exec) (hZ : Z.Warmed39 s.vm) (eT : T.heap = h) {k : ClassId} {z j : Int32} {xs : List Int32} (F : Arv Z h a k .int z (xs.map Value.int) (Value.int 0)) (hj : ¬ j < 0 ∧ j < z)
    {g : JFrame} (hg : g.method = m) {rest : List Value} (hs : g.stack = .int j :: .ref a :: rest) (hd : decode c.code g.pc = .ok (.iaload, 1)) (t : State) (kk : Steps p.tables e below (T.setTop { g with pc := g.pc + 1, stack := .int (xs.getD j.toNatClampNeg 0) :: rest }) t) : Steps p.tables e below (T.setTop g) t := by
  obtain ⟨cl, Ar, -, S, -, H, -⟩ := F
  have hin := inb_of S hj
  exact X.iaload hx (j := j) (by rw [eT]; exact Ar.1) (State.isArrayOf_alike hZ.alike Ar.2.1) Ar.2.2 hin (H.at hin (own_getI _ _)) hg hs hd t kk
theorem own_lal (X : Stand p l e R s m args below meth c T locs cells slots) (hx : p.tables.exec = Jvm.exec) (hZ : Z.Warmed39 s.vm) (eT : T.heap = h) {k : ClassId} {z j : Int32} {xs : List Int64} (F : Arv Z h a k .long z (xs.map Value.long) (Value.long 0)) (hj : ¬ j < 0 ∧ j < z)
    {g : JFrame} (hg : g.method = m) {rest : List Value} (hs : g.stack = .int j :: .ref a :: rest) (hd : decode c.code g.pc = .ok (.laload, 1)) (t : State) (kk : Steps p.tables e below (T.setTop { g with pc := g.pc + 1, stack := .long (xs.getD j.toNatClampNeg 0) :: rest }) t) : Steps p.tables e below (T.setTop g) t := by
  obtain ⟨cl, Ar, -, S, -, H, -⟩ := F
  have hin := inb_of S hj
  exact X.laload hx (j := j) (by rw [eT]; exact Ar.1) (State.isArrayOf_alike hZ.alike Ar.2.1) Ar.2.2 hin (H.at hin (own_getJ _ _)) hg hs hd t kk
theorem own_len (X : Stand p l e R s m args below meth c T locs cells slots) (hx : p.tables.exec = Jvm.exec) (hZ : Z.Warmed39 s.vm) (eT : T.heap = h) {k : ClassId} {ty : FieldType} {z : Int32} {vs : List Value} {dv : Value} (F : Arv Z h a k ty z vs dv)
    {g : JFrame} (hg : g.method = m) {rest : List Value} (hs : g.stack = .ref a :: rest) (hd : decode c.code g.pc = .ok (.arraylength, 1)) (t : State) (kk : Steps p.tables e below (T.setTop { g with pc := g.pc + 1, stack := .int z :: rest }) t) : Steps p.tables e below (T.setTop g) t := by
  obtain ⟨cl, Ar, -, S, N, -, -⟩ := F
  refine X.arraylength hx (by rw [eT]; exact Ar.1) (State.isArrayOf_alike hZ.alike Ar.2.1) hg hs hd t ?_
  rw [len_of S N]
  exact kk
theorem own_ist (X : Stand p l e R s m args below meth c T locs cells slots) (hx : p.tables.exec = Jvm.exec) (hZ : Z.Warmed39 s.vm) (eT : T.heap = h) {k : ClassId} {z j y : Int32} {xs : List Int32} (F : Arv Z h a k .int z (xs.map Value.int) (Value.int 0)) (hj : ¬ j < 0 ∧ j < z) (n : Nat) (hn : j.toNatClampNeg = n) (hl : n < xs.length)
    {g : JFrame} (hg : g.method = m) {rest : List Value} (hs : g.stack = .int y :: .int j :: .ref a :: rest) (hd : decode c.code g.pc = .ok (.iastore, 1)) :
    ∃ T' h', Stand p l e R s m args below meth c T' (locs ++ [⟨a, j.toNatClampNeg⟩]) cells slots ∧ T'.heap = h' ∧ Wr h h' a j.toNatClampNeg (.int y) ∧ Arv Z h' a k .int z ((xs.set n y).map Value.int) (Value.int 0) ∧ ∀ t, Steps p.tables e below (T'.setTop { g with pc := g.pc + 1, stack := rest }) t → Steps p.tables e below (T.setTop g) t := by
  obtain ⟨cl, Ar, q, S, N, H, I⟩ := F
  obtain ⟨T', h', X', e', W, st⟩ := stI X hx hZ eT Ar (inb_of S hj) hg hs hd
  refine ⟨T', h', X', e', W, ?_, st⟩
  rw [List.map_set]
  exact Arv.set Ar q S N H I rfl W n hn (by rw [List.length_map]; exact hl)
theorem own_lst (X : Stand p l e R s m args below meth c T locs cells slots) (hx : p.tables.exec = Jvm.exec) (hZ : Z.Warmed39 s.vm) (eT : T.heap = h) {k : ClassId} {z j : Int32} {y : Int64} {xs : List Int64} (F : Arv Z h a k .long z (xs.map Value.long) (Value.long 0)) (hj : ¬ j < 0 ∧ j < z) (n : Nat) (hn : j.toNatClampNeg = n) (hl : n < xs.length)
    {g : JFrame} (hg : g.method = m) {rest : List Value} (hs : g.stack = .long y :: .int j :: .ref a :: rest) (hd : decode c.code g.pc = .ok (.lastore, 1)) :
    ∃ T' h', Stand p l e R s m args below meth c T' (locs ++ [⟨a, j.toNatClampNeg⟩]) cells slots ∧ T'.heap = h' ∧ Wr h h' a j.toNatClampNeg (.long y) ∧ Arv Z h' a k .long z ((xs.set n y).map Value.long) (Value.long 0) ∧ ∀ t, Steps p.tables e below (T'.setTop { g with pc := g.pc + 1, stack := rest }) t → Steps p.tables e below (T.setTop g) t := by
  obtain ⟨cl, Ar, q, S, N, H, I⟩ := F
  obtain ⟨T', h', X', e', W, st⟩ := stJ X hx hZ eT Ar (inb_of S hj) hg hs hd
  refine ⟨T', h', X', e', W, ?_, st⟩
  rw [List.map_set]
  exact Arv.set Ar q S N H I rfl W n hn (by rw [List.length_map]; exact hl)
end Own
theorem own_mask (x : Int64) : 0 ≤ (x &&& (4611686018427387903 : Int64)).toInt ∧ (x &&& (4611686018427387903 : Int64)).toInt < 4611686018427387904 := by
  rw [c_maskL x _ 62 (by decide) (by decide)]
  exact ⟨Int.emod_nonneg _ (by decide), Int.emod_lt_of_pos _ (by decide)⟩
theorem own_inc {v : Int64} (h1 : 0 ≤ v.toInt) (h2 : v.toInt < 4611686018427387904) : (v + (1 : Int64)).toInt = v.toInt + 1 := by
  have q1 := c_ladd v 1
  have q2 := rng64 (v + 1)
  have q3 : (1 : Int64).toInt = 1 := rfl
  omega
theorem own_nz {v : Int64} (h1 : 0 ≤ v.toInt) (h2 : v.toInt < 4611686018427387904) : (v + (1 : Int64)) ≠ 0 := fun q => by
  have q1 := own_inc h1 h2
  have q2 : (v + (1 : Int64)).toInt = (0 : Int64).toInt := congrArg Int64.toInt q
  have q3 : (0 : Int64).toInt = 0 := rfl
  omega
theorem own_nz1 {p vmx : Int64} (h : (p &&& (4611686018427387903 : Int64)) = vmx) : (vmx + (1 : Int64)) ≠ 0 := by
  subst h
  exact own_nz (own_mask p).1 (own_mask p).2
theorem own_rem {x v : Int64} (h0 : 0 ≤ x.toInt) (h1 : 0 ≤ v.toInt) (h2 : v.toInt < 4611686018427387904) : 0 ≤ (x - (x / (v + (1 : Int64))) * (v + (1 : Int64))).toInt ∧ (x - (x / (v + (1 : Int64))) * (v + (1 : Int64))).toInt ≤ v.toInt := by
  have q := (c_lrem x (v + (1 : Int64)) (v.toInt + 1) (own_inc h1 h2)).1 h0
  rw [q]
  have a1 := Int.emod_nonneg x.toInt (b := v.toInt + 1) (by omega)
  have a2 := Int.emod_lt_of_pos x.toInt (b := v.toInt + 1) (by omega)
  omega
theorem own_nz2 {p1 p2 vmx vt : Int64} (h : (p1 &&& (4611686018427387903 : Int64)) = vmx) (h' : ((p2 &&& (4611686018427387903 : Int64)) - ((p2 &&& (4611686018427387903 : Int64)) / (vmx + (1 : Int64))) * (vmx + (1 : Int64))) = vt) : (vt + (1 : Int64)) ≠ 0 := by
  subst h
  subst h'
  have q := own_mask p1
  have r := own_rem (own_mask p2).1 q.1 q.2
  exact own_nz r.1 (by omega)
theorem own_bounds {p1 p2 p3 p4 vmx vt vg vam : Int64} (h1 : (p1 &&& (4611686018427387903 : Int64)) = vmx) (h2 : ((p2 &&& (4611686018427387903 : Int64)) - ((p2 &&& (4611686018427387903 : Int64)) / (vmx + (1 : Int64))) * (vmx + (1 : Int64))) = vt)
    (h3 : ((p3 &&& (4611686018427387903 : Int64)) - ((p3 &&& (4611686018427387903 : Int64)) / (vt + (1 : Int64))) * (vt + (1 : Int64))) = vg) (h4 : (p4 &&& (4611686018427387903 : Int64)) = vam) :
    0 ≤ vg.toInt ∧ vg.toInt ≤ vt.toInt ∧ vt.toInt ≤ vmx.toInt ∧ vmx.toInt < 4611686018427387904 ∧ 0 ≤ vam.toInt ∧ vam.toInt < 4611686018427387904 := by
  have m1 := own_mask p1
  rw [h1] at m1
  have m4 := own_mask p4
  rw [h4] at m4
  have m2 := own_rem (own_mask p2).1 m1.1 m1.2
  rw [h2] at m2
  have m3 := own_rem (own_mask p3).1 m2.1 (by omega)
  rw [h3] at m3
  omega
theorem own_vals {vmx vt vg vam : Int64} (b : 0 ≤ vg.toInt ∧ vg.toInt ≤ vt.toInt ∧ vt.toInt ≤ vmx.toInt ∧ vmx.toInt < 4611686018427387904 ∧ 0 ≤ vam.toInt ∧ vam.toInt < 4611686018427387904) :
    ((0 : Int64) + vt).toInt = vt.toInt ∧ (((0 : Int64) + vt) - vg).toInt = vt.toInt - vg.toInt ∧ ((((0 : Int64) + vt) - vg) + vam).toInt = vt.toInt - vg.toInt + vam.toInt ∧ ((vmx - vt) + vg).toInt = vmx.toInt - vt.toInt + vg.toInt ∧ (((vmx - vt) + vg) + (1 : Int64)).toInt = vmx.toInt - vt.toInt + vg.toInt + 1
    ∧ ((((0 : Int64) + vt) - vg) + ((vmx - vt) + vg)).toInt = vmx.toInt ∧ ((((0 : Int64) + vt) - vg) + (((vmx - vt) + vg) + (1 : Int64))).toInt = vmx.toInt + 1 := by
  have z0 : (0 : Int64).toInt = 0 := rfl
  have z1 : (1 : Int64).toInt = 1 := rfl
  have e1 := c_ladd 0 vt
  have r1 := rng64 ((0 : Int64) + vt)
  have f1 : ((0 : Int64) + vt).toInt = vt.toInt := by omega
  have e2 := c_lsub ((0 : Int64) + vt) vg
  have r2 := rng64 (((0 : Int64) + vt) - vg)
  have f2 : (((0 : Int64) + vt) - vg).toInt = vt.toInt - vg.toInt := by omega
  have e3 := c_ladd (((0 : Int64) + vt) - vg) vam
  have r3 := rng64 ((((0 : Int64) + vt) - vg) + vam)
  have f3 : ((((0 : Int64) + vt) - vg) + vam).toInt = vt.toInt - vg.toInt + vam.toInt := by omega
  have e4 := c_lsub vmx vt
  have r4 := rng64 (vmx - vt)
  have f4 : (vmx - vt).toInt = vmx.toInt - vt.toInt := by omega
  have e5 := c_ladd (vmx - vt) vg
  have r5 := rng64 ((vmx - vt) + vg)
  have f5 : ((vmx - vt) + vg).toInt = vmx.toInt - vt.toInt + vg.toInt := by omega
  have e6 := c_ladd ((vmx - vt) + vg) 1
  have r6 := rng64 (((vmx - vt) + vg) + (1 : Int64))
  have f6 : (((vmx - vt) + vg) + (1 : Int64)).toInt = vmx.toInt - vt.toInt + vg.toInt + 1 := by omega
  have e7 := c_ladd (((0 : Int64) + vt) - vg) ((vmx - vt) + vg)
  have r7 := rng64 ((((0 : Int64) + vt) - vg) + ((vmx - vt) + vg))
  have e8 := c_ladd (((0 : Int64) + vt) - vg) (((vmx - vt) + vg) + (1 : Int64))
  have r8 := rng64 ((((0 : Int64) + vt) - vg) + (((vmx - vt) + vg) + (1 : Int64)))
  exact ⟨f1, f2, f3, f5, f6, by omega, by omega⟩
theorem own_edge {vmx vt vg vam : Int64} (b : 0 ≤ vg.toInt ∧ vg.toInt ≤ vt.toInt ∧ vt.toInt ≤ vmx.toInt ∧ vmx.toInt < 4611686018427387904 ∧ 0 ≤ vam.toInt ∧ vam.toInt < 4611686018427387904) : ¬ ((if vmx < ((((0 : Int64) + vt) - vg) + ((vmx - vt) + vg)) then (0 : Int32) else (1 : Int32)) = (0 : Int32)) := by
  have v := own_vals b
  rw [if_neg (by rw [Int64.lt_iff_toInt_lt]; omega)]
  decide
theorem own_plain {vmx vt vg vam : Int64} (b : 0 ≤ vg.toInt ∧ vg.toInt ≤ vt.toInt ∧ vt.toInt ≤ vmx.toInt ∧ vmx.toInt < 4611686018427387904 ∧ 0 ≤ vam.toInt ∧ vam.toInt < 4611686018427387904) :
    (if (if vmx < ((0 : Int64) + vt) then (0 : Int32) else (1 : Int32)) = (0 : Int32) then (0 : Int32) else (if (if (if vmx < ((((0 : Int64) + vt) - vg) + vam) then (0 : Int32) else (1 : Int32)) = (if ((vmx - vt) + vg) < vam then (0 : Int32) else (1 : Int32)) then (1 : Int32) else (0 : Int32)) = (0 : Int32) then (0 : Int32) else (if (if (if vmx < ((((0 : Int64) + vt) - vg) + (((vmx - vt) + vg) + (1 : Int64))) then (0 : Int32) else (1 : Int32)) = (0 : Int32) then (1 : Int32) else (0 : Int32)) = (0 : Int32) then (0 : Int32) else (1 : Int32)))) = 1 := by
  have v := own_vals b
  have h1 : ¬ vmx < ((0 : Int64) + vt) := by rw [Int64.lt_iff_toInt_lt]; omega
  have h3 : vmx < ((((0 : Int64) + vt) - vg) + (((vmx - vt) + vg) + (1 : Int64))) := by rw [Int64.lt_iff_toInt_lt]; omega
  have h2 : vmx < ((((0 : Int64) + vt) - vg) + vam) ↔ ((vmx - vt) + vg) < vam := by rw [Int64.lt_iff_toInt_lt, Int64.lt_iff_toInt_lt]; omega
  by_cases q : ((vmx - vt) + vg) < vam
  · simp only [if_neg h1, if_pos h3, if_pos q, if_pos (h2.mpr q)]
    decide
  · simp only [if_neg h1, if_pos h3, if_neg q, if_neg (fun z => q (h2.mp z))]
    decide
theorem own_pn0 : plainName "com/example/heed/heed/live/Budget" = true := by first | (simp [plainName, overriddenIn]; done) | decide +kernel
theorem own_dprog_84_method_1_code_0 : decode prog_84_method_1_code 0 = .ok (.aload_n 0, 1) := by decide +kernel
theorem own_dprog_84_method_1_code_1 : decode prog_84_method_1_code 1 = .ok (.invokespecial 1, 3) := by decide +kernel
theorem own_dprog_84_method_1_code_4 : decode prog_84_method_1_code 4 = .ok (.aload_n 0, 1) := by decide +kernel
theorem own_dprog_84_method_1_code_5 : decode prog_84_method_1_code 5 = .ok (.lload_n 1, 1) := by decide +kernel
theorem own_dprog_84_method_1_code_6 : decode prog_84_method_1_code 6 = .ok (.putfield 7, 3) := by decide +kernel
theorem own_dprog_84_method_1_code_9 : decode prog_84_method_1_code 9 = .ok (.return_, 1) := by decide +kernel
theorem own_b1_ef (m : MethodId) (a1 : Addr) (q1 : Int64) : entryFrame m #[(.ref a1), (.long q1)] 3 = mkF m 0 #[.val (.ref a1), .val (.long q1), .second] [] := by first | (simp [entryFrame, mkF, argsToLocals, Value.category]; done) | rfl
def own_b1_Q (Z : State) (a1 : Addr) (q1 : Int64) (u : Value) (w : Int64) (h0 : Heap) (n0 : Nat) (v : Option Value) (h : Heap) (L : List Loc) : Prop := v = none ∧ Fr n0 L ∧ Keep h0 h [a1] ∧ Exa Z h a1 "com/example/heed/heed/live/Budget" ∧ Fld Z h a1 "com/example/heed/heed/live/Budget" "max" "J" (.long q1) ∧ Fld Z h a1 "com/example/heed/heed/live/Budget" "taken" "J" (.long w)
set_option maxRecDepth 65536 in
set_option maxHeartbeats 40000000 in
theorem own_b1 (l : Launch) (Z : State) (a0 : Array Value) (hw : ∀ d ∈ tables_1, d.before a0 Z = true) (ws : List Jvm.Cond) (a1 : Addr) (q1 : Int64) (u : Value) (w : Int64) (h0 : Heap) (n0 : Nat) (Z0 : n0 ≤ h0.size) (F_max_a1 : Fld Z h0 a1 "com/example/heed/heed/live/Budget" "max" "J" u) (F_taken_a1 : Fld Z h0 a1 "com/example/heed/heed/live/Budget" "taken" "J" (.long w)) (E_a1 : Exa Z h0 a1 "com/example/heed/heed/live/Budget") (g_a1 : n0 ≤ a1) :
    MetFree l (⟨"com/example/heed/heed/live/Budget", "<init>", "(J)V"⟩ : MethodName) (head1 (Jvm.Cond.code (⟨"com/example/heed/heed/live/Budget", "<init>", "(J)V"⟩ : MethodName) prog_84_method_1_code 3 none :: ws) ({ frames := 1, cells := 0, slots := 0, locals := 12 } : Room)) (fun aa U => aa = #[(.ref a1), (.long q1)] ∧ Z.Warmed39 U.vm ∧ U.heap = h0) (fun _ _ _ _ _ => True) (fun _ U o U' => ∃ v L, o = .returned v ∧ own_b1_Q Z a1 q1 u w h0 n0 v U'.heap L ∧ FrameEnd U o U' L ({ frames := 1, cells := 0, slots := 0, locals := 12 } : Room).cells ({ frames := 1, cells := 0, slots := 0, locals := 12 } : Room).slots) := by
  refine MetFree.of_bodySF (plainFor_of_name own_pn0) hisR ?_
  have w2 := hw _ (List.mem_of_getElem? (i := 2) rfl)
  have w7 := hw _ (List.mem_of_getElem? (i := 7) rfl)
  have w8 := hw _ (List.mem_of_getElem? (i := 8) rfl)
  have w9 := hw _ (List.mem_of_getElem? (i := 9) rfl)
  have w10 := hw _ (List.mem_of_getElem? (i := 10) rfl)
  have w11 := hw _ (List.mem_of_getElem? (i := 11) rfl)
  have w18 := hw _ (List.mem_of_getElem? (i := 18) rfl)
  intro p e s m args below meth c s₁ Bd hml0 hP hK
  obtain ⟨rfl, hZ, hh⟩ := hP
  have hx := Bd.exec
  have hby := Bd.bytes
  have hlk := Bd.notSynchronized
  have hml : c.maxLocals = 3 := hml0
  have hown : s.vm.findClass "com/example/heed/heed/live/Budget" = some m.cls := findClass_of_methodNamed Bd.named
  have hnm := (name_of_methodNamed Bd.named Bd.method).1
  have X0 : Stand p l e ({ frames := 1, cells := 0, slots := 0, locals := 12 } : Room) s m #[(.ref a1), (.long q1)] below meth c s₁ [] 0 0 := Stand.of_body Bd
  have e0 : s₁.heap = h0 := by rw [← hh, Bd.state]; rfl
  have N0 := Fr.nil n0
  have K0 : Keep h0 h0 [a1] := Keep.refl h0 _
  show own_Goes p e below (own_Fin s (own_b1_Q Z a1 q1 u w h0 n0) ({ frames := 1, cells := 0, slots := 0, locals := 12 } : Room).cells ({ frames := 1, cells := 0, slots := 0, locals := 12 } : Room).slots) _
  refine own_step (fun t k => castTop (own_b1_ef m a1 q1) k) ?_
  show own_Goes p e below _ (s₁.setTop (mkF m 0 #[.val (.ref a1), .val (.long q1), .second] []))
  refine own_step (fun t k => XS.aloadN X0.here hx rfl (hb hby own_dprog_84_method_1_code_0) rfl rfl k) ?_
  show own_Goes p e below _ (s₁.setTop (mkF m 1 #[.val (.ref a1), .val (.long q1), .second] [(.ref a1)]))
  obtain ⟨T4, X4, e4, st4⟩ := initO X0 hx hZ hown w7 w8 w9 e0 (g := (mkF m 1 #[.val (.ref a1), .val (.long q1), .second] [(.ref a1)])) rfl (by rw [hml]; rfl) rfl (hb hby own_dprog_84_method_1_code_1) (by decide) (W := 0) (by show 2 * 0 + _ ≤ _; exact Nat.le_of_eq rfl) (by decide)
  refine own_step st4 ?_
  show own_Goes p e below _ (T4.setTop (mkF m 4 #[.val (.ref a1), .val (.long q1), .second] []))
  refine own_step (fun t k => XS.aloadN X4.here hx rfl (hb hby own_dprog_84_method_1_code_4) rfl rfl k) ?_
  show own_Goes p e below _ (T4.setTop (mkF m 5 #[.val (.ref a1), .val (.long q1), .second] [(.ref a1)]))
  refine own_step (fun t k => XS.lloadN X4.here hx rfl (hb hby own_dprog_84_method_1_code_5) rfl k) ?_
  show own_Goes p e below _ (T4.setTop (mkF m 6 #[.val (.ref a1), .val (.long q1), .second] [(.long q1), (.ref a1)]))
  obtain ⟨T5, h5, X5, e5, W5, st5⟩ := putF X4 hx hZ hown (host := "") (Or.inl w10) Via.refl e4 F_max_a1 E_a1 (Or.inr ⟨w11, rfl, hnm⟩) w2 (ty := .long) (by decide) rfl rfl (g := (mkF m 6 #[.val (.ref a1), .val (.long q1), .second] [(.long q1), (.ref a1)])) rfl rfl (hb hby own_dprog_84_method_1_code_6)
  have Fw5 := F_max_a1.same W5
  have N5 := Fr.snoc X5 N0 g_a1
  have K6 : Keep h0 h5 [a1] := K0.wr W5 (Or.inl (List.mem_of_getElem? (i := 0) rfl))
  refine own_step st5 ?_
  show own_Goes p e below _ (T5.setTop (mkF m 9 #[.val (.ref a1), .val (.long q1), .second] []))
  refine own_ret0 X5 hx hlk Bd.returns (hb hby own_dprog_84_method_1_code_9) ?_ (by decide) (by decide)
  show own_b1_Q Z a1 q1 u w h0 n0 _ T5.heap _
  rw [e5]
  exact ⟨rfl, N5, K6, (E_a1.wr W5), Fw5, (F_taken_a1.other W5 (Or.inr (slot_ne (Or.inl w18) (Or.inr w11) (by decide) (t := .long) (t' := .long) (by decide) (by decide))))⟩
theorem own_dprog_84_method_3_code_0 : decode prog_84_method_3_code 0 = .ok (.aload_n 0, 1) := by decide +kernel
theorem own_dprog_84_method_3_code_1 : decode prog_84_method_3_code 1 = .ok (.getfield 13, 3) := by decide +kernel
theorem own_dprog_84_method_3_code_4 : decode prog_84_method_3_code 4 = .ok (.lload_n 1, 1) := by decide +kernel
theorem own_dprog_84_method_3_code_5 : decode prog_84_method_3_code 5 = .ok (.ladd, 1) := by decide +kernel
theorem own_dprog_84_method_3_code_6 : decode prog_84_method_3_code 6 = .ok (.aload_n 0, 1) := by decide +kernel
theorem own_dprog_84_method_3_code_7 : decode prog_84_method_3_code 7 = .ok (.getfield 7, 3) := by decide +kernel
theorem own_dprog_84_method_3_code_10 : decode prog_84_method_3_code 10 = .ok (.lcmp, 1) := by decide +kernel
theorem own_dprog_84_method_3_code_11 : decode prog_84_method_3_code 11 = .ok (.ifCond .gt 7, 3) := by decide +kernel
theorem own_dprog_84_method_3_code_18 : decode prog_84_method_3_code 18 = .ok (.iconst 0, 1) := by decide +kernel
theorem own_dprog_84_method_3_code_14 : decode prog_84_method_3_code 14 = .ok (.iconst 1, 1) := by decide +kernel
theorem own_dprog_84_method_3_code_15 : decode prog_84_method_3_code 15 = .ok (.goto 4, 3) := by decide +kernel
theorem own_dprog_84_method_3_code_19 : decode prog_84_method_3_code 19 = .ok (.ireturn, 1) := by decide +kernel
theorem own_b3_ef (m : MethodId) (a1 : Addr) (q1 : Int64) : entryFrame m #[(.ref a1), (.long q1)] 3 = mkF m 0 #[.val (.ref a1), .val (.long q1), .second] [] := by first | (simp [entryFrame, mkF, argsToLocals, Value.category]; done) | rfl
def own_b3_Q (Z : State) (a1 : Addr) (q1 : Int64) (w3 : Int64) (w5 : Int64) (h0 : Heap) (n0 : Nat) (v : Option Value) (h : Heap) (L : List Loc) : Prop := v = some (.int (if w5 < (w3 + q1) then (0 : Int32) else (1 : Int32))) ∧ Fr n0 L ∧ h = h0
set_option maxRecDepth 65536 in
set_option maxHeartbeats 40000000 in
theorem own_b3 (l : Launch) (Z : State) (a0 : Array Value) (hw : ∀ d ∈ tables_1, d.before a0 Z = true) (ws : List Jvm.Cond) (a1 : Addr) (q1 : Int64) (w3 : Int64) (w5 : Int64) (h0 : Heap) (n0 : Nat) (Z0 : n0 ≤ h0.size) (F_taken_a1 : Fld Z h0 a1 "com/example/heed/heed/live/Budget" "taken" "J" (.long w3)) (F_max_a1 : Fld Z h0 a1 "com/example/heed/heed/live/Budget" "max" "J" (.long w5)) :
    MetFree l (⟨"com/example/heed/heed/live/Budget", "fits", "(J)Z"⟩ : MethodName) (head1 (Jvm.Cond.code (⟨"com/example/heed/heed/live/Budget", "fits", "(J)Z"⟩ : MethodName) prog_84_method_3_code 3 (some .boolean) :: ws) ({ frames := 0, cells := 0, slots := 0, locals := 0 } : Room)) (fun aa U => aa = #[(.ref a1), (.long q1)] ∧ Z.Warmed39 U.vm ∧ U.heap = h0) (fun _ _ _ _ _ => True) (fun _ U o U' => ∃ v L, o = .returned v ∧ own_b3_Q Z a1 q1 w3 w5 h0 n0 v U'.heap L ∧ FrameEnd U o U' L ({ frames := 0, cells := 0, slots := 0, locals := 0 } : Room).cells ({ frames := 0, cells := 0, slots := 0, locals := 0 } : Room).slots) := by
  refine MetFree.of_bodySF (plainFor_of_name own_pn0) hisR ?_
  have w10 := hw _ (List.mem_of_getElem? (i := 10) rfl)
  have w17 := hw _ (List.mem_of_getElem? (i := 17) rfl)
  intro p e s m args below meth c s₁ Bd hml0 hP hK
  obtain ⟨rfl, hZ, hh⟩ := hP
  have hx := Bd.exec
  have hby := Bd.bytes
  have hlk := Bd.notSynchronized
  have hml : c.maxLocals = 3 := hml0
  have hown : s.vm.findClass "com/example/heed/heed/live/Budget" = some m.cls := findClass_of_methodNamed Bd.named
  have hnm := (name_of_methodNamed Bd.named Bd.method).1
  have X0 : Stand p l e ({ frames := 0, cells := 0, slots := 0, locals := 0 } : Room) s m #[(.ref a1), (.long q1)] below meth c s₁ [] 0 0 := Stand.of_body Bd
  have e0 : s₁.heap = h0 := by rw [← hh, Bd.state]; rfl
  have N0 := Fr.nil n0
  have K0 : Keep h0 h0 [] := Keep.refl h0 _
  show own_Goes p e below (own_Fin s (own_b3_Q Z a1 q1 w3 w5 h0 n0) ({ frames := 0, cells := 0, slots := 0, locals := 0 } : Room).cells ({ frames := 0, cells := 0, slots := 0, locals := 0 } : Room).slots) _
  refine own_step (fun t k => castTop (own_b3_ef m a1 q1) k) ?_
  show own_Goes p e below _ (s₁.setTop (mkF m 0 #[.val (.ref a1), .val (.long q1), .second] []))
  refine own_step (fun t k => XS.aloadN X0.here hx rfl (hb hby own_dprog_84_method_3_code_0) rfl rfl k) ?_
  show own_Goes p e below _ (s₁.setTop (mkF m 1 #[.val (.ref a1), .val (.long q1), .second] [(.ref a1)]))
  obtain ⟨T10, X10, e10, st10⟩ := getF X0 hx hZ hown (host := "") (Or.inl w17) Via.refl e0 F_taken_a1 (g := (mkF m 1 #[.val (.ref a1), .val (.long q1), .second] [(.ref a1)])) rfl rfl (hb hby own_dprog_84_method_3_code_1)
  refine own_step st10 ?_
  show own_Goes p e below _ (T10.setTop (mkF m 4 #[.val (.ref a1), .val (.long q1), .second] [(.long w3)]))
  refine own_step (fun t k => XS.lloadN X10.here hx rfl (hb hby own_dprog_84_method_3_code_4) rfl k) ?_
  show own_Goes p e below _ (T10.setTop (mkF m 5 #[.val (.ref a1), .val (.long q1), .second] [(.long q1), (.long w3)]))
  refine own_step (fun t k => XS.ladd X10.here hx rfl (hb hby own_dprog_84_method_3_code_5) rfl k) ?_
  show own_Goes p e below _ (T10.setTop (mkF m 6 #[.val (.ref a1), .val (.long q1), .second] [(.long (w3 + q1))]))
  refine own_step (fun t k => XS.aloadN X10.here hx rfl (hb hby own_dprog_84_method_3_code_6) rfl rfl k) ?_
  show own_Goes p e below _ (T10.setTop (mkF m 7 #[.val (.ref a1), .val (.long q1), .second] [(.ref a1), (.long (w3 + q1))]))
  obtain ⟨T11, X11, e11, st11⟩ := getF X10 hx hZ hown (host := "") (Or.inl w10) Via.refl e10 F_max_a1 (g := (mkF m 7 #[.val (.ref a1), .val (.long q1), .second] [(.ref a1), (.long (w3 + q1))])) rfl rfl (hb hby own_dprog_84_method_3_code_7)
  refine own_step st11 ?_
  show own_Goes p e below _ (T11.setTop (mkF m 10 #[.val (.ref a1), .val (.long q1), .second] [(.long w5), (.long (w3 + q1))]))
  refine own_step (fun t k => XS.lcmp X11.here hx rfl (hb hby own_dprog_84_method_3_code_10) rfl k) ?_
  show own_Goes p e below _ (T11.setTop (mkF m 11 #[.val (.ref a1), .val (.long q1), .second] [(.int (lcmpW (w3 + q1) w5))]))
  refine own_step (S' := T11.setTop (mkF m 19 #[.val (.ref a1), .val (.long q1), .second] [(.int (if w5 < (w3 + q1) then (0 : Int32) else (1 : Int32)))])) (fun t k => ?_) ?_
  · show Steps p.tables e below (T11.setTop (mkF m 11 #[.val (.ref a1), .val (.long q1), .second] [(.int (lcmpW (w3 + q1) w5))])) _
    by_cases hc12 : w5 < (w3 + q1)
    · --
      refine XS.ifYes X11.here hx rfl (pc0 := 11) (pc' := 18) rfl (hb hby own_dprog_84_method_3_code_11) rfl ((if0 _ _).trans (tlt ((lw_gt (w3 + q1) w5).mpr hc12)).2.2.1) (by decide) (by decide) ?_
      show Steps p.tables e below (T11.setTop (mkF m 18 #[.val (.ref a1), .val (.long q1), .second] [])) _
      refine XS.iconst X11.here hx rfl (hb hby own_dprog_84_method_3_code_18) ?_
      show Steps p.tables e below (T11.setTop (mkF m 19 #[.val (.ref a1), .val (.long q1), .second] [(.int (0 : Int32))])) _
      simp only [if_pos hc12] at k
      exact k
    · --
      refine XS.ifNo X11.here hx rfl (hb hby own_dprog_84_method_3_code_11) rfl ((if0 _ _).trans (flt (fun zq => hc12 ((lw_gt (w3 + q1) w5).mp zq))).2.2.1) ?_
      show Steps p.tables e below (T11.setTop (mkF m 14 #[.val (.ref a1), .val (.long q1), .second] [])) _
      refine XS.iconst X11.here hx rfl (hb hby own_dprog_84_method_3_code_14) ?_
      show Steps p.tables e below (T11.setTop (mkF m 15 #[.val (.ref a1), .val (.long q1), .second] [(.int (1 : Int32))])) _
      refine XS.goto X11.here hx rfl (pc0 := 15) (pc' := 19) rfl (hb hby own_dprog_84_method_3_code_15) (by decide) (by decide) ?_
      show Steps p.tables e below (T11.setTop (mkF m 19 #[.val (.ref a1), .val (.long q1), .second] [(.int (1 : Int32))])) _
      simp only [if_neg hc12] at k
      exact k
  show own_Goes p e below _ (T11.setTop (mkF m 19 #[.val (.ref a1), .val (.long q1), .second] [(.int (if w5 < (w3 + q1) then (0 : Int32) else (1 : Int32)))]))
  refine own_retV X11 hx hlk Bd.returns (w := (.int (if w5 < (w3 + q1) then (0 : Int32) else (1 : Int32)))) (own_nb (own_01 (Or.inl rfl) (Or.inr rfl))) (Or.inl ⟨rfl, Or.inr (Or.inl rfl), _, rfl⟩) (hb hby own_dprog_84_method_3_code_19) ?_ (by decide) (by decide)
  show own_b3_Q Z a1 q1 w3 w5 h0 n0 _ T11.heap _
  rw [e11]
  exact ⟨rfl, N0, rfl⟩
theorem own_dprog_84_method_4_code_0 : decode prog_84_method_4_code 0 = .ok (.aload_n 0, 1) := by decide +kernel
theorem own_dprog_84_method_4_code_1 : decode prog_84_method_4_code 1 = .ok (.dup, 1) := by decide +kernel
theorem own_dprog_84_method_4_code_2 : decode prog_84_method_4_code 2 = .ok (.getfield 13, 3) := by decide +kernel
theorem own_dprog_84_method_4_code_5 : decode prog_84_method_4_code 5 = .ok (.lload_n 1, 1) := by decide +kernel
theorem own_dprog_84_method_4_code_6 : decode prog_84_method_4_code 6 = .ok (.ladd, 1) := by decide +kernel
theorem own_dprog_84_method_4_code_7 : decode prog_84_method_4_code 7 = .ok (.putfield 13, 3) := by decide +kernel
theorem own_dprog_84_method_4_code_10 : decode prog_84_method_4_code 10 = .ok (.return_, 1) := by decide +kernel
theorem own_b4_ef (m : MethodId) (a1 : Addr) (q1 : Int64) : entryFrame m #[(.ref a1), (.long q1)] 3 = mkF m 0 #[.val (.ref a1), .val (.long q1), .second] [] := by first | (simp [entryFrame, mkF, argsToLocals, Value.category]; done) | rfl
def own_b4_Q (Z : State) (a1 : Addr) (q1 : Int64) (w3 : Int64) (w5 : Int64) (h0 : Heap) (n0 : Nat) (v : Option Value) (h : Heap) (L : List Loc) : Prop := v = none ∧ Fr n0 L ∧ Keep h0 h [a1] ∧ Exa Z h a1 "com/example/heed/heed/live/Budget" ∧ Fld Z h a1 "com/example/heed/heed/live/Budget" "taken" "J" (.long (w3 + q1)) ∧ Fld Z h a1 "com/example/heed/heed/live/Budget" "max" "J" (.long w5)
set_option maxRecDepth 65536 in
set_option maxHeartbeats 40000000 in
theorem own_b4 (l : Launch) (Z : State) (a0 : Array Value) (hw : ∀ d ∈ tables_1, d.before a0 Z = true) (ws : List Jvm.Cond) (a1 : Addr) (q1 : Int64) (w3 : Int64) (w5 : Int64) (h0 : Heap) (n0 : Nat) (Z0 : n0 ≤ h0.size) (F_taken_a1 : Fld Z h0 a1 "com/example/heed/heed/live/Budget" "taken" "J" (.long w3)) (F_max_a1 : Fld Z h0 a1 "com/example/heed/heed/live/Budget" "max" "J" (.long w5)) (E_a1 : Exa Z h0 a1 "com/example/heed/heed/live/Budget") (g_a1 : n0 ≤ a1) :
    MetFree l (⟨"com/example/heed/heed/live/Budget", "take", "(J)V"⟩ : MethodName) (head1 (Jvm.Cond.code (⟨"com/example/heed/heed/live/Budget", "take", "(J)V"⟩ : MethodName) prog_84_method_4_code 3 none :: ws) ({ frames := 0, cells := 0, slots := 0, locals := 0 } : Room)) (fun aa U => aa = #[(.ref a1), (.long q1)] ∧ Z.Warmed39 U.vm ∧ U.heap = h0) (fun _ _ _ _ _ => True) (fun _ U o U' => ∃ v L, o = .returned v ∧ own_b4_Q Z a1 q1 w3 w5 h0 n0 v U'.heap L ∧ FrameEnd U o U' L ({ frames := 0, cells := 0, slots := 0, locals := 0 } : Room).cells ({ frames := 0, cells := 0, slots := 0, locals := 0 } : Room).slots) := by
  refine MetFree.of_bodySF (plainFor_of_name own_pn0) hisR ?_
  have w2 := hw _ (List.mem_of_getElem? (i := 2) rfl)
  have w11 := hw _ (List.mem_of_getElem? (i := 11) rfl)
  have w17 := hw _ (List.mem_of_getElem? (i := 17) rfl)
  have w18 := hw _ (List.mem_of_getElem? (i := 18) rfl)
  intro p e s m args below meth c s₁ Bd hml0 hP hK
  obtain ⟨rfl, hZ, hh⟩ := hP
  have hx := Bd.exec
  have hby := Bd.bytes
  have hlk := Bd.notSynchronized
  have hml : c.maxLocals = 3 := hml0
  have hown : s.vm.findClass "com/example/heed/heed/live/Budget" = some m.cls := findClass_of_methodNamed Bd.named
  have hnm := (name_of_methodNamed Bd.named Bd.method).1
  have X0 : Stand p l e ({ frames := 0, cells := 0, slots := 0, locals := 0 } : Room) s m #[(.ref a1), (.long q1)] below meth c s₁ [] 0 0 := Stand.of_body Bd
  have e0 : s₁.heap = h0 := by rw [← hh, Bd.state]; rfl
  have N0 := Fr.nil n0
  have K0 : Keep h0 h0 [a1] := Keep.refl h0 _
  show own_Goes p e below (own_Fin s (own_b4_Q Z a1 q1 w3 w5 h0 n0) ({ frames := 0, cells := 0, slots := 0, locals := 0 } : Room).cells ({ frames := 0, cells := 0, slots := 0, locals := 0 } : Room).slots) _
  refine own_step (fun t k => castTop (own_b4_ef m a1 q1) k) ?_
  show own_Goes p e below _ (s₁.setTop (mkF m 0 #[.val (.ref a1), .val (.long q1), .second] []))
  refine own_step (fun t k => XS.aloadN X0.here hx rfl (hb hby own_dprog_84_method_4_code_0) rfl rfl k) ?_
  show own_Goes p e below _ (s₁.setTop (mkF m 1 #[.val (.ref a1), .val (.long q1), .second] [(.ref a1)]))
  refine own_step (fun t k => XS.dup X0.here hx rfl (hb hby own_dprog_84_method_4_code_1) rfl rfl k) ?_
  show own_Goes p e below _ (s₁.setTop (mkF m 2 #[.val (.ref a1), .val (.long q1), .second] [(.ref a1), (.ref a1)]))
  obtain ⟨T16, X16, e16, st16⟩ := getF X0 hx hZ hown (host := "") (Or.inl w17) Via.refl e0 F_taken_a1 (g := (mkF m 2 #[.val (.ref a1), .val (.long q1), .second] [(.ref a1), (.ref a1)])) rfl rfl (hb hby own_dprog_84_method_4_code_2)
  refine own_step st16 ?_
  show own_Goes p e below _ (T16.setTop (mkF m 5 #[.val (.ref a1), .val (.long q1), .second] [(.long w3), (.ref a1)]))
  refine own_step (fun t k => XS.lloadN X16.here hx rfl (hb hby own_dprog_84_method_4_code_5) rfl k) ?_
  show own_Goes p e below _ (T16.setTop (mkF m 6 #[.val (.ref a1), .val (.long q1), .second] [(.long q1), (.long w3), (.ref a1)]))
  refine own_step (fun t k => XS.ladd X16.here hx rfl (hb hby own_dprog_84_method_4_code_6) rfl k) ?_
  show own_Goes p e below _ (T16.setTop (mkF m 7 #[.val (.ref a1), .val (.long q1), .second] [(.long (w3 + q1)), (.ref a1)]))
  obtain ⟨T17, h17, X17, e17, W17, st17⟩ := putF X16 hx hZ hown (host := "") (Or.inl w17) Via.refl e16 F_taken_a1 E_a1 (Or.inl w18) w2 (ty := .long) (by decide) rfl rfl (g := (mkF m 7 #[.val (.ref a1), .val (.long q1), .second] [(.long (w3 + q1)), (.ref a1)])) rfl rfl (hb hby own_dprog_84_method_4_code_7)
  have Fw17 := F_taken_a1.same W17
  have N17 := Fr.snoc X17 N0 g_a1
  have K18 : Keep h0 h17 [a1] := K0.wr W17 (Or.inl (List.mem_of_getElem? (i := 0) rfl))
  refine own_step st17 ?_
  show own_Goes p e below _ (T17.setTop (mkF m 10 #[.val (.ref a1), .val (.long q1), .second] []))
  refine own_ret0 X17 hx hlk Bd.returns (hb hby own_dprog_84_method_4_code_10) ?_ (by decide) (by decide)
  show own_b4_Q Z a1 q1 w3 w5 h0 n0 _ T17.heap _
  rw [e17]
  exact ⟨rfl, N17, K18, (E_a1.wr W17), Fw17, (F_max_a1.other W17 (Or.inr (slot_ne (Or.inr w11) (Or.inl w18) (by decide) (t := .long) (t' := .long) (by decide) (by decide))))⟩
theorem own_dprog_84_method_5_code_0 : decode prog_84_method_5_code 0 = .ok (.aload_n 0, 1) := by decide +kernel
theorem own_dprog_84_method_5_code_1 : decode prog_84_method_5_code 1 = .ok (.dup, 1) := by decide +kernel
theorem own_dprog_84_method_5_code_2 : decode prog_84_method_5_code 2 = .ok (.getfield 13, 3) := by decide +kernel
theorem own_dprog_84_method_5_code_5 : decode prog_84_method_5_code 5 = .ok (.lload_n 1, 1) := by decide +kernel
theorem own_dprog_84_method_5_code_6 : decode prog_84_method_5_code 6 = .ok (.lsub, 1) := by decide +kernel
theorem own_dprog_84_method_5_code_7 : decode prog_84_method_5_code 7 = .ok (.putfield 13, 3) := by decide +kernel
theorem own_dprog_84_method_5_code_10 : decode prog_84_method_5_code 10 = .ok (.return_, 1) := by decide +kernel
theorem own_b5_ef (m : MethodId) (a1 : Addr) (q1 : Int64) : entryFrame m #[(.ref a1), (.long q1)] 3 = mkF m 0 #[.val (.ref a1), .val (.long q1), .second] [] := by first | (simp [entryFrame, mkF, argsToLocals, Value.category]; done) | rfl
def own_b5_Q (Z : State) (a1 : Addr) (q1 : Int64) (w3 : Int64) (w5 : Int64) (h0 : Heap) (n0 : Nat) (v : Option Value) (h : Heap) (L : List Loc) : Prop := v = none ∧ Fr n0 L ∧ Keep h0 h [a1] ∧ Exa Z h a1 "com/example/heed/heed/live/Budget" ∧ Fld Z h a1 "com/example/heed/heed/live/Budget" "taken" "J" (.long (w3 - q1)) ∧ Fld Z h a1 "com/example/heed/heed/live/Budget" "max" "J" (.long w5)
set_option maxRecDepth 65536 in
set_option maxHeartbeats 40000000 in
theorem own_b5 (l : Launch) (Z : State) (a0 : Array Value) (hw : ∀ d ∈ tables_1, d.before a0 Z = true) (ws : List Jvm.Cond) (a1 : Addr) (q1 : Int64) (w3 : Int64) (w5 : Int64) (h0 : Heap) (n0 : Nat) (Z0 : n0 ≤ h0.size) (F_taken_a1 : Fld Z h0 a1 "com/example/heed/heed/live/Budget" "taken" "J" (.long w3)) (F_max_a1 : Fld Z h0 a1 "com/example/heed/heed/live/Budget" "max" "J" (.long w5)) (E_a1 : Exa Z h0 a1 "com/example/heed/heed/live/Budget") (g_a1 : n0 ≤ a1) :
    MetFree l (⟨"com/example/heed/heed/live/Budget", "giveBack", "(J)V"⟩ : MethodName) (head1 (Jvm.Cond.code (⟨"com/example/heed/heed/live/Budget", "giveBack", "(J)V"⟩ : MethodName) prog_84_method_5_code 3 none :: ws) ({ frames := 0, cells := 0, slots := 0, locals := 0 } : Room)) (fun aa U => aa = #[(.ref a1), (.long q1)] ∧ Z.Warmed39 U.vm ∧ U.heap = h0) (fun _ _ _ _ _ => True) (fun _ U o U' => ∃ v L, o = .returned v ∧ own_b5_Q Z a1 q1 w3 w5 h0 n0 v U'.heap L ∧ FrameEnd U o U' L ({ frames := 0, cells := 0, slots := 0, locals := 0 } : Room).cells ({ frames := 0, cells := 0, slots := 0, locals := 0 } : Room).slots) := by
  refine MetFree.of_bodySF (plainFor_of_name own_pn0) hisR ?_
  have w2 := hw _ (List.mem_of_getElem? (i := 2) rfl)
  have w11 := hw _ (List.mem_of_getElem? (i := 11) rfl)
  have w17 := hw _ (List.mem_of_getElem? (i := 17) rfl)
  have w18 := hw _ (List.mem_of_getElem? (i := 18) rfl)
  intro p e s m args below meth c s₁ Bd hml0 hP hK
  obtain ⟨rfl, hZ, hh⟩ := hP
  have hx := Bd.exec
  have hby := Bd.bytes
  have hlk := Bd.notSynchronized
  have hml : c.maxLocals = 3 := hml0
  have hown : s.vm.findClass "com/example/heed/heed/live/Budget" = some m.cls := findClass_of_methodNamed Bd.named
  have hnm := (name_of_methodNamed Bd.named Bd.method).1
  have X0 : Stand p l e ({ frames := 0, cells := 0, slots := 0, locals := 0 } : Room) s m #[(.ref a1), (.long q1)] below meth c s₁ [] 0 0 := Stand.of_body Bd
  have e0 : s₁.heap = h0 := by rw [← hh, Bd.state]; rfl
  have N0 := Fr.nil n0
  have K0 : Keep h0 h0 [a1] := Keep.refl h0 _
  show own_Goes p e below (own_Fin s (own_b5_Q Z a1 q1 w3 w5 h0 n0) ({ frames := 0, cells := 0, slots := 0, locals := 0 } : Room).cells ({ frames := 0, cells := 0, slots := 0, locals := 0 } : Room).slots) _
  refine own_step (fun t k => castTop (own_b5_ef m a1 q1) k) ?_
  show own_Goes p e below _ (s₁.setTop (mkF m 0 #[.val (.ref a1), .val (.long q1), .second] []))
  refine own_step (fun t k => XS.aloadN X0.here hx rfl (hb hby own_dprog_84_method_5_code_0) rfl rfl k) ?_
  show own_Goes p e below _ (s₁.setTop (mkF m 1 #[.val (.ref a1), .val (.long q1), .second] [(.ref a1)]))
  refine own_step (fun t k => XS.dup X0.here hx rfl (hb hby own_dprog_84_method_5_code_1) rfl rfl k) ?_
  show own_Goes p e below _ (s₁.setTop (mkF m 2 #[.val (.ref a1), .val (.long q1), .second] [(.ref a1), (.ref a1)]))
  obtain ⟨T22, X22, e22, st22⟩ := getF X0 hx hZ hown (host := "") (Or.inl w17) Via.refl e0 F_taken_a1 (g := (mkF m 2 #[.val (.ref a1), .val (.long q1), .second] [(.ref a1), (.ref a1)])) rfl rfl (hb hby own_dprog_84_method_5_code_2)
  refine own_step st22 ?_
  show own_Goes p e below _ (T22.setTop (mkF m 5 #[.val (.ref a1), .val (.long q1), .second] [(.long w3), (.ref a1)]))
  refine own_step (fun t k => XS.lloadN X22.here hx rfl (hb hby own_dprog_84_method_5_code_5) rfl k) ?_
  show own_Goes p e below _ (T22.setTop (mkF m 6 #[.val (.ref a1), .val (.long q1), .second] [(.long q1), (.long w3), (.ref a1)]))
  refine own_step (fun t k => XS.lsub X22.here hx rfl (hb hby own_dprog_84_method_5_code_6) rfl k) ?_
  show own_Goes p e below _ (T22.setTop (mkF m 7 #[.val (.ref a1), .val (.long q1), .second] [(.long (w3 - q1)), (.ref a1)]))
  obtain ⟨T23, h23, X23, e23, W23, st23⟩ := putF X22 hx hZ hown (host := "") (Or.inl w17) Via.refl e22 F_taken_a1 E_a1 (Or.inl w18) w2 (ty := .long) (by decide) rfl rfl (g := (mkF m 7 #[.val (.ref a1), .val (.long q1), .second] [(.long (w3 - q1)), (.ref a1)])) rfl rfl (hb hby own_dprog_84_method_5_code_7)
  have Fw23 := F_taken_a1.same W23
  have N23 := Fr.snoc X23 N0 g_a1
  have K24 : Keep h0 h23 [a1] := K0.wr W23 (Or.inl (List.mem_of_getElem? (i := 0) rfl))
  refine own_step st23 ?_
  show own_Goes p e below _ (T23.setTop (mkF m 10 #[.val (.ref a1), .val (.long q1), .second] []))
  refine own_ret0 X23 hx hlk Bd.returns (hb hby own_dprog_84_method_5_code_10) ?_ (by decide) (by decide)
  show own_b5_Q Z a1 q1 w3 w5 h0 n0 _ T23.heap _
  rw [e23]
  exact ⟨rfl, N23, K24, (E_a1.wr W23), Fw23, (F_max_a1.other W23 (Or.inr (slot_ne (Or.inr w11) (Or.inl w18) (by decide) (t := .long) (t' := .long) (by decide) (by decide))))⟩
theorem own_pn1 : plainName "com/example/heed/heed/live/BudgetFitsPinLaw" = true := by first | (simp [plainName, overriddenIn]; done) | decide +kernel
theorem own_pd0 : parseMethodDescriptor "(J)V" = some ⟨[.long], none⟩ := by decide +kernel
theorem own_pd1 : parseMethodDescriptor "(J)Z" = some ⟨[.long], some .boolean⟩ := by decide +kernel
theorem own_law_ef (m : MethodId) (p1 : Int64) (p2 : Int64) (p3 : Int64) (p4 : Int64) : entryFrame m #[(.long p1), (.long p2), (.long p3), (.long p4)] maxLocals = mkF m 0 #[.val (.long p1), .second, .val (.long p2), .second, .val (.long p3), .second, .val (.long p4), .second, .unset, .unset, .unset, .unset, .unset, .unset, .unset, .unset, .unset, .unset, .unset, .unset, .unset, .unset] [] := by first | (simp [entryFrame, mkF, argsToLocals, Value.category, maxLocals]; done) | rfl
set_option maxRecDepth 65536 in
set_option maxHeartbeats 40000000 in
theorem own_law (l : Launch) (Z : State) (a0 : Array Value) (hw : ∀ d ∈ tables_1, d.before a0 Z = true) (ws : List Jvm.Cond) (p1 : Int64) (p2 : Int64) (p3 : Int64) (p4 : Int64) (h0 : Heap) (n0 : Nat) (Z0 : n0 ≤ h0.size) :
    MetFree l x (head1 (Jvm.Cond.code x code maxLocals ret :: ws) room_1) (fun aa U => aa = #[(.long p1), (.long p2), (.long p3), (.long p4)] ∧ Z.Warmed39 U.vm ∧ U.heap = h0) (fun _ _ _ _ _ => True) (fun _ U o U' => ∃ v L, o = .returned v ∧ own_Q0 n0 v U'.heap L ∧ FrameEnd U o U' L 16 128) := by
  refine MetFree.of_bodySF (plainFor_of_name own_pn1) hisR ?_
  have w0 := hw _ (List.mem_of_getElem? (i := 0) rfl)
  have w1 := hw _ (List.mem_of_getElem? (i := 1) rfl)
  have w2 := hw _ (List.mem_of_getElem? (i := 2) rfl)
  have w3 := hw _ (List.mem_of_getElem? (i := 3) rfl)
  have w4 := hw _ (List.mem_of_getElem? (i := 4) rfl)
  have w5 := hw _ (List.mem_of_getElem? (i := 5) rfl)
  have w6 := hw _ (List.mem_of_getElem? (i := 6) rfl)
  have w11 := hw _ (List.mem_of_getElem? (i := 11) rfl)
  have w12 := hw _ (List.mem_of_getElem? (i := 12) rfl)
  have w13 := hw _ (List.mem_of_getElem? (i := 13) rfl)
  have w14 := hw _ (List.mem_of_getElem? (i := 14) rfl)
  have w15 := hw _ (List.mem_of_getElem? (i := 15) rfl)
  have w16 := hw _ (List.mem_of_getElem? (i := 16) rfl)
  have w18 := hw _ (List.mem_of_getElem? (i := 18) rfl)
  have w19 := hw _ (List.mem_of_getElem? (i := 19) rfl)
  have w20 := hw _ (List.mem_of_getElem? (i := 20) rfl)
  have w21 := hw _ (List.mem_of_getElem? (i := 21) rfl)
  have w22 := hw _ (List.mem_of_getElem? (i := 22) rfl)
  have w23 := hw _ (List.mem_of_getElem? (i := 23) rfl)
  have w24 := hw _ (List.mem_of_getElem? (i := 24) rfl)
  have w25 := hw _ (List.mem_of_getElem? (i := 25) rfl)
  have w26 := hw _ (List.mem_of_getElem? (i := 26) rfl)
  have w27 := hw _ (List.mem_of_getElem? (i := 27) rfl)
  have w28 := hw _ (List.mem_of_getElem? (i := 28) rfl)
  intro p e s m args below meth c s₁ Bd hml0 hP hK
  obtain ⟨rfl, hZ, hh⟩ := hP
  have hx := Bd.exec
  have hby := Bd.bytes
  have hlk := Bd.notSynchronized
  have hml : c.maxLocals = 22 := hml0
  have hown : s.vm.findClass "com/example/heed/heed/live/BudgetFitsPinLaw" = some m.cls := findClass_of_methodNamed Bd.named
  have hnm := (name_of_methodNamed Bd.named Bd.method).1
  have X0 : Stand p l e room_1 s m #[(.long p1), (.long p2), (.long p3), (.long p4)] below meth c s₁ [] 0 0 := Stand.of_body Bd
  have e0 : s₁.heap = h0 := by rw [← hh, Bd.state]; rfl
  have N0 := Fr.nil n0
  have K0 : Keep h0 h0 [] := Keep.refl h0 _
  show own_Goes p e below (own_Fin s (own_Q0 n0) 16 128) _
  refine own_step (fun t k => castTop (own_law_ef m p1 p2 p3 p4) k) ?_
  show own_Goes p e below _ (s₁.setTop (mkF m 0 #[.val (.long p1), .second, .val (.long p2), .second, .val (.long p3), .second, .val (.long p4), .second, .unset, .unset, .unset, .unset, .unset, .unset, .unset, .unset, .unset, .unset, .unset, .unset, .unset, .unset] []))
  refine own_step (fun t k => XS.lloadN X0.here hx rfl (hb hby at_0) rfl k) ?_
  show own_Goes p e below _ (s₁.setTop (mkF m 1 #[.val (.long p1), .second, .val (.long p2), .second, .val (.long p3), .second, .val (.long p4), .second, .unset, .unset, .unset, .unset, .unset, .unset, .unset, .unset, .unset, .unset, .unset, .unset, .unset, .unset] [(.long p1)]))
  refine own_step (fun t k => X0.ldc2Long hx hown (mvT hZ w0) (g := (mkF m 1 #[.val (.long p1), .second, .val (.long p2), .second, .val (.long p3), .second, .val (.long p4), .second, .unset, .unset, .unset, .unset, .unset, .unset, .unset, .unset, .unset, .unset, .unset, .unset, .unset, .unset] [(.long p1)])) rfl (hb hby at_1) _ k) ?_
  show own_Goes p e below _ (s₁.setTop (mkF m 4 #[.val (.long p1), .second, .val (.long p2), .second, .val (.long p3), .second, .val (.long p4), .second, .unset, .unset, .unset, .unset, .unset, .unset, .unset, .unset, .unset, .unset, .unset, .unset, .unset, .unset] [(.long (4611686018427387903 : Int64)), (.long p1)]))
  refine own_step (fun t k => XS.land X0.here hx rfl (hb hby at_4) rfl k) ?_
  show own_Goes p e below _ (s₁.setTop (mkF m 5 #[.val (.long p1), .second, .val (.long p2), .second, .val (.long p3), .second, .val (.long p4), .second, .unset, .unset, .unset, .unset, .unset, .unset, .unset, .unset, .unset, .unset, .unset, .unset, .unset, .unset] [(.long (p1 &&& (4611686018427387903 : Int64)))]))
  refine own_step (fun t k => XS.lstore X0.here hx rfl (hb hby at_5) rfl (l' := #[.val (.long p1), .second, .val (.long p2), .second, .val (.long p3), .second, .val (.long p4), .second, .val (.long (p1 &&& (4611686018427387903 : Int64))), .second, .unset, .unset, .unset, .unset, .unset, .unset, .unset, .unset, .unset, .unset, .unset, .unset]) rfl k) ?_
  show own_Goes p e below _ (s₁.setTop (mkF m 7 #[.val (.long p1), .second, .val (.long p2), .second, .val (.long p3), .second, .val (.long p4), .second, .val (.long (p1 &&& (4611686018427387903 : Int64))), .second, .unset, .unset, .unset, .unset, .unset, .unset, .unset, .unset, .unset, .unset, .unset, .unset] []))
  generalize hv_vmx : (p1 &&& (4611686018427387903 : Int64)) = vmx
  refine own_step (fun t k => XS.lloadN X0.here hx rfl (hb hby at_7) rfl k) ?_
  show own_Goes p e below _ (s₁.setTop (mkF m 8 #[.val (.long p1), .second, .val (.long p2), .second, .val (.long p3), .second, .val (.long p4), .second, .val (.long vmx), .second, .unset, .unset, .unset, .unset, .unset, .unset, .unset, .unset, .unset, .unset, .unset, .unset] [(.long p2)]))
  refine own_step (fun t k => X0.ldc2Long hx hown (mvT hZ w0) (g := (mkF m 8 #[.val (.long p1), .second, .val (.long p2), .second, .val (.long p3), .second, .val (.long p4), .second, .val (.long vmx), .second, .unset, .unset, .unset, .unset, .unset, .unset, .unset, .unset, .unset, .unset, .unset, .unset] [(.long p2)])) rfl (hb hby at_8) _ k) ?_
  show own_Goes p e below _ (s₁.setTop (mkF m 11 #[.val (.long p1), .second, .val (.long p2), .second, .val (.long p3), .second, .val (.long p4), .second, .val (.long vmx), .second, .unset, .unset, .unset, .unset, .unset, .unset, .unset, .unset, .unset, .unset, .unset, .unset] [(.long (4611686018427387903 : Int64)), (.long p2)]))
  refine own_step (fun t k => XS.land X0.here hx rfl (hb hby at_11) rfl k) ?_
  show own_Goes p e below _ (s₁.setTop (mkF m 12 #[.val (.long p1), .second, .val (.long p2), .second, .val (.long p3), .second, .val (.long p4), .second, .val (.long vmx), .second, .unset, .unset, .unset, .unset, .unset, .unset, .unset, .unset, .unset, .unset, .unset, .unset] [(.long (p2 &&& (4611686018427387903 : Int64)))]))
  refine own_step (fun t k => XS.lload X0.here hx rfl (hb hby at_12) rfl k) ?_
  show own_Goes p e below _ (s₁.setTop (mkF m 14 #[.val (.long p1), .second, .val (.long p2), .second, .val (.long p3), .second, .val (.long p4), .second, .val (.long vmx), .second, .unset, .unset, .unset, .unset, .unset, .unset, .unset, .unset, .unset, .unset, .unset, .unset] [(.long vmx), (.long (p2 &&& (4611686018427387903 : Int64)))]))
  refine own_step (fun t k => XS.lconst X0.here hx rfl (hb hby at_14) k) ?_
  show own_Goes p e below _ (s₁.setTop (mkF m 15 #[.val (.long p1), .second, .val (.long p2), .second, .val (.long p3), .second, .val (.long p4), .second, .val (.long vmx), .second, .unset, .unset, .unset, .unset, .unset, .unset, .unset, .unset, .unset, .unset, .unset, .unset] [(.long (1 : Int64)), (.long vmx), (.long (p2 &&& (4611686018427387903 : Int64)))]))
  refine own_step (fun t k => XS.ladd X0.here hx rfl (hb hby at_15) rfl k) ?_
  show own_Goes p e below _ (s₁.setTop (mkF m 16 #[.val (.long p1), .second, .val (.long p2), .second, .val (.long p3), .second, .val (.long p4), .second, .val (.long vmx), .second, .unset, .unset, .unset, .unset, .unset, .unset, .unset, .unset, .unset, .unset, .unset, .unset] [(.long (vmx + (1 : Int64))), (.long (p2 &&& (4611686018427387903 : Int64)))]))
  refine own_step (fun t k => XS.lrem X0.here hx rfl (hb hby at_16) rfl (own_nz1 hv_vmx) k) ?_
  show own_Goes p e below _ (s₁.setTop (mkF m 17 #[.val (.long p1), .second, .val (.long p2), .second, .val (.long p3), .second, .val (.long p4), .second, .val (.long vmx), .second, .unset, .unset, .unset, .unset, .unset, .unset, .unset, .unset, .unset, .unset, .unset, .unset] [(.long ((p2 &&& (4611686018427387903 : Int64)) - ((p2 &&& (4611686018427387903 : Int64)) / (vmx + (1 : Int64))) * (vmx + (1 : Int64))))]))
  refine own_step (fun t k => XS.lstore X0.here hx rfl (hb hby at_17) rfl (l' := #[.val (.long p1), .second, .val (.long p2), .second, .val (.long p3), .second, .val (.long p4), .second, .val (.long vmx), .second, .val (.long ((p2 &&& (4611686018427387903 : Int64)) - ((p2 &&& (4611686018427387903 : Int64)) / (vmx + (1 : Int64))) * (vmx + (1 : Int64)))), .second, .unset, .unset, .unset, .unset, .unset, .unset, .unset, .unset, .unset, .unset]) rfl k) ?_
  show own_Goes p e below _ (s₁.setTop (mkF m 19 #[.val (.long p1), .second, .val (.long p2), .second, .val (.long p3), .second, .val (.long p4), .second, .val (.long vmx), .second, .val (.long ((p2 &&& (4611686018427387903 : Int64)) - ((p2 &&& (4611686018427387903 : Int64)) / (vmx + (1 : Int64))) * (vmx + (1 : Int64)))), .second, .unset, .unset, .unset, .unset, .unset, .unset, .unset, .unset, .unset, .unset] []))
  generalize hv_vt : ((p2 &&& (4611686018427387903 : Int64)) - ((p2 &&& (4611686018427387903 : Int64)) / (vmx + (1 : Int64))) * (vmx + (1 : Int64))) = vt
  refine own_step (fun t k => XS.lload X0.here hx rfl (hb hby at_19) rfl k) ?_
  show own_Goes p e below _ (s₁.setTop (mkF m 21 #[.val (.long p1), .second, .val (.long p2), .second, .val (.long p3), .second, .val (.long p4), .second, .val (.long vmx), .second, .val (.long vt), .second, .unset, .unset, .unset, .unset, .unset, .unset, .unset, .unset, .unset, .unset] [(.long p3)]))
  refine own_step (fun t k => X0.ldc2Long hx hown (mvT hZ w0) (g := (mkF m 21 #[.val (.long p1), .second, .val (.long p2), .second, .val (.long p3), .second, .val (.long p4), .second, .val (.long vmx), .second, .val (.long vt), .second, .unset, .unset, .unset, .unset, .unset, .unset, .unset, .unset, .unset, .unset] [(.long p3)])) rfl (hb hby at_21) _ k) ?_
  show own_Goes p e below _ (s₁.setTop (mkF m 24 #[.val (.long p1), .second, .val (.long p2), .second, .val (.long p3), .second, .val (.long p4), .second, .val (.long vmx), .second, .val (.long vt), .second, .unset, .unset, .unset, .unset, .unset, .unset, .unset, .unset, .unset, .unset] [(.long (4611686018427387903 : Int64)), (.long p3)]))
  refine own_step (fun t k => XS.land X0.here hx rfl (hb hby at_24) rfl k) ?_
  show own_Goes p e below _ (s₁.setTop (mkF m 25 #[.val (.long p1), .second, .val (.long p2), .second, .val (.long p3), .second, .val (.long p4), .second, .val (.long vmx), .second, .val (.long vt), .second, .unset, .unset, .unset, .unset, .unset, .unset, .unset, .unset, .unset, .unset] [(.long (p3 &&& (4611686018427387903 : Int64)))]))
  refine own_step (fun t k => XS.lload X0.here hx rfl (hb hby at_25) rfl k) ?_
  show own_Goes p e below _ (s₁.setTop (mkF m 27 #[.val (.long p1), .second, .val (.long p2), .second, .val (.long p3), .second, .val (.long p4), .second, .val (.long vmx), .second, .val (.long vt), .second, .unset, .unset, .unset, .unset, .unset, .unset, .unset, .unset, .unset, .unset] [(.long vt), (.long (p3 &&& (4611686018427387903 : Int64)))]))
  refine own_step (fun t k => XS.lconst X0.here hx rfl (hb hby at_27) k) ?_
  show own_Goes p e below _ (s₁.setTop (mkF m 28 #[.val (.long p1), .second, .val (.long p2), .second, .val (.long p3), .second, .val (.long p4), .second, .val (.long vmx), .second, .val (.long vt), .second, .unset, .unset, .unset, .unset, .unset, .unset, .unset, .unset, .unset, .unset] [(.long (1 : Int64)), (.long vt), (.long (p3 &&& (4611686018427387903 : Int64)))]))
  refine own_step (fun t k => XS.ladd X0.here hx rfl (hb hby at_28) rfl k) ?_
  show own_Goes p e below _ (s₁.setTop (mkF m 29 #[.val (.long p1), .second, .val (.long p2), .second, .val (.long p3), .second, .val (.long p4), .second, .val (.long vmx), .second, .val (.long vt), .second, .unset, .unset, .unset, .unset, .unset, .unset, .unset, .unset, .unset, .unset] [(.long (vt + (1 : Int64))), (.long (p3 &&& (4611686018427387903 : Int64)))]))
  refine own_step (fun t k => XS.lrem X0.here hx rfl (hb hby at_29) rfl (own_nz2 hv_vmx hv_vt) k) ?_
  show own_Goes p e below _ (s₁.setTop (mkF m 30 #[.val (.long p1), .second, .val (.long p2), .second, .val (.long p3), .second, .val (.long p4), .second, .val (.long vmx), .second, .val (.long vt), .second, .unset, .unset, .unset, .unset, .unset, .unset, .unset, .unset, .unset, .unset] [(.long ((p3 &&& (4611686018427387903 : Int64)) - ((p3 &&& (4611686018427387903 : Int64)) / (vt + (1 : Int64))) * (vt + (1 : Int64))))]))
  refine own_step (fun t k => XS.lstore X0.here hx rfl (hb hby at_30) rfl (l' := #[.val (.long p1), .second, .val (.long p2), .second, .val (.long p3), .second, .val (.long p4), .second, .val (.long vmx), .second, .val (.long vt), .second, .val (.long ((p3 &&& (4611686018427387903 : Int64)) - ((p3 &&& (4611686018427387903 : Int64)) / (vt + (1 : Int64))) * (vt + (1 : Int64)))), .second, .unset, .unset, .unset, .unset, .unset, .unset, .unset, .unset]) rfl k) ?_
  show own_Goes p e below _ (s₁.setTop (mkF m 32 #[.val (.long p1), .second, .val (.long p2), .second, .val (.long p3), .second, .val (.long p4), .second, .val (.long vmx), .second, .val (.long vt), .second, .val (.long ((p3 &&& (4611686018427387903 : Int64)) - ((p3 &&& (4611686018427387903 : Int64)) / (vt + (1 : Int64))) * (vt + (1 : Int64)))), .second, .unset, .unset, .unset, .unset, .unset, .unset, .unset, .unset] []))
  generalize hv_vg : ((p3 &&& (4611686018427387903 : Int64)) - ((p3 &&& (4611686018427387903 : Int64)) / (vt + (1 : Int64))) * (vt + (1 : Int64))) = vg
  refine own_step (fun t k => XS.lload X0.here hx rfl (hb hby at_32) rfl k) ?_
  show own_Goes p e below _ (s₁.setTop (mkF m 34 #[.val (.long p1), .second, .val (.long p2), .second, .val (.long p3), .second, .val (.long p4), .second, .val (.long vmx), .second, .val (.long vt), .second, .val (.long vg), .second, .unset, .unset, .unset, .unset, .unset, .unset, .unset, .unset] [(.long p4)]))
  refine own_step (fun t k => X0.ldc2Long hx hown (mvT hZ w0) (g := (mkF m 34 #[.val (.long p1), .second, .val (.long p2), .second, .val (.long p3), .second, .val (.long p4), .second, .val (.long vmx), .second, .val (.long vt), .second, .val (.long vg), .second, .unset, .unset, .unset, .unset, .unset, .unset, .unset, .unset] [(.long p4)])) rfl (hb hby at_34) _ k) ?_
  show own_Goes p e below _ (s₁.setTop (mkF m 37 #[.val (.long p1), .second, .val (.long p2), .second, .val (.long p3), .second, .val (.long p4), .second, .val (.long vmx), .second, .val (.long vt), .second, .val (.long vg), .second, .unset, .unset, .unset, .unset, .unset, .unset, .unset, .unset] [(.long (4611686018427387903 : Int64)), (.long p4)]))
  refine own_step (fun t k => XS.land X0.here hx rfl (hb hby at_37) rfl k) ?_
  show own_Goes p e below _ (s₁.setTop (mkF m 38 #[.val (.long p1), .second, .val (.long p2), .second, .val (.long p3), .second, .val (.long p4), .second, .val (.long vmx), .second, .val (.long vt), .second, .val (.long vg), .second, .unset, .unset, .unset, .unset, .unset, .unset, .unset, .unset] [(.long (p4 &&& (4611686018427387903 : Int64)))]))
  refine own_step (fun t k => XS.lstore X0.here hx rfl (hb hby at_38) rfl (l' := #[.val (.long p1), .second, .val (.long p2), .second, .val (.long p3), .second, .val (.long p4), .second, .val (.long vmx), .second, .val (.long vt), .second, .val (.long vg), .second, .val (.long (p4 &&& (4611686018427387903 : Int64))), .second, .unset, .unset, .unset, .unset, .unset, .unset]) rfl k) ?_
  show own_Goes p e below _ (s₁.setTop (mkF m 40 #[.val (.long p1), .second, .val (.long p2), .second, .val (.long p3), .second, .val (.long p4), .second, .val (.long vmx), .second, .val (.long vt), .second, .val (.long vg), .second, .val (.long (p4 &&& (4611686018427387903 : Int64))), .second, .unset, .unset, .unset, .unset, .unset, .unset] []))
  generalize hv_vam : (p4 &&& (4611686018427387903 : Int64)) = vam
  obtain ⟨T25, h25, X25, e25, E25, A25, D25, -, st25⟩ := newO X0 hx hZ hown w1 w2 w3 e0 (g := (mkF m 40 #[.val (.long p1), .second, .val (.long p2), .second, .val (.long p3), .second, .val (.long p4), .second, .val (.long vmx), .second, .val (.long vt), .second, .val (.long vg), .second, .val (.long vam), .second, .unset, .unset, .unset, .unset, .unset, .unset] [])) rfl (hb hby at_40) (by decide) (by decide)
  obtain ⟨b25, g25⟩ : ∃ z, z = h0.size := ⟨_, rfl⟩
  rw [← g25] at A25 D25 st25
  have g_b25 : n0 ≤ b25 := Nat.le_trans Z0 (Nat.le_of_eq g25.symm)
  have sz_b25 : h0.size ≤ b25 := Nat.le_trans K0.1 (Nat.le_of_eq g25.symm)
  have K26 : Keep h0 h25 [] := K0.ext E25
  have F_max_b25 : Fld Z h25 b25 "com/example/heed/heed/live/Budget" "max" "J" (.long (0 : Int64)) := D25 (Or.inr w11) (ty := .long) (by decide)
  have F_taken_b25 : Fld Z h25 b25 "com/example/heed/heed/live/Budget" "taken" "J" (.long (0 : Int64)) := D25 (Or.inl w18) (ty := .long) (by decide)
  refine own_step st25 ?_
  show own_Goes p e below _ (T25.setTop (mkF m 43 #[.val (.long p1), .second, .val (.long p2), .second, .val (.long p3), .second, .val (.long p4), .second, .val (.long vmx), .second, .val (.long vt), .second, .val (.long vg), .second, .val (.long vam), .second, .unset, .unset, .unset, .unset, .unset, .unset] [(.ref b25)]))
  refine own_step (fun t k => XS.dup X25.here hx rfl (hb hby at_43) rfl rfl k) ?_
  show own_Goes p e below _ (T25.setTop (mkF m 44 #[.val (.long p1), .second, .val (.long p2), .second, .val (.long p3), .second, .val (.long p4), .second, .val (.long vmx), .second, .val (.long vt), .second, .val (.long vg), .second, .val (.long vam), .second, .unset, .unset, .unset, .unset, .unset, .unset] [(.ref b25), (.ref b25)]))
  refine own_step (fun t k => XS.lload X25.here hx rfl (hb hby at_44) rfl k) ?_
  show own_Goes p e below _ (T25.setTop (mkF m 46 #[.val (.long p1), .second, .val (.long p2), .second, .val (.long p3), .second, .val (.long p4), .second, .val (.long vmx), .second, .val (.long vt), .second, .val (.long vg), .second, .val (.long vam), .second, .unset, .unset, .unset, .unset, .unset, .unset] [(.long vmx), (.ref b25), (.ref b25)]))
  obtain ⟨_, _, ⟨T27, L27, k27, n27⟩, -, X27, ⟨Lc27, hQ27, l27, y27, z27⟩, st27⟩ := X25.specialBack hx (y := (⟨"com/example/heed/heed/live/Budget", "<init>", "(J)V"⟩ : MethodName)) rfl hown (mvT hZ w4) (mvT hZ w5) (mvT hZ w6) (by decide) (backOf (W := 1) (own_b1 l Z a0 hw [] b25 vmx ((.long (0 : Int64))) ((0 : Int64)) h25 n0 (Nat.le_trans Z0 E25.1) F_max_b25 F_taken_b25 A25 g_b25) hZ w6 w3 (by decide) (by decide)) (g := (mkF m 46 #[.val (.long p1), .second, .val (.long p2), .second, .val (.long p3), .second, .val (.long p4), .second, .val (.long vmx), .second, .val (.long vt), .second, .val (.long vg), .second, .val (.long vam), .second, .unset, .unset, .unset, .unset, .unset, .unset] [(.long vmx), (.ref b25), (.ref b25)])) rfl (by rw [hml]; rfl) (Steps.refl _) (a := b25) (argsL := [(.long vmx)]) (rest := [(.ref b25)]) (lenOf own_pd0 rfl) rfl (by show 2 * 0 + _ ≤ _; exact Nat.le_of_eq rfl) (hb hby at_46) (fun _ _ => ⟨rfl, e25, (by decide : 1 + 0 ≤ _), (by decide : 2 + 0 ≤ _)⟩)
  dsimp only [Pt.U, Pt.locs, Pt.cells, Pt.slots] at X27 l27 y27 z27 st27 hQ27
  subst l27 y27 z27
  obtain ⟨rfl, N27q, K27c, f27_0, f27_1, f27_2⟩ := hQ27
  have N27 := Fr.app N0 N27q
  refine own_jump st27 ?_
  have K28 : Keep h0 T27.heap [] := K26.trans K27c (allS (Or.inr sz_b25) all0)
  show own_Goes p e below _ (T27.setTop (mkF m 49 #[.val (.long p1), .second, .val (.long p2), .second, .val (.long p3), .second, .val (.long p4), .second, .val (.long vmx), .second, .val (.long vt), .second, .val (.long vg), .second, .val (.long vam), .second, .unset, .unset, .unset, .unset, .unset, .unset] [(.ref b25)]))
  refine own_step (fun t k => XS.astore X27.here hx rfl (hb hby at_49) rfl rfl (l' := #[.val (.long p1), .second, .val (.long p2), .second, .val (.long p3), .second, .val (.long p4), .second, .val (.long vmx), .second, .val (.long vt), .second, .val (.long vg), .second, .val (.long vam), .second, .val (.ref b25), .unset, .unset, .unset, .unset, .unset]) rfl k) ?_
  show own_Goes p e below _ (T27.setTop (mkF m 51 #[.val (.long p1), .second, .val (.long p2), .second, .val (.long p3), .second, .val (.long p4), .second, .val (.long vmx), .second, .val (.long vt), .second, .val (.long vg), .second, .val (.long vam), .second, .val (.ref b25), .unset, .unset, .unset, .unset, .unset] []))
  refine own_step (fun t k => XS.aload X27.here hx rfl (hb hby at_51) rfl rfl k) ?_
  show own_Goes p e below _ (T27.setTop (mkF m 53 #[.val (.long p1), .second, .val (.long p2), .second, .val (.long p3), .second, .val (.long p4), .second, .val (.long vmx), .second, .val (.long vt), .second, .val (.long vg), .second, .val (.long vam), .second, .val (.ref b25), .unset, .unset, .unset, .unset, .unset] [(.ref b25)]))
  refine own_step (fun t k => XS.lload X27.here hx rfl (hb hby at_53) rfl k) ?_
  show own_Goes p e below _ (T27.setTop (mkF m 55 #[.val (.long p1), .second, .val (.long p2), .second, .val (.long p3), .second, .val (.long p4), .second, .val (.long vmx), .second, .val (.long vt), .second, .val (.long vg), .second, .val (.long vam), .second, .val (.ref b25), .unset, .unset, .unset, .unset, .unset] [(.long vt), (.ref b25)]))
  obtain ⟨cq29, kq29, q29a, q29b, q29c⟩ := isOf hZ rfl f27_0
  obtain ⟨_, _, ⟨T29, L29, k29, n29⟩, -, X29, ⟨Lc29, hQ29, l29, y29, z29⟩, st29⟩ := X27.virtualBack hx (y := (⟨"com/example/heed/heed/live/Budget", "fits", "(J)Z"⟩ : MethodName)) (z := (⟨"com/example/heed/heed/live/Budget", "fits", "(J)Z"⟩ : MethodName)) hown (mvT hZ w12) (mvT hZ w13) (notFace_of_selects (args := #[]) (mvT hZ w15)) (mvT hZ w15) (mvT hZ w14) (by decide) (backOf (W := 0) (own_b3 l Z a0 hw [] b25 vt ((0 : Int64)) (vmx) T27.heap n0 (Nat.le_trans (Nat.le_trans Z0 E25.1) K27c.1) f27_2 f27_1) hZ w16 w3 (by decide) (by decide)) q29a q29c (g := (mkF m 55 #[.val (.long p1), .second, .val (.long p2), .second, .val (.long p3), .second, .val (.long p4), .second, .val (.long vmx), .second, .val (.long vt), .second, .val (.long vg), .second, .val (.long vam), .second, .val (.ref b25), .unset, .unset, .unset, .unset, .unset] [(.long vt), (.ref b25)])) rfl (by rw [hml]; rfl) (Steps.refl _) (argsL := [(.long vt)]) (rest := []) (lenOf own_pd1 rfl) rfl (by show 2 * 0 + _ ≤ _; exact Nat.le_of_eq rfl) (hb hby at_55) (fun _ _ => ⟨rfl, rfl, (by decide : 1 + 0 ≤ _), (by decide : 2 + 0 ≤ _)⟩)
  dsimp only [Pt.U, Pt.locs, Pt.cells, Pt.slots] at X29 l29 y29 z29 st29 hQ29
  subst l29 y29 z29
  obtain ⟨rfl, N29q, eh29⟩ := hQ29
  have N29 := Fr.app N27 N29q
  refine own_jump st29 ?_
  show own_Goes p e below _ (T29.setTop (mkF m 58 #[.val (.long p1), .second, .val (.long p2), .second, .val (.long p3), .second, .val (.long p4), .second, .val (.long vmx), .second, .val (.long vt), .second, .val (.long vg), .second, .val (.long vam), .second, .val (.ref b25), .unset, .unset, .unset, .unset, .unset] [(.int (if vmx < ((0 : Int64) + vt) then (0 : Int32) else (1 : Int32)))]))
  refine own_step (fun t k => XS.istore X29.here hx rfl (hb hby at_58) rfl (l' := #[.val (.long p1), .second, .val (.long p2), .second, .val (.long p3), .second, .val (.long p4), .second, .val (.long vmx), .second, .val (.long vt), .second, .val (.long vg), .second, .val (.long vam), .second, .val (.ref b25), .val (.int (if vmx < ((0 : Int64) + vt) then (0 : Int32) else (1 : Int32))), .unset, .unset, .unset, .unset]) rfl k) ?_
  show own_Goes p e below _ (T29.setTop (mkF m 60 #[.val (.long p1), .second, .val (.long p2), .second, .val (.long p3), .second, .val (.long p4), .second, .val (.long vmx), .second, .val (.long vt), .second, .val (.long vg), .second, .val (.long vam), .second, .val (.ref b25), .val (.int (if vmx < ((0 : Int64) + vt) then (0 : Int32) else (1 : Int32))), .unset, .unset, .unset, .unset] []))
  refine own_step (fun t k => XS.aload X29.here hx rfl (hb hby at_60) rfl rfl k) ?_
  show own_Goes p e below _ (T29.setTop (mkF m 62 #[.val (.long p1), .second, .val (.long p2), .second, .val (.long p3), .second, .val (.long p4), .second, .val (.long vmx), .second, .val (.long vt), .second, .val (.long vg), .second, .val (.long vam), .second, .val (.ref b25), .val (.int (if vmx < ((0 : Int64) + vt) then (0 : Int32) else (1 : Int32))), .unset, .unset, .unset, .unset] [(.ref b25)]))
  refine own_step (fun t k => XS.lload X29.here hx rfl (hb hby at_62) rfl k) ?_
  show own_Goes p e below _ (T29.setTop (mkF m 64 #[.val (.long p1), .second, .val (.long p2), .second, .val (.long p3), .second, .val (.long p4), .second, .val (.long vmx), .second, .val (.long vt), .second, .val (.long vg), .second, .val (.long vam), .second, .val (.ref b25), .val (.int (if vmx < ((0 : Int64) + vt) then (0 : Int32) else (1 : Int32))), .unset, .unset, .unset, .unset] [(.long vt), (.ref b25)]))
  obtain ⟨cq30, kq30, q30a, q30b, q30c⟩ := isOf hZ eh29 f27_0
  obtain ⟨_, _, ⟨T30, L30, k30, n30⟩, -, X30, ⟨Lc30, hQ30, l30, y30, z30⟩, st30⟩ := X29.virtualBack hx (y := (⟨"com/example/heed/heed/live/Budget", "take", "(J)V"⟩ : MethodName)) (z := (⟨"com/example/heed/heed/live/Budget", "take", "(J)V"⟩ : MethodName)) hown (mvT hZ w19) (mvT hZ w20) (notFace_of_selects (args := #[]) (mvT hZ w22)) (mvT hZ w22) (mvT hZ w21) (by decide) (backOf (W := 0) (own_b4 l Z a0 hw [] b25 vt ((0 : Int64)) (vmx) T27.heap n0 (Nat.le_trans (Nat.le_trans Z0 E25.1) K27c.1) f27_2 f27_1 f27_0 g_b25) hZ w23 w3 (by decide) (by decide)) q30a q30c (g := (mkF m 64 #[.val (.long p1), .second, .val (.long p2), .second, .val (.long p3), .second, .val (.long p4), .second, .val (.long vmx), .second, .val (.long vt), .second, .val (.long vg), .second, .val (.long vam), .second, .val (.ref b25), .val (.int (if vmx < ((0 : Int64) + vt) then (0 : Int32) else (1 : Int32))), .unset, .unset, .unset, .unset] [(.long vt), (.ref b25)])) rfl (by rw [hml]; rfl) (Steps.refl _) (argsL := [(.long vt)]) (rest := []) (lenOf own_pd0 rfl) rfl (by show 2 * 0 + _ ≤ _; exact Nat.le_of_eq rfl) (hb hby at_64) (fun _ _ => ⟨rfl, eh29, (by decide : 1 + 0 ≤ _), (by decide : 2 + 0 ≤ _)⟩)
  dsimp only [Pt.U, Pt.locs, Pt.cells, Pt.slots] at X30 l30 y30 z30 st30 hQ30
  subst l30 y30 z30
  obtain ⟨rfl, N30q, K30c, f30_0, f30_1, f30_2⟩ := hQ30
  have N30 := Fr.app N29 N30q
  refine own_jump st30 ?_
  have K31 : Keep h0 T30.heap [] := K28.trans K30c (allS (Or.inr sz_b25) all0)
  show own_Goes p e below _ (T30.setTop (mkF m 67 #[.val (.long p1), .second, .val (.long p2), .second, .val (.long p3), .second, .val (.long p4), .second, .val (.long vmx), .second, .val (.long vt), .second, .val (.long vg), .second, .val (.long vam), .second, .val (.ref b25), .val (.int (if vmx < ((0 : Int64) + vt) then (0 : Int32) else (1 : Int32))), .unset, .unset, .unset, .unset] []))
  refine own_step (fun t k => XS.aload X30.here hx rfl (hb hby at_67) rfl rfl k) ?_
  show own_Goes p e below _ (T30.setTop (mkF m 69 #[.val (.long p1), .second, .val (.long p2), .second, .val (.long p3), .second, .val (.long p4), .second, .val (.long vmx), .second, .val (.long vt), .second, .val (.long vg), .second, .val (.long vam), .second, .val (.ref b25), .val (.int (if vmx < ((0 : Int64) + vt) then (0 : Int32) else (1 : Int32))), .unset, .unset, .unset, .unset] [(.ref b25)]))
  refine own_step (fun t k => XS.lload X30.here hx rfl (hb hby at_69) rfl k) ?_
  show own_Goes p e below _ (T30.setTop (mkF m 71 #[.val (.long p1), .second, .val (.long p2), .second, .val (.long p3), .second, .val (.long p4), .second, .val (.long vmx), .second, .val (.long vt), .second, .val (.long vg), .second, .val (.long vam), .second, .val (.ref b25), .val (.int (if vmx < ((0 : Int64) + vt) then (0 : Int32) else (1 : Int32))), .unset, .unset, .unset, .unset] [(.long vg), (.ref b25)]))
  obtain ⟨cq32, kq32, q32a, q32b, q32c⟩ := isOf hZ rfl f30_0
  obtain ⟨_, _, ⟨T32, L32, k32, n32⟩, -, X32, ⟨Lc32, hQ32, l32, y32, z32⟩, st32⟩ := X30.virtualBack hx (y := (⟨"com/example/heed/heed/live/Budget", "giveBack", "(J)V"⟩ : MethodName)) (z := (⟨"com/example/heed/heed/live/Budget", "giveBack", "(J)V"⟩ : MethodName)) hown (mvT hZ w24) (mvT hZ w25) (notFace_of_selects (args := #[]) (mvT hZ w27)) (mvT hZ w27) (mvT hZ w26) (by decide) (backOf (W := 0) (own_b5 l Z a0 hw [] b25 vg (((0 : Int64) + vt)) (vmx) T30.heap n0 (Nat.le_trans (Nat.le_trans (Nat.le_trans Z0 E25.1) K27c.1) K30c.1) f30_1 f30_2 f30_0 g_b25) hZ w28 w3 (by decide) (by decide)) q32a q32c (g := (mkF m 71 #[.val (.long p1), .second, .val (.long p2), .second, .val (.long p3), .second, .val (.long p4), .second, .val (.long vmx), .second, .val (.long vt), .second, .val (.long vg), .second, .val (.long vam), .second, .val (.ref b25), .val (.int (if vmx < ((0 : Int64) + vt) then (0 : Int32) else (1 : Int32))), .unset, .unset, .unset, .unset] [(.long vg), (.ref b25)])) rfl (by rw [hml]; rfl) (Steps.refl _) (argsL := [(.long vg)]) (rest := []) (lenOf own_pd0 rfl) rfl (by show 2 * 0 + _ ≤ _; exact Nat.le_of_eq rfl) (hb hby at_71) (fun _ _ => ⟨rfl, rfl, (by decide : 1 + 0 ≤ _), (by decide : 2 + 0 ≤ _)⟩)
  dsimp only [Pt.U, Pt.locs, Pt.cells, Pt.slots] at X32 l32 y32 z32 st32 hQ32
  subst l32 y32 z32
  obtain ⟨rfl, N32q, K32c, f32_0, f32_1, f32_2⟩ := hQ32
  have N32 := Fr.app N30 N32q
  refine own_jump st32 ?_
  have K33 : Keep h0 T32.heap [] := K31.trans K32c (allS (Or.inr sz_b25) all0)
  show own_Goes p e below _ (T32.setTop (mkF m 74 #[.val (.long p1), .second, .val (.long p2), .second, .val (.long p3), .second, .val (.long p4), .second, .val (.long vmx), .second, .val (.long vt), .second, .val (.long vg), .second, .val (.long vam), .second, .val (.ref b25), .val (.int (if vmx < ((0 : Int64) + vt) then (0 : Int32) else (1 : Int32))), .unset, .unset, .unset, .unset] []))
  refine own_step (fun t k => XS.lload X32.here hx rfl (hb hby at_74) rfl k) ?_
  show own_Goes p e below _ (T32.setTop (mkF m 76 #[.val (.long p1), .second, .val (.long p2), .second, .val (.long p3), .second, .val (.long p4), .second, .val (.long vmx), .second, .val (.long vt), .second, .val (.long vg), .second, .val (.long vam), .second, .val (.ref b25), .val (.int (if vmx < ((0 : Int64) + vt) then (0 : Int32) else (1 : Int32))), .unset, .unset, .unset, .unset] [(.long vmx)]))
  refine own_step (fun t k => XS.lload X32.here hx rfl (hb hby at_76) rfl k) ?_
  show own_Goes p e below _ (T32.setTop (mkF m 78 #[.val (.long p1), .second, .val (.long p2), .second, .val (.long p3), .second, .val (.long p4), .second, .val (.long vmx), .second, .val (.long vt), .second, .val (.long vg), .second, .val (.long vam), .second, .val (.ref b25), .val (.int (if vmx < ((0 : Int64) + vt) then (0 : Int32) else (1 : Int32))), .unset, .unset, .unset, .unset] [(.long vt), (.long vmx)]))
  refine own_step (fun t k => XS.lsub X32.here hx rfl (hb hby at_78) rfl k) ?_
  show own_Goes p e below _ (T32.setTop (mkF m 79 #[.val (.long p1), .second, .val (.long p2), .second, .val (.long p3), .second, .val (.long p4), .second, .val (.long vmx), .second, .val (.long vt), .second, .val (.long vg), .second, .val (.long vam), .second, .val (.ref b25), .val (.int (if vmx < ((0 : Int64) + vt) then (0 : Int32) else (1 : Int32))), .unset, .unset, .unset, .unset] [(.long (vmx - vt))]))
  refine own_step (fun t k => XS.lload X32.here hx rfl (hb hby at_79) rfl k) ?_
  show own_Goes p e below _ (T32.setTop (mkF m 81 #[.val (.long p1), .second, .val (.long p2), .second, .val (.long p3), .second, .val (.long p4), .second, .val (.long vmx), .second, .val (.long vt), .second, .val (.long vg), .second, .val (.long vam), .second, .val (.ref b25), .val (.int (if vmx < ((0 : Int64) + vt) then (0 : Int32) else (1 : Int32))), .unset, .unset, .unset, .unset] [(.long vg), (.long (vmx - vt))]))
  refine own_step (fun t k => XS.ladd X32.here hx rfl (hb hby at_81) rfl k) ?_
  show own_Goes p e below _ (T32.setTop (mkF m 82 #[.val (.long p1), .second, .val (.long p2), .second, .val (.long p3), .second, .val (.long p4), .second, .val (.long vmx), .second, .val (.long vt), .second, .val (.long vg), .second, .val (.long vam), .second, .val (.ref b25), .val (.int (if vmx < ((0 : Int64) + vt) then (0 : Int32) else (1 : Int32))), .unset, .unset, .unset, .unset] [(.long ((vmx - vt) + vg))]))
  refine own_step (fun t k => XS.lstore X32.here hx rfl (hb hby at_82) rfl (l' := #[.val (.long p1), .second, .val (.long p2), .second, .val (.long p3), .second, .val (.long p4), .second, .val (.long vmx), .second, .val (.long vt), .second, .val (.long vg), .second, .val (.long vam), .second, .val (.ref b25), .val (.int (if vmx < ((0 : Int64) + vt) then (0 : Int32) else (1 : Int32))), .val (.long ((vmx - vt) + vg)), .second, .unset, .unset]) rfl k) ?_
  show own_Goes p e below _ (T32.setTop (mkF m 84 #[.val (.long p1), .second, .val (.long p2), .second, .val (.long p3), .second, .val (.long p4), .second, .val (.long vmx), .second, .val (.long vt), .second, .val (.long vg), .second, .val (.long vam), .second, .val (.ref b25), .val (.int (if vmx < ((0 : Int64) + vt) then (0 : Int32) else (1 : Int32))), .val (.long ((vmx - vt) + vg)), .second, .unset, .unset] []))
  refine own_step (fun t k => XS.aload X32.here hx rfl (hb hby at_84) rfl rfl k) ?_
  show own_Goes p e below _ (T32.setTop (mkF m 86 #[.val (.long p1), .second, .val (.long p2), .second, .val (.long p3), .second, .val (.long p4), .second, .val (.long vmx), .second, .val (.long vt), .second, .val (.long vg), .second, .val (.long vam), .second, .val (.ref b25), .val (.int (if vmx < ((0 : Int64) + vt) then (0 : Int32) else (1 : Int32))), .val (.long ((vmx - vt) + vg)), .second, .unset, .unset] [(.ref b25)]))
  refine own_step (fun t k => XS.lload X32.here hx rfl (hb hby at_86) rfl k) ?_
  show own_Goes p e below _ (T32.setTop (mkF m 88 #[.val (.long p1), .second, .val (.long p2), .second, .val (.long p3), .second, .val (.long p4), .second, .val (.long vmx), .second, .val (.long vt), .second, .val (.long vg), .second, .val (.long vam), .second, .val (.ref b25), .val (.int (if vmx < ((0 : Int64) + vt) then (0 : Int32) else (1 : Int32))), .val (.long ((vmx - vt) + vg)), .second, .unset, .unset] [(.long vam), (.ref b25)]))
  obtain ⟨cq34, kq34, q34a, q34b, q34c⟩ := isOf hZ rfl f32_0
  obtain ⟨_, _, ⟨T34, L34, k34, n34⟩, -, X34, ⟨Lc34, hQ34, l34, y34, z34⟩, st34⟩ := X32.virtualBack hx (y := (⟨"com/example/heed/heed/live/Budget", "fits", "(J)Z"⟩ : MethodName)) (z := (⟨"com/example/heed/heed/live/Budget", "fits", "(J)Z"⟩ : MethodName)) hown (mvT hZ w12) (mvT hZ w13) (notFace_of_selects (args := #[]) (mvT hZ w15)) (mvT hZ w15) (mvT hZ w14) (by decide) (backOf (W := 0) (own_b3 l Z a0 hw [] b25 vam ((((0 : Int64) + vt) - vg)) (vmx) T32.heap n0 (Nat.le_trans (Nat.le_trans (Nat.le_trans (Nat.le_trans Z0 E25.1) K27c.1) K30c.1) K32c.1) f32_1 f32_2) hZ w16 w3 (by decide) (by decide)) q34a q34c (g := (mkF m 88 #[.val (.long p1), .second, .val (.long p2), .second, .val (.long p3), .second, .val (.long p4), .second, .val (.long vmx), .second, .val (.long vt), .second, .val (.long vg), .second, .val (.long vam), .second, .val (.ref b25), .val (.int (if vmx < ((0 : Int64) + vt) then (0 : Int32) else (1 : Int32))), .val (.long ((vmx - vt) + vg)), .second, .unset, .unset] [(.long vam), (.ref b25)])) rfl (by rw [hml]; rfl) (Steps.refl _) (argsL := [(.long vam)]) (rest := []) (lenOf own_pd1 rfl) rfl (by show 2 * 0 + _ ≤ _; exact Nat.le_of_eq rfl) (hb hby at_88) (fun _ _ => ⟨rfl, rfl, (by decide : 1 + 0 ≤ _), (by decide : 2 + 0 ≤ _)⟩)
  dsimp only [Pt.U, Pt.locs, Pt.cells, Pt.slots] at X34 l34 y34 z34 st34 hQ34
  subst l34 y34 z34
  obtain ⟨rfl, N34q, eh34⟩ := hQ34
  have N34 := Fr.app N32 N34q
  refine own_jump st34 ?_
  show own_Goes p e below _ (T34.setTop (mkF m 91 #[.val (.long p1), .second, .val (.long p2), .second, .val (.long p3), .second, .val (.long p4), .second, .val (.long vmx), .second, .val (.long vt), .second, .val (.long vg), .second, .val (.long vam), .second, .val (.ref b25), .val (.int (if vmx < ((0 : Int64) + vt) then (0 : Int32) else (1 : Int32))), .val (.long ((vmx - vt) + vg)), .second, .unset, .unset] [(.int (if vmx < ((((0 : Int64) + vt) - vg) + vam) then (0 : Int32) else (1 : Int32)))]))
  refine own_step (fun t k => XS.lload X34.here hx rfl (hb hby at_91) rfl k) ?_
  show own_Goes p e below _ (T34.setTop (mkF m 93 #[.val (.long p1), .second, .val (.long p2), .second, .val (.long p3), .second, .val (.long p4), .second, .val (.long vmx), .second, .val (.long vt), .second, .val (.long vg), .second, .val (.long vam), .second, .val (.ref b25), .val (.int (if vmx < ((0 : Int64) + vt) then (0 : Int32) else (1 : Int32))), .val (.long ((vmx - vt) + vg)), .second, .unset, .unset] [(.long vam), (.int (if vmx < ((((0 : Int64) + vt) - vg) + vam) then (0 : Int32) else (1 : Int32)))]))
  refine own_step (fun t k => XS.lload X34.here hx rfl (hb hby at_93) rfl k) ?_
  show own_Goes p e below _ (T34.setTop (mkF m 95 #[.val (.long p1), .second, .val (.long p2), .second, .val (.long p3), .second, .val (.long p4), .second, .val (.long vmx), .second, .val (.long vt), .second, .val (.long vg), .second, .val (.long vam), .second, .val (.ref b25), .val (.int (if vmx < ((0 : Int64) + vt) then (0 : Int32) else (1 : Int32))), .val (.long ((vmx - vt) + vg)), .second, .unset, .unset] [(.long ((vmx - vt) + vg)), (.long vam), (.int (if vmx < ((((0 : Int64) + vt) - vg) + vam) then (0 : Int32) else (1 : Int32)))]))
  refine own_step (fun t k => XS.lcmp X34.here hx rfl (hb hby at_95) rfl k) ?_
  show own_Goes p e below _ (T34.setTop (mkF m 96 #[.val (.long p1), .second, .val (.long p2), .second, .val (.long p3), .second, .val (.long p4), .second, .val (.long vmx), .second, .val (.long vt), .second, .val (.long vg), .second, .val (.long vam), .second, .val (.ref b25), .val (.int (if vmx < ((0 : Int64) + vt) then (0 : Int32) else (1 : Int32))), .val (.long ((vmx - vt) + vg)), .second, .unset, .unset] [(.int (lcmpW vam ((vmx - vt) + vg))), (.int (if vmx < ((((0 : Int64) + vt) - vg) + vam) then (0 : Int32) else (1 : Int32)))]))
  refine own_step (S' := T34.setTop (mkF m 104 #[.val (.long p1), .second, .val (.long p2), .second, .val (.long p3), .second, .val (.long p4), .second, .val (.long vmx), .second, .val (.long vt), .second, .val (.long vg), .second, .val (.long vam), .second, .val (.ref b25), .val (.int (if vmx < ((0 : Int64) + vt) then (0 : Int32) else (1 : Int32))), .val (.long ((vmx - vt) + vg)), .second, .unset, .unset] [(.int (if ((vmx - vt) + vg) < vam then (0 : Int32) else (1 : Int32))), (.int (if vmx < ((((0 : Int64) + vt) - vg) + vam) then (0 : Int32) else (1 : Int32)))])) (fun t k => ?_) ?_
  · show Steps p.tables e below (T34.setTop (mkF m 96 #[.val (.long p1), .second, .val (.long p2), .second, .val (.long p3), .second, .val (.long p4), .second, .val (.long vmx), .second, .val (.long vt), .second, .val (.long vg), .second, .val (.long vam), .second, .val (.ref b25), .val (.int (if vmx < ((0 : Int64) + vt) then (0 : Int32) else (1 : Int32))), .val (.long ((vmx - vt) + vg)), .second, .unset, .unset] [(.int (lcmpW vam ((vmx - vt) + vg))), (.int (if vmx < ((((0 : Int64) + vt) - vg) + vam) then (0 : Int32) else (1 : Int32)))])) _
    by_cases hc35 : ((vmx - vt) + vg) < vam
    · --
      refine XS.ifYes X34.here hx rfl (pc0 := 96) (pc' := 103) rfl (hb hby at_96) rfl ((if0 _ _).trans (tlt ((lw_gt vam ((vmx - vt) + vg)).mpr hc35)).2.2.1) (by decide) (by decide) ?_
      show Steps p.tables e below (T34.setTop (mkF m 103 #[.val (.long p1), .second, .val (.long p2), .second, .val (.long p3), .second, .val (.long p4), .second, .val (.long vmx), .second, .val (.long vt), .second, .val (.long vg), .second, .val (.long vam), .second, .val (.ref b25), .val (.int (if vmx < ((0 : Int64) + vt) then (0 : Int32) else (1 : Int32))), .val (.long ((vmx - vt) + vg)), .second, .unset, .unset] [(.int (if vmx < ((((0 : Int64) + vt) - vg) + vam) then (0 : Int32) else (1 : Int32)))])) _
      refine XS.iconst X34.here hx rfl (hb hby at_103) ?_
      show Steps p.tables e below (T34.setTop (mkF m 104 #[.val (.long p1), .second, .val (.long p2), .second, .val (.long p3), .second, .val (.long p4), .second, .val (.long vmx), .second, .val (.long vt), .second, .val (.long vg), .second, .val (.long vam), .second, .val (.ref b25), .val (.int (if vmx < ((0 : Int64) + vt) then (0 : Int32) else (1 : Int32))), .val (.long ((vmx - vt) + vg)), .second, .unset, .unset] [(.int (0 : Int32)), (.int (if vmx < ((((0 : Int64) + vt) - vg) + vam) then (0 : Int32) else (1 : Int32)))])) _
      simp only [if_pos hc35] at k
      exact k
    · --
      refine XS.ifNo X34.here hx rfl (hb hby at_96) rfl ((if0 _ _).trans (flt (fun zq => hc35 ((lw_gt vam ((vmx - vt) + vg)).mp zq))).2.2.1) ?_
      show Steps p.tables e below (T34.setTop (mkF m 99 #[.val (.long p1), .second, .val (.long p2), .second, .val (.long p3), .second, .val (.long p4), .second, .val (.long vmx), .second, .val (.long vt), .second, .val (.long vg), .second, .val (.long vam), .second, .val (.ref b25), .val (.int (if vmx < ((0 : Int64) + vt) then (0 : Int32) else (1 : Int32))), .val (.long ((vmx - vt) + vg)), .second, .unset, .unset] [(.int (if vmx < ((((0 : Int64) + vt) - vg) + vam) then (0 : Int32) else (1 : Int32)))])) _
      refine XS.iconst X34.here hx rfl (hb hby at_99) ?_
      show Steps p.tables e below (T34.setTop (mkF m 100 #[.val (.long p1), .second, .val (.long p2), .second, .val (.long p3), .second, .val (.long p4), .second, .val (.long vmx), .second, .val (.long vt), .second, .val (.long vg), .second, .val (.long vam), .second, .val (.ref b25), .val (.int (if vmx < ((0 : Int64) + vt) then (0 : Int32) else (1 : Int32))), .val (.long ((vmx - vt) + vg)), .second, .unset, .unset] [(.int (1 : Int32)), (.int (if vmx < ((((0 : Int64) + vt) - vg) + vam) then (0 : Int32) else (1 : Int32)))])) _
      refine XS.goto X34.here hx rfl (pc0 := 100) (pc' := 104) rfl (hb hby at_100) (by decide) (by decide) ?_
      show Steps p.tables e below (T34.setTop (mkF m 104 #[.val (.long p1), .second, .val (.long p2), .second, .val (.long p3), .second, .val (.long p4), .second, .val (.long vmx), .second, .val (.long vt), .second, .val (.long vg), .second, .val (.long vam), .second, .val (.ref b25), .val (.int (if vmx < ((0 : Int64) + vt) then (0 : Int32) else (1 : Int32))), .val (.long ((vmx - vt) + vg)), .second, .unset, .unset] [(.int (1 : Int32)), (.int (if vmx < ((((0 : Int64) + vt) - vg) + vam) then (0 : Int32) else (1 : Int32)))])) _
      simp only [if_neg hc35] at k
      exact k
  show own_Goes p e below _ (T34.setTop (mkF m 104 #[.val (.long p1), .second, .val (.long p2), .second, .val (.long p3), .second, .val (.long p4), .second, .val (.long vmx), .second, .val (.long vt), .second, .val (.long vg), .second, .val (.long vam), .second, .val (.ref b25), .val (.int (if vmx < ((0 : Int64) + vt) then (0 : Int32) else (1 : Int32))), .val (.long ((vmx - vt) + vg)), .second, .unset, .unset] [(.int (if ((vmx - vt) + vg) < vam then (0 : Int32) else (1 : Int32))), (.int (if vmx < ((((0 : Int64) + vt) - vg) + vam) then (0 : Int32) else (1 : Int32)))]))
  refine own_step (S' := T34.setTop (mkF m 112 #[.val (.long p1), .second, .val (.long p2), .second, .val (.long p3), .second, .val (.long p4), .second, .val (.long vmx), .second, .val (.long vt), .second, .val (.long vg), .second, .val (.long vam), .second, .val (.ref b25), .val (.int (if vmx < ((0 : Int64) + vt) then (0 : Int32) else (1 : Int32))), .val (.long ((vmx - vt) + vg)), .second, .unset, .unset] [(.int (if (if vmx < ((((0 : Int64) + vt) - vg) + vam) then (0 : Int32) else (1 : Int32)) = (if ((vmx - vt) + vg) < vam then (0 : Int32) else (1 : Int32)) then (1 : Int32) else (0 : Int32)))])) (fun t k => ?_) ?_
  · show Steps p.tables e below (T34.setTop (mkF m 104 #[.val (.long p1), .second, .val (.long p2), .second, .val (.long p3), .second, .val (.long p4), .second, .val (.long vmx), .second, .val (.long vt), .second, .val (.long vg), .second, .val (.long vam), .second, .val (.ref b25), .val (.int (if vmx < ((0 : Int64) + vt) then (0 : Int32) else (1 : Int32))), .val (.long ((vmx - vt) + vg)), .second, .unset, .unset] [(.int (if ((vmx - vt) + vg) < vam then (0 : Int32) else (1 : Int32))), (.int (if vmx < ((((0 : Int64) + vt) - vg) + vam) then (0 : Int32) else (1 : Int32)))])) _
    by_cases hc36 : (if vmx < ((((0 : Int64) + vt) - vg) + vam) then (0 : Int32) else (1 : Int32)) = (if ((vmx - vt) + vg) < vam then (0 : Int32) else (1 : Int32))
    · --
      refine XS.icmpNo X34.here hx rfl (hb hby at_104) rfl (teq hc36).2 ?_
      show Steps p.tables e below (T34.setTop (mkF m 107 #[.val (.long p1), .second, .val (.long p2), .second, .val (.long p3), .second, .val (.long p4), .second, .val (.long vmx), .second, .val (.long vt), .second, .val (.long vg), .second, .val (.long vam), .second, .val (.ref b25), .val (.int (if vmx < ((0 : Int64) + vt) then (0 : Int32) else (1 : Int32))), .val (.long ((vmx - vt) + vg)), .second, .unset, .unset] [])) _
      refine XS.iconst X34.here hx rfl (hb hby at_107) ?_
      show Steps p.tables e below (T34.setTop (mkF m 108 #[.val (.long p1), .second, .val (.long p2), .second, .val (.long p3), .second, .val (.long p4), .second, .val (.long vmx), .second, .val (.long vt), .second, .val (.long vg), .second, .val (.long vam), .second, .val (.ref b25), .val (.int (if vmx < ((0 : Int64) + vt) then (0 : Int32) else (1 : Int32))), .val (.long ((vmx - vt) + vg)), .second, .unset, .unset] [(.int (1 : Int32))])) _
      refine XS.goto X34.here hx rfl (pc0 := 108) (pc' := 112) rfl (hb hby at_108) (by decide) (by decide) ?_
      show Steps p.tables e below (T34.setTop (mkF m 112 #[.val (.long p1), .second, .val (.long p2), .second, .val (.long p3), .second, .val (.long p4), .second, .val (.long vmx), .second, .val (.long vt), .second, .val (.long vg), .second, .val (.long vam), .second, .val (.ref b25), .val (.int (if vmx < ((0 : Int64) + vt) then (0 : Int32) else (1 : Int32))), .val (.long ((vmx - vt) + vg)), .second, .unset, .unset] [(.int (1 : Int32))])) _
      simp only [if_pos hc36] at k
      exact k
    · --
      refine XS.icmpYes X34.here hx rfl (pc0 := 104) (pc' := 111) rfl (hb hby at_104) rfl (feq hc36).2 (by decide) (by decide) ?_
      show Steps p.tables e below (T34.setTop (mkF m 111 #[.val (.long p1), .second, .val (.long p2), .second, .val (.long p3), .second, .val (.long p4), .second, .val (.long vmx), .second, .val (.long vt), .second, .val (.long vg), .second, .val (.long vam), .second, .val (.ref b25), .val (.int (if vmx < ((0 : Int64) + vt) then (0 : Int32) else (1 : Int32))), .val (.long ((vmx - vt) + vg)), .second, .unset, .unset] [])) _
      refine XS.iconst X34.here hx rfl (hb hby at_111) ?_
      show Steps p.tables e below (T34.setTop (mkF m 112 #[.val (.long p1), .second, .val (.long p2), .second, .val (.long p3), .second, .val (.long p4), .second, .val (.long vmx), .second, .val (.long vt), .second, .val (.long vg), .second, .val (.long vam), .second, .val (.ref b25), .val (.int (if vmx < ((0 : Int64) + vt) then (0 : Int32) else (1 : Int32))), .val (.long ((vmx - vt) + vg)), .second, .unset, .unset] [(.int (0 : Int32))])) _
      simp only [if_neg hc36] at k
      exact k
  show own_Goes p e below _ (T34.setTop (mkF m 112 #[.val (.long p1), .second, .val (.long p2), .second, .val (.long p3), .second, .val (.long p4), .second, .val (.long vmx), .second, .val (.long vt), .second, .val (.long vg), .second, .val (.long vam), .second, .val (.ref b25), .val (.int (if vmx < ((0 : Int64) + vt) then (0 : Int32) else (1 : Int32))), .val (.long ((vmx - vt) + vg)), .second, .unset, .unset] [(.int (if (if vmx < ((((0 : Int64) + vt) - vg) + vam) then (0 : Int32) else (1 : Int32)) = (if ((vmx - vt) + vg) < vam then (0 : Int32) else (1 : Int32)) then (1 : Int32) else (0 : Int32)))]))
  refine own_step (fun t k => XS.istore X34.here hx rfl (hb hby at_112) rfl (l' := #[.val (.long p1), .second, .val (.long p2), .second, .val (.long p3), .second, .val (.long p4), .second, .val (.long vmx), .second, .val (.long vt), .second, .val (.long vg), .second, .val (.long vam), .second, .val (.ref b25), .val (.int (if vmx < ((0 : Int64) + vt) then (0 : Int32) else (1 : Int32))), .val (.long ((vmx - vt) + vg)), .second, .val (.int (if (if vmx < ((((0 : Int64) + vt) - vg) + vam) then (0 : Int32) else (1 : Int32)) = (if ((vmx - vt) + vg) < vam then (0 : Int32) else (1 : Int32)) then (1 : Int32) else (0 : Int32))), .unset]) rfl k) ?_
  show own_Goes p e below _ (T34.setTop (mkF m 114 #[.val (.long p1), .second, .val (.long p2), .second, .val (.long p3), .second, .val (.long p4), .second, .val (.long vmx), .second, .val (.long vt), .second, .val (.long vg), .second, .val (.long vam), .second, .val (.ref b25), .val (.int (if vmx < ((0 : Int64) + vt) then (0 : Int32) else (1 : Int32))), .val (.long ((vmx - vt) + vg)), .second, .val (.int (if (if vmx < ((((0 : Int64) + vt) - vg) + vam) then (0 : Int32) else (1 : Int32)) = (if ((vmx - vt) + vg) < vam then (0 : Int32) else (1 : Int32)) then (1 : Int32) else (0 : Int32))), .unset] []))
  refine own_step (fun t k => XS.aload X34.here hx rfl (hb hby at_114) rfl rfl k) ?_
  show own_Goes p e below _ (T34.setTop (mkF m 116 #[.val (.long p1), .second, .val (.long p2), .second, .val (.long p3), .second, .val (.long p4), .second, .val (.long vmx), .second, .val (.long vt), .second, .val (.long vg), .second, .val (.long vam), .second, .val (.ref b25), .val (.int (if vmx < ((0 : Int64) + vt) then (0 : Int32) else (1 : Int32))), .val (.long ((vmx - vt) + vg)), .second, .val (.int (if (if vmx < ((((0 : Int64) + vt) - vg) + vam) then (0 : Int32) else (1 : Int32)) = (if ((vmx - vt) + vg) < vam then (0 : Int32) else (1 : Int32)) then (1 : Int32) else (0 : Int32))), .unset] [(.ref b25)]))
  refine own_step (fun t k => XS.lload X34.here hx rfl (hb hby at_116) rfl k) ?_
  show own_Goes p e below _ (T34.setTop (mkF m 118 #[.val (.long p1), .second, .val (.long p2), .second, .val (.long p3), .second, .val (.long p4), .second, .val (.long vmx), .second, .val (.long vt), .second, .val (.long vg), .second, .val (.long vam), .second, .val (.ref b25), .val (.int (if vmx < ((0 : Int64) + vt) then (0 : Int32) else (1 : Int32))), .val (.long ((vmx - vt) + vg)), .second, .val (.int (if (if vmx < ((((0 : Int64) + vt) - vg) + vam) then (0 : Int32) else (1 : Int32)) = (if ((vmx - vt) + vg) < vam then (0 : Int32) else (1 : Int32)) then (1 : Int32) else (0 : Int32))), .unset] [(.long ((vmx - vt) + vg)), (.ref b25)]))
  obtain ⟨cq37, kq37, q37a, q37b, q37c⟩ := isOf hZ eh34 f32_0
  obtain ⟨_, _, ⟨T37, L37, k37, n37⟩, -, X37, ⟨Lc37, hQ37, l37, y37, z37⟩, st37⟩ := X34.virtualBack hx (y := (⟨"com/example/heed/heed/live/Budget", "fits", "(J)Z"⟩ : MethodName)) (z := (⟨"com/example/heed/heed/live/Budget", "fits", "(J)Z"⟩ : MethodName)) hown (mvT hZ w12) (mvT hZ w13) (notFace_of_selects (args := #[]) (mvT hZ w15)) (mvT hZ w15) (mvT hZ w14) (by decide) (backOf (W := 0) (own_b3 l Z a0 hw [] b25 ((vmx - vt) + vg) ((((0 : Int64) + vt) - vg)) (vmx) T32.heap n0 (Nat.le_trans (Nat.le_trans (Nat.le_trans (Nat.le_trans Z0 E25.1) K27c.1) K30c.1) K32c.1) f32_1 f32_2) hZ w16 w3 (by decide) (by decide)) q37a q37c (g := (mkF m 118 #[.val (.long p1), .second, .val (.long p2), .second, .val (.long p3), .second, .val (.long p4), .second, .val (.long vmx), .second, .val (.long vt), .second, .val (.long vg), .second, .val (.long vam), .second, .val (.ref b25), .val (.int (if vmx < ((0 : Int64) + vt) then (0 : Int32) else (1 : Int32))), .val (.long ((vmx - vt) + vg)), .second, .val (.int (if (if vmx < ((((0 : Int64) + vt) - vg) + vam) then (0 : Int32) else (1 : Int32)) = (if ((vmx - vt) + vg) < vam then (0 : Int32) else (1 : Int32)) then (1 : Int32) else (0 : Int32))), .unset] [(.long ((vmx - vt) + vg)), (.ref b25)])) rfl (by rw [hml]; rfl) (Steps.refl _) (argsL := [(.long ((vmx - vt) + vg))]) (rest := []) (lenOf own_pd1 rfl) rfl (by show 2 * 0 + _ ≤ _; exact Nat.le_of_eq rfl) (hb hby at_118) (fun _ _ => ⟨rfl, eh34, (by decide : 1 + 0 ≤ _), (by decide : 2 + 0 ≤ _)⟩)
  dsimp only [Pt.U, Pt.locs, Pt.cells, Pt.slots] at X37 l37 y37 z37 st37 hQ37
  subst l37 y37 z37
  obtain ⟨rfl, N37q, eh37⟩ := hQ37
  have N37 := Fr.app N34 N37q
  refine own_jump st37 ?_
  show own_Goes p e below _ (T37.setTop (mkF m 121 #[.val (.long p1), .second, .val (.long p2), .second, .val (.long p3), .second, .val (.long p4), .second, .val (.long vmx), .second, .val (.long vt), .second, .val (.long vg), .second, .val (.long vam), .second, .val (.ref b25), .val (.int (if vmx < ((0 : Int64) + vt) then (0 : Int32) else (1 : Int32))), .val (.long ((vmx - vt) + vg)), .second, .val (.int (if (if vmx < ((((0 : Int64) + vt) - vg) + vam) then (0 : Int32) else (1 : Int32)) = (if ((vmx - vt) + vg) < vam then (0 : Int32) else (1 : Int32)) then (1 : Int32) else (0 : Int32))), .unset] [(.int (if vmx < ((((0 : Int64) + vt) - vg) + ((vmx - vt) + vg)) then (0 : Int32) else (1 : Int32)))]))
  have hc38 : ¬ ((if vmx < ((((0 : Int64) + vt) - vg) + ((vmx - vt) + vg)) then (0 : Int32) else (1 : Int32)) = (0 : Int32)) := own_edge (own_bounds hv_vmx hv_vt hv_vg hv_vam)
  refine own_step (fun t k => XS.ifNo X37.here hx rfl (hb hby at_121) rfl ((if0 _ _).trans (feq hc38).1) k) ?_
  show own_Goes p e below _ (T37.setTop (mkF m 124 #[.val (.long p1), .second, .val (.long p2), .second, .val (.long p3), .second, .val (.long p4), .second, .val (.long vmx), .second, .val (.long vt), .second, .val (.long vg), .second, .val (.long vam), .second, .val (.ref b25), .val (.int (if vmx < ((0 : Int64) + vt) then (0 : Int32) else (1 : Int32))), .val (.long ((vmx - vt) + vg)), .second, .val (.int (if (if vmx < ((((0 : Int64) + vt) - vg) + vam) then (0 : Int32) else (1 : Int32)) = (if ((vmx - vt) + vg) < vam then (0 : Int32) else (1 : Int32)) then (1 : Int32) else (0 : Int32))), .unset] []))
  refine own_step (fun t k => XS.aload X37.here hx rfl (hb hby at_124) rfl rfl k) ?_
  show own_Goes p e below _ (T37.setTop (mkF m 126 #[.val (.long p1), .second, .val (.long p2), .second, .val (.long p3), .second, .val (.long p4), .second, .val (.long vmx), .second, .val (.long vt), .second, .val (.long vg), .second, .val (.long vam), .second, .val (.ref b25), .val (.int (if vmx < ((0 : Int64) + vt) then (0 : Int32) else (1 : Int32))), .val (.long ((vmx - vt) + vg)), .second, .val (.int (if (if vmx < ((((0 : Int64) + vt) - vg) + vam) then (0 : Int32) else (1 : Int32)) = (if ((vmx - vt) + vg) < vam then (0 : Int32) else (1 : Int32)) then (1 : Int32) else (0 : Int32))), .unset] [(.ref b25)]))
  refine own_step (fun t k => XS.lload X37.here hx rfl (hb hby at_126) rfl k) ?_
  show own_Goes p e below _ (T37.setTop (mkF m 128 #[.val (.long p1), .second, .val (.long p2), .second, .val (.long p3), .second, .val (.long p4), .second, .val (.long vmx), .second, .val (.long vt), .second, .val (.long vg), .second, .val (.long vam), .second, .val (.ref b25), .val (.int (if vmx < ((0 : Int64) + vt) then (0 : Int32) else (1 : Int32))), .val (.long ((vmx - vt) + vg)), .second, .val (.int (if (if vmx < ((((0 : Int64) + vt) - vg) + vam) then (0 : Int32) else (1 : Int32)) = (if ((vmx - vt) + vg) < vam then (0 : Int32) else (1 : Int32)) then (1 : Int32) else (0 : Int32))), .unset] [(.long ((vmx - vt) + vg)), (.ref b25)]))
  refine own_step (fun t k => XS.lconst X37.here hx rfl (hb hby at_128) k) ?_
  show own_Goes p e below _ (T37.setTop (mkF m 129 #[.val (.long p1), .second, .val (.long p2), .second, .val (.long p3), .second, .val (.long p4), .second, .val (.long vmx), .second, .val (.long vt), .second, .val (.long vg), .second, .val (.long vam), .second, .val (.ref b25), .val (.int (if vmx < ((0 : Int64) + vt) then (0 : Int32) else (1 : Int32))), .val (.long ((vmx - vt) + vg)), .second, .val (.int (if (if vmx < ((((0 : Int64) + vt) - vg) + vam) then (0 : Int32) else (1 : Int32)) = (if ((vmx - vt) + vg) < vam then (0 : Int32) else (1 : Int32)) then (1 : Int32) else (0 : Int32))), .unset] [(.long (1 : Int64)), (.long ((vmx - vt) + vg)), (.ref b25)]))
  refine own_step (fun t k => XS.ladd X37.here hx rfl (hb hby at_129) rfl k) ?_
  show own_Goes p e below _ (T37.setTop (mkF m 130 #[.val (.long p1), .second, .val (.long p2), .second, .val (.long p3), .second, .val (.long p4), .second, .val (.long vmx), .second, .val (.long vt), .second, .val (.long vg), .second, .val (.long vam), .second, .val (.ref b25), .val (.int (if vmx < ((0 : Int64) + vt) then (0 : Int32) else (1 : Int32))), .val (.long ((vmx - vt) + vg)), .second, .val (.int (if (if vmx < ((((0 : Int64) + vt) - vg) + vam) then (0 : Int32) else (1 : Int32)) = (if ((vmx - vt) + vg) < vam then (0 : Int32) else (1 : Int32)) then (1 : Int32) else (0 : Int32))), .unset] [(.long (((vmx - vt) + vg) + (1 : Int64))), (.ref b25)]))
  obtain ⟨cq39, kq39, q39a, q39b, q39c⟩ := isOf hZ eh37 f32_0
  obtain ⟨_, _, ⟨T39, L39, k39, n39⟩, -, X39, ⟨Lc39, hQ39, l39, y39, z39⟩, st39⟩ := X37.virtualBack hx (y := (⟨"com/example/heed/heed/live/Budget", "fits", "(J)Z"⟩ : MethodName)) (z := (⟨"com/example/heed/heed/live/Budget", "fits", "(J)Z"⟩ : MethodName)) hown (mvT hZ w12) (mvT hZ w13) (notFace_of_selects (args := #[]) (mvT hZ w15)) (mvT hZ w15) (mvT hZ w14) (by decide) (backOf (W := 0) (own_b3 l Z a0 hw [] b25 (((vmx - vt) + vg) + (1 : Int64)) ((((0 : Int64) + vt) - vg)) (vmx) T32.heap n0 (Nat.le_trans (Nat.le_trans (Nat.le_trans (Nat.le_trans Z0 E25.1) K27c.1) K30c.1) K32c.1) f32_1 f32_2) hZ w16 w3 (by decide) (by decide)) q39a q39c (g := (mkF m 130 #[.val (.long p1), .second, .val (.long p2), .second, .val (.long p3), .second, .val (.long p4), .second, .val (.long vmx), .second, .val (.long vt), .second, .val (.long vg), .second, .val (.long vam), .second, .val (.ref b25), .val (.int (if vmx < ((0 : Int64) + vt) then (0 : Int32) else (1 : Int32))), .val (.long ((vmx - vt) + vg)), .second, .val (.int (if (if vmx < ((((0 : Int64) + vt) - vg) + vam) then (0 : Int32) else (1 : Int32)) = (if ((vmx - vt) + vg) < vam then (0 : Int32) else (1 : Int32)) then (1 : Int32) else (0 : Int32))), .unset] [(.long (((vmx - vt) + vg) + (1 : Int64))), (.ref b25)])) rfl (by rw [hml]; rfl) (Steps.refl _) (argsL := [(.long (((vmx - vt) + vg) + (1 : Int64)))]) (rest := []) (lenOf own_pd1 rfl) rfl (by show 2 * 0 + _ ≤ _; exact Nat.le_of_eq rfl) (hb hby at_130) (fun _ _ => ⟨rfl, eh37, (by decide : 1 + 0 ≤ _), (by decide : 2 + 0 ≤ _)⟩)
  dsimp only [Pt.U, Pt.locs, Pt.cells, Pt.slots] at X39 l39 y39 z39 st39 hQ39
  subst l39 y39 z39
  obtain ⟨rfl, N39q, eh39⟩ := hQ39
  have N39 := Fr.app N37 N39q
  refine own_jump st39 ?_
  show own_Goes p e below _ (T39.setTop (mkF m 133 #[.val (.long p1), .second, .val (.long p2), .second, .val (.long p3), .second, .val (.long p4), .second, .val (.long vmx), .second, .val (.long vt), .second, .val (.long vg), .second, .val (.long vam), .second, .val (.ref b25), .val (.int (if vmx < ((0 : Int64) + vt) then (0 : Int32) else (1 : Int32))), .val (.long ((vmx - vt) + vg)), .second, .val (.int (if (if vmx < ((((0 : Int64) + vt) - vg) + vam) then (0 : Int32) else (1 : Int32)) = (if ((vmx - vt) + vg) < vam then (0 : Int32) else (1 : Int32)) then (1 : Int32) else (0 : Int32))), .unset] [(.int (if vmx < ((((0 : Int64) + vt) - vg) + (((vmx - vt) + vg) + (1 : Int64))) then (0 : Int32) else (1 : Int32)))]))
  refine own_step (S' := T39.setTop (mkF m 141 #[.val (.long p1), .second, .val (.long p2), .second, .val (.long p3), .second, .val (.long p4), .second, .val (.long vmx), .second, .val (.long vt), .second, .val (.long vg), .second, .val (.long vam), .second, .val (.ref b25), .val (.int (if vmx < ((0 : Int64) + vt) then (0 : Int32) else (1 : Int32))), .val (.long ((vmx - vt) + vg)), .second, .val (.int (if (if vmx < ((((0 : Int64) + vt) - vg) + vam) then (0 : Int32) else (1 : Int32)) = (if ((vmx - vt) + vg) < vam then (0 : Int32) else (1 : Int32)) then (1 : Int32) else (0 : Int32))), .unset] [(.int (if (if vmx < ((((0 : Int64) + vt) - vg) + (((vmx - vt) + vg) + (1 : Int64))) then (0 : Int32) else (1 : Int32)) = (0 : Int32) then (1 : Int32) else (0 : Int32)))])) (fun t k => ?_) ?_
  · show Steps p.tables e below (T39.setTop (mkF m 133 #[.val (.long p1), .second, .val (.long p2), .second, .val (.long p3), .second, .val (.long p4), .second, .val (.long vmx), .second, .val (.long vt), .second, .val (.long vg), .second, .val (.long vam), .second, .val (.ref b25), .val (.int (if vmx < ((0 : Int64) + vt) then (0 : Int32) else (1 : Int32))), .val (.long ((vmx - vt) + vg)), .second, .val (.int (if (if vmx < ((((0 : Int64) + vt) - vg) + vam) then (0 : Int32) else (1 : Int32)) = (if ((vmx - vt) + vg) < vam then (0 : Int32) else (1 : Int32)) then (1 : Int32) else (0 : Int32))), .unset] [(.int (if vmx < ((((0 : Int64) + vt) - vg) + (((vmx - vt) + vg) + (1 : Int64))) then (0 : Int32) else (1 : Int32)))])) _
    by_cases hc40 : (if vmx < ((((0 : Int64) + vt) - vg) + (((vmx - vt) + vg) + (1 : Int64))) then (0 : Int32) else (1 : Int32)) = (0 : Int32)
    · --
      refine XS.ifNo X39.here hx rfl (hb hby at_133) rfl ((if0 _ _).trans (teq hc40).2) ?_
      show Steps p.tables e below (T39.setTop (mkF m 136 #[.val (.long p1), .second, .val (.long p2), .second, .val (.long p3), .second, .val (.long p4), .second, .val (.long vmx), .second, .val (.long vt), .second, .val (.long vg), .second, .val (.long vam), .second, .val (.ref b25), .val (.int (if vmx < ((0 : Int64) + vt) then (0 : Int32) else (1 : Int32))), .val (.long ((vmx - vt) + vg)), .second, .val (.int (if (if vmx < ((((0 : Int64) + vt) - vg) + vam) then (0 : Int32) else (1 : Int32)) = (if ((vmx - vt) + vg) < vam then (0 : Int32) else (1 : Int32)) then (1 : Int32) else (0 : Int32))), .unset] [])) _
      refine XS.iconst X39.here hx rfl (hb hby at_136) ?_
      show Steps p.tables e below (T39.setTop (mkF m 137 #[.val (.long p1), .second, .val (.long p2), .second, .val (.long p3), .second, .val (.long p4), .second, .val (.long vmx), .second, .val (.long vt), .second, .val (.long vg), .second, .val (.long vam), .second, .val (.ref b25), .val (.int (if vmx < ((0 : Int64) + vt) then (0 : Int32) else (1 : Int32))), .val (.long ((vmx - vt) + vg)), .second, .val (.int (if (if vmx < ((((0 : Int64) + vt) - vg) + vam) then (0 : Int32) else (1 : Int32)) = (if ((vmx - vt) + vg) < vam then (0 : Int32) else (1 : Int32)) then (1 : Int32) else (0 : Int32))), .unset] [(.int (1 : Int32))])) _
      refine XS.goto X39.here hx rfl (pc0 := 137) (pc' := 141) rfl (hb hby at_137) (by decide) (by decide) ?_
      show Steps p.tables e below (T39.setTop (mkF m 141 #[.val (.long p1), .second, .val (.long p2), .second, .val (.long p3), .second, .val (.long p4), .second, .val (.long vmx), .second, .val (.long vt), .second, .val (.long vg), .second, .val (.long vam), .second, .val (.ref b25), .val (.int (if vmx < ((0 : Int64) + vt) then (0 : Int32) else (1 : Int32))), .val (.long ((vmx - vt) + vg)), .second, .val (.int (if (if vmx < ((((0 : Int64) + vt) - vg) + vam) then (0 : Int32) else (1 : Int32)) = (if ((vmx - vt) + vg) < vam then (0 : Int32) else (1 : Int32)) then (1 : Int32) else (0 : Int32))), .unset] [(.int (1 : Int32))])) _
      simp only [if_pos hc40] at k
      exact k
    · --
      refine XS.ifYes X39.here hx rfl (pc0 := 133) (pc' := 140) rfl (hb hby at_133) rfl ((if0 _ _).trans (feq hc40).2) (by decide) (by decide) ?_
      show Steps p.tables e below (T39.setTop (mkF m 140 #[.val (.long p1), .second, .val (.long p2), .second, .val (.long p3), .second, .val (.long p4), .second, .val (.long vmx), .second, .val (.long vt), .second, .val (.long vg), .second, .val (.long vam), .second, .val (.ref b25), .val (.int (if vmx < ((0 : Int64) + vt) then (0 : Int32) else (1 : Int32))), .val (.long ((vmx - vt) + vg)), .second, .val (.int (if (if vmx < ((((0 : Int64) + vt) - vg) + vam) then (0 : Int32) else (1 : Int32)) = (if ((vmx - vt) + vg) < vam then (0 : Int32) else (1 : Int32)) then (1 : Int32) else (0 : Int32))), .unset] [])) _
      refine XS.iconst X39.here hx rfl (hb hby at_140) ?_
      show Steps p.tables e below (T39.setTop (mkF m 141 #[.val (.long p1), .second, .val (.long p2), .second, .val (.long p3), .second, .val (.long p4), .second, .val (.long vmx), .second, .val (.long vt), .second, .val (.long vg), .second, .val (.long vam), .second, .val (.ref b25), .val (.int (if vmx < ((0 : Int64) + vt) then (0 : Int32) else (1 : Int32))), .val (.long ((vmx - vt) + vg)), .second, .val (.int (if (if vmx < ((((0 : Int64) + vt) - vg) + vam) then (0 : Int32) else (1 : Int32)) = (if ((vmx - vt) + vg) < vam then (0 : Int32) else (1 : Int32)) then (1 : Int32) else (0 : Int32))), .unset] [(.int (0 : Int32))])) _
      simp only [if_neg hc40] at k
      exact k
  show own_Goes p e below _ (T39.setTop (mkF m 141 #[.val (.long p1), .second, .val (.long p2), .second, .val (.long p3), .second, .val (.long p4), .second, .val (.long vmx), .second, .val (.long vt), .second, .val (.long vg), .second, .val (.long vam), .second, .val (.ref b25), .val (.int (if vmx < ((0 : Int64) + vt) then (0 : Int32) else (1 : Int32))), .val (.long ((vmx - vt) + vg)), .second, .val (.int (if (if vmx < ((((0 : Int64) + vt) - vg) + vam) then (0 : Int32) else (1 : Int32)) = (if ((vmx - vt) + vg) < vam then (0 : Int32) else (1 : Int32)) then (1 : Int32) else (0 : Int32))), .unset] [(.int (if (if vmx < ((((0 : Int64) + vt) - vg) + (((vmx - vt) + vg) + (1 : Int64))) then (0 : Int32) else (1 : Int32)) = (0 : Int32) then (1 : Int32) else (0 : Int32)))]))
  refine own_step (fun t k => XS.istore X39.here hx rfl (hb hby at_141) rfl (l' := #[.val (.long p1), .second, .val (.long p2), .second, .val (.long p3), .second, .val (.long p4), .second, .val (.long vmx), .second, .val (.long vt), .second, .val (.long vg), .second, .val (.long vam), .second, .val (.ref b25), .val (.int (if vmx < ((0 : Int64) + vt) then (0 : Int32) else (1 : Int32))), .val (.long ((vmx - vt) + vg)), .second, .val (.int (if (if vmx < ((((0 : Int64) + vt) - vg) + vam) then (0 : Int32) else (1 : Int32)) = (if ((vmx - vt) + vg) < vam then (0 : Int32) else (1 : Int32)) then (1 : Int32) else (0 : Int32))), .val (.int (if (if vmx < ((((0 : Int64) + vt) - vg) + (((vmx - vt) + vg) + (1 : Int64))) then (0 : Int32) else (1 : Int32)) = (0 : Int32) then (1 : Int32) else (0 : Int32)))]) rfl k) ?_
  show own_Goes p e below _ (T39.setTop (mkF m 143 #[.val (.long p1), .second, .val (.long p2), .second, .val (.long p3), .second, .val (.long p4), .second, .val (.long vmx), .second, .val (.long vt), .second, .val (.long vg), .second, .val (.long vam), .second, .val (.ref b25), .val (.int (if vmx < ((0 : Int64) + vt) then (0 : Int32) else (1 : Int32))), .val (.long ((vmx - vt) + vg)), .second, .val (.int (if (if vmx < ((((0 : Int64) + vt) - vg) + vam) then (0 : Int32) else (1 : Int32)) = (if ((vmx - vt) + vg) < vam then (0 : Int32) else (1 : Int32)) then (1 : Int32) else (0 : Int32))), .val (.int (if (if vmx < ((((0 : Int64) + vt) - vg) + (((vmx - vt) + vg) + (1 : Int64))) then (0 : Int32) else (1 : Int32)) = (0 : Int32) then (1 : Int32) else (0 : Int32)))] []))
  refine own_step (fun t k => XS.iload X39.here hx rfl (hb hby at_143) rfl k) ?_
  show own_Goes p e below _ (T39.setTop (mkF m 145 #[.val (.long p1), .second, .val (.long p2), .second, .val (.long p3), .second, .val (.long p4), .second, .val (.long vmx), .second, .val (.long vt), .second, .val (.long vg), .second, .val (.long vam), .second, .val (.ref b25), .val (.int (if vmx < ((0 : Int64) + vt) then (0 : Int32) else (1 : Int32))), .val (.long ((vmx - vt) + vg)), .second, .val (.int (if (if vmx < ((((0 : Int64) + vt) - vg) + vam) then (0 : Int32) else (1 : Int32)) = (if ((vmx - vt) + vg) < vam then (0 : Int32) else (1 : Int32)) then (1 : Int32) else (0 : Int32))), .val (.int (if (if vmx < ((((0 : Int64) + vt) - vg) + (((vmx - vt) + vg) + (1 : Int64))) then (0 : Int32) else (1 : Int32)) = (0 : Int32) then (1 : Int32) else (0 : Int32)))] [(.int (if vmx < ((0 : Int64) + vt) then (0 : Int32) else (1 : Int32)))]))
  refine own_step (S' := T39.setTop (mkF m 163 #[.val (.long p1), .second, .val (.long p2), .second, .val (.long p3), .second, .val (.long p4), .second, .val (.long vmx), .second, .val (.long vt), .second, .val (.long vg), .second, .val (.long vam), .second, .val (.ref b25), .val (.int (if vmx < ((0 : Int64) + vt) then (0 : Int32) else (1 : Int32))), .val (.long ((vmx - vt) + vg)), .second, .val (.int (if (if vmx < ((((0 : Int64) + vt) - vg) + vam) then (0 : Int32) else (1 : Int32)) = (if ((vmx - vt) + vg) < vam then (0 : Int32) else (1 : Int32)) then (1 : Int32) else (0 : Int32))), .val (.int (if (if vmx < ((((0 : Int64) + vt) - vg) + (((vmx - vt) + vg) + (1 : Int64))) then (0 : Int32) else (1 : Int32)) = (0 : Int32) then (1 : Int32) else (0 : Int32)))] [(.int (if (if vmx < ((0 : Int64) + vt) then (0 : Int32) else (1 : Int32)) = (0 : Int32) then (0 : Int32) else (if (if (if vmx < ((((0 : Int64) + vt) - vg) + vam) then (0 : Int32) else (1 : Int32)) = (if ((vmx - vt) + vg) < vam then (0 : Int32) else (1 : Int32)) then (1 : Int32) else (0 : Int32)) = (0 : Int32) then (0 : Int32) else (if (if (if vmx < ((((0 : Int64) + vt) - vg) + (((vmx - vt) + vg) + (1 : Int64))) then (0 : Int32) else (1 : Int32)) = (0 : Int32) then (1 : Int32) else (0 : Int32)) = (0 : Int32) then (0 : Int32) else (1 : Int32)))))])) (fun t k => ?_) ?_
  · show Steps p.tables e below (T39.setTop (mkF m 145 #[.val (.long p1), .second, .val (.long p2), .second, .val (.long p3), .second, .val (.long p4), .second, .val (.long vmx), .second, .val (.long vt), .second, .val (.long vg), .second, .val (.long vam), .second, .val (.ref b25), .val (.int (if vmx < ((0 : Int64) + vt) then (0 : Int32) else (1 : Int32))), .val (.long ((vmx - vt) + vg)), .second, .val (.int (if (if vmx < ((((0 : Int64) + vt) - vg) + vam) then (0 : Int32) else (1 : Int32)) = (if ((vmx - vt) + vg) < vam then (0 : Int32) else (1 : Int32)) then (1 : Int32) else (0 : Int32))), .val (.int (if (if vmx < ((((0 : Int64) + vt) - vg) + (((vmx - vt) + vg) + (1 : Int64))) then (0 : Int32) else (1 : Int32)) = (0 : Int32) then (1 : Int32) else (0 : Int32)))] [(.int (if vmx < ((0 : Int64) + vt) then (0 : Int32) else (1 : Int32)))])) _
    by_cases hc41 : (if vmx < ((0 : Int64) + vt) then (0 : Int32) else (1 : Int32)) = (0 : Int32)
    · --
      refine XS.ifYes X39.here hx rfl (pc0 := 145) (pc' := 162) rfl (hb hby at_145) rfl ((if0 _ _).trans (teq hc41).1) (by decide) (by decide) ?_
      show Steps p.tables e below (T39.setTop (mkF m 162 #[.val (.long p1), .second, .val (.long p2), .second, .val (.long p3), .second, .val (.long p4), .second, .val (.long vmx), .second, .val (.long vt), .second, .val (.long vg), .second, .val (.long vam), .second, .val (.ref b25), .val (.int (if vmx < ((0 : Int64) + vt) then (0 : Int32) else (1 : Int32))), .val (.long ((vmx - vt) + vg)), .second, .val (.int (if (if vmx < ((((0 : Int64) + vt) - vg) + vam) then (0 : Int32) else (1 : Int32)) = (if ((vmx - vt) + vg) < vam then (0 : Int32) else (1 : Int32)) then (1 : Int32) else (0 : Int32))), .val (.int (if (if vmx < ((((0 : Int64) + vt) - vg) + (((vmx - vt) + vg) + (1 : Int64))) then (0 : Int32) else (1 : Int32)) = (0 : Int32) then (1 : Int32) else (0 : Int32)))] [])) _
      refine XS.iconst X39.here hx rfl (hb hby at_162) ?_
      show Steps p.tables e below (T39.setTop (mkF m 163 #[.val (.long p1), .second, .val (.long p2), .second, .val (.long p3), .second, .val (.long p4), .second, .val (.long vmx), .second, .val (.long vt), .second, .val (.long vg), .second, .val (.long vam), .second, .val (.ref b25), .val (.int (if vmx < ((0 : Int64) + vt) then (0 : Int32) else (1 : Int32))), .val (.long ((vmx - vt) + vg)), .second, .val (.int (if (if vmx < ((((0 : Int64) + vt) - vg) + vam) then (0 : Int32) else (1 : Int32)) = (if ((vmx - vt) + vg) < vam then (0 : Int32) else (1 : Int32)) then (1 : Int32) else (0 : Int32))), .val (.int (if (if vmx < ((((0 : Int64) + vt) - vg) + (((vmx - vt) + vg) + (1 : Int64))) then (0 : Int32) else (1 : Int32)) = (0 : Int32) then (1 : Int32) else (0 : Int32)))] [(.int (0 : Int32))])) _
      simp only [if_pos hc41] at k
      exact k
    · --
      refine XS.ifNo X39.here hx rfl (hb hby at_145) rfl ((if0 _ _).trans (feq hc41).1) ?_
      show Steps p.tables e below (T39.setTop (mkF m 148 #[.val (.long p1), .second, .val (.long p2), .second, .val (.long p3), .second, .val (.long p4), .second, .val (.long vmx), .second, .val (.long vt), .second, .val (.long vg), .second, .val (.long vam), .second, .val (.ref b25), .val (.int (if vmx < ((0 : Int64) + vt) then (0 : Int32) else (1 : Int32))), .val (.long ((vmx - vt) + vg)), .second, .val (.int (if (if vmx < ((((0 : Int64) + vt) - vg) + vam) then (0 : Int32) else (1 : Int32)) = (if ((vmx - vt) + vg) < vam then (0 : Int32) else (1 : Int32)) then (1 : Int32) else (0 : Int32))), .val (.int (if (if vmx < ((((0 : Int64) + vt) - vg) + (((vmx - vt) + vg) + (1 : Int64))) then (0 : Int32) else (1 : Int32)) = (0 : Int32) then (1 : Int32) else (0 : Int32)))] [])) _
      refine XS.iload X39.here hx rfl (hb hby at_148) rfl ?_
      show Steps p.tables e below (T39.setTop (mkF m 150 #[.val (.long p1), .second, .val (.long p2), .second, .val (.long p3), .second, .val (.long p4), .second, .val (.long vmx), .second, .val (.long vt), .second, .val (.long vg), .second, .val (.long vam), .second, .val (.ref b25), .val (.int (if vmx < ((0 : Int64) + vt) then (0 : Int32) else (1 : Int32))), .val (.long ((vmx - vt) + vg)), .second, .val (.int (if (if vmx < ((((0 : Int64) + vt) - vg) + vam) then (0 : Int32) else (1 : Int32)) = (if ((vmx - vt) + vg) < vam then (0 : Int32) else (1 : Int32)) then (1 : Int32) else (0 : Int32))), .val (.int (if (if vmx < ((((0 : Int64) + vt) - vg) + (((vmx - vt) + vg) + (1 : Int64))) then (0 : Int32) else (1 : Int32)) = (0 : Int32) then (1 : Int32) else (0 : Int32)))] [(.int (if (if vmx < ((((0 : Int64) + vt) - vg) + vam) then (0 : Int32) else (1 : Int32)) = (if ((vmx - vt) + vg) < vam then (0 : Int32) else (1 : Int32)) then (1 : Int32) else (0 : Int32)))])) _
      by_cases hc42 : (if (if vmx < ((((0 : Int64) + vt) - vg) + vam) then (0 : Int32) else (1 : Int32)) = (if ((vmx - vt) + vg) < vam then (0 : Int32) else (1 : Int32)) then (1 : Int32) else (0 : Int32)) = (0 : Int32)
      · --
        refine XS.ifYes X39.here hx rfl (pc0 := 150) (pc' := 162) rfl (hb hby at_150) rfl ((if0 _ _).trans (teq hc42).1) (by decide) (by decide) ?_
        show Steps p.tables e below (T39.setTop (mkF m 162 #[.val (.long p1), .second, .val (.long p2), .second, .val (.long p3), .second, .val (.long p4), .second, .val (.long vmx), .second, .val (.long vt), .second, .val (.long vg), .second, .val (.long vam), .second, .val (.ref b25), .val (.int (if vmx < ((0 : Int64) + vt) then (0 : Int32) else (1 : Int32))), .val (.long ((vmx - vt) + vg)), .second, .val (.int (if (if vmx < ((((0 : Int64) + vt) - vg) + vam) then (0 : Int32) else (1 : Int32)) = (if ((vmx - vt) + vg) < vam then (0 : Int32) else (1 : Int32)) then (1 : Int32) else (0 : Int32))), .val (.int (if (if vmx < ((((0 : Int64) + vt) - vg) + (((vmx - vt) + vg) + (1 : Int64))) then (0 : Int32) else (1 : Int32)) = (0 : Int32) then (1 : Int32) else (0 : Int32)))] [])) _
        refine XS.iconst X39.here hx rfl (hb hby at_162) ?_
        show Steps p.tables e below (T39.setTop (mkF m 163 #[.val (.long p1), .second, .val (.long p2), .second, .val (.long p3), .second, .val (.long p4), .second, .val (.long vmx), .second, .val (.long vt), .second, .val (.long vg), .second, .val (.long vam), .second, .val (.ref b25), .val (.int (if vmx < ((0 : Int64) + vt) then (0 : Int32) else (1 : Int32))), .val (.long ((vmx - vt) + vg)), .second, .val (.int (if (if vmx < ((((0 : Int64) + vt) - vg) + vam) then (0 : Int32) else (1 : Int32)) = (if ((vmx - vt) + vg) < vam then (0 : Int32) else (1 : Int32)) then (1 : Int32) else (0 : Int32))), .val (.int (if (if vmx < ((((0 : Int64) + vt) - vg) + (((vmx - vt) + vg) + (1 : Int64))) then (0 : Int32) else (1 : Int32)) = (0 : Int32) then (1 : Int32) else (0 : Int32)))] [(.int (0 : Int32))])) _
        simp only [if_neg hc41, if_pos hc42] at k
        exact k
      · --
        refine XS.ifNo X39.here hx rfl (hb hby at_150) rfl ((if0 _ _).trans (feq hc42).1) ?_
        show Steps p.tables e below (T39.setTop (mkF m 153 #[.val (.long p1), .second, .val (.long p2), .second, .val (.long p3), .second, .val (.long p4), .second, .val (.long vmx), .second, .val (.long vt), .second, .val (.long vg), .second, .val (.long vam), .second, .val (.ref b25), .val (.int (if vmx < ((0 : Int64) + vt) then (0 : Int32) else (1 : Int32))), .val (.long ((vmx - vt) + vg)), .second, .val (.int (if (if vmx < ((((0 : Int64) + vt) - vg) + vam) then (0 : Int32) else (1 : Int32)) = (if ((vmx - vt) + vg) < vam then (0 : Int32) else (1 : Int32)) then (1 : Int32) else (0 : Int32))), .val (.int (if (if vmx < ((((0 : Int64) + vt) - vg) + (((vmx - vt) + vg) + (1 : Int64))) then (0 : Int32) else (1 : Int32)) = (0 : Int32) then (1 : Int32) else (0 : Int32)))] [])) _
        refine XS.iload X39.here hx rfl (hb hby at_153) rfl ?_
        show Steps p.tables e below (T39.setTop (mkF m 155 #[.val (.long p1), .second, .val (.long p2), .second, .val (.long p3), .second, .val (.long p4), .second, .val (.long vmx), .second, .val (.long vt), .second, .val (.long vg), .second, .val (.long vam), .second, .val (.ref b25), .val (.int (if vmx < ((0 : Int64) + vt) then (0 : Int32) else (1 : Int32))), .val (.long ((vmx - vt) + vg)), .second, .val (.int (if (if vmx < ((((0 : Int64) + vt) - vg) + vam) then (0 : Int32) else (1 : Int32)) = (if ((vmx - vt) + vg) < vam then (0 : Int32) else (1 : Int32)) then (1 : Int32) else (0 : Int32))), .val (.int (if (if vmx < ((((0 : Int64) + vt) - vg) + (((vmx - vt) + vg) + (1 : Int64))) then (0 : Int32) else (1 : Int32)) = (0 : Int32) then (1 : Int32) else (0 : Int32)))] [(.int (if (if vmx < ((((0 : Int64) + vt) - vg) + (((vmx - vt) + vg) + (1 : Int64))) then (0 : Int32) else (1 : Int32)) = (0 : Int32) then (1 : Int32) else (0 : Int32)))])) _
        by_cases hc43 : (if (if vmx < ((((0 : Int64) + vt) - vg) + (((vmx - vt) + vg) + (1 : Int64))) then (0 : Int32) else (1 : Int32)) = (0 : Int32) then (1 : Int32) else (0 : Int32)) = (0 : Int32)
        · --
          refine XS.ifYes X39.here hx rfl (pc0 := 155) (pc' := 162) rfl (hb hby at_155) rfl ((if0 _ _).trans (teq hc43).1) (by decide) (by decide) ?_
          show Steps p.tables e below (T39.setTop (mkF m 162 #[.val (.long p1), .second, .val (.long p2), .second, .val (.long p3), .second, .val (.long p4), .second, .val (.long vmx), .second, .val (.long vt), .second, .val (.long vg), .second, .val (.long vam), .second, .val (.ref b25), .val (.int (if vmx < ((0 : Int64) + vt) then (0 : Int32) else (1 : Int32))), .val (.long ((vmx - vt) + vg)), .second, .val (.int (if (if vmx < ((((0 : Int64) + vt) - vg) + vam) then (0 : Int32) else (1 : Int32)) = (if ((vmx - vt) + vg) < vam then (0 : Int32) else (1 : Int32)) then (1 : Int32) else (0 : Int32))), .val (.int (if (if vmx < ((((0 : Int64) + vt) - vg) + (((vmx - vt) + vg) + (1 : Int64))) then (0 : Int32) else (1 : Int32)) = (0 : Int32) then (1 : Int32) else (0 : Int32)))] [])) _
          refine XS.iconst X39.here hx rfl (hb hby at_162) ?_
          show Steps p.tables e below (T39.setTop (mkF m 163 #[.val (.long p1), .second, .val (.long p2), .second, .val (.long p3), .second, .val (.long p4), .second, .val (.long vmx), .second, .val (.long vt), .second, .val (.long vg), .second, .val (.long vam), .second, .val (.ref b25), .val (.int (if vmx < ((0 : Int64) + vt) then (0 : Int32) else (1 : Int32))), .val (.long ((vmx - vt) + vg)), .second, .val (.int (if (if vmx < ((((0 : Int64) + vt) - vg) + vam) then (0 : Int32) else (1 : Int32)) = (if ((vmx - vt) + vg) < vam then (0 : Int32) else (1 : Int32)) then (1 : Int32) else (0 : Int32))), .val (.int (if (if vmx < ((((0 : Int64) + vt) - vg) + (((vmx - vt) + vg) + (1 : Int64))) then (0 : Int32) else (1 : Int32)) = (0 : Int32) then (1 : Int32) else (0 : Int32)))] [(.int (0 : Int32))])) _
          simp only [if_neg hc41, if_neg hc42, if_pos hc43] at k
          exact k
        · --
          refine XS.ifNo X39.here hx rfl (hb hby at_155) rfl ((if0 _ _).trans (feq hc43).1) ?_
          show Steps p.tables e below (T39.setTop (mkF m 158 #[.val (.long p1), .second, .val (.long p2), .second, .val (.long p3), .second, .val (.long p4), .second, .val (.long vmx), .second, .val (.long vt), .second, .val (.long vg), .second, .val (.long vam), .second, .val (.ref b25), .val (.int (if vmx < ((0 : Int64) + vt) then (0 : Int32) else (1 : Int32))), .val (.long ((vmx - vt) + vg)), .second, .val (.int (if (if vmx < ((((0 : Int64) + vt) - vg) + vam) then (0 : Int32) else (1 : Int32)) = (if ((vmx - vt) + vg) < vam then (0 : Int32) else (1 : Int32)) then (1 : Int32) else (0 : Int32))), .val (.int (if (if vmx < ((((0 : Int64) + vt) - vg) + (((vmx - vt) + vg) + (1 : Int64))) then (0 : Int32) else (1 : Int32)) = (0 : Int32) then (1 : Int32) else (0 : Int32)))] [])) _
          refine XS.iconst X39.here hx rfl (hb hby at_158) ?_
          show Steps p.tables e below (T39.setTop (mkF m 159 #[.val (.long p1), .second, .val (.long p2), .second, .val (.long p3), .second, .val (.long p4), .second, .val (.long vmx), .second, .val (.long vt), .second, .val (.long vg), .second, .val (.long vam), .second, .val (.ref b25), .val (.int (if vmx < ((0 : Int64) + vt) then (0 : Int32) else (1 : Int32))), .val (.long ((vmx - vt) + vg)), .second, .val (.int (if (if vmx < ((((0 : Int64) + vt) - vg) + vam) then (0 : Int32) else (1 : Int32)) = (if ((vmx - vt) + vg) < vam then (0 : Int32) else (1 : Int32)) then (1 : Int32) else (0 : Int32))), .val (.int (if (if vmx < ((((0 : Int64) + vt) - vg) + (((vmx - vt) + vg) + (1 : Int64))) then (0 : Int32) else (1 : Int32)) = (0 : Int32) then (1 : Int32) else (0 : Int32)))] [(.int (1 : Int32))])) _
          refine XS.goto X39.here hx rfl (pc0 := 159) (pc' := 163) rfl (hb hby at_159) (by decide) (by decide) ?_
          show Steps p.tables e below (T39.setTop (mkF m 163 #[.val (.long p1), .second, .val (.long p2), .second, .val (.long p3), .second, .val (.long p4), .second, .val (.long vmx), .second, .val (.long vt), .second, .val (.long vg), .second, .val (.long vam), .second, .val (.ref b25), .val (.int (if vmx < ((0 : Int64) + vt) then (0 : Int32) else (1 : Int32))), .val (.long ((vmx - vt) + vg)), .second, .val (.int (if (if vmx < ((((0 : Int64) + vt) - vg) + vam) then (0 : Int32) else (1 : Int32)) = (if ((vmx - vt) + vg) < vam then (0 : Int32) else (1 : Int32)) then (1 : Int32) else (0 : Int32))), .val (.int (if (if vmx < ((((0 : Int64) + vt) - vg) + (((vmx - vt) + vg) + (1 : Int64))) then (0 : Int32) else (1 : Int32)) = (0 : Int32) then (1 : Int32) else (0 : Int32)))] [(.int (1 : Int32))])) _
          simp only [if_neg hc41, if_neg hc42, if_neg hc43] at k
          exact k
  show own_Goes p e below _ (T39.setTop (mkF m 163 #[.val (.long p1), .second, .val (.long p2), .second, .val (.long p3), .second, .val (.long p4), .second, .val (.long vmx), .second, .val (.long vt), .second, .val (.long vg), .second, .val (.long vam), .second, .val (.ref b25), .val (.int (if vmx < ((0 : Int64) + vt) then (0 : Int32) else (1 : Int32))), .val (.long ((vmx - vt) + vg)), .second, .val (.int (if (if vmx < ((((0 : Int64) + vt) - vg) + vam) then (0 : Int32) else (1 : Int32)) = (if ((vmx - vt) + vg) < vam then (0 : Int32) else (1 : Int32)) then (1 : Int32) else (0 : Int32))), .val (.int (if (if vmx < ((((0 : Int64) + vt) - vg) + (((vmx - vt) + vg) + (1 : Int64))) then (0 : Int32) else (1 : Int32)) = (0 : Int32) then (1 : Int32) else (0 : Int32)))] [(.int (if (if vmx < ((0 : Int64) + vt) then (0 : Int32) else (1 : Int32)) = (0 : Int32) then (0 : Int32) else (if (if (if vmx < ((((0 : Int64) + vt) - vg) + vam) then (0 : Int32) else (1 : Int32)) = (if ((vmx - vt) + vg) < vam then (0 : Int32) else (1 : Int32)) then (1 : Int32) else (0 : Int32)) = (0 : Int32) then (0 : Int32) else (if (if (if vmx < ((((0 : Int64) + vt) - vg) + (((vmx - vt) + vg) + (1 : Int64))) then (0 : Int32) else (1 : Int32)) = (0 : Int32) then (1 : Int32) else (0 : Int32)) = (0 : Int32) then (0 : Int32) else (1 : Int32)))))]))
  refine own_retL X39 hx hlk Bd.returns (hb hby at_163) (?_ : (if (if vmx < ((0 : Int64) + vt) then (0 : Int32) else (1 : Int32)) = (0 : Int32) then (0 : Int32) else (if (if (if vmx < ((((0 : Int64) + vt) - vg) + vam) then (0 : Int32) else (1 : Int32)) = (if ((vmx - vt) + vg) < vam then (0 : Int32) else (1 : Int32)) then (1 : Int32) else (0 : Int32)) = (0 : Int32) then (0 : Int32) else (if (if (if vmx < ((((0 : Int64) + vt) - vg) + (((vmx - vt) + vg) + (1 : Int64))) then (0 : Int32) else (1 : Int32)) = (0 : Int32) then (1 : Int32) else (0 : Int32)) = (0 : Int32) then (0 : Int32) else (1 : Int32)))) = 1) N39 (by decide) (by decide)
  exact own_plain (own_bounds hv_vmx hv_vt hv_vg hv_vam)
set_option maxRecDepth 65536 in
set_option maxHeartbeats 40000000 in
theorem comes_1 {Post : Tables → Env → Array Value → State → Outcome → State → Prop} (hpost : ∀ tb e args s v u, (limb_1_1.after args s (.returned v) u = true ∧ limb_1_2.after args s (.returned v) u = true ∧ True) → FrameEnd s (.returned v) u (Jvm.fieldLocs frame_1_writes args s ++ Jvm.arrayLocs frame_1_arrays args s ++ Jvm.staticLocs frame_1_statics s) 16 128 → Post tb e args s (.returned v) u) :
    ArmFor flags0 classFile x code maxLocals ret World_1 tables_1 room_1 Calls_1 rest_1 Pre_1 Post := by
  intro l hfl _ _ p e ha hc hk s m args below hf hA hF happ hP
  obtain ⟨hcalls, hrest, hpre⟩ := hP
  obtain ⟨-, -, -, hnamed, -, -, -, hat⟩ := (Spec.applies_iff hf).mp happ
  obtain ⟨hg, hn⟩ := and_e (Cond.before_iff.mp (show (Jvm.Cond.and given_1 narrow_1).before args s = true from hpre))
  obtain ⟨gg1, gg2⟩ := and_e hg
  obtain ⟨gg3, gg4⟩ := and_e gg2
  obtain ⟨gg5, gg6⟩ := and_e gg4
  obtain ⟨gg7, gg8⟩ := and_e gg6
  obtain ⟨w0, w1, w2, w3, rfl⟩ : ∃ w0 w1 w2 w3 : Value, args = #[w0, w1, w2, w3] := by
    have hs : args.size = 4 := by simpa [Cond.value, given_1] using gg1
    obtain ⟨L⟩ := args
    match L, hs with
    | [w0, w1, w2, w3], _ => exact ⟨w0, w1, w2, w3, rfl⟩
  have hw := fun d (hd : d ∈ tables_1) => atoms_spec (ws := Jvm.Cond.code x code maxLocals ret :: tables_1) hat d (List.mem_cons_of_mem _ hd)
  have hfit : Fit s := fun {y c} hc i hi => by
    obtain ⟨ha, rfl⟩ := Array.getElem?_eq_some_iff.mp hc
    have q := List.all_eq_true.mp ((Array.all_eq_true_iff_forall_mem.mp hF) _ (Array.getElem_mem ha)) i (List.mem_range.mpr hi)
    simpa [Array.getElem?_eq_getElem hi] using q
  obtain ⟨i0, ei0⟩ := isL_v gg3
  obtain rfl : w0 = (.long i0) := Option.some.inj ei0
  obtain ⟨i1, ei1⟩ := isL_v gg5
  obtain rfl : w1 = (.long i1) := Option.some.inj ei1
  obtain ⟨i2, ei2⟩ := isL_v gg7
  obtain rfl : w2 = (.long i2) := Option.some.inj ei2
  obtain ⟨i3, ei3⟩ := isL_v gg8
  obtain rfl : w3 = (.long i3) := Option.some.inj ei3
  obtain ⟨n, o, h1, h2, h3, _, L, rfl, ⟨rfl, N⟩, hq⟩ := own_law l s _ hw tables_1 i0 i1 i2 i3  s.heap s.heap.size (Nat.le_refl _)  p e ha hc hk s m _ below hf ((Spec.applies_iff_loose hf).mp happ).1 ⟨rfl, State.Warmed39.refl s, rfl⟩ trivial
  refine ⟨n, _, h1, h2, h3, hpost _ _ _ _ _ _ ⟨Cond.after_iff.mpr rfl, Cond.after_iff.mpr (eq_i res_at (Term.int_eval (1)) rfl), trivial⟩ ⟨hq.1, hq.2.1, (hq.2.2.sift fun y hy => Or.inr (N y hy)).mono (by decide) (by decide)⟩⟩
theorem main_1_1 : Claimed_1_1 := comes_1 fun _ _ _ _ _ _ h hF => ⟨h.1, hF⟩
theorem main_1_2 : Claimed_1_2 := comes_1 fun _ _ _ _ _ _ h hF => ⟨h.2.1, hF⟩
end Jvm.Pilot.@@N@@
namespace Jvm.Pilot.@@N@@
open Jvm Jvm.ClassFile Sem Op Lib Jvm.Free Jvm.Stand Jvm.Pilot.@@N@@.Jvm.D
/-! MADE BY PROGRAM (witnessworld.py) out of the Statement's table words and the real class files: 7 classes; the members and pool entries that the words name. The judged class is class 1, her method 1. -/
namespace start1
open Jvm.ClassFile
def u (s : String) : CpInfo := .utf8 (stringToUtf16 s)
/-- a pool by its gaps: so many unusable entries, then the entry; so many at the end -/
def gap : Nat → List CpInfo → List CpInfo
  | 0, r => r
  | n + 1, r => .unusable :: gap n r
def poolList (es : List (Nat × CpInfo)) (last : Nat) : List CpInfo := es.foldr (fun e r => gap e.1 (e.2 :: r)) (gap last [])
def pool (es : List (Nat × CpInfo)) (last : Nat) : Array CpInfo := ⟨poolList es last⟩
def fileOf (pool : Array CpInfo) (this : Nat) (attrs : Array Attribute := #[]) (ms : Array MethodInfo := #[]) (fl : Nat := 33) (sup : Nat := 0) (ifs : Array Nat := #[]) (fds : Array FieldInfo := #[]) : ClassFile where
  minorVersion := 0
  majorVersion := 65
  constantPool := pool
  accessFlags := fl
  thisClass := this
  superClass := sup
  interfaces := ifs
  fields := fds
  methods := ms
  attributes := attrs
def plain (name : String) (sup : Option ClassId) : Class where
  name := name
  kind := .ordinary
  loader := none
  accessFlags := 33
  super := sup
  interfaces := #[]
  cf := none
  fields := #[]
  methods := #[]
  instanceTypes := #[]
  staticTypes := #[]
  resolved := #[]
  callSites := []
  init := .initialized
  statics := none
  mirror := none

def pool0 : Array CpInfo := pool [(5, u "<init>"), (0, u "()V"), (1, .class_ 10), (1, u "java/lang/Object")] 113

def k0c0 : Code := { maxStack := 0, maxLocals := 1, code := object_method_1_code, exceptionTable := #[], attributes := #[] }
def k0m0 : Method := { name := "<init>", desc := "()V", sig := { parameters := [], returnType := none }, accessFlags := 1, code := some k0c0 }
/-- java/lang/Object -/
def k0 : Class := { plain "java/lang/Object" none with
  accessFlags := 33
  interfaces := #[]
  cf := some (fileOf pool0 8 #[] #[{ accessFlags := 1, nameIndex := 5, descriptorIndex := 6, attributes := #[] }] 33 0 #[] #[])
  fields := #[]
  methods := #[k0m0]
  instanceTypes := #[]
  staticTypes := #[]
  resolved := Array.replicate 124 none
  statics := none }

def pool1 : Array CpInfo := pool [(2, .class_ 4), (1, u "java/lang/Object"), (0, u "<init>"), (0, u "()V"), (0, .class_ 8), (0, u "com/example/heed/heed/live/BudgetFitsPinLaw"), (0, .long 4611686018427387903), (1, .class_ 12), (0, u "com/example/heed/heed/live/Budget"), (0, .methodref 11 14), (0, .nameAndType 5 15), (0, u "(J)V"), (0, .methodref 11 17), (0, .nameAndType 18 19), (0, u "fits"), (0, u "(J)Z"), (0, .methodref 11 21), (0, .nameAndType 22 15), (0, u "take"), (0, .methodref 11 24), (0, .nameAndType 25 15), (0, u "giveBack"), (0, u "MASK"), (0, u "J"), (3, u "law"), (0, u "(JJJJ)Z")] 3

def k1m0 : Method := { name := "<init>", desc := "()V", sig := { parameters := [], returnType := none }, accessFlags := 1, code := none }
def k1c1 : Code := { maxStack := 6, maxLocals := 22, code := code, exceptionTable := #[], attributes := #[] }
def k1m1 : Method := { name := "law", desc := "(JJJJ)Z", sig := { parameters := [.long, .long, .long, .long], returnType := some .boolean }, accessFlags := 9, code := some k1c1 }
/-- com/example/heed/heed/live/BudgetFitsPinLaw -/
def k1 : Class := { plain "com/example/heed/heed/live/BudgetFitsPinLaw" (some 0) with
  accessFlags := 49
  interfaces := #[]
  cf := some (fileOf pool1 7 #[] #[{ accessFlags := 1, nameIndex := 5, descriptorIndex := 6, attributes := #[] }, { accessFlags := 9, nameIndex := 31, descriptorIndex := 32, attributes := #[] }] 49 2 #[] #[{ accessFlags := 26, nameIndex := 26, descriptorIndex := 27, attributes := #[] }])
  fields := #[{ name := "MASK", type := .long, accessFlags := 26, slot := 0, constantValue := 0 }]
  methods := #[k1m0, k1m1]
  instanceTypes := #[]
  staticTypes := #[.long]
  resolved := Array.replicate 36 none
  statics := none }

def pool2 : Array CpInfo := pool [(1, .methodref 2 3), (0, .class_ 4), (0, .nameAndType 5 6), (0, u "java/lang/Object"), (0, u "<init>"), (0, u "()V"), (0, .fieldref 8 9), (0, .class_ 10), (0, .nameAndType 11 12), (0, u "com/example/heed/heed/live/Budget"), (0, u "max"), (0, u "J"), (0, .fieldref 8 14), (0, .nameAndType 15 12), (0, u "taken"), (0, u "(J)V"), (4, u "fits"), (0, u "(J)Z"), (1, u "take"), (0, u "giveBack")] 2

def k2c0 : Code := { maxStack := 3, maxLocals := 3, code := prog_84_method_1_code, exceptionTable := #[], attributes := #[] }
def k2m0 : Method := { name := "<init>", desc := "(J)V", sig := { parameters := [.long], returnType := none }, accessFlags := 0, code := some k2c0 }
def k2c1 : Code := { maxStack := 4, maxLocals := 3, code := prog_84_method_3_code, exceptionTable := #[], attributes := #[] }
def k2m1 : Method := { name := "fits", desc := "(J)Z", sig := { parameters := [.long], returnType := some .boolean }, accessFlags := 0, code := some k2c1 }
def k2c2 : Code := { maxStack := 5, maxLocals := 3, code := prog_84_method_4_code, exceptionTable := #[], attributes := #[] }
def k2m2 : Method := { name := "take", desc := "(J)V", sig := { parameters := [.long], returnType := none }, accessFlags := 0, code := some k2c2 }
def k2c3 : Code := { maxStack := 5, maxLocals := 3, code := prog_84_method_5_code, exceptionTable := #[], attributes := #[] }
def k2m3 : Method := { name := "giveBack", desc := "(J)V", sig := { parameters := [.long], returnType := none }, accessFlags := 0, code := some k2c3 }
/-- com/example/heed/heed/live/Budget -/
def k2 : Class := { plain "com/example/heed/heed/live/Budget" (some 0) with
  accessFlags := 32
  interfaces := #[]
  cf := some (fileOf pool2 8 #[] #[{ accessFlags := 0, nameIndex := 5, descriptorIndex := 16, attributes := #[] }, { accessFlags := 0, nameIndex := 21, descriptorIndex := 22, attributes := #[] }, { accessFlags := 0, nameIndex := 24, descriptorIndex := 16, attributes := #[] }, { accessFlags := 0, nameIndex := 25, descriptorIndex := 16, attributes := #[] }] 32 2 #[] #[{ accessFlags := 18, nameIndex := 11, descriptorIndex := 12, attributes := #[] }, { accessFlags := 2, nameIndex := 15, descriptorIndex := 12, attributes := #[] }])
  fields := #[{ name := "max", type := .long, accessFlags := 18, slot := 0, constantValue := 0 }, { name := "taken", type := .long, accessFlags := 2, slot := 1, constantValue := 0 }]
  methods := #[k2m0, k2m1, k2m2, k2m3]
  instanceTypes := #[.long, .long]
  staticTypes := #[]
  resolved := Array.replicate 28 none
  statics := none }

def pool3 : Array CpInfo := pool [(1, u "java/lang/Cloneable"), (0, .class_ 1), (0, u "java/lang/Object"), (0, .class_ 3)] 3

/-- java/lang/Cloneable -/
def k3 : Class := { plain "java/lang/Cloneable" (some 0) with
  accessFlags := 1537
  interfaces := #[]
  cf := some (fileOf pool3 2 #[] #[] 1537 4 #[] #[])
  fields := #[]
  methods := #[]
  instanceTypes := #[]
  staticTypes := #[]
  resolved := Array.replicate 8 none
  statics := none }

def pool4 : Array CpInfo := pool [(1, u "java/io/Serializable"), (0, .class_ 1), (0, u "java/lang/Object"), (0, .class_ 3)] 3

/-- java/io/Serializable -/
def k4 : Class := { plain "java/io/Serializable" (some 0) with
  accessFlags := 1537
  interfaces := #[]
  cf := some (fileOf pool4 2 #[] #[] 1537 4 #[] #[])
  fields := #[]
  methods := #[]
  instanceTypes := #[]
  staticTypes := #[]
  resolved := Array.replicate 8 none
  statics := none }

/-- the primitive byte -/
def k5 : Class := { plain "byte" none with kind := .primitive 'B', accessFlags := 0x411 }
/-- [B -/
def k6 : Class := { plain "[B" (some 0) with kind := .array 5 .byte, interfaces := #[3, 4], accessFlags := 1041 }

def heap : Heap := #[]
def classes : Array Class := #[k0, k1, k2, k3, k4, k5, k6]
def interned : List (Array UInt16 × Addr) := []
def slotsUsed : Nat := 0
def theMethod : MethodId := ⟨1, 1⟩
def args0 : Array Value := #[.long 5, .long 3, .long 2, .long 1]
def aboutOver (below : List Frame) : State where
  vm := { classes := classes, interned := interned.toArray }
  heap := heap
  slotsUsed := slotsUsed
  threads := #[{ frames := .invoking theMethod args0 :: below }]
def below0 : List Frame := [.native { method := ⟨0, 0⟩, args := #[] }]
def about1 : State := aboutOver below0
def p0 : Program := .bare "" "" ""
def e0 : Env := launch0.env 0 0 0
theorem w_frames : about1.frames = Frame.invoking theMethod args0 :: below0 := rfl
set_option maxRecDepth 65536 in
theorem w_args : argsFit about1.vm theMethod args0 = true := by decide +kernel
set_option maxRecDepth 65536 in
theorem w_heap : heapFits about1 = true := by decide +kernel
set_option maxRecDepth 65536 in
theorem w_runnable : about1.curStatus? = some .runnable := by decide +kernel
set_option maxRecDepth 65536 in
theorem w_alone : about1.alone = true := by decide +kernel
set_option maxRecDepth 65536 in
theorem w_named : about1.methodNamed? x = some theMethod := by decide +kernel
set_option maxRecDepth 65536 in
theorem w_hears : about1.hears theMethod below0 = true := by decide +kernel
set_option maxRecDepth 65536 in
theorem w_ripe : about1.ripe theMethod args0 below0 = true := by decide +kernel
theorem w_running : about1.status = .running := rfl
set_option maxRecDepth 65536 in
theorem w_room : about1.hasRoom e0.platform room_1 = true :=
  launch0.hasRoom_least _ room_1 (by decide +kernel) (by decide +kernel) (by decide +kernel) (by decide +kernel) (by decide +kernel) (by decide +kernel)
theorem allAtoms_all (ts : List Jvm.Cond) (a : Array Jvm.Value) (st : Jvm.State) : (allAtoms ts).before a st = ts.all (fun c => c.before a st) := by
  induction ts with
  | nil => rfl
  | cons c t ih =>
    show (Jvm.Cond.and c (allAtoms t)).before a st = _
    rw [Jvm.Cond.before_and, ih, List.all_cons]
def words1 : List Jvm.Cond := Jvm.Cond.code x code maxLocals ret :: tables_1
/-- a 'code' word, met by the world's own term for the bytes: nothing is compared byte by byte -/
theorem code_word {y : MethodName} {bytes : ByteArray} {mx : Nat} {rt : Option FieldType} {a : Array Value} {s : State} {m : MethodId} {meth : Method} {c : Code} (h1 : s.methodNamed? y = some m) (h2 : s.vm.method? m = some meth) (h3 : meth.code = some c) (h4 : c.code = bytes)
    (h5 : (c.maxLocals == mx && c.exceptionTable.isEmpty && decide (c.maxStack ≤ mostOperands) && decide (meth.sig.returnType = rt) && !meth.locks && decide (parseMethodDescriptor y.desc = some meth.sig)) = true) : (Jvm.Cond.code y bytes mx rt).before a s = true := by
  simp only [Bool.and_eq_true, beq_iff_eq, Bool.not_eq_true', decide_eq_true_eq] at h5
  obtain ⟨⟨⟨⟨⟨g1, g2⟩, g3⟩, g4⟩, g5⟩, g6⟩ := h5
  simp [Cond.before, Cond.holds, Cond.value, h1, h2, h3, h4, g1, g2, g3, g4, g5, g6]
def isCode : Jvm.Cond → Bool
  | .code _ _ _ _ => true
  | _ => false
theorem all_split {L : List Jvm.Cond} {P : Jvm.Cond → Bool} (h1 : L.all (fun c => isCode c || P c) = true) (h2 : ∀ c ∈ L.filter isCode, P c = true) : L.all P = true := by
  refine List.all_eq_true.mpr fun c hc => ?_
  have h := List.all_eq_true.mp h1 c hc
  rcases Bool.eq_false_or_eq_true (isCode c) with hi | hi
  · exact h2 c (List.mem_filter.mpr ⟨hc, hi⟩)
  · simpa [hi] using h
set_option maxRecDepth 65536 in
theorem w_c0 : (Jvm.Cond.code x code maxLocals ret).before args0 about1 = true := code_word (m := ⟨1, 1⟩) (meth := k1m1) (c := k1c1) (by decide +kernel) rfl rfl rfl (by decide +kernel)
set_option maxRecDepth 65536 in
theorem w_c1 : (Jvm.Cond.code ({ cls := "com/example/heed/heed/live/Budget", name := "<init>", desc := "(J)V" } : Jvm.MethodName) prog_84_method_1_code (3 : Nat) (Option.none : Option Jvm.ClassFile.FieldType)).before args0 about1 = true := code_word (m := ⟨2, 0⟩) (meth := k2m0) (c := k2c0) (by decide +kernel) rfl rfl rfl (by decide +kernel)
set_option maxRecDepth 65536 in
theorem w_c2 : (Jvm.Cond.code ({ cls := "java/lang/Object", name := "<init>", desc := "()V" } : Jvm.MethodName) object_method_1_code (1 : Nat) (Option.none : Option Jvm.ClassFile.FieldType)).before args0 about1 = true := code_word (m := ⟨0, 0⟩) (meth := k0m0) (c := k0c0) (by decide +kernel) rfl rfl rfl (by decide +kernel)
set_option maxRecDepth 65536 in
theorem w_c3 : (Jvm.Cond.code ({ cls := "com/example/heed/heed/live/Budget", name := "fits", desc := "(J)Z" } : Jvm.MethodName) prog_84_method_3_code (3 : Nat) (Option.some Jvm.ClassFile.FieldType.boolean)).before args0 about1 = true := code_word (m := ⟨2, 1⟩) (meth := k2m1) (c := k2c1) (by decide +kernel) rfl rfl rfl (by decide +kernel)
set_option maxRecDepth 65536 in
theorem w_c4 : (Jvm.Cond.code ({ cls := "com/example/heed/heed/live/Budget", name := "take", desc := "(J)V" } : Jvm.MethodName) prog_84_method_4_code (3 : Nat) (Option.none : Option Jvm.ClassFile.FieldType)).before args0 about1 = true := code_word (m := ⟨2, 2⟩) (meth := k2m2) (c := k2c2) (by decide +kernel) rfl rfl rfl (by decide +kernel)
set_option maxRecDepth 65536 in
theorem w_c5 : (Jvm.Cond.code ({ cls := "com/example/heed/heed/live/Budget", name := "giveBack", desc := "(J)V" } : Jvm.MethodName) prog_84_method_5_code (3 : Nat) (Option.none : Option Jvm.ClassFile.FieldType)).before args0 about1 = true := code_word (m := ⟨2, 3⟩) (meth := k2m3) (c := k2c3) (by decide +kernel) rfl rfl rfl (by decide +kernel)
def codes1 : List Jvm.Cond := [Jvm.Cond.code x code maxLocals ret, Jvm.Cond.code ({ cls := "com/example/heed/heed/live/Budget", name := "<init>", desc := "(J)V" } : Jvm.MethodName) prog_84_method_1_code (3 : Nat) (Option.none : Option Jvm.ClassFile.FieldType), Jvm.Cond.code ({ cls := "java/lang/Object", name := "<init>", desc := "()V" } : Jvm.MethodName) object_method_1_code (1 : Nat) (Option.none : Option Jvm.ClassFile.FieldType), Jvm.Cond.code ({ cls := "com/example/heed/heed/live/Budget", name := "fits", desc := "(J)Z" } : Jvm.MethodName) prog_84_method_3_code (3 : Nat) (Option.some Jvm.ClassFile.FieldType.boolean), Jvm.Cond.code ({ cls := "com/example/heed/heed/live/Budget", name := "take", desc := "(J)V" } : Jvm.MethodName) prog_84_method_4_code (3 : Nat) (Option.none : Option Jvm.ClassFile.FieldType), Jvm.Cond.code ({ cls := "com/example/heed/heed/live/Budget", name := "giveBack", desc := "(J)V" } : Jvm.MethodName) prog_84_method_5_code (3 : Nat) (Option.none : Option Jvm.ClassFile.FieldType)]
set_option maxRecDepth 65536 in
theorem codes_eq : words1.filter isCode = codes1 := rfl
theorem w_codes : ∀ c ∈ words1.filter isCode, c.before args0 about1 = true := by
  rw [codes_eq]
  intro c hc
  simp only [codes1, List.mem_cons, List.not_mem_nil, or_false] at hc
  rcases hc with rfl | rfl | rfl | rfl | rfl | rfl
  · exact w_c0
  · exact w_c1
  · exact w_c2
  · exact w_c3
  · exact w_c4
  · exact w_c5
set_option maxRecDepth 65536 in
theorem w_t1 : (words1.take 24).all (fun c => isCode c || c.before args0 about1) = true := by decide +kernel
set_option maxRecDepth 65536 in
theorem w_t2 : (words1.drop 24).all (fun c => isCode c || c.before args0 about1) = true := by decide +kernel
theorem w_tables : (allAtoms (Jvm.Cond.code x code maxLocals ret :: tables_1)).before args0 about1 = true := by
  rw [allAtoms_all]
  show words1.all (fun c => c.before args0 about1) = true
  refine all_split ?_ w_codes
  rw [← List.take_append_drop 24 words1, List.all_append, w_t1, w_t2]
  rfl
set_option maxRecDepth 65536 in
theorem w_case : (Jvm.Cond.and given_1 narrow_1).before args0 about1 = true := by decide +kernel
theorem w_applies : (headSpec (Jvm.Cond.code x code maxLocals ret :: tables_1) room_1).applies x e0.platform about1 = true :=
  (Spec.applies_iff w_frames).mpr ⟨w_running, w_runnable, w_alone, w_named, w_hears, w_ripe, w_room, w_tables⟩
theorem atStart : AtStart classFile x code maxLocals ret World_1 tables_1 room_1 Calls_1 rest_1 Pre_1 launch0 p0 e0 about1 theMethod args0 below0 :=
  ⟨lists_1, trivial, launch0.admits_env _ _ _, launch0.least_env, fairChoices_fair.cas, fairChoices_fair.clock, w_frames, w_args, w_heap, w_applies, trivial, trivial, w_case⟩
end start1
theorem witness_1 : WitnessClaimed_1 := ⟨start1.p0, start1.e0, start1.about1, start1.theMethod, start1.args0, start1.below0, start1.atStart⟩
end Jvm.Pilot.@@N@@
