import JvmDerived
import JvmDerived.Pilot.@@N@@Statement
import JvmDerived.Pilot.@@N@@Code
set_option linter.unusedVariables false
set_option linter.unusedSimpArgs false
namespace Jvm.Pilot.@@N@@
open Jvm Jvm.ClassFile Sem Op Lib Jvm.Free Jvm.Stand Jvm.LawKit Jvm.RoadKit Bundle Jvm.Pilot.@@N@@.Jvm.D
section Own
variable {p : Program} {l : Launch} {e : Env} {R : Room} {s : State} {m : MethodId} {args : Array Value} {below : List Frame} {meth : Method} {c : Code} {T : State} {locs : List Loc} {cells slots : Nat} {Z : State} {h h' : Heap} {a b : Addr} {G : State → Outcome → Prop} {Q : Option Value → Heap → List Loc → Prop} {C K : Nat}
/-- the run comes to an end of which G holds -/
def own_Goes (p : Program) (e : Env) (below : List Frame) (G : State → Outcome → Prop) (S : State) : Prop := ∃ s₂ o, Steps p.tables e below S s₂ ∧ s₂.status = .running ∧ Ended s₂ below o ∧ G s₂ o
theorem own_step {S S' : State} (k : ∀ t, Steps p.tables e below S' t → Steps p.tables e below S t) (h : own_Goes p e below G S') : own_Goes p e below G S := by
  obtain ⟨s₂, o, h1, h2⟩ := h
  exact ⟨s₂, o, k _ h1, h2⟩
theorem own_jump {S S' : State} (k : Steps p.tables e below S S') (h : own_Goes p e below G S') : own_Goes p e below G S := own_step (fun _ q => k.trans q) h
def own_Fin (s : State) (Q : Option Value → Heap → List Loc → Prop) (C K : Nat) : State → Outcome → Prop := fun U o => ∃ v L, o = .returned v ∧ Q v U.heap L ∧ FrameEnd s o U L C K
theorem own_ret0 (X : Stand p l e R s m args below meth c T locs cells slots) (hx : p.tables.exec = Jvm.exec) (hlk : meth.locks = false) (hret : meth.sig.returnType = none) {pc : Nat} {Ls : Array Slot} (hd : decode c.code pc = .ok (.return_, 1)) (hq : Q none T.heap locs) (hc : cells ≤ C) (hk : slots ≤ K) :
    own_Goes p e below (own_Fin s Q C K) (T.setTop (mkF m pc Ls [])) := by
  obtain ⟨fs, hr, hrun, hended, hW, hsame⟩ := X.leave (v := none) (fun _ => rfl)
  exact ⟨_, _, X.returnOut hx hret hd hr, hrun, hended, _, _, rfl, hq, ⟨_, rfl⟩, hW, hsame.mono hc hk⟩
theorem own_retV (X : Stand p l e R s m args below meth c T locs cells slots) (hx : p.tables.exec = Jvm.exec) (hlk : meth.locks = false) {t : FieldType} (hret : meth.sig.returnType = some t) {w : Value} (hn : narrow t w = w) {i : Instr}
    (hi : (i = .ireturn ∧ (t = .int ∨ t = .boolean ∨ t = .byte ∨ t = .char ∨ t = .short) ∧ ∃ z, w = .int z) ∨ (i = .lreturn ∧ t = .long ∧ ∃ z, w = .long z) ∨ (i = .dreturn ∧ t = .double ∧ ∃ z, w = .double z) ∨ (i = .freturn ∧ t = .float ∧ ∃ z, w = .float z) ∨ (i = .areturn ∧ t.isReference = true ∧ w.isRef = true))
    {pc : Nat} {Ls : Array Slot} {rest : List Value} (hd : decode c.code pc = .ok (i, 1)) (hq : Q (some w) T.heap locs) (hc : cells ≤ C) (hk : slots ≤ K) :
    own_Goes p e below (own_Fin s Q C K) (T.setTop (mkF m pc Ls (w :: rest))) := by
  obtain ⟨fs, hr, hrun, hended, hW, hsame⟩ := X.leave (v := some w) (fun h => by rw [hret] at h; cases h)
  exact ⟨_, _, retOut X hx hret hn hi hd hr, hrun, hended, _, _, rfl, hq, ⟨_, rfl⟩, hW, hsame.mono hc hk⟩
theorem own_nb {z : Int32} (h : z = 0 ∨ z = 1) : narrow .boolean (.int z) = .int z := by
  rcases h with rfl | rfl <;> rfl
theorem own_01 {q : Prop} [Decidable q] {x y : Int32} (hx : x = 0 ∨ x = 1) (hy : y = 0 ∨ y = 1) : (if q then x else y) = 0 ∨ (if q then x else y) = 1 := by
  split
  · exact hx
  · exact hy
/-- the law's own promise -/
def own_Q0 (n0 : Nat) (v : Option Value) (h : Heap) (L : List Loc) : Prop := v = some (.int 1) ∧ Fr n0 L
theorem own_retL {n0 : Nat} (X : Stand p l e R s m args below meth c T locs cells slots) (hx : p.tables.exec = Jvm.exec) (hlk : meth.locks = false) (hret : meth.sig.returnType = some .boolean) {pc : Nat} {Ls : Array Slot} {z : Int32} {rest : List Value} (hd : decode c.code pc = .ok (.ireturn, 1)) (hz : z = 1) (N : Fr n0 locs) (hc : cells ≤ C) (hk : slots ≤ K) :
    own_Goes p e below (own_Fin s (own_Q0 n0) C K) (T.setTop (mkF m pc Ls (.int z :: rest))) := by
  subst hz
  exact own_retV X hx hlk hret (own_nb (Or.inr rfl)) (Or.inl ⟨rfl, Or.inr (Or.inl rfl), _, rfl⟩) hd ⟨rfl, N⟩ hc hk
/-! arrays of ints and of longs, by their lists -/
theorem own_getI (xs : List Int32) (n : Nat) : (xs.map Value.int).getD n (Value.int 0) = Value.int (xs.getD n 0) := by
  simp only [List.getD_eq_getElem?_getD, List.getElem?_map]
  cases xs[n]? <;> rfl
theorem own_getJ (xs : List Int64) (n : Nat) : (xs.map Value.long).getD n (Value.long 0) = Value.long (xs.getD n 0) := by
  simp only [List.getD_eq_getElem?_getD, List.getElem?_map]
  cases xs[n]? <;> rfl
theorem own_newI {k : ClassId} {z : Int32} (A : Arr Z h a (newA k .int z) .int) (q : ¬ z < 0) (n : Nat) : Arv Z h a k .int z ((List.replicate n (0 : Int32)).map Value.int) (Value.int 0) :=
  (Arv.new A q).pad fun i => by rw [List.map_replicate]; exact pad_rep [] (Value.int 0) n i
theorem own_newJ {k : ClassId} {z : Int32} (A : Arr Z h a (newA k .long z) .long) (q : ¬ z < 0) (n : Nat) : Arv Z h a k .long z ((List.replicate n (0 : Int64)).map Value.long) (Value.long 0) :=
  (Arv.new A q).pad fun i => by rw [List.map_replicate]; exact pad_rep [] (Value.long 0) n i
theorem own_ial (X : Stand p l e R s m args below meth c T locs cells slots) (hx : p.tables.exec = Jvm.exec) (hZ : Z.Warmed39 s.vm) (eT : T.heap = h) {k : ClassId} {z j : Int32} {xs : List Int32} (F : Arv Z h a k .int z (xs.map Value.int) (Value.int 0)) (hj : ¬ j < 0 ∧ j < z)
    {g : JFrame} (hg : g.method = m) {rest : List Value} (hs : g.stack = .int j :: .ref a :: rest) (hd : decode c.code g.pc = .ok (.iaload, 1)) (t : State) (kk : Steps p.tables e below (T.setTop { g with pc := g.pc + 1, stack := .int (xs.getD j.toNatClampNeg 0) :: rest }) t) : Steps p.tables e below (T.setTop g) t := by
  obtain ⟨cl, Ar, -, S, -, H, -⟩ := F
  have hin := inb_of S hj
  exact X.iaload hx (j := j) (by rw [eT]; exact Ar.1) (State.isArrayOf_alike hZ.alike Ar.2.1) Ar.2.2 hin (H.at hin (own_getI _ _)) hg hs hd t kk
theorem own_lal (X : Stand p l e R s m args below meth c T locs cells slots) (hx : p.tables.exec = Jvm.exec) (hZ : Z.Warmed39 s.vm) (eT : T.heap = h) {k : ClassId} {z j : Int32} {xs : List Int64} (F : Arv Z h a k .long z (xs.map Value.long) (Value.long 0)) (hj : ¬ j < 0 ∧ j < z)
    {g : JFrame} (hg : g.method = m) {rest : List Value} (hs : g.stack = .int j :: .ref a :: rest) (hd : decode c.code g.pc = .ok (.laload, 1)) (t : State) (kk : Steps p.tables e below (T.setTop { g with pc := g.pc + 1, stack := .long (xs.getD j.toNatClampNeg 0) :: rest }) t) : Steps p.tables e below (T.setTop g) t := by
  obtain ⟨cl, Ar, -, S, -, H, -⟩ := F
  have hin := inb_of S hj
  exact X.laload hx (j := j) (by rw [eT]; exact Ar.1) (State.isArrayOf_alike hZ.alike Ar.2.1) Ar.2.2 hin (H.at hin (own_getJ _ _)) hg hs hd t kk
theorem own_len (X : Stand p l e R s m args below meth c T locs cells slots) (hx : p.tables.exec = Jvm.exec) (hZ : Z.Warmed39 s.vm) (eT : T.heap = h) {k : ClassId} {ty : FieldType} {z : Int32} {vs : List Value} {dv : Value} (F : Arv Z h a k ty z vs dv)
    {g : JFrame} (hg : g.method = m) {rest : List Value} (hs : g.stack = .ref a :: rest) (hd : decode c.code g.pc = .ok (.arraylength, 1)) (t : State) (kk : Steps p.tables e below (T.setTop { g with pc := g.pc + 1, stack := .int z :: rest }) t) : Steps p.tables e below (T.setTop g) t := by
  obtain ⟨cl, Ar, -, S, N, -, -⟩ := F
  refine X.arraylength hx (by rw [eT]; exact Ar.1) (State.isArrayOf_alike hZ.alike Ar.2.1) hg hs hd t ?_
  rw [len_of S N]
  exact kk
theorem own_ist (X : Stand p l e R s m args below meth c T locs cells slots) (hx : p.tables.exec = Jvm.exec) (hZ : Z.Warmed39 s.vm) (eT : T.heap = h) {k : ClassId} {z j y : Int32} {xs : List Int32} (F : Arv Z h a k .int z (xs.map Value.int) (Value.int 0)) (hj : ¬ j < 0 ∧ j < z) (n : Nat) (hn : j.toNatClampNeg = n) (hl : n < xs.length)
    {g : JFrame} (hg : g.method = m) {rest : List Value} (hs : g.stack = .int y :: .int j :: .ref a :: rest) (hd : decode c.code g.pc = .ok (.iastore, 1)) :
    ∃ T' h', Stand p l e R s m args below meth c T' (locs ++ [⟨a, j.toNatClampNeg⟩]) cells slots ∧ T'.heap = h' ∧ Wr h h' a j.toNatClampNeg (.int y) ∧ Arv Z h' a k .int z ((xs.set n y).map Value.int) (Value.int 0) ∧ ∀ t, Steps p.tables e below (T'.setTop { g with pc := g.pc + 1, stack := rest }) t → Steps p.tables e below (T.setTop g) t := by
  obtain ⟨cl, Ar, q, S, N, H, I⟩ := F
  obtain ⟨T', h', X', e', W, st⟩ := stI X hx hZ eT Ar (inb_of S hj) hg hs hd
  refine ⟨T', h', X', e', W, ?_, st⟩
  rw [List.map_set]
  exact Arv.set Ar q S N H I rfl W n hn (by rw [List.length_map]; exact hl)
theorem own_lst (X : Stand p l e R s m args below meth c T locs cells slots) (hx : p.tables.exec = Jvm.exec) (hZ : Z.Warmed39 s.vm) (eT : T.heap = h) {k : ClassId} {z j : Int32} {y : Int64} {xs : List Int64} (F : Arv Z h a k .long z (xs.map Value.long) (Value.long 0)) (hj : ¬ j < 0 ∧ j < z) (n : Nat) (hn : j.toNatClampNeg = n) (hl : n < xs.length)
    {g : JFrame} (hg : g.method = m) {rest : List Value} (hs : g.stack = .long y :: .int j :: .ref a :: rest) (hd : decode c.code g.pc = .ok (.lastore, 1)) :
    ∃ T' h', Stand p l e R s m args below meth c T' (locs ++ [⟨a, j.toNatClampNeg⟩]) cells slots ∧ T'.heap = h' ∧ Wr h h' a j.toNatClampNeg (.long y) ∧ Arv Z h' a k .long z ((xs.set n y).map Value.long) (Value.long 0) ∧ ∀ t, Steps p.tables e below (T'.setTop { g with pc := g.pc + 1, stack := rest }) t → Steps p.tables e below (T.setTop g) t := by
  obtain ⟨cl, Ar, q, S, N, H, I⟩ := F
  obtain ⟨T', h', X', e', W, st⟩ := stJ X hx hZ eT Ar (inb_of S hj) hg hs hd
  refine ⟨T', h', X', e', W, ?_, st⟩
  rw [List.map_set]
  exact Arv.set Ar q S N H I rfl W n hn (by rw [List.length_map]; exact hl)
end Own
def own_sel (q1 : Int64) : Int32 := ((((q1.toUInt64 >>> ((33 : Int32) &&& 0x3f).toInt64.toUInt64).toInt64) &&& (7 : Int64)).toInt32)
def own_pick (q1 : Int64) (i1 i2 : Int32) : Int64 := (if (own_sel q1) = (1 : Int32) then (i1.toInt64) else (if (own_sel q1) = (2 : Int32) then ((i1.toInt64) - (1 : Int64)) else (if (own_sel q1) = (3 : Int32) then (i2.toInt64) else (if (own_sel q1) = (4 : Int32) then ((i2.toInt64) - (1 : Int64)) else ((q1.toInt32).toInt64)))))
def own_coord (q1 q2 : Int64) : UInt64 := (if (((q2.toUInt64 >>> ((32 : Int32) &&& 0x3f).toInt64.toUInt64).toInt64) &&& (1 : Int64)) = (0 : Int64) then (FP.l2d q1) else (FP.dadd (FP.l2d q1) (4602678819172646912 : UInt64)))
def own_cg (x y : UInt64) : Int32 := Jvm.Op.cmpValue (FP.dcmp x y) .g
theorem own_half : Jvm.Free.Fl.Fin64 (4602678819172646912 : UInt64) := by unfold Jvm.Free.Fl.Fin64; decide
section Half
open Jvm.FP Jvm.FP.Core
theorem own_signed (s : Bool) (c : Nat) : signed s c = if s then -(c : Int) else (c : Int) := rfl
/-- twice a datum, by its exponent -/
theorem own_twice {i : Int} {s : Bool} {c : Nat} {q : Int} (h : Whole i (.fin s c q)) : Whole (2 * i) (.fin s c (q + 1)) := by
  show signed s (c * 2 ^ (q + 1).toNat) = 2 * i * ((2 ^ (-(q + 1)).toNat : Nat) : Int)
  have h' : signed s (c * 2 ^ q.toNat) = i * ((2 ^ (-q).toNat : Nat) : Int) := h
  by_cases hq : 0 ≤ q
  · rw [show (q + 1).toNat = q.toNat + 1 by omega, show (-(q + 1)).toNat = 0 by omega]
    rw [show (-q).toNat = 0 by omega] at h'
    rw [Nat.pow_succ, ← Nat.mul_assoc, signed_mul, h']
    simp
    omega
  · rw [show (q + 1).toNat = 0 by omega]
    rw [show q.toNat = 0 by omega, show (-q).toNat = (-(q + 1)).toNat + 1 by omega, Nat.pow_succ] at h'
    rw [h']
    rw [Int.natCast_mul]
    simp
    rw [Int.mul_comm 2 i, Int.mul_assoc, Int.mul_comm _ 2]
theorem own_sumshift {s t : Bool} {c d : Nat} {q r : Int} : ∃ sg n e, exactSum (.fin s c q) (.fin t d r) = .fin sg n e ∧ exactSum (.fin s c (q + 1)) (.fin t d (r + 1)) = .fin sg n (e + 1) := by
  have hm : min (q + 1) (r + 1) = min q r + 1 := by omega
  have hu : sumUnits s c (q + 1) t d (r + 1) (min q r + 1) = sumUnits s c q t d r (min q r) := by
    show signed s (c * 2 ^ (q + 1 - (min q r + 1)).toNat) + signed t (d * 2 ^ (r + 1 - (min q r + 1)).toNat) = signed s (c * 2 ^ (q - min q r).toNat) + signed t (d * 2 ^ (r - min q r).toNat)
    rw [show q + 1 - (min q r + 1) = q - min q r by omega, show r + 1 - (min q r + 1) = r - min q r by omega]
  refine ⟨_, _, _, rfl, ?_⟩
  show Datum.fin (sumSign s t (sumUnits s c (q + 1) t d (r + 1) (min (q + 1) (r + 1)))) (sumUnits s c (q + 1) t d (r + 1) (min (q + 1) (r + 1))).natAbs (min (q + 1) (r + 1)) = _
  rw [hm, hu]
theorem own_half_val : val64 (4602678819172646912 : UInt64) = .fin false 4503599627370496 (-53) := by decide +kernel
/-- a whole number and a half: the sum is exact -/
theorem own_dh {c : Int64} (h1 : -2147483650 < c.toInt) (h2 : c.toInt < 2147483650) : val64 (FP.dadd (FP.l2d c) (4602678819172646912 : UInt64)) ≠ .nan ∧ zval b64 (val64 (FP.dadd (FP.l2d c) (4602678819172646912 : UInt64))) = (2 * c.toInt + 1) * ((2 ^ 1073 : Nat) : Int) := by
  have hs : Small53 c := ⟨by omega, by omega⟩
  have wa := l2d_whole hs
  obtain ⟨c0, q, ea⟩ := l2d_shape c
  rw [ea] at wa
  have w2 := own_twice wa
  have wh : Whole 1 (.fin false 4503599627370496 (-53 + 1)) := by
    show signed false (4503599627370496 * 2 ^ ((-53 : Int) + 1).toNat) = 1 * ((2 ^ (-((-53 : Int) + 1)).toNat : Nat) : Int)
    decide +kernel
  obtain ⟨sg, n, e, x1, x2⟩ := own_sumshift (s := decide (c.toInt < 0)) (t := false) (c := c0) (d := 4503599627370496) (q := q) (r := -53)
  have ws := whole_sum w2 wh
  rw [x2] at ws
  have hv : val64 (FP.dadd (FP.l2d c) (4602678819172646912 : UInt64)) = round b64 (.fin sg n e) := by
    show val64 (Core.dadd (Core.l2d c) (4602678819172646912 : UInt64)) = _
    rw [val64_dadd, ea, own_half_val, x1]
  have hne : 2 * c.toInt + 1 ≠ 0 := by omega
  have hsg := whole_sign ws hne
  have hr : round b64 (.fin sg n e) = round b64 (.fin sg (2 * c.toInt + 1).natAbs (-1)) := by
    refine roundRatio_congr (by decide) (by decide) ?_
    have hn := whole_natAbs ws
    rw [show (e - -1).toNat = (e + 1).toNat by omega, show (-1 - e).toNat = (-(e + 1)).toNat by omega]
    simpa using hn
  obtain ⟨c', q', r1, r2⟩ := round_exact good_b64 sg (c := (2 * c.toInt + 1).natAbs) (q := -1) (show _ < 2 ^ 53 by omega) (by decide) (by decide)
  rw [hr, r1] at hv
  rw [hv]
  refine ⟨by simp, ?_⟩
  show signed sg (inUnits c' q' b64.qmin) = _
  rw [r2]
  show signed sg ((2 * c.toInt + 1).natAbs * 2 ^ 1073) = _
  rw [signed_mul]
  congr 1
  rw [hsg]
  rw [own_signed]
  by_cases hz : 2 * c.toInt + 1 < 0 <;> simp [hz] <;> omega
theorem own_dw {k : Int64} (h1 : -2147483650 < k.toInt) (h2 : k.toInt < 2147483650) : val64 (FP.l2d k) ≠ .nan ∧ zval b64 (val64 (FP.l2d k)) = (2 * k.toInt) * ((2 ^ 1073 : Nat) : Int) := by
  have hs : Small53 k := ⟨by omega, by omega⟩
  have wa := l2d_whole hs
  refine ⟨wa.ne_nan, ?_⟩
  have z := whole_zval good_b64 (val64_fits (Core.l2d k)) wa
  show zval b64 (val64 (Core.l2d k)) = _
  rw [z]
  show k.toInt * ((2 ^ 1074 : Nat) : Int) = _
  rw [show (2 ^ 1074 : Nat) = 2 * 2 ^ 1073 by decide +kernel, Int.natCast_mul]
  generalize ((2 ^ 1073 : Nat) : Int) = P
  rw [Int.mul_comm 2 k.toInt, Int.mul_assoc]
  rfl
theorem own_pp : (0 : Int) < ((2 ^ 1073 : Nat) : Int) := by
  have := Nat.two_pow_pos 1073
  omega
theorem own_cmp {x y : UInt64} {a b : Int} (hx : val64 x ≠ .nan ∧ zval b64 (val64 x) = a * ((2 ^ 1073 : Nat) : Int)) (hy : val64 y ≠ .nan ∧ zval b64 (val64 y) = b * ((2 ^ 1073 : Nat) : Int)) : FP.dcmp x y = some (compare a b) := by
  show Core.dcmp x y = _
  rw [dcmp_zval hx.1 hy.1, hx.2, hy.2, compare_mul_pos _ _ _ own_pp]
end Half
theorem own_cgv {x y : UInt64} {a b : Int} (h : FP.dcmp x y = some (compare a b)) : (own_cg x y < 0 ↔ a < b) ∧ (0 < own_cg x y ↔ b < a) := by
  unfold own_cg
  rw [h, Jvm.FP.Core.compare_ite]
  by_cases h1 : a < b
  · rw [if_pos h1]
    exact ⟨⟨fun _ => h1, fun _ => by decide⟩, ⟨fun q => absurd q (by decide), fun q => by omega⟩⟩
  · rw [if_neg h1]
    by_cases h2 : a = b
    · rw [if_pos h2]
      exact ⟨⟨fun q => absurd q (by decide), fun q => by omega⟩, ⟨fun q => absurd q (by decide), fun q => by omega⟩⟩
    · rw [if_neg h2]
      exact ⟨⟨fun q => absurd q (by decide), fun q => by omega⟩, ⟨fun _ => by omega, fun _ => by decide⟩⟩
theorem own_rng {q1 : Int64} {i1 i2 : Int32} {c : Int64} (h : own_pick q1 i1 i2 = c) : -2147483650 < c.toInt ∧ c.toInt < 2147483650 := by
  have a1 := rng32 i1
  have a2 := rng32 i2
  have a3 := rng32 q1.toInt32
  have e1 := c_i2l i1
  have e2 := c_i2l i2
  have e3 := c_i2l q1.toInt32
  have f1 := c_lsub i1.toInt64 1
  have f2 := c_lsub i2.toInt64 1
  have g1 := rng64 (i1.toInt64 - (1 : Int64))
  have g2 := rng64 (i2.toInt64 - (1 : Int64))
  have z1 : (1 : Int64).toInt = 1 := rfl
  rw [← h]
  unfold own_pick
  repeat' split
  all_goals omega
theorem own_K {c q2 : Int64} {d : UInt64} {k : Int32} (hc : -2147483650 < c.toInt ∧ c.toInt < 2147483650) (hd : own_coord c q2 = d) : (0 < own_cg (FP.i2d k) d ↔ c < k.toInt64) ∧ (own_cg d (FP.i2d k) < 0 ↔ c < k.toInt64) := by
  have r := rng32 k
  have e := c_i2l k
  have hk := own_dw (k := k.toInt64) (by omega) (by omega)
  rw [i2d_w, Int64.lt_iff_toInt_lt, ← hd]
  unfold own_coord
  split
  · have hx := own_dw hc.1 hc.2
    have k1 := own_cgv (own_cmp hk hx)
    have k2 := own_cgv (own_cmp hx hk)
    exact ⟨by rw [k1.2]; omega, by rw [k2.1]; omega⟩
  · have hx := own_dh hc.1 hc.2
    have k1 := own_cgv (own_cmp hk hx)
    have k2 := own_cgv (own_cmp hx hk)
    exact ⟨by rw [k1.2]; omega, by rw [k2.1]; omega⟩
theorem own_plain {p0 p1 p2 p3 : Int32} {p4 p5 xc yc : Int64} {dx dy : UInt64} (h1 : own_pick p4 p0 p2 = xc) (h2 : own_pick p5 p1 p3 = yc) (h3 : own_coord xc p4 = dx) (h4 : own_coord yc p5 = dy) : (if (if (0 : Int32) < (own_cg (FP.i2d p0) dx) then (0 : Int32) else (if (own_cg dx (FP.i2d p2)) < (0 : Int32) then (if (0 : Int32) < (own_cg (FP.i2d p1) dy) then (0 : Int32) else (if (own_cg dy (FP.i2d p3)) < (0 : Int32) then (1 : Int32) else (0 : Int32))) else (0 : Int32))) = (if (if xc < (p0.toInt64) then (0 : Int32) else (if xc < (p2.toInt64) then (1 : Int32) else (0 : Int32))) = (0 : Int32) then (0 : Int32) else (if (if yc < (p1.toInt64) then (0 : Int32) else (if yc < (p3.toInt64) then (1 : Int32) else (0 : Int32))) = (0 : Int32) then (0 : Int32) else (1 : Int32))) then (1 : Int32) else (0 : Int32)) = 1 := by
  have rx := own_rng h1
  have ry := own_rng h2
  have a1 := (own_K (k := p0) rx h3).1
  have a2 := (own_K (k := p2) rx h3).2
  have b1 := (own_K (k := p1) ry h4).1
  have b2 := (own_K (k := p3) ry h4).2
  by_cases c1 : xc < p0.toInt64 <;> by_cases c2 : xc < p2.toInt64 <;> by_cases c3 : yc < p1.toInt64 <;> by_cases c4 : yc < p3.toInt64 <;> simp only [a1, a2, b1, b2, c1, c2, c3, c4, if_true, if_false] <;> decide
theorem own_pn0 : plainName "com/example/heed/heed/RectHoldsPinLaw" = true := by first | (simp [plainName, overriddenIn]; done) | decide +kernel
theorem own_dmethod_2_code_0 : decode method_2_code 0 = .ok (.lload_n 0, 1) := by decide +kernel
theorem own_dmethod_2_code_1 : decode method_2_code 1 = .ok (.bipush 33, 2) := by decide +kernel
theorem own_dmethod_2_code_3 : decode method_2_code 3 = .ok (.lushr, 1) := by decide +kernel
theorem own_dmethod_2_code_4 : decode method_2_code 4 = .ok (.ldc2_w 7, 3) := by decide +kernel
theorem own_dmethod_2_code_7 : decode method_2_code 7 = .ok (.land, 1) := by decide +kernel
theorem own_dmethod_2_code_8 : decode method_2_code 8 = .ok (.l2i, 1) := by decide +kernel
theorem own_dmethod_2_code_9 : decode method_2_code 9 = .ok (.istore 4, 2) := by decide +kernel
theorem own_dmethod_2_code_11 : decode method_2_code 11 = .ok (.iload 4, 2) := by decide +kernel
theorem own_dmethod_2_code_13 : decode method_2_code 13 = .ok (.iconst 1, 1) := by decide +kernel
theorem own_dmethod_2_code_14 : decode method_2_code 14 = .ok (.if_icmp .ne 6, 3) := by decide +kernel
theorem own_dmethod_2_code_17 : decode method_2_code 17 = .ok (.iload_n 2, 1) := by decide +kernel
theorem own_dmethod_2_code_18 : decode method_2_code 18 = .ok (.i2l, 1) := by decide +kernel
theorem own_dmethod_2_code_19 : decode method_2_code 19 = .ok (.lreturn, 1) := by decide +kernel
theorem own_dmethod_2_code_20 : decode method_2_code 20 = .ok (.iload 4, 2) := by decide +kernel
theorem own_dmethod_2_code_22 : decode method_2_code 22 = .ok (.iconst 2, 1) := by decide +kernel
theorem own_dmethod_2_code_23 : decode method_2_code 23 = .ok (.if_icmp .ne 8, 3) := by decide +kernel
theorem own_dmethod_2_code_26 : decode method_2_code 26 = .ok (.iload_n 2, 1) := by decide +kernel
theorem own_dmethod_2_code_27 : decode method_2_code 27 = .ok (.i2l, 1) := by decide +kernel
theorem own_dmethod_2_code_28 : decode method_2_code 28 = .ok (.lconst 1, 1) := by decide +kernel
theorem own_dmethod_2_code_29 : decode method_2_code 29 = .ok (.lsub, 1) := by decide +kernel
theorem own_dmethod_2_code_30 : decode method_2_code 30 = .ok (.lreturn, 1) := by decide +kernel
theorem own_dmethod_2_code_31 : decode method_2_code 31 = .ok (.iload 4, 2) := by decide +kernel
theorem own_dmethod_2_code_33 : decode method_2_code 33 = .ok (.iconst 3, 1) := by decide +kernel
theorem own_dmethod_2_code_34 : decode method_2_code 34 = .ok (.if_icmp .ne 6, 3) := by decide +kernel
theorem own_dmethod_2_code_37 : decode method_2_code 37 = .ok (.iload_n 3, 1) := by decide +kernel
theorem own_dmethod_2_code_38 : decode method_2_code 38 = .ok (.i2l, 1) := by decide +kernel
theorem own_dmethod_2_code_39 : decode method_2_code 39 = .ok (.lreturn, 1) := by decide +kernel
theorem own_dmethod_2_code_40 : decode method_2_code 40 = .ok (.iload 4, 2) := by decide +kernel
theorem own_dmethod_2_code_42 : decode method_2_code 42 = .ok (.iconst 4, 1) := by decide +kernel
theorem own_dmethod_2_code_43 : decode method_2_code 43 = .ok (.if_icmp .ne 8, 3) := by decide +kernel
theorem own_dmethod_2_code_46 : decode method_2_code 46 = .ok (.iload_n 3, 1) := by decide +kernel
theorem own_dmethod_2_code_47 : decode method_2_code 47 = .ok (.i2l, 1) := by decide +kernel
theorem own_dmethod_2_code_48 : decode method_2_code 48 = .ok (.lconst 1, 1) := by decide +kernel
theorem own_dmethod_2_code_49 : decode method_2_code 49 = .ok (.lsub, 1) := by decide +kernel
theorem own_dmethod_2_code_50 : decode method_2_code 50 = .ok (.lreturn, 1) := by decide +kernel
theorem own_dmethod_2_code_51 : decode method_2_code 51 = .ok (.lload_n 0, 1) := by decide +kernel
theorem own_dmethod_2_code_52 : decode method_2_code 52 = .ok (.l2i, 1) := by decide +kernel
theorem own_dmethod_2_code_53 : decode method_2_code 53 = .ok (.i2l, 1) := by decide +kernel
theorem own_dmethod_2_code_54 : decode method_2_code 54 = .ok (.lreturn, 1) := by decide +kernel
theorem own_b1_ef (m : MethodId) (q1 : Int64) (i1 : Int32) (i2 : Int32) : entryFrame m #[(.long q1), (.int i1), (.int i2)] 5 = mkF m 0 #[.val (.long q1), .second, .val (.int i1), .val (.int i2), .unset] [] := by first | (simp [entryFrame, mkF, argsToLocals, Value.category]; done) | rfl
def own_b1_Q (Z : State) (q1 : Int64) (i1 : Int32) (i2 : Int32) (h0 : Heap) (n0 : Nat) (v : Option Value) (h : Heap) (L : List Loc) : Prop := v = some (.long (own_pick q1 i1 i2)) ∧ Fr n0 L ∧ h = h0
set_option maxRecDepth 65536 in
set_option maxHeartbeats 40000000 in
theorem own_b1 (l : Launch) (Z : State) (a0 : Array Value) (hw : ∀ d ∈ tables_1, d.before a0 Z = true) (ws : List Jvm.Cond) (q1 : Int64) (i1 : Int32) (i2 : Int32) (h0 : Heap) (n0 : Nat) (Z0 : n0 ≤ h0.size) :
    MetFree l (⟨"com/example/heed/heed/RectHoldsPinLaw", "pick", "(JII)J"⟩ : MethodName) (head1 (Jvm.Cond.code (⟨"com/example/heed/heed/RectHoldsPinLaw", "pick", "(JII)J"⟩ : MethodName) method_2_code 5 (some .long) :: ws) ({ frames := 0, cells := 0, slots := 0, locals := 0 } : Room)) (fun aa U => aa = #[(.long q1), (.int i1), (.int i2)] ∧ Z.Warmed39 U.vm ∧ U.heap = h0) (fun _ _ _ _ _ => True) (fun _ U o U' => ∃ v L, o = .returned v ∧ own_b1_Q Z q1 i1 i2 h0 n0 v U'.heap L ∧ FrameEnd U o U' L ({ frames := 0, cells := 0, slots := 0, locals := 0 } : Room).cells ({ frames := 0, cells := 0, slots := 0, locals := 0 } : Room).slots) := by
  refine MetFree.of_bodySF (plainFor_of_name own_pn0) hisR ?_
  have w4 := hw _ (List.mem_of_getElem? (i := 4) rfl)
  intro p e s m args below meth c s₁ Bd hml0 hP hK
  obtain ⟨rfl, hZ, hh⟩ := hP
  have hx := Bd.exec
  have hby := Bd.bytes
  have hlk := Bd.notSynchronized
  have hml : c.maxLocals = 5 := hml0
  have hown : s.vm.findClass "com/example/heed/heed/RectHoldsPinLaw" = some m.cls := findClass_of_methodNamed Bd.named
  have hnm := (name_of_methodNamed Bd.named Bd.method).1
  have X0 : Stand p l e ({ frames := 0, cells := 0, slots := 0, locals := 0 } : Room) s m #[(.long q1), (.int i1), (.int i2)] below meth c s₁ [] 0 0 := Stand.of_body Bd
  have e0 : s₁.heap = h0 := by rw [← hh, Bd.state]; rfl
  have N0 := Fr.nil n0
  have K0 : Keep h0 h0 [] := Keep.refl h0 _
  show own_Goes p e below (own_Fin s (own_b1_Q Z q1 i1 i2 h0 n0) ({ frames := 0, cells := 0, slots := 0, locals := 0 } : Room).cells ({ frames := 0, cells := 0, slots := 0, locals := 0 } : Room).slots) _
  refine own_step (fun t k => castTop (own_b1_ef m q1 i1 i2) k) ?_
  show own_Goes p e below _ (s₁.setTop (mkF m 0 #[.val (.long q1), .second, .val (.int i1), .val (.int i2), .unset] []))
  refine own_step (fun t k => XS.lloadN X0.here hx rfl (hb hby own_dmethod_2_code_0) rfl k) ?_
  show own_Goes p e below _ (s₁.setTop (mkF m 1 #[.val (.long q1), .second, .val (.int i1), .val (.int i2), .unset] [(.long q1)]))
  refine own_step (fun t k => XS.bipush X0.here hx rfl (hb hby own_dmethod_2_code_1) k) ?_
  show own_Goes p e below _ (s₁.setTop (mkF m 3 #[.val (.long q1), .second, .val (.int i1), .val (.int i2), .unset] [(.int (33 : Int32)), (.long q1)]))
  refine own_step (fun t k => XS.lushr X0.here hx rfl (hb hby own_dmethod_2_code_3) rfl k) ?_
  show own_Goes p e below _ (s₁.setTop (mkF m 4 #[.val (.long q1), .second, .val (.int i1), .val (.int i2), .unset] [(.long ((q1.toUInt64 >>> ((33 : Int32) &&& 0x3f).toInt64.toUInt64).toInt64))]))
  refine own_step (fun t k => X0.ldc2Long hx hown (mvT hZ w4) (g := (mkF m 4 #[.val (.long q1), .second, .val (.int i1), .val (.int i2), .unset] [(.long ((q1.toUInt64 >>> ((33 : Int32) &&& 0x3f).toInt64.toUInt64).toInt64))])) rfl (hb hby own_dmethod_2_code_4) _ k) ?_
  show own_Goes p e below _ (s₁.setTop (mkF m 7 #[.val (.long q1), .second, .val (.int i1), .val (.int i2), .unset] [(.long (7 : Int64)), (.long ((q1.toUInt64 >>> ((33 : Int32) &&& 0x3f).toInt64.toUInt64).toInt64))]))
  refine own_step (fun t k => XS.land X0.here hx rfl (hb hby own_dmethod_2_code_7) rfl k) ?_
  show own_Goes p e below _ (s₁.setTop (mkF m 8 #[.val (.long q1), .second, .val (.int i1), .val (.int i2), .unset] [(.long (((q1.toUInt64 >>> ((33 : Int32) &&& 0x3f).toInt64.toUInt64).toInt64) &&& (7 : Int64)))]))
  refine own_step (fun t k => XS.l2i X0.here hx rfl (hb hby own_dmethod_2_code_8) rfl k) ?_
  show own_Goes p e below _ (s₁.setTop (mkF m 9 #[.val (.long q1), .second, .val (.int i1), .val (.int i2), .unset] [(.int ((((q1.toUInt64 >>> ((33 : Int32) &&& 0x3f).toInt64.toUInt64).toInt64) &&& (7 : Int64)).toInt32))]))
  refine own_step (fun t k => XS.istore X0.here hx rfl (hb hby own_dmethod_2_code_9) rfl (l' := #[.val (.long q1), .second, .val (.int i1), .val (.int i2), .val (.int ((((q1.toUInt64 >>> ((33 : Int32) &&& 0x3f).toInt64.toUInt64).toInt64) &&& (7 : Int64)).toInt32))]) rfl k) ?_
  show own_Goes p e below _ (s₁.setTop (mkF m 11 #[.val (.long q1), .second, .val (.int i1), .val (.int i2), .val (.int ((((q1.toUInt64 >>> ((33 : Int32) &&& 0x3f).toInt64.toUInt64).toInt64) &&& (7 : Int64)).toInt32))] []))
  generalize hv_vsel : ((((q1.toUInt64 >>> ((33 : Int32) &&& 0x3f).toInt64.toUInt64).toInt64) &&& (7 : Int64)).toInt32) = vsel
  refine own_step (fun t k => XS.iload X0.here hx rfl (hb hby own_dmethod_2_code_11) rfl k) ?_
  show own_Goes p e below _ (s₁.setTop (mkF m 13 #[.val (.long q1), .second, .val (.int i1), .val (.int i2), .val (.int vsel)] [(.int vsel)]))
  refine own_step (fun t k => XS.iconst X0.here hx rfl (hb hby own_dmethod_2_code_13) k) ?_
  show own_Goes p e below _ (s₁.setTop (mkF m 14 #[.val (.long q1), .second, .val (.int i1), .val (.int i2), .val (.int vsel)] [(.int (1 : Int32)), (.int vsel)]))
  by_cases hc5 : vsel = (1 : Int32)
  · --
    refine own_step (fun t k => XS.icmpNo X0.here hx rfl (hb hby own_dmethod_2_code_14) rfl (teq hc5).2 k) ?_
    show own_Goes p e below _ (s₁.setTop (mkF m 17 #[.val (.long q1), .second, .val (.int i1), .val (.int i2), .val (.int vsel)] []))
    refine own_step (fun t k => XS.iloadN X0.here hx rfl (hb hby own_dmethod_2_code_17) rfl k) ?_
    show own_Goes p e below _ (s₁.setTop (mkF m 18 #[.val (.long q1), .second, .val (.int i1), .val (.int i2), .val (.int vsel)] [(.int i1)]))
    refine own_step (fun t k => XS.i2l X0.here hx rfl (hb hby own_dmethod_2_code_18) rfl k) ?_
    show own_Goes p e below _ (s₁.setTop (mkF m 19 #[.val (.long q1), .second, .val (.int i1), .val (.int i2), .val (.int vsel)] [(.long (i1.toInt64))]))
    refine own_retV X0 hx hlk Bd.returns (w := (.long (i1.toInt64))) rfl (Or.inr (Or.inl ⟨rfl, rfl, _, rfl⟩)) (hb hby own_dmethod_2_code_19) ?_ (by decide) (by decide)
    show own_b1_Q Z q1 i1 i2 h0 n0 _ s₁.heap _
    rw [e0]
    exact ⟨(by show some (Value.long (i1.toInt64)) = some (Value.long (own_pick q1 i1 i2)); unfold own_pick own_sel; rw [hv_vsel]; simp only [if_pos hc5]), N0, rfl⟩
  · --
    refine own_step (fun t k => XS.icmpYes X0.here hx rfl (pc0 := 14) (pc' := 20) rfl (hb hby own_dmethod_2_code_14) rfl (feq hc5).2 (by decide) (by decide) k) ?_
    show own_Goes p e below _ (s₁.setTop (mkF m 20 #[.val (.long q1), .second, .val (.int i1), .val (.int i2), .val (.int vsel)] []))
    refine own_step (fun t k => XS.iload X0.here hx rfl (hb hby own_dmethod_2_code_20) rfl k) ?_
    show own_Goes p e below _ (s₁.setTop (mkF m 22 #[.val (.long q1), .second, .val (.int i1), .val (.int i2), .val (.int vsel)] [(.int vsel)]))
    refine own_step (fun t k => XS.iconst X0.here hx rfl (hb hby own_dmethod_2_code_22) k) ?_
    show own_Goes p e below _ (s₁.setTop (mkF m 23 #[.val (.long q1), .second, .val (.int i1), .val (.int i2), .val (.int vsel)] [(.int (2 : Int32)), (.int vsel)]))
    by_cases hc6 : vsel = (2 : Int32)
    · --
      refine own_step (fun t k => XS.icmpNo X0.here hx rfl (hb hby own_dmethod_2_code_23) rfl (teq hc6).2 k) ?_
      show own_Goes p e below _ (s₁.setTop (mkF m 26 #[.val (.long q1), .second, .val (.int i1), .val (.int i2), .val (.int vsel)] []))
      refine own_step (fun t k => XS.iloadN X0.here hx rfl (hb hby own_dmethod_2_code_26) rfl k) ?_
      show own_Goes p e below _ (s₁.setTop (mkF m 27 #[.val (.long q1), .second, .val (.int i1), .val (.int i2), .val (.int vsel)] [(.int i1)]))
      refine own_step (fun t k => XS.i2l X0.here hx rfl (hb hby own_dmethod_2_code_27) rfl k) ?_
      show own_Goes p e below _ (s₁.setTop (mkF m 28 #[.val (.long q1), .second, .val (.int i1), .val (.int i2), .val (.int vsel)] [(.long (i1.toInt64))]))
      refine own_step (fun t k => XS.lconst X0.here hx rfl (hb hby own_dmethod_2_code_28) k) ?_
      show own_Goes p e below _ (s₁.setTop (mkF m 29 #[.val (.long q1), .second, .val (.int i1), .val (.int i2), .val (.int vsel)] [(.long (1 : Int64)), (.long (i1.toInt64))]))
      refine own_step (fun t k => XS.lsub X0.here hx rfl (hb hby own_dmethod_2_code_29) rfl k) ?_
      show own_Goes p e below _ (s₁.setTop (mkF m 30 #[.val (.long q1), .second, .val (.int i1), .val (.int i2), .val (.int vsel)] [(.long ((i1.toInt64) - (1 : Int64)))]))
      refine own_retV X0 hx hlk Bd.returns (w := (.long ((i1.toInt64) - (1 : Int64)))) rfl (Or.inr (Or.inl ⟨rfl, rfl, _, rfl⟩)) (hb hby own_dmethod_2_code_30) ?_ (by decide) (by decide)
      show own_b1_Q Z q1 i1 i2 h0 n0 _ s₁.heap _
      rw [e0]
      exact ⟨(by show some (Value.long ((i1.toInt64) - (1 : Int64))) = some (Value.long (own_pick q1 i1 i2)); unfold own_pick own_sel; rw [hv_vsel]; simp only [if_neg hc5, if_pos hc6]), N0, rfl⟩
    · --
      refine own_step (fun t k => XS.icmpYes X0.here hx rfl (pc0 := 23) (pc' := 31) rfl (hb hby own_dmethod_2_code_23) rfl (feq hc6).2 (by decide) (by decide) k) ?_
      show own_Goes p e below _ (s₁.setTop (mkF m 31 #[.val (.long q1), .second, .val (.int i1), .val (.int i2), .val (.int vsel)] []))
      refine own_step (fun t k => XS.iload X0.here hx rfl (hb hby own_dmethod_2_code_31) rfl k) ?_
      show own_Goes p e below _ (s₁.setTop (mkF m 33 #[.val (.long q1), .second, .val (.int i1), .val (.int i2), .val (.int vsel)] [(.int vsel)]))
      refine own_step (fun t k => XS.iconst X0.here hx rfl (hb hby own_dmethod_2_code_33) k) ?_
      show own_Goes p e below _ (s₁.setTop (mkF m 34 #[.val (.long q1), .second, .val (.int i1), .val (.int i2), .val (.int vsel)] [(.int (3 : Int32)), (.int vsel)]))
      by_cases hc7 : vsel = (3 : Int32)
      · --
        refine own_step (fun t k => XS.icmpNo X0.here hx rfl (hb hby own_dmethod_2_code_34) rfl (teq hc7).2 k) ?_
        show own_Goes p e below _ (s₁.setTop (mkF m 37 #[.val (.long q1), .second, .val (.int i1), .val (.int i2), .val (.int vsel)] []))
        refine own_step (fun t k => XS.iloadN X0.here hx rfl (hb hby own_dmethod_2_code_37) rfl k) ?_
        show own_Goes p e below _ (s₁.setTop (mkF m 38 #[.val (.long q1), .second, .val (.int i1), .val (.int i2), .val (.int vsel)] [(.int i2)]))
        refine own_step (fun t k => XS.i2l X0.here hx rfl (hb hby own_dmethod_2_code_38) rfl k) ?_
        show own_Goes p e below _ (s₁.setTop (mkF m 39 #[.val (.long q1), .second, .val (.int i1), .val (.int i2), .val (.int vsel)] [(.long (i2.toInt64))]))
        refine own_retV X0 hx hlk Bd.returns (w := (.long (i2.toInt64))) rfl (Or.inr (Or.inl ⟨rfl, rfl, _, rfl⟩)) (hb hby own_dmethod_2_code_39) ?_ (by decide) (by decide)
        show own_b1_Q Z q1 i1 i2 h0 n0 _ s₁.heap _
        rw [e0]
        exact ⟨(by show some (Value.long (i2.toInt64)) = some (Value.long (own_pick q1 i1 i2)); unfold own_pick own_sel; rw [hv_vsel]; simp only [if_neg hc5, if_neg hc6, if_pos hc7]), N0, rfl⟩
      · --
        refine own_step (fun t k => XS.icmpYes X0.here hx rfl (pc0 := 34) (pc' := 40) rfl (hb hby own_dmethod_2_code_34) rfl (feq hc7).2 (by decide) (by decide) k) ?_
        show own_Goes p e below _ (s₁.setTop (mkF m 40 #[.val (.long q1), .second, .val (.int i1), .val (.int i2), .val (.int vsel)] []))
        refine own_step (fun t k => XS.iload X0.here hx rfl (hb hby own_dmethod_2_code_40) rfl k) ?_
        show own_Goes p e below _ (s₁.setTop (mkF m 42 #[.val (.long q1), .second, .val (.int i1), .val (.int i2), .val (.int vsel)] [(.int vsel)]))
        refine own_step (fun t k => XS.iconst X0.here hx rfl (hb hby own_dmethod_2_code_42) k) ?_
        show own_Goes p e below _ (s₁.setTop (mkF m 43 #[.val (.long q1), .second, .val (.int i1), .val (.int i2), .val (.int vsel)] [(.int (4 : Int32)), (.int vsel)]))
        by_cases hc8 : vsel = (4 : Int32)
        · --
          refine own_step (fun t k => XS.icmpNo X0.here hx rfl (hb hby own_dmethod_2_code_43) rfl (teq hc8).2 k) ?_
          show own_Goes p e below _ (s₁.setTop (mkF m 46 #[.val (.long q1), .second, .val (.int i1), .val (.int i2), .val (.int vsel)] []))
          refine own_step (fun t k => XS.iloadN X0.here hx rfl (hb hby own_dmethod_2_code_46) rfl k) ?_
          show own_Goes p e below _ (s₁.setTop (mkF m 47 #[.val (.long q1), .second, .val (.int i1), .val (.int i2), .val (.int vsel)] [(.int i2)]))
          refine own_step (fun t k => XS.i2l X0.here hx rfl (hb hby own_dmethod_2_code_47) rfl k) ?_
          show own_Goes p e below _ (s₁.setTop (mkF m 48 #[.val (.long q1), .second, .val (.int i1), .val (.int i2), .val (.int vsel)] [(.long (i2.toInt64))]))
          refine own_step (fun t k => XS.lconst X0.here hx rfl (hb hby own_dmethod_2_code_48) k) ?_
          show own_Goes p e below _ (s₁.setTop (mkF m 49 #[.val (.long q1), .second, .val (.int i1), .val (.int i2), .val (.int vsel)] [(.long (1 : Int64)), (.long (i2.toInt64))]))
          refine own_step (fun t k => XS.lsub X0.here hx rfl (hb hby own_dmethod_2_code_49) rfl k) ?_
          show own_Goes p e below _ (s₁.setTop (mkF m 50 #[.val (.long q1), .second, .val (.int i1), .val (.int i2), .val (.int vsel)] [(.long ((i2.toInt64) - (1 : Int64)))]))
          refine own_retV X0 hx hlk Bd.returns (w := (.long ((i2.toInt64) - (1 : Int64)))) rfl (Or.inr (Or.inl ⟨rfl, rfl, _, rfl⟩)) (hb hby own_dmethod_2_code_50) ?_ (by decide) (by decide)
          show own_b1_Q Z q1 i1 i2 h0 n0 _ s₁.heap _
          rw [e0]
          exact ⟨(by show some (Value.long ((i2.toInt64) - (1 : Int64))) = some (Value.long (own_pick q1 i1 i2)); unfold own_pick own_sel; rw [hv_vsel]; simp only [if_neg hc5, if_neg hc6, if_neg hc7, if_pos hc8]), N0, rfl⟩
        · --
          refine own_step (fun t k => XS.icmpYes X0.here hx rfl (pc0 := 43) (pc' := 51) rfl (hb hby own_dmethod_2_code_43) rfl (feq hc8).2 (by decide) (by decide) k) ?_
          show own_Goes p e below _ (s₁.setTop (mkF m 51 #[.val (.long q1), .second, .val (.int i1), .val (.int i2), .val (.int vsel)] []))
          refine own_step (fun t k => XS.lloadN X0.here hx rfl (hb hby own_dmethod_2_code_51) rfl k) ?_
          show own_Goes p e below _ (s₁.setTop (mkF m 52 #[.val (.long q1), .second, .val (.int i1), .val (.int i2), .val (.int vsel)] [(.long q1)]))
          refine own_step (fun t k => XS.l2i X0.here hx rfl (hb hby own_dmethod_2_code_52) rfl k) ?_
          show own_Goes p e below _ (s₁.setTop (mkF m 53 #[.val (.long q1), .second, .val (.int i1), .val (.int i2), .val (.int vsel)] [(.int (q1.toInt32))]))
          refine own_step (fun t k => XS.i2l X0.here hx rfl (hb hby own_dmethod_2_code_53) rfl k) ?_
          show own_Goes p e below _ (s₁.setTop (mkF m 54 #[.val (.long q1), .second, .val (.int i1), .val (.int i2), .val (.int vsel)] [(.long ((q1.toInt32).toInt64))]))
          refine own_retV X0 hx hlk Bd.returns (w := (.long ((q1.toInt32).toInt64))) rfl (Or.inr (Or.inl ⟨rfl, rfl, _, rfl⟩)) (hb hby own_dmethod_2_code_54) ?_ (by decide) (by decide)
          show own_b1_Q Z q1 i1 i2 h0 n0 _ s₁.heap _
          rw [e0]
          exact ⟨(by show some (Value.long ((q1.toInt32).toInt64)) = some (Value.long (own_pick q1 i1 i2)); unfold own_pick own_sel; rw [hv_vsel]; simp only [if_neg hc5, if_neg hc6, if_neg hc7, if_neg hc8]), N0, rfl⟩
theorem own_dmethod_3_code_0 : decode method_3_code 0 = .ok (.lload_n 0, 1) := by decide +kernel
theorem own_dmethod_3_code_1 : decode method_3_code 1 = .ok (.l2d, 1) := by decide +kernel
theorem own_dmethod_3_code_2 : decode method_3_code 2 = .ok (.dstore 4, 2) := by decide +kernel
theorem own_dmethod_3_code_4 : decode method_3_code 4 = .ok (.lload_n 2, 1) := by decide +kernel
theorem own_dmethod_3_code_5 : decode method_3_code 5 = .ok (.bipush 32, 2) := by decide +kernel
theorem own_dmethod_3_code_7 : decode method_3_code 7 = .ok (.lushr, 1) := by decide +kernel
theorem own_dmethod_3_code_8 : decode method_3_code 8 = .ok (.lconst 1, 1) := by decide +kernel
theorem own_dmethod_3_code_9 : decode method_3_code 9 = .ok (.land, 1) := by decide +kernel
theorem own_dmethod_3_code_10 : decode method_3_code 10 = .ok (.lconst 0, 1) := by decide +kernel
theorem own_dmethod_3_code_11 : decode method_3_code 11 = .ok (.lcmp, 1) := by decide +kernel
theorem own_dmethod_3_code_12 : decode method_3_code 12 = .ok (.ifCond .eq 11, 3) := by decide +kernel
theorem own_dmethod_3_code_15 : decode method_3_code 15 = .ok (.dload 4, 2) := by decide +kernel
theorem own_dmethod_3_code_17 : decode method_3_code 17 = .ok (.ldc2_w 9, 3) := by decide +kernel
theorem own_dmethod_3_code_20 : decode method_3_code 20 = .ok (.dadd, 1) := by decide +kernel
theorem own_dmethod_3_code_21 : decode method_3_code 21 = .ok (.dstore 4, 2) := by decide +kernel
theorem own_dmethod_3_code_23 : decode method_3_code 23 = .ok (.dload 4, 2) := by decide +kernel
theorem own_dmethod_3_code_25 : decode method_3_code 25 = .ok (.dreturn, 1) := by decide +kernel
theorem own_b2_ef (m : MethodId) (q1 : Int64) (q2 : Int64) : entryFrame m #[(.long q1), (.long q2)] 6 = mkF m 0 #[.val (.long q1), .second, .val (.long q2), .second, .unset, .unset] [] := by first | (simp [entryFrame, mkF, argsToLocals, Value.category]; done) | rfl
def own_b2_Q (Z : State) (q1 : Int64) (q2 : Int64) (h0 : Heap) (n0 : Nat) (v : Option Value) (h : Heap) (L : List Loc) : Prop := v = some (.double (own_coord q1 q2)) ∧ Fr n0 L ∧ h = h0
set_option maxRecDepth 65536 in
set_option maxHeartbeats 40000000 in
theorem own_b2 (l : Launch) (Z : State) (a0 : Array Value) (hw : ∀ d ∈ tables_1, d.before a0 Z = true) (ws : List Jvm.Cond) (q1 : Int64) (q2 : Int64) (h0 : Heap) (n0 : Nat) (Z0 : n0 ≤ h0.size) :
    MetFree l (⟨"com/example/heed/heed/RectHoldsPinLaw", "coord", "(JJ)D"⟩ : MethodName) (head1 (Jvm.Cond.code (⟨"com/example/heed/heed/RectHoldsPinLaw", "coord", "(JJ)D"⟩ : MethodName) method_3_code 6 (some .double) :: ws) ({ frames := 0, cells := 0, slots := 0, locals := 0 } : Room)) (fun aa U => aa = #[(.long q1), (.long q2)] ∧ Z.Warmed39 U.vm ∧ U.heap = h0) (fun _ _ _ _ _ => True) (fun _ U o U' => ∃ v L, o = .returned v ∧ own_b2_Q Z q1 q2 h0 n0 v U'.heap L ∧ FrameEnd U o U' L ({ frames := 0, cells := 0, slots := 0, locals := 0 } : Room).cells ({ frames := 0, cells := 0, slots := 0, locals := 0 } : Room).slots) := by
  refine MetFree.of_bodySF (plainFor_of_name own_pn0) hisR ?_
  have w8 := hw _ (List.mem_of_getElem? (i := 8) rfl)
  intro p e s m args below meth c s₁ Bd hml0 hP hK
  obtain ⟨rfl, hZ, hh⟩ := hP
  have hx := Bd.exec
  have hby := Bd.bytes
  have hlk := Bd.notSynchronized
  have hml : c.maxLocals = 6 := hml0
  have hown : s.vm.findClass "com/example/heed/heed/RectHoldsPinLaw" = some m.cls := findClass_of_methodNamed Bd.named
  have hnm := (name_of_methodNamed Bd.named Bd.method).1
  have X0 : Stand p l e ({ frames := 0, cells := 0, slots := 0, locals := 0 } : Room) s m #[(.long q1), (.long q2)] below meth c s₁ [] 0 0 := Stand.of_body Bd
  have e0 : s₁.heap = h0 := by rw [← hh, Bd.state]; rfl
  have N0 := Fr.nil n0
  have K0 : Keep h0 h0 [] := Keep.refl h0 _
  show own_Goes p e below (own_Fin s (own_b2_Q Z q1 q2 h0 n0) ({ frames := 0, cells := 0, slots := 0, locals := 0 } : Room).cells ({ frames := 0, cells := 0, slots := 0, locals := 0 } : Room).slots) _
  refine own_step (fun t k => castTop (own_b2_ef m q1 q2) k) ?_
  show own_Goes p e below _ (s₁.setTop (mkF m 0 #[.val (.long q1), .second, .val (.long q2), .second, .unset, .unset] []))
  refine own_step (fun t k => XS.lloadN X0.here hx rfl (hb hby own_dmethod_3_code_0) rfl k) ?_
  show own_Goes p e below _ (s₁.setTop (mkF m 1 #[.val (.long q1), .second, .val (.long q2), .second, .unset, .unset] [(.long q1)]))
  refine own_step (fun t k => XS.l2dS X0.here hx rfl (hb hby own_dmethod_3_code_1) rfl rfl k) ?_
  show own_Goes p e below _ (s₁.setTop (mkF m 2 #[.val (.long q1), .second, .val (.long q2), .second, .unset, .unset] [(.double (FP.l2d q1))]))
  refine own_step (fun t k => XS.dstore X0.here hx rfl (hb hby own_dmethod_3_code_2) rfl (l' := #[.val (.long q1), .second, .val (.long q2), .second, .val (.double (FP.l2d q1)), .second]) rfl k) ?_
  show own_Goes p e below _ (s₁.setTop (mkF m 4 #[.val (.long q1), .second, .val (.long q2), .second, .val (.double (FP.l2d q1)), .second] []))
  refine own_step (fun t k => XS.lloadN X0.here hx rfl (hb hby own_dmethod_3_code_4) rfl k) ?_
  show own_Goes p e below _ (s₁.setTop (mkF m 5 #[.val (.long q1), .second, .val (.long q2), .second, .val (.double (FP.l2d q1)), .second] [(.long q2)]))
  refine own_step (fun t k => XS.bipush X0.here hx rfl (hb hby own_dmethod_3_code_5) k) ?_
  show own_Goes p e below _ (s₁.setTop (mkF m 7 #[.val (.long q1), .second, .val (.long q2), .second, .val (.double (FP.l2d q1)), .second] [(.int (32 : Int32)), (.long q2)]))
  refine own_step (fun t k => XS.lushr X0.here hx rfl (hb hby own_dmethod_3_code_7) rfl k) ?_
  show own_Goes p e below _ (s₁.setTop (mkF m 8 #[.val (.long q1), .second, .val (.long q2), .second, .val (.double (FP.l2d q1)), .second] [(.long ((q2.toUInt64 >>> ((32 : Int32) &&& 0x3f).toInt64.toUInt64).toInt64))]))
  refine own_step (fun t k => XS.lconst X0.here hx rfl (hb hby own_dmethod_3_code_8) k) ?_
  show own_Goes p e below _ (s₁.setTop (mkF m 9 #[.val (.long q1), .second, .val (.long q2), .second, .val (.double (FP.l2d q1)), .second] [(.long (1 : Int64)), (.long ((q2.toUInt64 >>> ((32 : Int32) &&& 0x3f).toInt64.toUInt64).toInt64))]))
  refine own_step (fun t k => XS.land X0.here hx rfl (hb hby own_dmethod_3_code_9) rfl k) ?_
  show own_Goes p e below _ (s₁.setTop (mkF m 10 #[.val (.long q1), .second, .val (.long q2), .second, .val (.double (FP.l2d q1)), .second] [(.long (((q2.toUInt64 >>> ((32 : Int32) &&& 0x3f).toInt64.toUInt64).toInt64) &&& (1 : Int64)))]))
  refine own_step (fun t k => XS.lconst X0.here hx rfl (hb hby own_dmethod_3_code_10) k) ?_
  show own_Goes p e below _ (s₁.setTop (mkF m 11 #[.val (.long q1), .second, .val (.long q2), .second, .val (.double (FP.l2d q1)), .second] [(.long (0 : Int64)), (.long (((q2.toUInt64 >>> ((32 : Int32) &&& 0x3f).toInt64.toUInt64).toInt64) &&& (1 : Int64)))]))
  refine own_step (fun t k => XS.lcmp X0.here hx rfl (hb hby own_dmethod_3_code_11) rfl k) ?_
  show own_Goes p e below _ (s₁.setTop (mkF m 12 #[.val (.long q1), .second, .val (.long q2), .second, .val (.double (FP.l2d q1)), .second] [(.int (lcmpW (((q2.toUInt64 >>> ((32 : Int32) &&& 0x3f).toInt64.toUInt64).toInt64) &&& (1 : Int64)) (0 : Int64)))]))
  refine own_step (S' := s₁.setTop (mkF m 23 #[.val (.long q1), .second, .val (.long q2), .second, .val (.double (if (((q2.toUInt64 >>> ((32 : Int32) &&& 0x3f).toInt64.toUInt64).toInt64) &&& (1 : Int64)) = (0 : Int64) then (FP.l2d q1) else (FP.dadd (FP.l2d q1) (4602678819172646912 : UInt64)))), .second] [])) (fun t k => ?_) ?_
  · show Steps p.tables e below (s₁.setTop (mkF m 12 #[.val (.long q1), .second, .val (.long q2), .second, .val (.double (FP.l2d q1)), .second] [(.int (lcmpW (((q2.toUInt64 >>> ((32 : Int32) &&& 0x3f).toInt64.toUInt64).toInt64) &&& (1 : Int64)) (0 : Int64)))])) _
    by_cases hc10 : (((q2.toUInt64 >>> ((32 : Int32) &&& 0x3f).toInt64.toUInt64).toInt64) &&& (1 : Int64)) = (0 : Int64)
    · --
      refine XS.ifYes X0.here hx rfl (pc0 := 12) (pc' := 23) rfl (hb hby own_dmethod_3_code_12) rfl ((if0 _ _).trans (teq ((lw_eq (((q2.toUInt64 >>> ((32 : Int32) &&& 0x3f).toInt64.toUInt64).toInt64) &&& (1 : Int64)) (0 : Int64)).mpr hc10)).1) (by decide) (by decide) ?_
      show Steps p.tables e below (s₁.setTop (mkF m 23 #[.val (.long q1), .second, .val (.long q2), .second, .val (.double (FP.l2d q1)), .second] [])) _
      simp only [if_pos hc10] at k
      exact k
    · --
      refine XS.ifNo X0.here hx rfl (hb hby own_dmethod_3_code_12) rfl ((if0 _ _).trans (feq (fun zq => hc10 ((lw_eq (((q2.toUInt64 >>> ((32 : Int32) &&& 0x3f).toInt64.toUInt64).toInt64) &&& (1 : Int64)) (0 : Int64)).mp zq))).1) ?_
      show Steps p.tables e below (s₁.setTop (mkF m 15 #[.val (.long q1), .second, .val (.long q2), .second, .val (.double (FP.l2d q1)), .second] [])) _
      refine XS.dload X0.here hx rfl (hb hby own_dmethod_3_code_15) rfl ?_
      show Steps p.tables e below (s₁.setTop (mkF m 17 #[.val (.long q1), .second, .val (.long q2), .second, .val (.double (FP.l2d q1)), .second] [(.double (FP.l2d q1))])) _
      refine X0.ldc2DoubleC hx hown (mvT hZ w8) (g := (mkF m 17 #[.val (.long q1), .second, .val (.long q2), .second, .val (.double (FP.l2d q1)), .second] [(.double (FP.l2d q1))])) rfl (hb hby own_dmethod_3_code_17) _ ?_
      show Steps p.tables e below (s₁.setTop (mkF m 20 #[.val (.long q1), .second, .val (.long q2), .second, .val (.double (FP.l2d q1)), .second] [(.double (4602678819172646912 : UInt64)), (.double (FP.l2d q1))])) _
      refine XS.daddS X0.here hx rfl (hb hby own_dmethod_3_code_20) rfl (Jvm.Free.Fl.dadd_out (Jvm.Free.Fl.l2d_fin _).noNaN own_half) rfl ?_
      show Steps p.tables e below (s₁.setTop (mkF m 21 #[.val (.long q1), .second, .val (.long q2), .second, .val (.double (FP.l2d q1)), .second] [(.double (FP.dadd (FP.l2d q1) (4602678819172646912 : UInt64)))])) _
      refine XS.dstore X0.here hx rfl (hb hby own_dmethod_3_code_21) rfl (l' := #[.val (.long q1), .second, .val (.long q2), .second, .val (.double (FP.dadd (FP.l2d q1) (4602678819172646912 : UInt64))), .second]) rfl ?_
      show Steps p.tables e below (s₁.setTop (mkF m 23 #[.val (.long q1), .second, .val (.long q2), .second, .val (.double (FP.dadd (FP.l2d q1) (4602678819172646912 : UInt64))), .second] [])) _
      simp only [if_neg hc10] at k
      exact k
  show own_Goes p e below _ (s₁.setTop (mkF m 23 #[.val (.long q1), .second, .val (.long q2), .second, .val (.double (if (((q2.toUInt64 >>> ((32 : Int32) &&& 0x3f).toInt64.toUInt64).toInt64) &&& (1 : Int64)) = (0 : Int64) then (FP.l2d q1) else (FP.dadd (FP.l2d q1) (4602678819172646912 : UInt64)))), .second] []))
  refine own_step (fun t k => XS.dload X0.here hx rfl (hb hby own_dmethod_3_code_23) rfl k) ?_
  show own_Goes p e below _ (s₁.setTop (mkF m 25 #[.val (.long q1), .second, .val (.long q2), .second, .val (.double (if (((q2.toUInt64 >>> ((32 : Int32) &&& 0x3f).toInt64.toUInt64).toInt64) &&& (1 : Int64)) = (0 : Int64) then (FP.l2d q1) else (FP.dadd (FP.l2d q1) (4602678819172646912 : UInt64)))), .second] [(.double (if (((q2.toUInt64 >>> ((32 : Int32) &&& 0x3f).toInt64.toUInt64).toInt64) &&& (1 : Int64)) = (0 : Int64) then (FP.l2d q1) else (FP.dadd (FP.l2d q1) (4602678819172646912 : UInt64))))]))
  refine own_retV X0 hx hlk Bd.returns (w := (.double (if (((q2.toUInt64 >>> ((32 : Int32) &&& 0x3f).toInt64.toUInt64).toInt64) &&& (1 : Int64)) = (0 : Int64) then (FP.l2d q1) else (FP.dadd (FP.l2d q1) (4602678819172646912 : UInt64))))) rfl (Or.inr (Or.inr (Or.inl ⟨rfl, rfl, _, rfl⟩))) (hb hby own_dmethod_3_code_25) ?_ (by decide) (by decide)
  show own_b2_Q Z q1 q2 h0 n0 _ s₁.heap _
  rw [e0]
  exact ⟨rfl, N0, rfl⟩
theorem own_pn1 : plainName "com/example/heed/heed/Rect" = true := by first | (simp [plainName, overriddenIn]; done) | decide +kernel
theorem own_dprog_50_method_8_code_0 : decode prog_50_method_8_code 0 = .ok (.iload_n 0, 1) := by decide +kernel
theorem own_dprog_50_method_8_code_1 : decode prog_50_method_8_code 1 = .ok (.i2d, 1) := by decide +kernel
theorem own_dprog_50_method_8_code_2 : decode prog_50_method_8_code 2 = .ok (.dload 4, 2) := by decide +kernel
theorem own_dprog_50_method_8_code_4 : decode prog_50_method_8_code 4 = .ok (.dcmp .g, 1) := by decide +kernel
theorem own_dprog_50_method_8_code_5 : decode prog_50_method_8_code 5 = .ok (.ifCond .gt 31, 3) := by decide +kernel
theorem own_dprog_50_method_8_code_36 : decode prog_50_method_8_code 36 = .ok (.iconst 0, 1) := by decide +kernel
theorem own_dprog_50_method_8_code_8 : decode prog_50_method_8_code 8 = .ok (.dload 4, 2) := by decide +kernel
theorem own_dprog_50_method_8_code_10 : decode prog_50_method_8_code 10 = .ok (.iload_n 2, 1) := by decide +kernel
theorem own_dprog_50_method_8_code_11 : decode prog_50_method_8_code 11 = .ok (.i2d, 1) := by decide +kernel
theorem own_dprog_50_method_8_code_12 : decode prog_50_method_8_code 12 = .ok (.dcmp .g, 1) := by decide +kernel
theorem own_dprog_50_method_8_code_13 : decode prog_50_method_8_code 13 = .ok (.ifCond .ge 23, 3) := by decide +kernel
theorem own_dprog_50_method_8_code_16 : decode prog_50_method_8_code 16 = .ok (.iload_n 1, 1) := by decide +kernel
theorem own_dprog_50_method_8_code_17 : decode prog_50_method_8_code 17 = .ok (.i2d, 1) := by decide +kernel
theorem own_dprog_50_method_8_code_18 : decode prog_50_method_8_code 18 = .ok (.dload 6, 2) := by decide +kernel
theorem own_dprog_50_method_8_code_20 : decode prog_50_method_8_code 20 = .ok (.dcmp .g, 1) := by decide +kernel
theorem own_dprog_50_method_8_code_21 : decode prog_50_method_8_code 21 = .ok (.ifCond .gt 15, 3) := by decide +kernel
theorem own_dprog_50_method_8_code_24 : decode prog_50_method_8_code 24 = .ok (.dload 6, 2) := by decide +kernel
theorem own_dprog_50_method_8_code_26 : decode prog_50_method_8_code 26 = .ok (.iload_n 3, 1) := by decide +kernel
theorem own_dprog_50_method_8_code_27 : decode prog_50_method_8_code 27 = .ok (.i2d, 1) := by decide +kernel
theorem own_dprog_50_method_8_code_28 : decode prog_50_method_8_code 28 = .ok (.dcmp .g, 1) := by decide +kernel
theorem own_dprog_50_method_8_code_29 : decode prog_50_method_8_code 29 = .ok (.ifCond .ge 7, 3) := by decide +kernel
theorem own_dprog_50_method_8_code_32 : decode prog_50_method_8_code 32 = .ok (.iconst 1, 1) := by decide +kernel
theorem own_dprog_50_method_8_code_33 : decode prog_50_method_8_code 33 = .ok (.goto 4, 3) := by decide +kernel
theorem own_dprog_50_method_8_code_37 : decode prog_50_method_8_code 37 = .ok (.ireturn, 1) := by decide +kernel
theorem own_b3_ef (m : MethodId) (i1 : Int32) (i2 : Int32) (i3 : Int32) (i4 : Int32) (d1 : UInt64) (d2 : UInt64) : entryFrame m #[(.int i1), (.int i2), (.int i3), (.int i4), (.double d1), (.double d2)] 8 = mkF m 0 #[.val (.int i1), .val (.int i2), .val (.int i3), .val (.int i4), .val (.double d1), .second, .val (.double d2), .second] [] := by first | (simp [entryFrame, mkF, argsToLocals, Value.category]; done) | rfl
def own_b3_Q (Z : State) (i1 : Int32) (i2 : Int32) (i3 : Int32) (i4 : Int32) (d1 : UInt64) (d2 : UInt64) (h0 : Heap) (n0 : Nat) (v : Option Value) (h : Heap) (L : List Loc) : Prop := v = some (.int (if (0 : Int32) < (own_cg (FP.i2d i1) d1) then (0 : Int32) else (if (own_cg d1 (FP.i2d i3)) < (0 : Int32) then (if (0 : Int32) < (own_cg (FP.i2d i2) d2) then (0 : Int32) else (if (own_cg d2 (FP.i2d i4)) < (0 : Int32) then (1 : Int32) else (0 : Int32))) else (0 : Int32)))) ∧ Fr n0 L ∧ h = h0
set_option maxRecDepth 65536 in
set_option maxHeartbeats 40000000 in
theorem own_b3 (l : Launch) (Z : State) (a0 : Array Value) (hw : ∀ d ∈ tables_1, d.before a0 Z = true) (ws : List Jvm.Cond) (i1 : Int32) (i2 : Int32) (i3 : Int32) (i4 : Int32) (d1 : UInt64) (d2 : UInt64) (h0 : Heap) (n0 : Nat) (Z0 : n0 ≤ h0.size) :
    MetFree l (⟨"com/example/heed/heed/Rect", "holds", "(IIIIDD)Z"⟩ : MethodName) (head1 (Jvm.Cond.code (⟨"com/example/heed/heed/Rect", "holds", "(IIIIDD)Z"⟩ : MethodName) prog_50_method_8_code 8 (some .boolean) :: ws) ({ frames := 0, cells := 0, slots := 0, locals := 0 } : Room)) (fun aa U => aa = #[(.int i1), (.int i2), (.int i3), (.int i4), (.double d1), (.double d2)] ∧ Z.Warmed39 U.vm ∧ U.heap = h0) (fun _ _ _ _ _ => True) (fun _ U o U' => ∃ v L, o = .returned v ∧ own_b3_Q Z i1 i2 i3 i4 d1 d2 h0 n0 v U'.heap L ∧ FrameEnd U o U' L ({ frames := 0, cells := 0, slots := 0, locals := 0 } : Room).cells ({ frames := 0, cells := 0, slots := 0, locals := 0 } : Room).slots) := by
  refine MetFree.of_bodySF (plainFor_of_name own_pn1) hisR ?_
  intro p e s m args below meth c s₁ Bd hml0 hP hK
  obtain ⟨rfl, hZ, hh⟩ := hP
  have hx := Bd.exec
  have hby := Bd.bytes
  have hlk := Bd.notSynchronized
  have hml : c.maxLocals = 8 := hml0
  have hown : s.vm.findClass "com/example/heed/heed/Rect" = some m.cls := findClass_of_methodNamed Bd.named
  have hnm := (name_of_methodNamed Bd.named Bd.method).1
  have X0 : Stand p l e ({ frames := 0, cells := 0, slots := 0, locals := 0 } : Room) s m #[(.int i1), (.int i2), (.int i3), (.int i4), (.double d1), (.double d2)] below meth c s₁ [] 0 0 := Stand.of_body Bd
  have e0 : s₁.heap = h0 := by rw [← hh, Bd.state]; rfl
  have N0 := Fr.nil n0
  have K0 : Keep h0 h0 [] := Keep.refl h0 _
  show own_Goes p e below (own_Fin s (own_b3_Q Z i1 i2 i3 i4 d1 d2 h0 n0) ({ frames := 0, cells := 0, slots := 0, locals := 0 } : Room).cells ({ frames := 0, cells := 0, slots := 0, locals := 0 } : Room).slots) _
  refine own_step (fun t k => castTop (own_b3_ef m i1 i2 i3 i4 d1 d2) k) ?_
  show own_Goes p e below _ (s₁.setTop (mkF m 0 #[.val (.int i1), .val (.int i2), .val (.int i3), .val (.int i4), .val (.double d1), .second, .val (.double d2), .second] []))
  refine own_step (fun t k => XS.iloadN X0.here hx rfl (hb hby own_dprog_50_method_8_code_0) rfl k) ?_
  show own_Goes p e below _ (s₁.setTop (mkF m 1 #[.val (.int i1), .val (.int i2), .val (.int i3), .val (.int i4), .val (.double d1), .second, .val (.double d2), .second] [(.int i1)]))
  refine own_step (fun t k => XS.i2dS X0.here hx rfl (hb hby own_dprog_50_method_8_code_1) rfl rfl k) ?_
  show own_Goes p e below _ (s₁.setTop (mkF m 2 #[.val (.int i1), .val (.int i2), .val (.int i3), .val (.int i4), .val (.double d1), .second, .val (.double d2), .second] [(.double (FP.i2d i1))]))
  refine own_step (fun t k => XS.dload X0.here hx rfl (hb hby own_dprog_50_method_8_code_2) rfl k) ?_
  show own_Goes p e below _ (s₁.setTop (mkF m 4 #[.val (.int i1), .val (.int i2), .val (.int i3), .val (.int i4), .val (.double d1), .second, .val (.double d2), .second] [(.double d1), (.double (FP.i2d i1))]))
  refine own_step (fun t k => XS.dcmpS X0.here hx rfl (hb hby own_dprog_50_method_8_code_4) rfl rfl k) ?_
  show own_Goes p e below _ (s₁.setTop (mkF m 5 #[.val (.int i1), .val (.int i2), .val (.int i3), .val (.int i4), .val (.double d1), .second, .val (.double d2), .second] [(.int (own_cg (FP.i2d i1) d1))]))
  refine own_step (S' := s₁.setTop (mkF m 37 #[.val (.int i1), .val (.int i2), .val (.int i3), .val (.int i4), .val (.double d1), .second, .val (.double d2), .second] [(.int (if (0 : Int32) < (own_cg (FP.i2d i1) d1) then (0 : Int32) else (if (own_cg d1 (FP.i2d i3)) < (0 : Int32) then (if (0 : Int32) < (own_cg (FP.i2d i2) d2) then (0 : Int32) else (if (own_cg d2 (FP.i2d i4)) < (0 : Int32) then (1 : Int32) else (0 : Int32))) else (0 : Int32))))])) (fun t k => ?_) ?_
  · show Steps p.tables e below (s₁.setTop (mkF m 5 #[.val (.int i1), .val (.int i2), .val (.int i3), .val (.int i4), .val (.double d1), .second, .val (.double d2), .second] [(.int (own_cg (FP.i2d i1) d1))])) _
    by_cases hc15 : (0 : Int32) < (own_cg (FP.i2d i1) d1)
    · --
      refine XS.ifYes X0.here hx rfl (pc0 := 5) (pc' := 36) rfl (hb hby own_dprog_50_method_8_code_5) rfl ((if0 _ _).trans (tlt hc15).2.2.1) (by decide) (by decide) ?_
      show Steps p.tables e below (s₁.setTop (mkF m 36 #[.val (.int i1), .val (.int i2), .val (.int i3), .val (.int i4), .val (.double d1), .second, .val (.double d2), .second] [])) _
      refine XS.iconst X0.here hx rfl (hb hby own_dprog_50_method_8_code_36) ?_
      show Steps p.tables e below (s₁.setTop (mkF m 37 #[.val (.int i1), .val (.int i2), .val (.int i3), .val (.int i4), .val (.double d1), .second, .val (.double d2), .second] [(.int (0 : Int32))])) _
      simp only [if_pos hc15] at k
      exact k
    · --
      refine XS.ifNo X0.here hx rfl (hb hby own_dprog_50_method_8_code_5) rfl ((if0 _ _).trans (flt hc15).2.2.1) ?_
      show Steps p.tables e below (s₁.setTop (mkF m 8 #[.val (.int i1), .val (.int i2), .val (.int i3), .val (.int i4), .val (.double d1), .second, .val (.double d2), .second] [])) _
      refine XS.dload X0.here hx rfl (hb hby own_dprog_50_method_8_code_8) rfl ?_
      show Steps p.tables e below (s₁.setTop (mkF m 10 #[.val (.int i1), .val (.int i2), .val (.int i3), .val (.int i4), .val (.double d1), .second, .val (.double d2), .second] [(.double d1)])) _
      refine XS.iloadN X0.here hx rfl (hb hby own_dprog_50_method_8_code_10) rfl ?_
      show Steps p.tables e below (s₁.setTop (mkF m 11 #[.val (.int i1), .val (.int i2), .val (.int i3), .val (.int i4), .val (.double d1), .second, .val (.double d2), .second] [(.int i3), (.double d1)])) _
      refine XS.i2dS X0.here hx rfl (hb hby own_dprog_50_method_8_code_11) rfl rfl ?_
      show Steps p.tables e below (s₁.setTop (mkF m 12 #[.val (.int i1), .val (.int i2), .val (.int i3), .val (.int i4), .val (.double d1), .second, .val (.double d2), .second] [(.double (FP.i2d i3)), (.double d1)])) _
      refine XS.dcmpS X0.here hx rfl (hb hby own_dprog_50_method_8_code_12) rfl rfl ?_
      show Steps p.tables e below (s₁.setTop (mkF m 13 #[.val (.int i1), .val (.int i2), .val (.int i3), .val (.int i4), .val (.double d1), .second, .val (.double d2), .second] [(.int (own_cg d1 (FP.i2d i3)))])) _
      by_cases hc16 : (own_cg d1 (FP.i2d i3)) < (0 : Int32)
      · --
        refine XS.ifNo X0.here hx rfl (hb hby own_dprog_50_method_8_code_13) rfl ((if0 _ _).trans (tlt hc16).2.1) ?_
        show Steps p.tables e below (s₁.setTop (mkF m 16 #[.val (.int i1), .val (.int i2), .val (.int i3), .val (.int i4), .val (.double d1), .second, .val (.double d2), .second] [])) _
        refine XS.iloadN X0.here hx rfl (hb hby own_dprog_50_method_8_code_16) rfl ?_
        show Steps p.tables e below (s₁.setTop (mkF m 17 #[.val (.int i1), .val (.int i2), .val (.int i3), .val (.int i4), .val (.double d1), .second, .val (.double d2), .second] [(.int i2)])) _
        refine XS.i2dS X0.here hx rfl (hb hby own_dprog_50_method_8_code_17) rfl rfl ?_
        show Steps p.tables e below (s₁.setTop (mkF m 18 #[.val (.int i1), .val (.int i2), .val (.int i3), .val (.int i4), .val (.double d1), .second, .val (.double d2), .second] [(.double (FP.i2d i2))])) _
        refine XS.dload X0.here hx rfl (hb hby own_dprog_50_method_8_code_18) rfl ?_
        show Steps p.tables e below (s₁.setTop (mkF m 20 #[.val (.int i1), .val (.int i2), .val (.int i3), .val (.int i4), .val (.double d1), .second, .val (.double d2), .second] [(.double d2), (.double (FP.i2d i2))])) _
        refine XS.dcmpS X0.here hx rfl (hb hby own_dprog_50_method_8_code_20) rfl rfl ?_
        show Steps p.tables e below (s₁.setTop (mkF m 21 #[.val (.int i1), .val (.int i2), .val (.int i3), .val (.int i4), .val (.double d1), .second, .val (.double d2), .second] [(.int (own_cg (FP.i2d i2) d2))])) _
        by_cases hc17 : (0 : Int32) < (own_cg (FP.i2d i2) d2)
        · --
          refine XS.ifYes X0.here hx rfl (pc0 := 21) (pc' := 36) rfl (hb hby own_dprog_50_method_8_code_21) rfl ((if0 _ _).trans (tlt hc17).2.2.1) (by decide) (by decide) ?_
          show Steps p.tables e below (s₁.setTop (mkF m 36 #[.val (.int i1), .val (.int i2), .val (.int i3), .val (.int i4), .val (.double d1), .second, .val (.double d2), .second] [])) _
          refine XS.iconst X0.here hx rfl (hb hby own_dprog_50_method_8_code_36) ?_
          show Steps p.tables e below (s₁.setTop (mkF m 37 #[.val (.int i1), .val (.int i2), .val (.int i3), .val (.int i4), .val (.double d1), .second, .val (.double d2), .second] [(.int (0 : Int32))])) _
          simp only [if_neg hc15, if_pos hc16, if_pos hc17] at k
          exact k
        · --
          refine XS.ifNo X0.here hx rfl (hb hby own_dprog_50_method_8_code_21) rfl ((if0 _ _).trans (flt hc17).2.2.1) ?_
          show Steps p.tables e below (s₁.setTop (mkF m 24 #[.val (.int i1), .val (.int i2), .val (.int i3), .val (.int i4), .val (.double d1), .second, .val (.double d2), .second] [])) _
          refine XS.dload X0.here hx rfl (hb hby own_dprog_50_method_8_code_24) rfl ?_
          show Steps p.tables e below (s₁.setTop (mkF m 26 #[.val (.int i1), .val (.int i2), .val (.int i3), .val (.int i4), .val (.double d1), .second, .val (.double d2), .second] [(.double d2)])) _
          refine XS.iloadN X0.here hx rfl (hb hby own_dprog_50_method_8_code_26) rfl ?_
          show Steps p.tables e below (s₁.setTop (mkF m 27 #[.val (.int i1), .val (.int i2), .val (.int i3), .val (.int i4), .val (.double d1), .second, .val (.double d2), .second] [(.int i4), (.double d2)])) _
          refine XS.i2dS X0.here hx rfl (hb hby own_dprog_50_method_8_code_27) rfl rfl ?_
          show Steps p.tables e below (s₁.setTop (mkF m 28 #[.val (.int i1), .val (.int i2), .val (.int i3), .val (.int i4), .val (.double d1), .second, .val (.double d2), .second] [(.double (FP.i2d i4)), (.double d2)])) _
          refine XS.dcmpS X0.here hx rfl (hb hby own_dprog_50_method_8_code_28) rfl rfl ?_
          show Steps p.tables e below (s₁.setTop (mkF m 29 #[.val (.int i1), .val (.int i2), .val (.int i3), .val (.int i4), .val (.double d1), .second, .val (.double d2), .second] [(.int (own_cg d2 (FP.i2d i4)))])) _
          by_cases hc18 : (own_cg d2 (FP.i2d i4)) < (0 : Int32)
          · --
            refine XS.ifNo X0.here hx rfl (hb hby own_dprog_50_method_8_code_29) rfl ((if0 _ _).trans (tlt hc18).2.1) ?_
            show Steps p.tables e below (s₁.setTop (mkF m 32 #[.val (.int i1), .val (.int i2), .val (.int i3), .val (.int i4), .val (.double d1), .second, .val (.double d2), .second] [])) _
            refine XS.iconst X0.here hx rfl (hb hby own_dprog_50_method_8_code_32) ?_
            show Steps p.tables e below (s₁.setTop (mkF m 33 #[.val (.int i1), .val (.int i2), .val (.int i3), .val (.int i4), .val (.double d1), .second, .val (.double d2), .second] [(.int (1 : Int32))])) _
            refine XS.goto X0.here hx rfl (pc0 := 33) (pc' := 37) rfl (hb hby own_dprog_50_method_8_code_33) (by decide) (by decide) ?_
            show Steps p.tables e below (s₁.setTop (mkF m 37 #[.val (.int i1), .val (.int i2), .val (.int i3), .val (.int i4), .val (.double d1), .second, .val (.double d2), .second] [(.int (1 : Int32))])) _
            simp only [if_neg hc15, if_pos hc16, if_neg hc17, if_pos hc18] at k
            exact k
          · --
            refine XS.ifYes X0.here hx rfl (pc0 := 29) (pc' := 36) rfl (hb hby own_dprog_50_method_8_code_29) rfl ((if0 _ _).trans (flt hc18).2.1) (by decide) (by decide) ?_
            show Steps p.tables e below (s₁.setTop (mkF m 36 #[.val (.int i1), .val (.int i2), .val (.int i3), .val (.int i4), .val (.double d1), .second, .val (.double d2), .second] [])) _
            refine XS.iconst X0.here hx rfl (hb hby own_dprog_50_method_8_code_36) ?_
            show Steps p.tables e below (s₁.setTop (mkF m 37 #[.val (.int i1), .val (.int i2), .val (.int i3), .val (.int i4), .val (.double d1), .second, .val (.double d2), .second] [(.int (0 : Int32))])) _
            simp only [if_neg hc15, if_pos hc16, if_neg hc17, if_neg hc18] at k
            exact k
      · --
        refine XS.ifYes X0.here hx rfl (pc0 := 13) (pc' := 36) rfl (hb hby own_dprog_50_method_8_code_13) rfl ((if0 _ _).trans (flt hc16).2.1) (by decide) (by decide) ?_
        show Steps p.tables e below (s₁.setTop (mkF m 36 #[.val (.int i1), .val (.int i2), .val (.int i3), .val (.int i4), .val (.double d1), .second, .val (.double d2), .second] [])) _
        refine XS.iconst X0.here hx rfl (hb hby own_dprog_50_method_8_code_36) ?_
        show Steps p.tables e below (s₁.setTop (mkF m 37 #[.val (.int i1), .val (.int i2), .val (.int i3), .val (.int i4), .val (.double d1), .second, .val (.double d2), .second] [(.int (0 : Int32))])) _
        simp only [if_neg hc15, if_neg hc16] at k
        exact k
  show own_Goes p e below _ (s₁.setTop (mkF m 37 #[.val (.int i1), .val (.int i2), .val (.int i3), .val (.int i4), .val (.double d1), .second, .val (.double d2), .second] [(.int (if (0 : Int32) < (own_cg (FP.i2d i1) d1) then (0 : Int32) else (if (own_cg d1 (FP.i2d i3)) < (0 : Int32) then (if (0 : Int32) < (own_cg (FP.i2d i2) d2) then (0 : Int32) else (if (own_cg d2 (FP.i2d i4)) < (0 : Int32) then (1 : Int32) else (0 : Int32))) else (0 : Int32))))]))
  refine own_retV X0 hx hlk Bd.returns (w := (.int (if (0 : Int32) < (own_cg (FP.i2d i1) d1) then (0 : Int32) else (if (own_cg d1 (FP.i2d i3)) < (0 : Int32) then (if (0 : Int32) < (own_cg (FP.i2d i2) d2) then (0 : Int32) else (if (own_cg d2 (FP.i2d i4)) < (0 : Int32) then (1 : Int32) else (0 : Int32))) else (0 : Int32))))) (own_nb (own_01 (Or.inl rfl) (own_01 (own_01 (Or.inl rfl) (own_01 (Or.inr rfl) (Or.inl rfl))) (Or.inl rfl)))) (Or.inl ⟨rfl, Or.inr (Or.inl rfl), _, rfl⟩) (hb hby own_dprog_50_method_8_code_37) ?_ (by decide) (by decide)
  show own_b3_Q Z i1 i2 i3 i4 d1 d2 h0 n0 _ s₁.heap _
  rw [e0]
  exact ⟨rfl, N0, rfl⟩
theorem own_pd0 : parseMethodDescriptor "(JII)J" = some ⟨[.long, .int, .int], some .long⟩ := by decide +kernel
theorem own_pd1 : parseMethodDescriptor "(JJ)D" = some ⟨[.long, .long], some .double⟩ := by decide +kernel
theorem own_pd2 : parseMethodDescriptor "(IIIIDD)Z" = some ⟨[.int, .int, .int, .int, .double, .double], some .boolean⟩ := by decide +kernel
theorem own_law_ef (m : MethodId) (p0 : Int32) (p1 : Int32) (p2 : Int32) (p3 : Int32) (p4 : Int64) (p5 : Int64) : entryFrame m #[(.int p0), (.int p1), (.int p2), (.int p3), (.long p4), (.long p5)] maxLocals = mkF m 0 #[.val (.int p0), .val (.int p1), .val (.int p2), .val (.int p3), .val (.long p4), .second, .val (.long p5), .second, .unset, .unset, .unset, .unset, .unset, .unset, .unset, .unset, .unset, .unset, .unset] [] := by first | (simp [entryFrame, mkF, argsToLocals, Value.category, maxLocals]; done) | rfl
set_option maxRecDepth 65536 in
set_option maxHeartbeats 40000000 in
theorem own_law (l : Launch) (Z : State) (a0 : Array Value) (hw : ∀ d ∈ tables_1, d.before a0 Z = true) (ws : List Jvm.Cond) (p0 : Int32) (p1 : Int32) (p2 : Int32) (p3 : Int32) (p4 : Int64) (p5 : Int64) (h0 : Heap) (n0 : Nat) (Z0 : n0 ≤ h0.size) :
    MetFree l x (head1 (Jvm.Cond.code x code maxLocals ret :: ws) room_1) (fun aa U => aa = #[(.int p0), (.int p1), (.int p2), (.int p3), (.long p4), (.long p5)] ∧ Z.Warmed39 U.vm ∧ U.heap = h0) (fun _ _ _ _ _ => True) (fun _ U o U' => ∃ v L, o = .returned v ∧ own_Q0 n0 v U'.heap L ∧ FrameEnd U o U' L 0 0) := by
  refine MetFree.of_bodySF (plainFor_of_name own_pn0) hisR ?_
  have w0 := hw _ (List.mem_of_getElem? (i := 0) rfl)
  have w1 := hw _ (List.mem_of_getElem? (i := 1) rfl)
  have w2 := hw _ (List.mem_of_getElem? (i := 2) rfl)
  have w3 := hw _ (List.mem_of_getElem? (i := 3) rfl)
  have w5 := hw _ (List.mem_of_getElem? (i := 5) rfl)
  have w6 := hw _ (List.mem_of_getElem? (i := 6) rfl)
  have w7 := hw _ (List.mem_of_getElem? (i := 7) rfl)
  have w9 := hw _ (List.mem_of_getElem? (i := 9) rfl)
  have w10 := hw _ (List.mem_of_getElem? (i := 10) rfl)
  have w11 := hw _ (List.mem_of_getElem? (i := 11) rfl)
  have w12 := hw _ (List.mem_of_getElem? (i := 12) rfl)
  intro p e s m args below meth c s₁ Bd hml0 hP hK
  obtain ⟨rfl, hZ, hh⟩ := hP
  have hx := Bd.exec
  have hby := Bd.bytes
  have hlk := Bd.notSynchronized
  have hml : c.maxLocals = 19 := hml0
  have hown : s.vm.findClass "com/example/heed/heed/RectHoldsPinLaw" = some m.cls := findClass_of_methodNamed Bd.named
  have hnm := (name_of_methodNamed Bd.named Bd.method).1
  have X0 : Stand p l e room_1 s m #[(.int p0), (.int p1), (.int p2), (.int p3), (.long p4), (.long p5)] below meth c s₁ [] 0 0 := Stand.of_body Bd
  have e0 : s₁.heap = h0 := by rw [← hh, Bd.state]; rfl
  have N0 := Fr.nil n0
  have K0 : Keep h0 h0 [] := Keep.refl h0 _
  show own_Goes p e below (own_Fin s (own_Q0 n0) 0 0) _
  refine own_step (fun t k => castTop (own_law_ef m p0 p1 p2 p3 p4 p5) k) ?_
  show own_Goes p e below _ (s₁.setTop (mkF m 0 #[.val (.int p0), .val (.int p1), .val (.int p2), .val (.int p3), .val (.long p4), .second, .val (.long p5), .second, .unset, .unset, .unset, .unset, .unset, .unset, .unset, .unset, .unset, .unset, .unset] []))
  refine own_step (fun t k => XS.lload X0.here hx rfl (hb hby at_0) rfl k) ?_
  show own_Goes p e below _ (s₁.setTop (mkF m 2 #[.val (.int p0), .val (.int p1), .val (.int p2), .val (.int p3), .val (.long p4), .second, .val (.long p5), .second, .unset, .unset, .unset, .unset, .unset, .unset, .unset, .unset, .unset, .unset, .unset] [(.long p4)]))
  refine own_step (fun t k => XS.iloadN X0.here hx rfl (hb hby at_2) rfl k) ?_
  show own_Goes p e below _ (s₁.setTop (mkF m 3 #[.val (.int p0), .val (.int p1), .val (.int p2), .val (.int p3), .val (.long p4), .second, .val (.long p5), .second, .unset, .unset, .unset, .unset, .unset, .unset, .unset, .unset, .unset, .unset, .unset] [(.int p0), (.long p4)]))
  refine own_step (fun t k => XS.iloadN X0.here hx rfl (hb hby at_3) rfl k) ?_
  show own_Goes p e below _ (s₁.setTop (mkF m 4 #[.val (.int p0), .val (.int p1), .val (.int p2), .val (.int p3), .val (.long p4), .second, .val (.long p5), .second, .unset, .unset, .unset, .unset, .unset, .unset, .unset, .unset, .unset, .unset, .unset] [(.int p2), (.int p0), (.long p4)]))
  obtain ⟨_, _, ⟨T19, L19, k19, n19⟩, -, X19, ⟨Lc19, hQ19, l19, y19, z19⟩, st19⟩ := Jvm.LawKit.callS X0 hx (y := (⟨"com/example/heed/heed/RectHoldsPinLaw", "pick", "(JII)J"⟩ : MethodName)) hown (mvT hZ w0) (mvT hZ w1) (mvT hZ w2) (mvT hZ w3) (by decide) (backOf (W := 0) (own_b1 l Z a0 hw [] p4 p0 p2  h0 n0 Z0 ) hZ w3 w2 (by decide) (by decide)) (g := (mkF m 4 #[.val (.int p0), .val (.int p1), .val (.int p2), .val (.int p3), .val (.long p4), .second, .val (.long p5), .second, .unset, .unset, .unset, .unset, .unset, .unset, .unset, .unset, .unset, .unset, .unset] [(.int p2), (.int p0), (.long p4)])) rfl (by rw [hml]; rfl) (argsL := [(.long p4), (.int p0), (.int p2)]) (rest := []) (lenOf own_pd0 rfl) rfl (by show 2 * 0 + _ ≤ _; exact Nat.le_of_eq rfl) (hb hby at_4) (fun _ _ => ⟨rfl, e0, (by decide : 0 + 0 ≤ _), (by decide : 0 + 0 ≤ _)⟩)
  dsimp only [Pt.U, Pt.locs, Pt.cells, Pt.slots] at X19 l19 y19 z19 st19 hQ19
  subst l19 y19 z19
  obtain ⟨rfl, N19q, eh19⟩ := hQ19
  have N19 := Fr.app N0 N19q
  refine own_step st19 ?_
  show own_Goes p e below _ (T19.setTop (mkF m 7 #[.val (.int p0), .val (.int p1), .val (.int p2), .val (.int p3), .val (.long p4), .second, .val (.long p5), .second, .unset, .unset, .unset, .unset, .unset, .unset, .unset, .unset, .unset, .unset, .unset] [(.long (own_pick p4 p0 p2))]))
  generalize hv_xc : (own_pick p4 p0 p2) = xc
  refine own_step (fun t k => XS.lstore X19.here hx rfl (hb hby at_7) rfl (l' := #[.val (.int p0), .val (.int p1), .val (.int p2), .val (.int p3), .val (.long p4), .second, .val (.long p5), .second, .val (.long xc), .second, .unset, .unset, .unset, .unset, .unset, .unset, .unset, .unset, .unset]) rfl k) ?_
  show own_Goes p e below _ (T19.setTop (mkF m 9 #[.val (.int p0), .val (.int p1), .val (.int p2), .val (.int p3), .val (.long p4), .second, .val (.long p5), .second, .val (.long xc), .second, .unset, .unset, .unset, .unset, .unset, .unset, .unset, .unset, .unset] []))
  refine own_step (fun t k => XS.lload X19.here hx rfl (hb hby at_9) rfl k) ?_
  show own_Goes p e below _ (T19.setTop (mkF m 11 #[.val (.int p0), .val (.int p1), .val (.int p2), .val (.int p3), .val (.long p4), .second, .val (.long p5), .second, .val (.long xc), .second, .unset, .unset, .unset, .unset, .unset, .unset, .unset, .unset, .unset] [(.long p5)]))
  refine own_step (fun t k => XS.iloadN X19.here hx rfl (hb hby at_11) rfl k) ?_
  show own_Goes p e below _ (T19.setTop (mkF m 12 #[.val (.int p0), .val (.int p1), .val (.int p2), .val (.int p3), .val (.long p4), .second, .val (.long p5), .second, .val (.long xc), .second, .unset, .unset, .unset, .unset, .unset, .unset, .unset, .unset, .unset] [(.int p1), (.long p5)]))
  refine own_step (fun t k => XS.iloadN X19.here hx rfl (hb hby at_12) rfl k) ?_
  show own_Goes p e below _ (T19.setTop (mkF m 13 #[.val (.int p0), .val (.int p1), .val (.int p2), .val (.int p3), .val (.long p4), .second, .val (.long p5), .second, .val (.long xc), .second, .unset, .unset, .unset, .unset, .unset, .unset, .unset, .unset, .unset] [(.int p3), (.int p1), (.long p5)]))
  obtain ⟨_, _, ⟨T20, L20, k20, n20⟩, -, X20, ⟨Lc20, hQ20, l20, y20, z20⟩, st20⟩ := Jvm.LawKit.callS X19 hx (y := (⟨"com/example/heed/heed/RectHoldsPinLaw", "pick", "(JII)J"⟩ : MethodName)) hown (mvT hZ w0) (mvT hZ w1) (mvT hZ w2) (mvT hZ w3) (by decide) (backOf (W := 0) (own_b1 l Z a0 hw [] p5 p1 p3  h0 n0 Z0 ) hZ w3 w2 (by decide) (by decide)) (g := (mkF m 13 #[.val (.int p0), .val (.int p1), .val (.int p2), .val (.int p3), .val (.long p4), .second, .val (.long p5), .second, .val (.long xc), .second, .unset, .unset, .unset, .unset, .unset, .unset, .unset, .unset, .unset] [(.int p3), (.int p1), (.long p5)])) rfl (by rw [hml]; rfl) (argsL := [(.long p5), (.int p1), (.int p3)]) (rest := []) (lenOf own_pd0 rfl) rfl (by show 2 * 0 + _ ≤ _; exact Nat.le_of_eq rfl) (hb hby at_13) (fun _ _ => ⟨rfl, eh19, (by decide : 0 + 0 ≤ _), (by decide : 0 + 0 ≤ _)⟩)
  dsimp only [Pt.U, Pt.locs, Pt.cells, Pt.slots] at X20 l20 y20 z20 st20 hQ20
  subst l20 y20 z20
  obtain ⟨rfl, N20q, eh20⟩ := hQ20
  have N20 := Fr.app N19 N20q
  refine own_step st20 ?_
  show own_Goes p e below _ (T20.setTop (mkF m 16 #[.val (.int p0), .val (.int p1), .val (.int p2), .val (.int p3), .val (.long p4), .second, .val (.long p5), .second, .val (.long xc), .second, .unset, .unset, .unset, .unset, .unset, .unset, .unset, .unset, .unset] [(.long (own_pick p5 p1 p3))]))
  generalize hv_yc : (own_pick p5 p1 p3) = yc
  refine own_step (fun t k => XS.lstore X20.here hx rfl (hb hby at_16) rfl (l' := #[.val (.int p0), .val (.int p1), .val (.int p2), .val (.int p3), .val (.long p4), .second, .val (.long p5), .second, .val (.long xc), .second, .val (.long yc), .second, .unset, .unset, .unset, .unset, .unset, .unset, .unset]) rfl k) ?_
  show own_Goes p e below _ (T20.setTop (mkF m 18 #[.val (.int p0), .val (.int p1), .val (.int p2), .val (.int p3), .val (.long p4), .second, .val (.long p5), .second, .val (.long xc), .second, .val (.long yc), .second, .unset, .unset, .unset, .unset, .unset, .unset, .unset] []))
  refine own_step (fun t k => XS.lload X20.here hx rfl (hb hby at_18) rfl k) ?_
  show own_Goes p e below _ (T20.setTop (mkF m 20 #[.val (.int p0), .val (.int p1), .val (.int p2), .val (.int p3), .val (.long p4), .second, .val (.long p5), .second, .val (.long xc), .second, .val (.long yc), .second, .unset, .unset, .unset, .unset, .unset, .unset, .unset] [(.long xc)]))
  refine own_step (fun t k => XS.lload X20.here hx rfl (hb hby at_20) rfl k) ?_
  show own_Goes p e below _ (T20.setTop (mkF m 22 #[.val (.int p0), .val (.int p1), .val (.int p2), .val (.int p3), .val (.long p4), .second, .val (.long p5), .second, .val (.long xc), .second, .val (.long yc), .second, .unset, .unset, .unset, .unset, .unset, .unset, .unset] [(.long p4), (.long xc)]))
  obtain ⟨_, _, ⟨T21, L21, k21, n21⟩, -, X21, ⟨Lc21, hQ21, l21, y21, z21⟩, st21⟩ := Jvm.LawKit.callS X20 hx (y := (⟨"com/example/heed/heed/RectHoldsPinLaw", "coord", "(JJ)D"⟩ : MethodName)) hown (mvT hZ w5) (mvT hZ w6) (mvT hZ w2) (mvT hZ w7) (by decide) (backOf (W := 0) (own_b2 l Z a0 hw [] xc p4  h0 n0 Z0 ) hZ w7 w2 (by decide) (by decide)) (g := (mkF m 22 #[.val (.int p0), .val (.int p1), .val (.int p2), .val (.int p3), .val (.long p4), .second, .val (.long p5), .second, .val (.long xc), .second, .val (.long yc), .second, .unset, .unset, .unset, .unset, .unset, .unset, .unset] [(.long p4), (.long xc)])) rfl (by rw [hml]; rfl) (argsL := [(.long xc), (.long p4)]) (rest := []) (lenOf own_pd1 rfl) rfl (by show 2 * 0 + _ ≤ _; exact Nat.le_of_eq rfl) (hb hby at_22) (fun _ _ => ⟨rfl, eh20, (by decide : 0 + 0 ≤ _), (by decide : 0 + 0 ≤ _)⟩)
  dsimp only [Pt.U, Pt.locs, Pt.cells, Pt.slots] at X21 l21 y21 z21 st21 hQ21
  subst l21 y21 z21
  obtain ⟨rfl, N21q, eh21⟩ := hQ21
  have N21 := Fr.app N20 N21q
  refine own_step st21 ?_
  show own_Goes p e below _ (T21.setTop (mkF m 25 #[.val (.int p0), .val (.int p1), .val (.int p2), .val (.int p3), .val (.long p4), .second, .val (.long p5), .second, .val (.long xc), .second, .val (.long yc), .second, .unset, .unset, .unset, .unset, .unset, .unset, .unset] [(.double (own_coord xc p4))]))
  generalize hv_dx : (own_coord xc p4) = dx
  refine own_step (fun t k => XS.dstore X21.here hx rfl (hb hby at_25) rfl (l' := #[.val (.int p0), .val (.int p1), .val (.int p2), .val (.int p3), .val (.long p4), .second, .val (.long p5), .second, .val (.long xc), .second, .val (.long yc), .second, .val (.double dx), .second, .unset, .unset, .unset, .unset, .unset]) rfl k) ?_
  show own_Goes p e below _ (T21.setTop (mkF m 27 #[.val (.int p0), .val (.int p1), .val (.int p2), .val (.int p3), .val (.long p4), .second, .val (.long p5), .second, .val (.long xc), .second, .val (.long yc), .second, .val (.double dx), .second, .unset, .unset, .unset, .unset, .unset] []))
  refine own_step (fun t k => XS.lload X21.here hx rfl (hb hby at_27) rfl k) ?_
  show own_Goes p e below _ (T21.setTop (mkF m 29 #[.val (.int p0), .val (.int p1), .val (.int p2), .val (.int p3), .val (.long p4), .second, .val (.long p5), .second, .val (.long xc), .second, .val (.long yc), .second, .val (.double dx), .second, .unset, .unset, .unset, .unset, .unset] [(.long yc)]))
  refine own_step (fun t k => XS.lload X21.here hx rfl (hb hby at_29) rfl k) ?_
  show own_Goes p e below _ (T21.setTop (mkF m 31 #[.val (.int p0), .val (.int p1), .val (.int p2), .val (.int p3), .val (.long p4), .second, .val (.long p5), .second, .val (.long xc), .second, .val (.long yc), .second, .val (.double dx), .second, .unset, .unset, .unset, .unset, .unset] [(.long p5), (.long yc)]))
  obtain ⟨_, _, ⟨T22, L22, k22, n22⟩, -, X22, ⟨Lc22, hQ22, l22, y22, z22⟩, st22⟩ := Jvm.LawKit.callS X21 hx (y := (⟨"com/example/heed/heed/RectHoldsPinLaw", "coord", "(JJ)D"⟩ : MethodName)) hown (mvT hZ w5) (mvT hZ w6) (mvT hZ w2) (mvT hZ w7) (by decide) (backOf (W := 0) (own_b2 l Z a0 hw [] yc p5  h0 n0 Z0 ) hZ w7 w2 (by decide) (by decide)) (g := (mkF m 31 #[.val (.int p0), .val (.int p1), .val (.int p2), .val (.int p3), .val (.long p4), .second, .val (.long p5), .second, .val (.long xc), .second, .val (.long yc), .second, .val (.double dx), .second, .unset, .unset, .unset, .unset, .unset] [(.long p5), (.long yc)])) rfl (by rw [hml]; rfl) (argsL := [(.long yc), (.long p5)]) (rest := []) (lenOf own_pd1 rfl) rfl (by show 2 * 0 + _ ≤ _; exact Nat.le_of_eq rfl) (hb hby at_31) (fun _ _ => ⟨rfl, eh21, (by decide : 0 + 0 ≤ _), (by decide : 0 + 0 ≤ _)⟩)
  dsimp only [Pt.U, Pt.locs, Pt.cells, Pt.slots] at X22 l22 y22 z22 st22 hQ22
  subst l22 y22 z22
  obtain ⟨rfl, N22q, eh22⟩ := hQ22
  have N22 := Fr.app N21 N22q
  refine own_step st22 ?_
  show own_Goes p e below _ (T22.setTop (mkF m 34 #[.val (.int p0), .val (.int p1), .val (.int p2), .val (.int p3), .val (.long p4), .second, .val (.long p5), .second, .val (.long xc), .second, .val (.long yc), .second, .val (.double dx), .second, .unset, .unset, .unset, .unset, .unset] [(.double (own_coord yc p5))]))
  generalize hv_dy : (own_coord yc p5) = dy
  refine own_step (fun t k => XS.dstore X22.here hx rfl (hb hby at_34) rfl (l' := #[.val (.int p0), .val (.int p1), .val (.int p2), .val (.int p3), .val (.long p4), .second, .val (.long p5), .second, .val (.long xc), .second, .val (.long yc), .second, .val (.double dx), .second, .val (.double dy), .second, .unset, .unset, .unset]) rfl k) ?_
  show own_Goes p e below _ (T22.setTop (mkF m 36 #[.val (.int p0), .val (.int p1), .val (.int p2), .val (.int p3), .val (.long p4), .second, .val (.long p5), .second, .val (.long xc), .second, .val (.long yc), .second, .val (.double dx), .second, .val (.double dy), .second, .unset, .unset, .unset] []))
  refine own_step (fun t k => XS.iloadN X22.here hx rfl (hb hby at_36) rfl k) ?_
  show own_Goes p e below _ (T22.setTop (mkF m 37 #[.val (.int p0), .val (.int p1), .val (.int p2), .val (.int p3), .val (.long p4), .second, .val (.long p5), .second, .val (.long xc), .second, .val (.long yc), .second, .val (.double dx), .second, .val (.double dy), .second, .unset, .unset, .unset] [(.int p0)]))
  refine own_step (fun t k => XS.i2l X22.here hx rfl (hb hby at_37) rfl k) ?_
  show own_Goes p e below _ (T22.setTop (mkF m 38 #[.val (.int p0), .val (.int p1), .val (.int p2), .val (.int p3), .val (.long p4), .second, .val (.long p5), .second, .val (.long xc), .second, .val (.long yc), .second, .val (.double dx), .second, .val (.double dy), .second, .unset, .unset, .unset] [(.long (p0.toInt64))]))
  refine own_step (fun t k => XS.lload X22.here hx rfl (hb hby at_38) rfl k) ?_
  show own_Goes p e below _ (T22.setTop (mkF m 40 #[.val (.int p0), .val (.int p1), .val (.int p2), .val (.int p3), .val (.long p4), .second, .val (.long p5), .second, .val (.long xc), .second, .val (.long yc), .second, .val (.double dx), .second, .val (.double dy), .second, .unset, .unset, .unset] [(.long xc), (.long (p0.toInt64))]))
  refine own_step (fun t k => XS.lcmp X22.here hx rfl (hb hby at_40) rfl k) ?_
  show own_Goes p e below _ (T22.setTop (mkF m 41 #[.val (.int p0), .val (.int p1), .val (.int p2), .val (.int p3), .val (.long p4), .second, .val (.long p5), .second, .val (.long xc), .second, .val (.long yc), .second, .val (.double dx), .second, .val (.double dy), .second, .unset, .unset, .unset] [(.int (lcmpW (p0.toInt64) xc))]))
  refine own_step (S' := T22.setTop (mkF m 57 #[.val (.int p0), .val (.int p1), .val (.int p2), .val (.int p3), .val (.long p4), .second, .val (.long p5), .second, .val (.long xc), .second, .val (.long yc), .second, .val (.double dx), .second, .val (.double dy), .second, .unset, .unset, .unset] [(.int (if xc < (p0.toInt64) then (0 : Int32) else (if xc < (p2.toInt64) then (1 : Int32) else (0 : Int32))))])) (fun t k => ?_) ?_
  · show Steps p.tables e below (T22.setTop (mkF m 41 #[.val (.int p0), .val (.int p1), .val (.int p2), .val (.int p3), .val (.long p4), .second, .val (.long p5), .second, .val (.long xc), .second, .val (.long yc), .second, .val (.double dx), .second, .val (.double dy), .second, .unset, .unset, .unset] [(.int (lcmpW (p0.toInt64) xc))])) _
    by_cases hc23 : xc < (p0.toInt64)
    · --
      refine XS.ifYes X22.here hx rfl (pc0 := 41) (pc' := 56) rfl (hb hby at_41) rfl ((if0 _ _).trans (tlt ((lw_gt (p0.toInt64) xc).mpr hc23)).2.2.1) (by decide) (by decide) ?_
      show Steps p.tables e below (T22.setTop (mkF m 56 #[.val (.int p0), .val (.int p1), .val (.int p2), .val (.int p3), .val (.long p4), .second, .val (.long p5), .second, .val (.long xc), .second, .val (.long yc), .second, .val (.double dx), .second, .val (.double dy), .second, .unset, .unset, .unset] [])) _
      refine XS.iconst X22.here hx rfl (hb hby at_56) ?_
      show Steps p.tables e below (T22.setTop (mkF m 57 #[.val (.int p0), .val (.int p1), .val (.int p2), .val (.int p3), .val (.long p4), .second, .val (.long p5), .second, .val (.long xc), .second, .val (.long yc), .second, .val (.double dx), .second, .val (.double dy), .second, .unset, .unset, .unset] [(.int (0 : Int32))])) _
      simp only [if_pos hc23] at k
      exact k
    · --
      refine XS.ifNo X22.here hx rfl (hb hby at_41) rfl ((if0 _ _).trans (flt (fun zq => hc23 ((lw_gt (p0.toInt64) xc).mp zq))).2.2.1) ?_
      show Steps p.tables e below (T22.setTop (mkF m 44 #[.val (.int p0), .val (.int p1), .val (.int p2), .val (.int p3), .val (.long p4), .second, .val (.long p5), .second, .val (.long xc), .second, .val (.long yc), .second, .val (.double dx), .second, .val (.double dy), .second, .unset, .unset, .unset] [])) _
      refine XS.lload X22.here hx rfl (hb hby at_44) rfl ?_
      show Steps p.tables e below (T22.setTop (mkF m 46 #[.val (.int p0), .val (.int p1), .val (.int p2), .val (.int p3), .val (.long p4), .second, .val (.long p5), .second, .val (.long xc), .second, .val (.long yc), .second, .val (.double dx), .second, .val (.double dy), .second, .unset, .unset, .unset] [(.long xc)])) _
      refine XS.iloadN X22.here hx rfl (hb hby at_46) rfl ?_
      show Steps p.tables e below (T22.setTop (mkF m 47 #[.val (.int p0), .val (.int p1), .val (.int p2), .val (.int p3), .val (.long p4), .second, .val (.long p5), .second, .val (.long xc), .second, .val (.long yc), .second, .val (.double dx), .second, .val (.double dy), .second, .unset, .unset, .unset] [(.int p2), (.long xc)])) _
      refine XS.i2l X22.here hx rfl (hb hby at_47) rfl ?_
      show Steps p.tables e below (T22.setTop (mkF m 48 #[.val (.int p0), .val (.int p1), .val (.int p2), .val (.int p3), .val (.long p4), .second, .val (.long p5), .second, .val (.long xc), .second, .val (.long yc), .second, .val (.double dx), .second, .val (.double dy), .second, .unset, .unset, .unset] [(.long (p2.toInt64)), (.long xc)])) _
      refine XS.lcmp X22.here hx rfl (hb hby at_48) rfl ?_
      show Steps p.tables e below (T22.setTop (mkF m 49 #[.val (.int p0), .val (.int p1), .val (.int p2), .val (.int p3), .val (.long p4), .second, .val (.long p5), .second, .val (.long xc), .second, .val (.long yc), .second, .val (.double dx), .second, .val (.double dy), .second, .unset, .unset, .unset] [(.int (lcmpW xc (p2.toInt64)))])) _
      by_cases hc24 : xc < (p2.toInt64)
      · --
        refine XS.ifNo X22.here hx rfl (hb hby at_49) rfl ((if0 _ _).trans (tlt ((lw_lt xc (p2.toInt64)).mpr hc24)).2.1) ?_
        show Steps p.tables e below (T22.setTop (mkF m 52 #[.val (.int p0), .val (.int p1), .val (.int p2), .val (.int p3), .val (.long p4), .second, .val (.long p5), .second, .val (.long xc), .second, .val (.long yc), .second, .val (.double dx), .second, .val (.double dy), .second, .unset, .unset, .unset] [])) _
        refine XS.iconst X22.here hx rfl (hb hby at_52) ?_
        show Steps p.tables e below (T22.setTop (mkF m 53 #[.val (.int p0), .val (.int p1), .val (.int p2), .val (.int p3), .val (.long p4), .second, .val (.long p5), .second, .val (.long xc), .second, .val (.long yc), .second, .val (.double dx), .second, .val (.double dy), .second, .unset, .unset, .unset] [(.int (1 : Int32))])) _
        refine XS.goto X22.here hx rfl (pc0 := 53) (pc' := 57) rfl (hb hby at_53) (by decide) (by decide) ?_
        show Steps p.tables e below (T22.setTop (mkF m 57 #[.val (.int p0), .val (.int p1), .val (.int p2), .val (.int p3), .val (.long p4), .second, .val (.long p5), .second, .val (.long xc), .second, .val (.long yc), .second, .val (.double dx), .second, .val (.double dy), .second, .unset, .unset, .unset] [(.int (1 : Int32))])) _
        simp only [if_neg hc23, if_pos hc24] at k
        exact k
      · --
        refine XS.ifYes X22.here hx rfl (pc0 := 49) (pc' := 56) rfl (hb hby at_49) rfl ((if0 _ _).trans (flt (fun zq => hc24 ((lw_lt xc (p2.toInt64)).mp zq))).2.1) (by decide) (by decide) ?_
        show Steps p.tables e below (T22.setTop (mkF m 56 #[.val (.int p0), .val (.int p1), .val (.int p2), .val (.int p3), .val (.long p4), .second, .val (.long p5), .second, .val (.long xc), .second, .val (.long yc), .second, .val (.double dx), .second, .val (.double dy), .second, .unset, .unset, .unset] [])) _
        refine XS.iconst X22.here hx rfl (hb hby at_56) ?_
        show Steps p.tables e below (T22.setTop (mkF m 57 #[.val (.int p0), .val (.int p1), .val (.int p2), .val (.int p3), .val (.long p4), .second, .val (.long p5), .second, .val (.long xc), .second, .val (.long yc), .second, .val (.double dx), .second, .val (.double dy), .second, .unset, .unset, .unset] [(.int (0 : Int32))])) _
        simp only [if_neg hc23, if_neg hc24] at k
        exact k
  show own_Goes p e below _ (T22.setTop (mkF m 57 #[.val (.int p0), .val (.int p1), .val (.int p2), .val (.int p3), .val (.long p4), .second, .val (.long p5), .second, .val (.long xc), .second, .val (.long yc), .second, .val (.double dx), .second, .val (.double dy), .second, .unset, .unset, .unset] [(.int (if xc < (p0.toInt64) then (0 : Int32) else (if xc < (p2.toInt64) then (1 : Int32) else (0 : Int32))))]))
  refine own_step (fun t k => XS.istore X22.here hx rfl (hb hby at_57) rfl (l' := #[.val (.int p0), .val (.int p1), .val (.int p2), .val (.int p3), .val (.long p4), .second, .val (.long p5), .second, .val (.long xc), .second, .val (.long yc), .second, .val (.double dx), .second, .val (.double dy), .second, .val (.int (if xc < (p0.toInt64) then (0 : Int32) else (if xc < (p2.toInt64) then (1 : Int32) else (0 : Int32)))), .unset, .unset]) rfl k) ?_
  show own_Goes p e below _ (T22.setTop (mkF m 59 #[.val (.int p0), .val (.int p1), .val (.int p2), .val (.int p3), .val (.long p4), .second, .val (.long p5), .second, .val (.long xc), .second, .val (.long yc), .second, .val (.double dx), .second, .val (.double dy), .second, .val (.int (if xc < (p0.toInt64) then (0 : Int32) else (if xc < (p2.toInt64) then (1 : Int32) else (0 : Int32)))), .unset, .unset] []))
  refine own_step (fun t k => XS.iloadN X22.here hx rfl (hb hby at_59) rfl k) ?_
  show own_Goes p e below _ (T22.setTop (mkF m 60 #[.val (.int p0), .val (.int p1), .val (.int p2), .val (.int p3), .val (.long p4), .second, .val (.long p5), .second, .val (.long xc), .second, .val (.long yc), .second, .val (.double dx), .second, .val (.double dy), .second, .val (.int (if xc < (p0.toInt64) then (0 : Int32) else (if xc < (p2.toInt64) then (1 : Int32) else (0 : Int32)))), .unset, .unset] [(.int p1)]))
  refine own_step (fun t k => XS.i2l X22.here hx rfl (hb hby at_60) rfl k) ?_
  show own_Goes p e below _ (T22.setTop (mkF m 61 #[.val (.int p0), .val (.int p1), .val (.int p2), .val (.int p3), .val (.long p4), .second, .val (.long p5), .second, .val (.long xc), .second, .val (.long yc), .second, .val (.double dx), .second, .val (.double dy), .second, .val (.int (if xc < (p0.toInt64) then (0 : Int32) else (if xc < (p2.toInt64) then (1 : Int32) else (0 : Int32)))), .unset, .unset] [(.long (p1.toInt64))]))
  refine own_step (fun t k => XS.lload X22.here hx rfl (hb hby at_61) rfl k) ?_
  show own_Goes p e below _ (T22.setTop (mkF m 63 #[.val (.int p0), .val (.int p1), .val (.int p2), .val (.int p3), .val (.long p4), .second, .val (.long p5), .second, .val (.long xc), .second, .val (.long yc), .second, .val (.double dx), .second, .val (.double dy), .second, .val (.int (if xc < (p0.toInt64) then (0 : Int32) else (if xc < (p2.toInt64) then (1 : Int32) else (0 : Int32)))), .unset, .unset] [(.long yc), (.long (p1.toInt64))]))
  refine own_step (fun t k => XS.lcmp X22.here hx rfl (hb hby at_63) rfl k) ?_
  show own_Goes p e below _ (T22.setTop (mkF m 64 #[.val (.int p0), .val (.int p1), .val (.int p2), .val (.int p3), .val (.long p4), .second, .val (.long p5), .second, .val (.long xc), .second, .val (.long yc), .second, .val (.double dx), .second, .val (.double dy), .second, .val (.int (if xc < (p0.toInt64) then (0 : Int32) else (if xc < (p2.toInt64) then (1 : Int32) else (0 : Int32)))), .unset, .unset] [(.int (lcmpW (p1.toInt64) yc))]))
  refine own_step (S' := T22.setTop (mkF m 80 #[.val (.int p0), .val (.int p1), .val (.int p2), .val (.int p3), .val (.long p4), .second, .val (.long p5), .second, .val (.long xc), .second, .val (.long yc), .second, .val (.double dx), .second, .val (.double dy), .second, .val (.int (if xc < (p0.toInt64) then (0 : Int32) else (if xc < (p2.toInt64) then (1 : Int32) else (0 : Int32)))), .unset, .unset] [(.int (if yc < (p1.toInt64) then (0 : Int32) else (if yc < (p3.toInt64) then (1 : Int32) else (0 : Int32))))])) (fun t k => ?_) ?_
  · show Steps p.tables e below (T22.setTop (mkF m 64 #[.val (.int p0), .val (.int p1), .val (.int p2), .val (.int p3), .val (.long p4), .second, .val (.long p5), .second, .val (.long xc), .second, .val (.long yc), .second, .val (.double dx), .second, .val (.double dy), .second, .val (.int (if xc < (p0.toInt64) then (0 : Int32) else (if xc < (p2.toInt64) then (1 : Int32) else (0 : Int32)))), .unset, .unset] [(.int (lcmpW (p1.toInt64) yc))])) _
    by_cases hc25 : yc < (p1.toInt64)
    · --
      refine XS.ifYes X22.here hx rfl (pc0 := 64) (pc' := 79) rfl (hb hby at_64) rfl ((if0 _ _).trans (tlt ((lw_gt (p1.toInt64) yc).mpr hc25)).2.2.1) (by decide) (by decide) ?_
      show Steps p.tables e below (T22.setTop (mkF m 79 #[.val (.int p0), .val (.int p1), .val (.int p2), .val (.int p3), .val (.long p4), .second, .val (.long p5), .second, .val (.long xc), .second, .val (.long yc), .second, .val (.double dx), .second, .val (.double dy), .second, .val (.int (if xc < (p0.toInt64) then (0 : Int32) else (if xc < (p2.toInt64) then (1 : Int32) else (0 : Int32)))), .unset, .unset] [])) _
      refine XS.iconst X22.here hx rfl (hb hby at_79) ?_
      show Steps p.tables e below (T22.setTop (mkF m 80 #[.val (.int p0), .val (.int p1), .val (.int p2), .val (.int p3), .val (.long p4), .second, .val (.long p5), .second, .val (.long xc), .second, .val (.long yc), .second, .val (.double dx), .second, .val (.double dy), .second, .val (.int (if xc < (p0.toInt64) then (0 : Int32) else (if xc < (p2.toInt64) then (1 : Int32) else (0 : Int32)))), .unset, .unset] [(.int (0 : Int32))])) _
      simp only [if_pos hc25] at k
      exact k
    · --
      refine XS.ifNo X22.here hx rfl (hb hby at_64) rfl ((if0 _ _).trans (flt (fun zq => hc25 ((lw_gt (p1.toInt64) yc).mp zq))).2.2.1) ?_
      show Steps p.tables e below (T22.setTop (mkF m 67 #[.val (.int p0), .val (.int p1), .val (.int p2), .val (.int p3), .val (.long p4), .second, .val (.long p5), .second, .val (.long xc), .second, .val (.long yc), .second, .val (.double dx), .second, .val (.double dy), .second, .val (.int (if xc < (p0.toInt64) then (0 : Int32) else (if xc < (p2.toInt64) then (1 : Int32) else (0 : Int32)))), .unset, .unset] [])) _
      refine XS.lload X22.here hx rfl (hb hby at_67) rfl ?_
      show Steps p.tables e below (T22.setTop (mkF m 69 #[.val (.int p0), .val (.int p1), .val (.int p2), .val (.int p3), .val (.long p4), .second, .val (.long p5), .second, .val (.long xc), .second, .val (.long yc), .second, .val (.double dx), .second, .val (.double dy), .second, .val (.int (if xc < (p0.toInt64) then (0 : Int32) else (if xc < (p2.toInt64) then (1 : Int32) else (0 : Int32)))), .unset, .unset] [(.long yc)])) _
      refine XS.iloadN X22.here hx rfl (hb hby at_69) rfl ?_
      show Steps p.tables e below (T22.setTop (mkF m 70 #[.val (.int p0), .val (.int p1), .val (.int p2), .val (.int p3), .val (.long p4), .second, .val (.long p5), .second, .val (.long xc), .second, .val (.long yc), .second, .val (.double dx), .second, .val (.double dy), .second, .val (.int (if xc < (p0.toInt64) then (0 : Int32) else (if xc < (p2.toInt64) then (1 : Int32) else (0 : Int32)))), .unset, .unset] [(.int p3), (.long yc)])) _
      refine XS.i2l X22.here hx rfl (hb hby at_70) rfl ?_
      show Steps p.tables e below (T22.setTop (mkF m 71 #[.val (.int p0), .val (.int p1), .val (.int p2), .val (.int p3), .val (.long p4), .second, .val (.long p5), .second, .val (.long xc), .second, .val (.long yc), .second, .val (.double dx), .second, .val (.double dy), .second, .val (.int (if xc < (p0.toInt64) then (0 : Int32) else (if xc < (p2.toInt64) then (1 : Int32) else (0 : Int32)))), .unset, .unset] [(.long (p3.toInt64)), (.long yc)])) _
      refine XS.lcmp X22.here hx rfl (hb hby at_71) rfl ?_
      show Steps p.tables e below (T22.setTop (mkF m 72 #[.val (.int p0), .val (.int p1), .val (.int p2), .val (.int p3), .val (.long p4), .second, .val (.long p5), .second, .val (.long xc), .second, .val (.long yc), .second, .val (.double dx), .second, .val (.double dy), .second, .val (.int (if xc < (p0.toInt64) then (0 : Int32) else (if xc < (p2.toInt64) then (1 : Int32) else (0 : Int32)))), .unset, .unset] [(.int (lcmpW yc (p3.toInt64)))])) _
      by_cases hc26 : yc < (p3.toInt64)
      · --
        refine XS.ifNo X22.here hx rfl (hb hby at_72) rfl ((if0 _ _).trans (tlt ((lw_lt yc (p3.toInt64)).mpr hc26)).2.1) ?_
        show Steps p.tables e below (T22.setTop (mkF m 75 #[.val (.int p0), .val (.int p1), .val (.int p2), .val (.int p3), .val (.long p4), .second, .val (.long p5), .second, .val (.long xc), .second, .val (.long yc), .second, .val (.double dx), .second, .val (.double dy), .second, .val (.int (if xc < (p0.toInt64) then (0 : Int32) else (if xc < (p2.toInt64) then (1 : Int32) else (0 : Int32)))), .unset, .unset] [])) _
        refine XS.iconst X22.here hx rfl (hb hby at_75) ?_
        show Steps p.tables e below (T22.setTop (mkF m 76 #[.val (.int p0), .val (.int p1), .val (.int p2), .val (.int p3), .val (.long p4), .second, .val (.long p5), .second, .val (.long xc), .second, .val (.long yc), .second, .val (.double dx), .second, .val (.double dy), .second, .val (.int (if xc < (p0.toInt64) then (0 : Int32) else (if xc < (p2.toInt64) then (1 : Int32) else (0 : Int32)))), .unset, .unset] [(.int (1 : Int32))])) _
        refine XS.goto X22.here hx rfl (pc0 := 76) (pc' := 80) rfl (hb hby at_76) (by decide) (by decide) ?_
        show Steps p.tables e below (T22.setTop (mkF m 80 #[.val (.int p0), .val (.int p1), .val (.int p2), .val (.int p3), .val (.long p4), .second, .val (.long p5), .second, .val (.long xc), .second, .val (.long yc), .second, .val (.double dx), .second, .val (.double dy), .second, .val (.int (if xc < (p0.toInt64) then (0 : Int32) else (if xc < (p2.toInt64) then (1 : Int32) else (0 : Int32)))), .unset, .unset] [(.int (1 : Int32))])) _
        simp only [if_neg hc25, if_pos hc26] at k
        exact k
      · --
        refine XS.ifYes X22.here hx rfl (pc0 := 72) (pc' := 79) rfl (hb hby at_72) rfl ((if0 _ _).trans (flt (fun zq => hc26 ((lw_lt yc (p3.toInt64)).mp zq))).2.1) (by decide) (by decide) ?_
        show Steps p.tables e below (T22.setTop (mkF m 79 #[.val (.int p0), .val (.int p1), .val (.int p2), .val (.int p3), .val (.long p4), .second, .val (.long p5), .second, .val (.long xc), .second, .val (.long yc), .second, .val (.double dx), .second, .val (.double dy), .second, .val (.int (if xc < (p0.toInt64) then (0 : Int32) else (if xc < (p2.toInt64) then (1 : Int32) else (0 : Int32)))), .unset, .unset] [])) _
        refine XS.iconst X22.here hx rfl (hb hby at_79) ?_
        show Steps p.tables e below (T22.setTop (mkF m 80 #[.val (.int p0), .val (.int p1), .val (.int p2), .val (.int p3), .val (.long p4), .second, .val (.long p5), .second, .val (.long xc), .second, .val (.long yc), .second, .val (.double dx), .second, .val (.double dy), .second, .val (.int (if xc < (p0.toInt64) then (0 : Int32) else (if xc < (p2.toInt64) then (1 : Int32) else (0 : Int32)))), .unset, .unset] [(.int (0 : Int32))])) _
        simp only [if_neg hc25, if_neg hc26] at k
        exact k
  show own_Goes p e below _ (T22.setTop (mkF m 80 #[.val (.int p0), .val (.int p1), .val (.int p2), .val (.int p3), .val (.long p4), .second, .val (.long p5), .second, .val (.long xc), .second, .val (.long yc), .second, .val (.double dx), .second, .val (.double dy), .second, .val (.int (if xc < (p0.toInt64) then (0 : Int32) else (if xc < (p2.toInt64) then (1 : Int32) else (0 : Int32)))), .unset, .unset] [(.int (if yc < (p1.toInt64) then (0 : Int32) else (if yc < (p3.toInt64) then (1 : Int32) else (0 : Int32))))]))
  refine own_step (fun t k => XS.istore X22.here hx rfl (hb hby at_80) rfl (l' := #[.val (.int p0), .val (.int p1), .val (.int p2), .val (.int p3), .val (.long p4), .second, .val (.long p5), .second, .val (.long xc), .second, .val (.long yc), .second, .val (.double dx), .second, .val (.double dy), .second, .val (.int (if xc < (p0.toInt64) then (0 : Int32) else (if xc < (p2.toInt64) then (1 : Int32) else (0 : Int32)))), .val (.int (if yc < (p1.toInt64) then (0 : Int32) else (if yc < (p3.toInt64) then (1 : Int32) else (0 : Int32)))), .unset]) rfl k) ?_
  show own_Goes p e below _ (T22.setTop (mkF m 82 #[.val (.int p0), .val (.int p1), .val (.int p2), .val (.int p3), .val (.long p4), .second, .val (.long p5), .second, .val (.long xc), .second, .val (.long yc), .second, .val (.double dx), .second, .val (.double dy), .second, .val (.int (if xc < (p0.toInt64) then (0 : Int32) else (if xc < (p2.toInt64) then (1 : Int32) else (0 : Int32)))), .val (.int (if yc < (p1.toInt64) then (0 : Int32) else (if yc < (p3.toInt64) then (1 : Int32) else (0 : Int32)))), .unset] []))
  refine own_step (fun t k => XS.iloadN X22.here hx rfl (hb hby at_82) rfl k) ?_
  show own_Goes p e below _ (T22.setTop (mkF m 83 #[.val (.int p0), .val (.int p1), .val (.int p2), .val (.int p3), .val (.long p4), .second, .val (.long p5), .second, .val (.long xc), .second, .val (.long yc), .second, .val (.double dx), .second, .val (.double dy), .second, .val (.int (if xc < (p0.toInt64) then (0 : Int32) else (if xc < (p2.toInt64) then (1 : Int32) else (0 : Int32)))), .val (.int (if yc < (p1.toInt64) then (0 : Int32) else (if yc < (p3.toInt64) then (1 : Int32) else (0 : Int32)))), .unset] [(.int p0)]))
  refine own_step (fun t k => XS.iloadN X22.here hx rfl (hb hby at_83) rfl k) ?_
  show own_Goes p e below _ (T22.setTop (mkF m 84 #[.val (.int p0), .val (.int p1), .val (.int p2), .val (.int p3), .val (.long p4), .second, .val (.long p5), .second, .val (.long xc), .second, .val (.long yc), .second, .val (.double dx), .second, .val (.double dy), .second, .val (.int (if xc < (p0.toInt64) then (0 : Int32) else (if xc < (p2.toInt64) then (1 : Int32) else (0 : Int32)))), .val (.int (if yc < (p1.toInt64) then (0 : Int32) else (if yc < (p3.toInt64) then (1 : Int32) else (0 : Int32)))), .unset] [(.int p1), (.int p0)]))
  refine own_step (fun t k => XS.iloadN X22.here hx rfl (hb hby at_84) rfl k) ?_
  show own_Goes p e below _ (T22.setTop (mkF m 85 #[.val (.int p0), .val (.int p1), .val (.int p2), .val (.int p3), .val (.long p4), .second, .val (.long p5), .second, .val (.long xc), .second, .val (.long yc), .second, .val (.double dx), .second, .val (.double dy), .second, .val (.int (if xc < (p0.toInt64) then (0 : Int32) else (if xc < (p2.toInt64) then (1 : Int32) else (0 : Int32)))), .val (.int (if yc < (p1.toInt64) then (0 : Int32) else (if yc < (p3.toInt64) then (1 : Int32) else (0 : Int32)))), .unset] [(.int p2), (.int p1), (.int p0)]))
  refine own_step (fun t k => XS.iloadN X22.here hx rfl (hb hby at_85) rfl k) ?_
  show own_Goes p e below _ (T22.setTop (mkF m 86 #[.val (.int p0), .val (.int p1), .val (.int p2), .val (.int p3), .val (.long p4), .second, .val (.long p5), .second, .val (.long xc), .second, .val (.long yc), .second, .val (.double dx), .second, .val (.double dy), .second, .val (.int (if xc < (p0.toInt64) then (0 : Int32) else (if xc < (p2.toInt64) then (1 : Int32) else (0 : Int32)))), .val (.int (if yc < (p1.toInt64) then (0 : Int32) else (if yc < (p3.toInt64) then (1 : Int32) else (0 : Int32)))), .unset] [(.int p3), (.int p2), (.int p1), (.int p0)]))
  refine own_step (fun t k => XS.dload X22.here hx rfl (hb hby at_86) rfl k) ?_
  show own_Goes p e below _ (T22.setTop (mkF m 88 #[.val (.int p0), .val (.int p1), .val (.int p2), .val (.int p3), .val (.long p4), .second, .val (.long p5), .second, .val (.long xc), .second, .val (.long yc), .second, .val (.double dx), .second, .val (.double dy), .second, .val (.int (if xc < (p0.toInt64) then (0 : Int32) else (if xc < (p2.toInt64) then (1 : Int32) else (0 : Int32)))), .val (.int (if yc < (p1.toInt64) then (0 : Int32) else (if yc < (p3.toInt64) then (1 : Int32) else (0 : Int32)))), .unset] [(.double dx), (.int p3), (.int p2), (.int p1), (.int p0)]))
  refine own_step (fun t k => XS.dload X22.here hx rfl (hb hby at_88) rfl k) ?_
  show own_Goes p e below _ (T22.setTop (mkF m 90 #[.val (.int p0), .val (.int p1), .val (.int p2), .val (.int p3), .val (.long p4), .second, .val (.long p5), .second, .val (.long xc), .second, .val (.long yc), .second, .val (.double dx), .second, .val (.double dy), .second, .val (.int (if xc < (p0.toInt64) then (0 : Int32) else (if xc < (p2.toInt64) then (1 : Int32) else (0 : Int32)))), .val (.int (if yc < (p1.toInt64) then (0 : Int32) else (if yc < (p3.toInt64) then (1 : Int32) else (0 : Int32)))), .unset] [(.double dy), (.double dx), (.int p3), (.int p2), (.int p1), (.int p0)]))
  obtain ⟨_, _, ⟨T27, L27, k27, n27⟩, -, X27, ⟨Lc27, hQ27, l27, y27, z27⟩, st27⟩ := Jvm.LawKit.callS X22 hx (y := (⟨"com/example/heed/heed/Rect", "holds", "(IIIIDD)Z"⟩ : MethodName)) hown (mvT hZ w9) (mvT hZ w10) (mvT hZ w11) (mvT hZ w12) (by decide) (backOf (W := 0) (own_b3 l Z a0 hw [] p0 p1 p2 p3 dx dy  h0 n0 Z0 ) hZ w12 w11 (by decide) (by decide)) (g := (mkF m 90 #[.val (.int p0), .val (.int p1), .val (.int p2), .val (.int p3), .val (.long p4), .second, .val (.long p5), .second, .val (.long xc), .second, .val (.long yc), .second, .val (.double dx), .second, .val (.double dy), .second, .val (.int (if xc < (p0.toInt64) then (0 : Int32) else (if xc < (p2.toInt64) then (1 : Int32) else (0 : Int32)))), .val (.int (if yc < (p1.toInt64) then (0 : Int32) else (if yc < (p3.toInt64) then (1 : Int32) else (0 : Int32)))), .unset] [(.double dy), (.double dx), (.int p3), (.int p2), (.int p1), (.int p0)])) rfl (by rw [hml]; rfl) (argsL := [(.int p0), (.int p1), (.int p2), (.int p3), (.double dx), (.double dy)]) (rest := []) (lenOf own_pd2 rfl) rfl (by show 2 * 0 + _ ≤ _; exact Nat.le_of_eq rfl) (hb hby at_90) (fun _ _ => ⟨rfl, eh22, (by decide : 0 + 0 ≤ _), (by decide : 0 + 0 ≤ _)⟩)
  dsimp only [Pt.U, Pt.locs, Pt.cells, Pt.slots] at X27 l27 y27 z27 st27 hQ27
  subst l27 y27 z27
  obtain ⟨rfl, N27q, eh27⟩ := hQ27
  have N27 := Fr.app N22 N27q
  refine own_step st27 ?_
  show own_Goes p e below _ (T27.setTop (mkF m 93 #[.val (.int p0), .val (.int p1), .val (.int p2), .val (.int p3), .val (.long p4), .second, .val (.long p5), .second, .val (.long xc), .second, .val (.long yc), .second, .val (.double dx), .second, .val (.double dy), .second, .val (.int (if xc < (p0.toInt64) then (0 : Int32) else (if xc < (p2.toInt64) then (1 : Int32) else (0 : Int32)))), .val (.int (if yc < (p1.toInt64) then (0 : Int32) else (if yc < (p3.toInt64) then (1 : Int32) else (0 : Int32)))), .unset] [(.int (if (0 : Int32) < (own_cg (FP.i2d p0) dx) then (0 : Int32) else (if (own_cg dx (FP.i2d p2)) < (0 : Int32) then (if (0 : Int32) < (own_cg (FP.i2d p1) dy) then (0 : Int32) else (if (own_cg dy (FP.i2d p3)) < (0 : Int32) then (1 : Int32) else (0 : Int32))) else (0 : Int32))))]))
  refine own_step (fun t k => XS.istore X27.here hx rfl (hb hby at_93) rfl (l' := #[.val (.int p0), .val (.int p1), .val (.int p2), .val (.int p3), .val (.long p4), .second, .val (.long p5), .second, .val (.long xc), .second, .val (.long yc), .second, .val (.double dx), .second, .val (.double dy), .second, .val (.int (if xc < (p0.toInt64) then (0 : Int32) else (if xc < (p2.toInt64) then (1 : Int32) else (0 : Int32)))), .val (.int (if yc < (p1.toInt64) then (0 : Int32) else (if yc < (p3.toInt64) then (1 : Int32) else (0 : Int32)))), .val (.int (if (0 : Int32) < (own_cg (FP.i2d p0) dx) then (0 : Int32) else (if (own_cg dx (FP.i2d p2)) < (0 : Int32) then (if (0 : Int32) < (own_cg (FP.i2d p1) dy) then (0 : Int32) else (if (own_cg dy (FP.i2d p3)) < (0 : Int32) then (1 : Int32) else (0 : Int32))) else (0 : Int32))))]) rfl k) ?_
  show own_Goes p e below _ (T27.setTop (mkF m 95 #[.val (.int p0), .val (.int p1), .val (.int p2), .val (.int p3), .val (.long p4), .second, .val (.long p5), .second, .val (.long xc), .second, .val (.long yc), .second, .val (.double dx), .second, .val (.double dy), .second, .val (.int (if xc < (p0.toInt64) then (0 : Int32) else (if xc < (p2.toInt64) then (1 : Int32) else (0 : Int32)))), .val (.int (if yc < (p1.toInt64) then (0 : Int32) else (if yc < (p3.toInt64) then (1 : Int32) else (0 : Int32)))), .val (.int (if (0 : Int32) < (own_cg (FP.i2d p0) dx) then (0 : Int32) else (if (own_cg dx (FP.i2d p2)) < (0 : Int32) then (if (0 : Int32) < (own_cg (FP.i2d p1) dy) then (0 : Int32) else (if (own_cg dy (FP.i2d p3)) < (0 : Int32) then (1 : Int32) else (0 : Int32))) else (0 : Int32))))] []))
  refine own_step (fun t k => XS.iload X27.here hx rfl (hb hby at_95) rfl k) ?_
  show own_Goes p e below _ (T27.setTop (mkF m 97 #[.val (.int p0), .val (.int p1), .val (.int p2), .val (.int p3), .val (.long p4), .second, .val (.long p5), .second, .val (.long xc), .second, .val (.long yc), .second, .val (.double dx), .second, .val (.double dy), .second, .val (.int (if xc < (p0.toInt64) then (0 : Int32) else (if xc < (p2.toInt64) then (1 : Int32) else (0 : Int32)))), .val (.int (if yc < (p1.toInt64) then (0 : Int32) else (if yc < (p3.toInt64) then (1 : Int32) else (0 : Int32)))), .val (.int (if (0 : Int32) < (own_cg (FP.i2d p0) dx) then (0 : Int32) else (if (own_cg dx (FP.i2d p2)) < (0 : Int32) then (if (0 : Int32) < (own_cg (FP.i2d p1) dy) then (0 : Int32) else (if (own_cg dy (FP.i2d p3)) < (0 : Int32) then (1 : Int32) else (0 : Int32))) else (0 : Int32))))] [(.int (if (0 : Int32) < (own_cg (FP.i2d p0) dx) then (0 : Int32) else (if (own_cg dx (FP.i2d p2)) < (0 : Int32) then (if (0 : Int32) < (own_cg (FP.i2d p1) dy) then (0 : Int32) else (if (own_cg dy (FP.i2d p3)) < (0 : Int32) then (1 : Int32) else (0 : Int32))) else (0 : Int32))))]))
  refine own_step (fun t k => XS.iload X27.here hx rfl (hb hby at_97) rfl k) ?_
  show own_Goes p e below _ (T27.setTop (mkF m 99 #[.val (.int p0), .val (.int p1), .val (.int p2), .val (.int p3), .val (.long p4), .second, .val (.long p5), .second, .val (.long xc), .second, .val (.long yc), .second, .val (.double dx), .second, .val (.double dy), .second, .val (.int (if xc < (p0.toInt64) then (0 : Int32) else (if xc < (p2.toInt64) then (1 : Int32) else (0 : Int32)))), .val (.int (if yc < (p1.toInt64) then (0 : Int32) else (if yc < (p3.toInt64) then (1 : Int32) else (0 : Int32)))), .val (.int (if (0 : Int32) < (own_cg (FP.i2d p0) dx) then (0 : Int32) else (if (own_cg dx (FP.i2d p2)) < (0 : Int32) then (if (0 : Int32) < (own_cg (FP.i2d p1) dy) then (0 : Int32) else (if (own_cg dy (FP.i2d p3)) < (0 : Int32) then (1 : Int32) else (0 : Int32))) else (0 : Int32))))] [(.int (if xc < (p0.toInt64) then (0 : Int32) else (if xc < (p2.toInt64) then (1 : Int32) else (0 : Int32)))), (.int (if (0 : Int32) < (own_cg (FP.i2d p0) dx) then (0 : Int32) else (if (own_cg dx (FP.i2d p2)) < (0 : Int32) then (if (0 : Int32) < (own_cg (FP.i2d p1) dy) then (0 : Int32) else (if (own_cg dy (FP.i2d p3)) < (0 : Int32) then (1 : Int32) else (0 : Int32))) else (0 : Int32))))]))
  refine own_step (S' := T27.setTop (mkF m 112 #[.val (.int p0), .val (.int p1), .val (.int p2), .val (.int p3), .val (.long p4), .second, .val (.long p5), .second, .val (.long xc), .second, .val (.long yc), .second, .val (.double dx), .second, .val (.double dy), .second, .val (.int (if xc < (p0.toInt64) then (0 : Int32) else (if xc < (p2.toInt64) then (1 : Int32) else (0 : Int32)))), .val (.int (if yc < (p1.toInt64) then (0 : Int32) else (if yc < (p3.toInt64) then (1 : Int32) else (0 : Int32)))), .val (.int (if (0 : Int32) < (own_cg (FP.i2d p0) dx) then (0 : Int32) else (if (own_cg dx (FP.i2d p2)) < (0 : Int32) then (if (0 : Int32) < (own_cg (FP.i2d p1) dy) then (0 : Int32) else (if (own_cg dy (FP.i2d p3)) < (0 : Int32) then (1 : Int32) else (0 : Int32))) else (0 : Int32))))] [(.int (if (if xc < (p0.toInt64) then (0 : Int32) else (if xc < (p2.toInt64) then (1 : Int32) else (0 : Int32))) = (0 : Int32) then (0 : Int32) else (if (if yc < (p1.toInt64) then (0 : Int32) else (if yc < (p3.toInt64) then (1 : Int32) else (0 : Int32))) = (0 : Int32) then (0 : Int32) else (1 : Int32)))), (.int (if (0 : Int32) < (own_cg (FP.i2d p0) dx) then (0 : Int32) else (if (own_cg dx (FP.i2d p2)) < (0 : Int32) then (if (0 : Int32) < (own_cg (FP.i2d p1) dy) then (0 : Int32) else (if (own_cg dy (FP.i2d p3)) < (0 : Int32) then (1 : Int32) else (0 : Int32))) else (0 : Int32))))])) (fun t k => ?_) ?_
  · show Steps p.tables e below (T27.setTop (mkF m 99 #[.val (.int p0), .val (.int p1), .val (.int p2), .val (.int p3), .val (.long p4), .second, .val (.long p5), .second, .val (.long xc), .second, .val (.long yc), .second, .val (.double dx), .second, .val (.double dy), .second, .val (.int (if xc < (p0.toInt64) then (0 : Int32) else (if xc < (p2.toInt64) then (1 : Int32) else (0 : Int32)))), .val (.int (if yc < (p1.toInt64) then (0 : Int32) else (if yc < (p3.toInt64) then (1 : Int32) else (0 : Int32)))), .val (.int (if (0 : Int32) < (own_cg (FP.i2d p0) dx) then (0 : Int32) else (if (own_cg dx (FP.i2d p2)) < (0 : Int32) then (if (0 : Int32) < (own_cg (FP.i2d p1) dy) then (0 : Int32) else (if (own_cg dy (FP.i2d p3)) < (0 : Int32) then (1 : Int32) else (0 : Int32))) else (0 : Int32))))] [(.int (if xc < (p0.toInt64) then (0 : Int32) else (if xc < (p2.toInt64) then (1 : Int32) else (0 : Int32)))), (.int (if (0 : Int32) < (own_cg (FP.i2d p0) dx) then (0 : Int32) else (if (own_cg dx (FP.i2d p2)) < (0 : Int32) then (if (0 : Int32) < (own_cg (FP.i2d p1) dy) then (0 : Int32) else (if (own_cg dy (FP.i2d p3)) < (0 : Int32) then (1 : Int32) else (0 : Int32))) else (0 : Int32))))])) _
    by_cases hc28 : (if xc < (p0.toInt64) then (0 : Int32) else (if xc < (p2.toInt64) then (1 : Int32) else (0 : Int32))) = (0 : Int32)
    · --
      refine XS.ifYes X27.here hx rfl (pc0 := 99) (pc' := 111) rfl (hb hby at_99) rfl ((if0 _ _).trans (teq hc28).1) (by decide) (by decide) ?_
      show Steps p.tables e below (T27.setTop (mkF m 111 #[.val (.int p0), .val (.int p1), .val (.int p2), .val (.int p3), .val (.long p4), .second, .val (.long p5), .second, .val (.long xc), .second, .val (.long yc), .second, .val (.double dx), .second, .val (.double dy), .second, .val (.int (if xc < (p0.toInt64) then (0 : Int32) else (if xc < (p2.toInt64) then (1 : Int32) else (0 : Int32)))), .val (.int (if yc < (p1.toInt64) then (0 : Int32) else (if yc < (p3.toInt64) then (1 : Int32) else (0 : Int32)))), .val (.int (if (0 : Int32) < (own_cg (FP.i2d p0) dx) then (0 : Int32) else (if (own_cg dx (FP.i2d p2)) < (0 : Int32) then (if (0 : Int32) < (own_cg (FP.i2d p1) dy) then (0 : Int32) else (if (own_cg dy (FP.i2d p3)) < (0 : Int32) then (1 : Int32) else (0 : Int32))) else (0 : Int32))))] [(.int (if (0 : Int32) < (own_cg (FP.i2d p0) dx) then (0 : Int32) else (if (own_cg dx (FP.i2d p2)) < (0 : Int32) then (if (0 : Int32) < (own_cg (FP.i2d p1) dy) then (0 : Int32) else (if (own_cg dy (FP.i2d p3)) < (0 : Int32) then (1 : Int32) else (0 : Int32))) else (0 : Int32))))])) _
      refine XS.iconst X27.here hx rfl (hb hby at_111) ?_
      show Steps p.tables e below (T27.setTop (mkF m 112 #[.val (.int p0), .val (.int p1), .val (.int p2), .val (.int p3), .val (.long p4), .second, .val (.long p5), .second, .val (.long xc), .second, .val (.long yc), .second, .val (.double dx), .second, .val (.double dy), .second, .val (.int (if xc < (p0.toInt64) then (0 : Int32) else (if xc < (p2.toInt64) then (1 : Int32) else (0 : Int32)))), .val (.int (if yc < (p1.toInt64) then (0 : Int32) else (if yc < (p3.toInt64) then (1 : Int32) else (0 : Int32)))), .val (.int (if (0 : Int32) < (own_cg (FP.i2d p0) dx) then (0 : Int32) else (if (own_cg dx (FP.i2d p2)) < (0 : Int32) then (if (0 : Int32) < (own_cg (FP.i2d p1) dy) then (0 : Int32) else (if (own_cg dy (FP.i2d p3)) < (0 : Int32) then (1 : Int32) else (0 : Int32))) else (0 : Int32))))] [(.int (0 : Int32)), (.int (if (0 : Int32) < (own_cg (FP.i2d p0) dx) then (0 : Int32) else (if (own_cg dx (FP.i2d p2)) < (0 : Int32) then (if (0 : Int32) < (own_cg (FP.i2d p1) dy) then (0 : Int32) else (if (own_cg dy (FP.i2d p3)) < (0 : Int32) then (1 : Int32) else (0 : Int32))) else (0 : Int32))))])) _
      simp only [if_pos hc28] at k
      exact k
    · --
      refine XS.ifNo X27.here hx rfl (hb hby at_99) rfl ((if0 _ _).trans (feq hc28).1) ?_
      show Steps p.tables e below (T27.setTop (mkF m 102 #[.val (.int p0), .val (.int p1), .val (.int p2), .val (.int p3), .val (.long p4), .second, .val (.long p5), .second, .val (.long xc), .second, .val (.long yc), .second, .val (.double dx), .second, .val (.double dy), .second, .val (.int (if xc < (p0.toInt64) then (0 : Int32) else (if xc < (p2.toInt64) then (1 : Int32) else (0 : Int32)))), .val (.int (if yc < (p1.toInt64) then (0 : Int32) else (if yc < (p3.toInt64) then (1 : Int32) else (0 : Int32)))), .val (.int (if (0 : Int32) < (own_cg (FP.i2d p0) dx) then (0 : Int32) else (if (own_cg dx (FP.i2d p2)) < (0 : Int32) then (if (0 : Int32) < (own_cg (FP.i2d p1) dy) then (0 : Int32) else (if (own_cg dy (FP.i2d p3)) < (0 : Int32) then (1 : Int32) else (0 : Int32))) else (0 : Int32))))] [(.int (if (0 : Int32) < (own_cg (FP.i2d p0) dx) then (0 : Int32) else (if (own_cg dx (FP.i2d p2)) < (0 : Int32) then (if (0 : Int32) < (own_cg (FP.i2d p1) dy) then (0 : Int32) else (if (own_cg dy (FP.i2d p3)) < (0 : Int32) then (1 : Int32) else (0 : Int32))) else (0 : Int32))))])) _
      refine XS.iload X27.here hx rfl (hb hby at_102) rfl ?_
      show Steps p.tables e below (T27.setTop (mkF m 104 #[.val (.int p0), .val (.int p1), .val (.int p2), .val (.int p3), .val (.long p4), .second, .val (.long p5), .second, .val (.long xc), .second, .val (.long yc), .second, .val (.double dx), .second, .val (.double dy), .second, .val (.int (if xc < (p0.toInt64) then (0 : Int32) else (if xc < (p2.toInt64) then (1 : Int32) else (0 : Int32)))), .val (.int (if yc < (p1.toInt64) then (0 : Int32) else (if yc < (p3.toInt64) then (1 : Int32) else (0 : Int32)))), .val (.int (if (0 : Int32) < (own_cg (FP.i2d p0) dx) then (0 : Int32) else (if (own_cg dx (FP.i2d p2)) < (0 : Int32) then (if (0 : Int32) < (own_cg (FP.i2d p1) dy) then (0 : Int32) else (if (own_cg dy (FP.i2d p3)) < (0 : Int32) then (1 : Int32) else (0 : Int32))) else (0 : Int32))))] [(.int (if yc < (p1.toInt64) then (0 : Int32) else (if yc < (p3.toInt64) then (1 : Int32) else (0 : Int32)))), (.int (if (0 : Int32) < (own_cg (FP.i2d p0) dx) then (0 : Int32) else (if (own_cg dx (FP.i2d p2)) < (0 : Int32) then (if (0 : Int32) < (own_cg (FP.i2d p1) dy) then (0 : Int32) else (if (own_cg dy (FP.i2d p3)) < (0 : Int32) then (1 : Int32) else (0 : Int32))) else (0 : Int32))))])) _
      by_cases hc29 : (if yc < (p1.toInt64) then (0 : Int32) else (if yc < (p3.toInt64) then (1 : Int32) else (0 : Int32))) = (0 : Int32)
      · --
        refine XS.ifYes X27.here hx rfl (pc0 := 104) (pc' := 111) rfl (hb hby at_104) rfl ((if0 _ _).trans (teq hc29).1) (by decide) (by decide) ?_
        show Steps p.tables e below (T27.setTop (mkF m 111 #[.val (.int p0), .val (.int p1), .val (.int p2), .val (.int p3), .val (.long p4), .second, .val (.long p5), .second, .val (.long xc), .second, .val (.long yc), .second, .val (.double dx), .second, .val (.double dy), .second, .val (.int (if xc < (p0.toInt64) then (0 : Int32) else (if xc < (p2.toInt64) then (1 : Int32) else (0 : Int32)))), .val (.int (if yc < (p1.toInt64) then (0 : Int32) else (if yc < (p3.toInt64) then (1 : Int32) else (0 : Int32)))), .val (.int (if (0 : Int32) < (own_cg (FP.i2d p0) dx) then (0 : Int32) else (if (own_cg dx (FP.i2d p2)) < (0 : Int32) then (if (0 : Int32) < (own_cg (FP.i2d p1) dy) then (0 : Int32) else (if (own_cg dy (FP.i2d p3)) < (0 : Int32) then (1 : Int32) else (0 : Int32))) else (0 : Int32))))] [(.int (if (0 : Int32) < (own_cg (FP.i2d p0) dx) then (0 : Int32) else (if (own_cg dx (FP.i2d p2)) < (0 : Int32) then (if (0 : Int32) < (own_cg (FP.i2d p1) dy) then (0 : Int32) else (if (own_cg dy (FP.i2d p3)) < (0 : Int32) then (1 : Int32) else (0 : Int32))) else (0 : Int32))))])) _
        refine XS.iconst X27.here hx rfl (hb hby at_111) ?_
        show Steps p.tables e below (T27.setTop (mkF m 112 #[.val (.int p0), .val (.int p1), .val (.int p2), .val (.int p3), .val (.long p4), .second, .val (.long p5), .second, .val (.long xc), .second, .val (.long yc), .second, .val (.double dx), .second, .val (.double dy), .second, .val (.int (if xc < (p0.toInt64) then (0 : Int32) else (if xc < (p2.toInt64) then (1 : Int32) else (0 : Int32)))), .val (.int (if yc < (p1.toInt64) then (0 : Int32) else (if yc < (p3.toInt64) then (1 : Int32) else (0 : Int32)))), .val (.int (if (0 : Int32) < (own_cg (FP.i2d p0) dx) then (0 : Int32) else (if (own_cg dx (FP.i2d p2)) < (0 : Int32) then (if (0 : Int32) < (own_cg (FP.i2d p1) dy) then (0 : Int32) else (if (own_cg dy (FP.i2d p3)) < (0 : Int32) then (1 : Int32) else (0 : Int32))) else (0 : Int32))))] [(.int (0 : Int32)), (.int (if (0 : Int32) < (own_cg (FP.i2d p0) dx) then (0 : Int32) else (if (own_cg dx (FP.i2d p2)) < (0 : Int32) then (if (0 : Int32) < (own_cg (FP.i2d p1) dy) then (0 : Int32) else (if (own_cg dy (FP.i2d p3)) < (0 : Int32) then (1 : Int32) else (0 : Int32))) else (0 : Int32))))])) _
        simp only [if_neg hc28, if_pos hc29] at k
        exact k
      · --
        refine XS.ifNo X27.here hx rfl (hb hby at_104) rfl ((if0 _ _).trans (feq hc29).1) ?_
        show Steps p.tables e below (T27.setTop (mkF m 107 #[.val (.int p0), .val (.int p1), .val (.int p2), .val (.int p3), .val (.long p4), .second, .val (.long p5), .second, .val (.long xc), .second, .val (.long yc), .second, .val (.double dx), .second, .val (.double dy), .second, .val (.int (if xc < (p0.toInt64) then (0 : Int32) else (if xc < (p2.toInt64) then (1 : Int32) else (0 : Int32)))), .val (.int (if yc < (p1.toInt64) then (0 : Int32) else (if yc < (p3.toInt64) then (1 : Int32) else (0 : Int32)))), .val (.int (if (0 : Int32) < (own_cg (FP.i2d p0) dx) then (0 : Int32) else (if (own_cg dx (FP.i2d p2)) < (0 : Int32) then (if (0 : Int32) < (own_cg (FP.i2d p1) dy) then (0 : Int32) else (if (own_cg dy (FP.i2d p3)) < (0 : Int32) then (1 : Int32) else (0 : Int32))) else (0 : Int32))))] [(.int (if (0 : Int32) < (own_cg (FP.i2d p0) dx) then (0 : Int32) else (if (own_cg dx (FP.i2d p2)) < (0 : Int32) then (if (0 : Int32) < (own_cg (FP.i2d p1) dy) then (0 : Int32) else (if (own_cg dy (FP.i2d p3)) < (0 : Int32) then (1 : Int32) else (0 : Int32))) else (0 : Int32))))])) _
        refine XS.iconst X27.here hx rfl (hb hby at_107) ?_
        show Steps p.tables e below (T27.setTop (mkF m 108 #[.val (.int p0), .val (.int p1), .val (.int p2), .val (.int p3), .val (.long p4), .second, .val (.long p5), .second, .val (.long xc), .second, .val (.long yc), .second, .val (.double dx), .second, .val (.double dy), .second, .val (.int (if xc < (p0.toInt64) then (0 : Int32) else (if xc < (p2.toInt64) then (1 : Int32) else (0 : Int32)))), .val (.int (if yc < (p1.toInt64) then (0 : Int32) else (if yc < (p3.toInt64) then (1 : Int32) else (0 : Int32)))), .val (.int (if (0 : Int32) < (own_cg (FP.i2d p0) dx) then (0 : Int32) else (if (own_cg dx (FP.i2d p2)) < (0 : Int32) then (if (0 : Int32) < (own_cg (FP.i2d p1) dy) then (0 : Int32) else (if (own_cg dy (FP.i2d p3)) < (0 : Int32) then (1 : Int32) else (0 : Int32))) else (0 : Int32))))] [(.int (1 : Int32)), (.int (if (0 : Int32) < (own_cg (FP.i2d p0) dx) then (0 : Int32) else (if (own_cg dx (FP.i2d p2)) < (0 : Int32) then (if (0 : Int32) < (own_cg (FP.i2d p1) dy) then (0 : Int32) else (if (own_cg dy (FP.i2d p3)) < (0 : Int32) then (1 : Int32) else (0 : Int32))) else (0 : Int32))))])) _
        refine XS.goto X27.here hx rfl (pc0 := 108) (pc' := 112) rfl (hb hby at_108) (by decide) (by decide) ?_
        show Steps p.tables e below (T27.setTop (mkF m 112 #[.val (.int p0), .val (.int p1), .val (.int p2), .val (.int p3), .val (.long p4), .second, .val (.long p5), .second, .val (.long xc), .second, .val (.long yc), .second, .val (.double dx), .second, .val (.double dy), .second, .val (.int (if xc < (p0.toInt64) then (0 : Int32) else (if xc < (p2.toInt64) then (1 : Int32) else (0 : Int32)))), .val (.int (if yc < (p1.toInt64) then (0 : Int32) else (if yc < (p3.toInt64) then (1 : Int32) else (0 : Int32)))), .val (.int (if (0 : Int32) < (own_cg (FP.i2d p0) dx) then (0 : Int32) else (if (own_cg dx (FP.i2d p2)) < (0 : Int32) then (if (0 : Int32) < (own_cg (FP.i2d p1) dy) then (0 : Int32) else (if (own_cg dy (FP.i2d p3)) < (0 : Int32) then (1 : Int32) else (0 : Int32))) else (0 : Int32))))] [(.int (1 : Int32)), (.int (if (0 : Int32) < (own_cg (FP.i2d p0) dx) then (0 : Int32) else (if (own_cg dx (FP.i2d p2)) < (0 : Int32) then (if (0 : Int32) < (own_cg (FP.i2d p1) dy) then (0 : Int32) else (if (own_cg dy (FP.i2d p3)) < (0 : Int32) then (1 : Int32) else (0 : Int32))) else (0 : Int32))))])) _
        simp only [if_neg hc28, if_neg hc29] at k
        exact k
  show own_Goes p e below _ (T27.setTop (mkF m 112 #[.val (.int p0), .val (.int p1), .val (.int p2), .val (.int p3), .val (.long p4), .second, .val (.long p5), .second, .val (.long xc), .second, .val (.long yc), .second, .val (.double dx), .second, .val (.double dy), .second, .val (.int (if xc < (p0.toInt64) then (0 : Int32) else (if xc < (p2.toInt64) then (1 : Int32) else (0 : Int32)))), .val (.int (if yc < (p1.toInt64) then (0 : Int32) else (if yc < (p3.toInt64) then (1 : Int32) else (0 : Int32)))), .val (.int (if (0 : Int32) < (own_cg (FP.i2d p0) dx) then (0 : Int32) else (if (own_cg dx (FP.i2d p2)) < (0 : Int32) then (if (0 : Int32) < (own_cg (FP.i2d p1) dy) then (0 : Int32) else (if (own_cg dy (FP.i2d p3)) < (0 : Int32) then (1 : Int32) else (0 : Int32))) else (0 : Int32))))] [(.int (if (if xc < (p0.toInt64) then (0 : Int32) else (if xc < (p2.toInt64) then (1 : Int32) else (0 : Int32))) = (0 : Int32) then (0 : Int32) else (if (if yc < (p1.toInt64) then (0 : Int32) else (if yc < (p3.toInt64) then (1 : Int32) else (0 : Int32))) = (0 : Int32) then (0 : Int32) else (1 : Int32)))), (.int (if (0 : Int32) < (own_cg (FP.i2d p0) dx) then (0 : Int32) else (if (own_cg dx (FP.i2d p2)) < (0 : Int32) then (if (0 : Int32) < (own_cg (FP.i2d p1) dy) then (0 : Int32) else (if (own_cg dy (FP.i2d p3)) < (0 : Int32) then (1 : Int32) else (0 : Int32))) else (0 : Int32))))]))
  refine own_step (S' := T27.setTop (mkF m 120 #[.val (.int p0), .val (.int p1), .val (.int p2), .val (.int p3), .val (.long p4), .second, .val (.long p5), .second, .val (.long xc), .second, .val (.long yc), .second, .val (.double dx), .second, .val (.double dy), .second, .val (.int (if xc < (p0.toInt64) then (0 : Int32) else (if xc < (p2.toInt64) then (1 : Int32) else (0 : Int32)))), .val (.int (if yc < (p1.toInt64) then (0 : Int32) else (if yc < (p3.toInt64) then (1 : Int32) else (0 : Int32)))), .val (.int (if (0 : Int32) < (own_cg (FP.i2d p0) dx) then (0 : Int32) else (if (own_cg dx (FP.i2d p2)) < (0 : Int32) then (if (0 : Int32) < (own_cg (FP.i2d p1) dy) then (0 : Int32) else (if (own_cg dy (FP.i2d p3)) < (0 : Int32) then (1 : Int32) else (0 : Int32))) else (0 : Int32))))] [(.int (if (if (0 : Int32) < (own_cg (FP.i2d p0) dx) then (0 : Int32) else (if (own_cg dx (FP.i2d p2)) < (0 : Int32) then (if (0 : Int32) < (own_cg (FP.i2d p1) dy) then (0 : Int32) else (if (own_cg dy (FP.i2d p3)) < (0 : Int32) then (1 : Int32) else (0 : Int32))) else (0 : Int32))) = (if (if xc < (p0.toInt64) then (0 : Int32) else (if xc < (p2.toInt64) then (1 : Int32) else (0 : Int32))) = (0 : Int32) then (0 : Int32) else (if (if yc < (p1.toInt64) then (0 : Int32) else (if yc < (p3.toInt64) then (1 : Int32) else (0 : Int32))) = (0 : Int32) then (0 : Int32) else (1 : Int32))) then (1 : Int32) else (0 : Int32)))])) (fun t k => ?_) ?_
  · show Steps p.tables e below (T27.setTop (mkF m 112 #[.val (.int p0), .val (.int p1), .val (.int p2), .val (.int p3), .val (.long p4), .second, .val (.long p5), .second, .val (.long xc), .second, .val (.long yc), .second, .val (.double dx), .second, .val (.double dy), .second, .val (.int (if xc < (p0.toInt64) then (0 : Int32) else (if xc < (p2.toInt64) then (1 : Int32) else (0 : Int32)))), .val (.int (if yc < (p1.toInt64) then (0 : Int32) else (if yc < (p3.toInt64) then (1 : Int32) else (0 : Int32)))), .val (.int (if (0 : Int32) < (own_cg (FP.i2d p0) dx) then (0 : Int32) else (if (own_cg dx (FP.i2d p2)) < (0 : Int32) then (if (0 : Int32) < (own_cg (FP.i2d p1) dy) then (0 : Int32) else (if (own_cg dy (FP.i2d p3)) < (0 : Int32) then (1 : Int32) else (0 : Int32))) else (0 : Int32))))] [(.int (if (if xc < (p0.toInt64) then (0 : Int32) else (if xc < (p2.toInt64) then (1 : Int32) else (0 : Int32))) = (0 : Int32) then (0 : Int32) else (if (if yc < (p1.toInt64) then (0 : Int32) else (if yc < (p3.toInt64) then (1 : Int32) else (0 : Int32))) = (0 : Int32) then (0 : Int32) else (1 : Int32)))), (.int (if (0 : Int32) < (own_cg (FP.i2d p0) dx) then (0 : Int32) else (if (own_cg dx (FP.i2d p2)) < (0 : Int32) then (if (0 : Int32) < (own_cg (FP.i2d p1) dy) then (0 : Int32) else (if (own_cg dy (FP.i2d p3)) < (0 : Int32) then (1 : Int32) else (0 : Int32))) else (0 : Int32))))])) _
    by_cases hc30 : (if (0 : Int32) < (own_cg (FP.i2d p0) dx) then (0 : Int32) else (if (own_cg dx (FP.i2d p2)) < (0 : Int32) then (if (0 : Int32) < (own_cg (FP.i2d p1) dy) then (0 : Int32) else (if (own_cg dy (FP.i2d p3)) < (0 : Int32) then (1 : Int32) else (0 : Int32))) else (0 : Int32))) = (if (if xc < (p0.toInt64) then (0 : Int32) else (if xc < (p2.toInt64) then (1 : Int32) else (0 : Int32))) = (0 : Int32) then (0 : Int32) else (if (if yc < (p1.toInt64) then (0 : Int32) else (if yc < (p3.toInt64) then (1 : Int32) else (0 : Int32))) = (0 : Int32) then (0 : Int32) else (1 : Int32)))
    · --
      refine XS.icmpNo X27.here hx rfl (hb hby at_112) rfl (teq hc30).2 ?_
      show Steps p.tables e below (T27.setTop (mkF m 115 #[.val (.int p0), .val (.int p1), .val (.int p2), .val (.int p3), .val (.long p4), .second, .val (.long p5), .second, .val (.long xc), .second, .val (.long yc), .second, .val (.double dx), .second, .val (.double dy), .second, .val (.int (if xc < (p0.toInt64) then (0 : Int32) else (if xc < (p2.toInt64) then (1 : Int32) else (0 : Int32)))), .val (.int (if yc < (p1.toInt64) then (0 : Int32) else (if yc < (p3.toInt64) then (1 : Int32) else (0 : Int32)))), .val (.int (if (0 : Int32) < (own_cg (FP.i2d p0) dx) then (0 : Int32) else (if (own_cg dx (FP.i2d p2)) < (0 : Int32) then (if (0 : Int32) < (own_cg (FP.i2d p1) dy) then (0 : Int32) else (if (own_cg dy (FP.i2d p3)) < (0 : Int32) then (1 : Int32) else (0 : Int32))) else (0 : Int32))))] [])) _
      refine XS.iconst X27.here hx rfl (hb hby at_115) ?_
      show Steps p.tables e below (T27.setTop (mkF m 116 #[.val (.int p0), .val (.int p1), .val (.int p2), .val (.int p3), .val (.long p4), .second, .val (.long p5), .second, .val (.long xc), .second, .val (.long yc), .second, .val (.double dx), .second, .val (.double dy), .second, .val (.int (if xc < (p0.toInt64) then (0 : Int32) else (if xc < (p2.toInt64) then (1 : Int32) else (0 : Int32)))), .val (.int (if yc < (p1.toInt64) then (0 : Int32) else (if yc < (p3.toInt64) then (1 : Int32) else (0 : Int32)))), .val (.int (if (0 : Int32) < (own_cg (FP.i2d p0) dx) then (0 : Int32) else (if (own_cg dx (FP.i2d p2)) < (0 : Int32) then (if (0 : Int32) < (own_cg (FP.i2d p1) dy) then (0 : Int32) else (if (own_cg dy (FP.i2d p3)) < (0 : Int32) then (1 : Int32) else (0 : Int32))) else (0 : Int32))))] [(.int (1 : Int32))])) _
      refine XS.goto X27.here hx rfl (pc0 := 116) (pc' := 120) rfl (hb hby at_116) (by decide) (by decide) ?_
      show Steps p.tables e below (T27.setTop (mkF m 120 #[.val (.int p0), .val (.int p1), .val (.int p2), .val (.int p3), .val (.long p4), .second, .val (.long p5), .second, .val (.long xc), .second, .val (.long yc), .second, .val (.double dx), .second, .val (.double dy), .second, .val (.int (if xc < (p0.toInt64) then (0 : Int32) else (if xc < (p2.toInt64) then (1 : Int32) else (0 : Int32)))), .val (.int (if yc < (p1.toInt64) then (0 : Int32) else (if yc < (p3.toInt64) then (1 : Int32) else (0 : Int32)))), .val (.int (if (0 : Int32) < (own_cg (FP.i2d p0) dx) then (0 : Int32) else (if (own_cg dx (FP.i2d p2)) < (0 : Int32) then (if (0 : Int32) < (own_cg (FP.i2d p1) dy) then (0 : Int32) else (if (own_cg dy (FP.i2d p3)) < (0 : Int32) then (1 : Int32) else (0 : Int32))) else (0 : Int32))))] [(.int (1 : Int32))])) _
      simp only [if_pos hc30] at k
      exact k
    · --
      refine XS.icmpYes X27.here hx rfl (pc0 := 112) (pc' := 119) rfl (hb hby at_112) rfl (feq hc30).2 (by decide) (by decide) ?_
      show Steps p.tables e below (T27.setTop (mkF m 119 #[.val (.int p0), .val (.int p1), .val (.int p2), .val (.int p3), .val (.long p4), .second, .val (.long p5), .second, .val (.long xc), .second, .val (.long yc), .second, .val (.double dx), .second, .val (.double dy), .second, .val (.int (if xc < (p0.toInt64) then (0 : Int32) else (if xc < (p2.toInt64) then (1 : Int32) else (0 : Int32)))), .val (.int (if yc < (p1.toInt64) then (0 : Int32) else (if yc < (p3.toInt64) then (1 : Int32) else (0 : Int32)))), .val (.int (if (0 : Int32) < (own_cg (FP.i2d p0) dx) then (0 : Int32) else (if (own_cg dx (FP.i2d p2)) < (0 : Int32) then (if (0 : Int32) < (own_cg (FP.i2d p1) dy) then (0 : Int32) else (if (own_cg dy (FP.i2d p3)) < (0 : Int32) then (1 : Int32) else (0 : Int32))) else (0 : Int32))))] [])) _
      refine XS.iconst X27.here hx rfl (hb hby at_119) ?_
      show Steps p.tables e below (T27.setTop (mkF m 120 #[.val (.int p0), .val (.int p1), .val (.int p2), .val (.int p3), .val (.long p4), .second, .val (.long p5), .second, .val (.long xc), .second, .val (.long yc), .second, .val (.double dx), .second, .val (.double dy), .second, .val (.int (if xc < (p0.toInt64) then (0 : Int32) else (if xc < (p2.toInt64) then (1 : Int32) else (0 : Int32)))), .val (.int (if yc < (p1.toInt64) then (0 : Int32) else (if yc < (p3.toInt64) then (1 : Int32) else (0 : Int32)))), .val (.int (if (0 : Int32) < (own_cg (FP.i2d p0) dx) then (0 : Int32) else (if (own_cg dx (FP.i2d p2)) < (0 : Int32) then (if (0 : Int32) < (own_cg (FP.i2d p1) dy) then (0 : Int32) else (if (own_cg dy (FP.i2d p3)) < (0 : Int32) then (1 : Int32) else (0 : Int32))) else (0 : Int32))))] [(.int (0 : Int32))])) _
      simp only [if_neg hc30] at k
      exact k
  show own_Goes p e below _ (T27.setTop (mkF m 120 #[.val (.int p0), .val (.int p1), .val (.int p2), .val (.int p3), .val (.long p4), .second, .val (.long p5), .second, .val (.long xc), .second, .val (.long yc), .second, .val (.double dx), .second, .val (.double dy), .second, .val (.int (if xc < (p0.toInt64) then (0 : Int32) else (if xc < (p2.toInt64) then (1 : Int32) else (0 : Int32)))), .val (.int (if yc < (p1.toInt64) then (0 : Int32) else (if yc < (p3.toInt64) then (1 : Int32) else (0 : Int32)))), .val (.int (if (0 : Int32) < (own_cg (FP.i2d p0) dx) then (0 : Int32) else (if (own_cg dx (FP.i2d p2)) < (0 : Int32) then (if (0 : Int32) < (own_cg (FP.i2d p1) dy) then (0 : Int32) else (if (own_cg dy (FP.i2d p3)) < (0 : Int32) then (1 : Int32) else (0 : Int32))) else (0 : Int32))))] [(.int (if (if (0 : Int32) < (own_cg (FP.i2d p0) dx) then (0 : Int32) else (if (own_cg dx (FP.i2d p2)) < (0 : Int32) then (if (0 : Int32) < (own_cg (FP.i2d p1) dy) then (0 : Int32) else (if (own_cg dy (FP.i2d p3)) < (0 : Int32) then (1 : Int32) else (0 : Int32))) else (0 : Int32))) = (if (if xc < (p0.toInt64) then (0 : Int32) else (if xc < (p2.toInt64) then (1 : Int32) else (0 : Int32))) = (0 : Int32) then (0 : Int32) else (if (if yc < (p1.toInt64) then (0 : Int32) else (if yc < (p3.toInt64) then (1 : Int32) else (0 : Int32))) = (0 : Int32) then (0 : Int32) else (1 : Int32))) then (1 : Int32) else (0 : Int32)))]))
  refine own_retL X27 hx hlk Bd.returns (hb hby at_120) (?_ : (if (if (0 : Int32) < (own_cg (FP.i2d p0) dx) then (0 : Int32) else (if (own_cg dx (FP.i2d p2)) < (0 : Int32) then (if (0 : Int32) < (own_cg (FP.i2d p1) dy) then (0 : Int32) else (if (own_cg dy (FP.i2d p3)) < (0 : Int32) then (1 : Int32) else (0 : Int32))) else (0 : Int32))) = (if (if xc < (p0.toInt64) then (0 : Int32) else (if xc < (p2.toInt64) then (1 : Int32) else (0 : Int32))) = (0 : Int32) then (0 : Int32) else (if (if yc < (p1.toInt64) then (0 : Int32) else (if yc < (p3.toInt64) then (1 : Int32) else (0 : Int32))) = (0 : Int32) then (0 : Int32) else (1 : Int32))) then (1 : Int32) else (0 : Int32)) = 1) N27 (by decide) (by decide)
  exact own_plain hv_xc hv_yc hv_dx hv_dy
set_option maxRecDepth 65536 in
set_option maxHeartbeats 40000000 in
theorem comes_1 {Post : Tables → Env → Array Value → State → Outcome → State → Prop} (hpost : ∀ tb e args s v u, (limb_1_1.after args s (.returned v) u = true ∧ limb_1_2.after args s (.returned v) u = true ∧ True) → FrameEnd s (.returned v) u (Jvm.fieldLocs frame_1_writes args s ++ Jvm.arrayLocs frame_1_arrays args s ++ Jvm.staticLocs frame_1_statics s) 0 0 → Post tb e args s (.returned v) u) :
    ArmFor flags0 classFile x code maxLocals ret World_1 tables_1 room_1 Calls_1 rest_1 Pre_1 Post := by
  intro l hfl _ _ p e ha hc hk s m args below hf hA hF happ hP
  obtain ⟨hcalls, hrest, hpre⟩ := hP
  obtain ⟨-, -, -, hnamed, -, -, -, hat⟩ := (Spec.applies_iff hf).mp happ
  obtain ⟨hg, hn⟩ := and_e (Cond.before_iff.mp (show (Jvm.Cond.and given_1 narrow_1).before args s = true from hpre))
  obtain ⟨gg1, gg2⟩ := and_e hg
  obtain ⟨gg3, gg4⟩ := and_e gg2
  obtain ⟨gg5, gg6⟩ := and_e gg4
  obtain ⟨gg7, gg8⟩ := and_e gg6
  obtain ⟨gg9, gg10⟩ := and_e gg8
  obtain ⟨gg11, gg12⟩ := and_e gg10
  obtain ⟨w0, w1, w2, w3, w4, w5, rfl⟩ : ∃ w0 w1 w2 w3 w4 w5 : Value, args = #[w0, w1, w2, w3, w4, w5] := by
    have hs : args.size = 6 := by simpa [Cond.value, given_1] using gg1
    obtain ⟨L⟩ := args
    match L, hs with
    | [w0, w1, w2, w3, w4, w5], _ => exact ⟨w0, w1, w2, w3, w4, w5, rfl⟩
  have hw := fun d (hd : d ∈ tables_1) => atoms_spec (ws := Jvm.Cond.code x code maxLocals ret :: tables_1) hat d (List.mem_cons_of_mem _ hd)
  have hfit : Fit s := fun {y c} hc i hi => by
    obtain ⟨ha, rfl⟩ := Array.getElem?_eq_some_iff.mp hc
    have q := List.all_eq_true.mp ((Array.all_eq_true_iff_forall_mem.mp hF) _ (Array.getElem_mem ha)) i (List.mem_range.mpr hi)
    simpa [Array.getElem?_eq_getElem hi] using q
  obtain ⟨i0, ei0⟩ := is_v gg3
  obtain rfl : w0 = (.int i0) := Option.some.inj ei0
  obtain ⟨i1, ei1⟩ := is_v gg5
  obtain rfl : w1 = (.int i1) := Option.some.inj ei1
  obtain ⟨i2, ei2⟩ := is_v gg7
  obtain rfl : w2 = (.int i2) := Option.some.inj ei2
  obtain ⟨i3, ei3⟩ := is_v gg9
  obtain rfl : w3 = (.int i3) := Option.some.inj ei3
  obtain ⟨i4, ei4⟩ := isL_v gg11
  obtain rfl : w4 = (.long i4) := Option.some.inj ei4
  obtain ⟨i5, ei5⟩ := isL_v gg12
  obtain rfl : w5 = (.long i5) := Option.some.inj ei5
  obtain ⟨n, o, h1, h2, h3, _, L, rfl, ⟨rfl, N⟩, hq⟩ := own_law l s _ hw tables_1 i0 i1 i2 i3 i4 i5  s.heap s.heap.size (Nat.le_refl _)  p e ha hc hk s m _ below hf ((Spec.applies_iff_loose hf).mp happ).1 ⟨rfl, State.Warmed39.refl s, rfl⟩ trivial
  refine ⟨n, _, h1, h2, h3, hpost _ _ _ _ _ _ ⟨Cond.after_iff.mpr rfl, Cond.after_iff.mpr (eq_i res_at (Term.int_eval (1)) rfl), trivial⟩ ⟨hq.1, hq.2.1, (hq.2.2.sift fun y hy => Or.inr (N y hy)).mono (by decide) (by decide)⟩⟩
theorem main_1_1 : Claimed_1_1 := comes_1 fun _ _ _ _ _ _ h hF => ⟨h.1, hF⟩
theorem main_1_2 : Claimed_1_2 := comes_1 fun _ _ _ _ _ _ h hF => ⟨h.2.1, hF⟩
end Jvm.Pilot.@@N@@
namespace Jvm.Pilot.@@N@@
open Jvm Jvm.ClassFile Sem Op Lib Jvm.Free Jvm.Stand Jvm.Pilot.@@N@@.Jvm.D
/-! MADE BY PROGRAM (witnessworld.py) out of the Statement's table words and the real class files: 9 classes; the members and pool entries that the words name. The judged class is class 1, her method 3. -/
namespace start1
open Jvm.ClassFile
def u (s : String) : CpInfo := .utf8 (stringToUtf16 s)
/-- a pool by its gaps: so many unusable entries, then the entry; so many at the end -/
def gap : Nat → List CpInfo → List CpInfo
  | 0, r => r
  | n + 1, r => .unusable :: gap n r
def poolList (es : List (Nat × CpInfo)) (last : Nat) : List CpInfo := es.foldr (fun e r => gap e.1 (e.2 :: r)) (gap last [])
def pool (es : List (Nat × CpInfo)) (last : Nat) : Array CpInfo := ⟨poolList es last⟩
def fileOf (pool : Array CpInfo) (this : Nat) (attrs : Array Attribute := #[]) (ms : Array MethodInfo := #[]) (fl : Nat := 33) (sup : Nat := 0) (ifs : Array Nat := #[]) (fds : Array FieldInfo := #[]) : ClassFile where
  minorVersion := 0
  majorVersion := 65
  constantPool := pool
  accessFlags := fl
  thisClass := this
  superClass := sup
  interfaces := ifs
  fields := fds
  methods := ms
  attributes := attrs
def plain (name : String) (sup : Option ClassId) : Class where
  name := name
  kind := .ordinary
  loader := none
  accessFlags := 33
  super := sup
  interfaces := #[]
  cf := none
  fields := #[]
  methods := #[]
  instanceTypes := #[]
  staticTypes := #[]
  resolved := #[]
  callSites := []
  init := .initialized
  statics := none
  mirror := none

def pool0 : Array CpInfo := pool [(5, u "<init>"), (0, u "()V"), (1, .class_ 10), (1, u "java/lang/Object")] 113

def k0m0 : Method := { name := "<init>", desc := "()V", sig := { parameters := [], returnType := none }, accessFlags := 1, code := none }
/-- java/lang/Object -/
def k0 : Class := { plain "java/lang/Object" none with
  accessFlags := 33
  interfaces := #[]
  cf := some (fileOf pool0 8 #[] #[{ accessFlags := 1, nameIndex := 5, descriptorIndex := 6, attributes := #[] }] 33 0 #[] #[])
  fields := #[]
  methods := #[k0m0]
  instanceTypes := #[]
  staticTypes := #[]
  resolved := Array.replicate 124 none
  statics := none }

def pool1 : Array CpInfo := pool [(2, .class_ 4), (1, u "java/lang/Object"), (0, u "<init>"), (0, u "()V"), (0, .long 7), (1, .double 4602678819172646912), (1, .methodref 12 13), (0, .class_ 14), (0, .nameAndType 15 16), (0, u "com/example/heed/heed/RectHoldsPinLaw"), (0, u "pick"), (0, u "(JII)J"), (0, .methodref 12 18), (0, .nameAndType 19 20), (0, u "coord"), (0, u "(JJ)D"), (0, .methodref 22 23), (0, .class_ 24), (0, .nameAndType 25 26), (0, u "com/example/heed/heed/Rect"), (0, u "holds"), (0, u "(IIIIDD)Z"), (3, u "law"), (0, u "(IIIIJJ)Z")] 2

def k1m0 : Method := { name := "<init>", desc := "()V", sig := { parameters := [], returnType := none }, accessFlags := 1, code := none }
def k1c1 : Code := { maxStack := 4, maxLocals := 5, code := method_2_code, exceptionTable := #[], attributes := #[] }
def k1m1 : Method := { name := "pick", desc := "(JII)J", sig := { parameters := [.long, .int, .int], returnType := some .long }, accessFlags := 10, code := some k1c1 }
def k1c2 : Code := { maxStack := 4, maxLocals := 6, code := method_3_code, exceptionTable := #[], attributes := #[] }
def k1m2 : Method := { name := "coord", desc := "(JJ)D", sig := { parameters := [.long, .long], returnType := some .double }, accessFlags := 10, code := some k1c2 }
def k1c3 : Code := { maxStack := 8, maxLocals := 19, code := code, exceptionTable := #[], attributes := #[] }
def k1m3 : Method := { name := "law", desc := "(IIIIJJ)Z", sig := { parameters := [.int, .int, .int, .int, .long, .long], returnType := some .boolean }, accessFlags := 9, code := some k1c3 }
/-- com/example/heed/heed/RectHoldsPinLaw -/
def k1 : Class := { plain "com/example/heed/heed/RectHoldsPinLaw" (some 0) with
  accessFlags := 49
  interfaces := #[]
  cf := some (fileOf pool1 12 #[] #[{ accessFlags := 1, nameIndex := 5, descriptorIndex := 6, attributes := #[] }, { accessFlags := 10, nameIndex := 15, descriptorIndex := 16, attributes := #[] }, { accessFlags := 10, nameIndex := 19, descriptorIndex := 20, attributes := #[] }, { accessFlags := 9, nameIndex := 30, descriptorIndex := 31, attributes := #[] }] 49 2 #[] #[])
  fields := #[]
  methods := #[k1m0, k1m1, k1m2, k1m3]
  instanceTypes := #[]
  staticTypes := #[]
  resolved := Array.replicate 34 none
  statics := none }

def pool2 : Array CpInfo := pool [(2, .class_ 4), (1, u "java/lang/Object"), (3, .class_ 10), (1, u "com/example/heed/heed/Rect"), (0, u "left"), (0, u "I"), (2, u "top"), (2, u "right"), (2, u "bottom"), (2, u "TEXT"), (0, u "Ljava/util/regex/Pattern;"), (42, u "holds"), (0, u "(IIIIDD)Z")] 58

def k2c0 : Code := { maxStack := 4, maxLocals := 8, code := prog_50_method_8_code, exceptionTable := #[], attributes := #[] }
def k2m0 : Method := { name := "holds", desc := "(IIIIDD)Z", sig := { parameters := [.int, .int, .int, .int, .double, .double], returnType := some .boolean }, accessFlags := 8, code := some k2c0 }
/-- com/example/heed/heed/Rect -/
def k2 : Class := { plain "com/example/heed/heed/Rect" (some 0) with
  accessFlags := 33
  interfaces := #[]
  cf := some (fileOf pool2 8 #[] #[{ accessFlags := 8, nameIndex := 68, descriptorIndex := 69, attributes := #[] }] 33 2 #[] #[{ accessFlags := 26, nameIndex := 24, descriptorIndex := 25, attributes := #[] }, { accessFlags := 18, nameIndex := 11, descriptorIndex := 12, attributes := #[] }, { accessFlags := 18, nameIndex := 15, descriptorIndex := 12, attributes := #[] }, { accessFlags := 18, nameIndex := 18, descriptorIndex := 12, attributes := #[] }, { accessFlags := 18, nameIndex := 21, descriptorIndex := 12, attributes := #[] }])
  fields := #[{ name := "TEXT", type := (.object "java/util/regex/Pattern"), accessFlags := 26, slot := 0, constantValue := 0 }, { name := "left", type := .int, accessFlags := 18, slot := 0, constantValue := 0 }, { name := "top", type := .int, accessFlags := 18, slot := 1, constantValue := 0 }, { name := "right", type := .int, accessFlags := 18, slot := 2, constantValue := 0 }, { name := "bottom", type := .int, accessFlags := 18, slot := 3, constantValue := 0 }]
  methods := #[k2m0]
  instanceTypes := #[.int, .int, .int, .int]
  staticTypes := #[(.object "java/util/regex/Pattern")]
  resolved := Array.replicate 128 none
  statics := none }

def pool3 : Array CpInfo := pool [(1, u "java/lang/Cloneable"), (0, .class_ 1), (0, u "java/lang/Object"), (0, .class_ 3)] 3

/-- java/lang/Cloneable -/
def k3 : Class := { plain "java/lang/Cloneable" (some 0) with
  accessFlags := 1537
  interfaces := #[]
  cf := some (fileOf pool3 2 #[] #[] 1537 4 #[] #[])
  fields := #[]
  methods := #[]
  instanceTypes := #[]
  staticTypes := #[]
  resolved := Array.replicate 8 none
  statics := none }

def pool4 : Array CpInfo := pool [(1, u "java/io/Serializable"), (0, .class_ 1), (0, u "java/lang/Object"), (0, .class_ 3)] 3

/-- java/io/Serializable -/
def k4 : Class := { plain "java/io/Serializable" (some 0) with
  accessFlags := 1537
  interfaces := #[]
  cf := some (fileOf pool4 2 #[] #[] 1537 4 #[] #[])
  fields := #[]
  methods := #[]
  instanceTypes := #[]
  staticTypes := #[]
  resolved := Array.replicate 8 none
  statics := none }

/-- the primitive byte -/
def k5 : Class := { plain "byte" none with kind := .primitive 'B', accessFlags := 0x411 }
/-- [B -/
def k6 : Class := { plain "[B" (some 0) with kind := .array 5 .byte, interfaces := #[3, 4], accessFlags := 1041 }

/-- the primitive int -/
def k7 : Class := { plain "int" none with kind := .primitive 'I', accessFlags := 0x411 }
/-- [I -/
def k8 : Class := { plain "[I" (some 0) with kind := .array 7 .int, interfaces := #[3, 4], accessFlags := 1041 }

def heap : Heap := #[]
def classes : Array Class := #[k0, k1, k2, k3, k4, k5, k6, k7, k8]
def interned : List (Array UInt16 × Addr) := []
def slotsUsed : Nat := 0
def theMethod : MethodId := ⟨1, 3⟩
def args0 : Array Value := #[.int 1, .int 2, .int 3, .int 4, .long 5, .long 6]
def aboutOver (below : List Frame) : State where
  vm := { classes := classes, interned := interned.toArray }
  heap := heap
  slotsUsed := slotsUsed
  threads := #[{ frames := .invoking theMethod args0 :: below }]
def below0 : List Frame := [.native { method := ⟨0, 0⟩, args := #[] }]
def about1 : State := aboutOver below0
def p0 : Program := .bare "" "" ""
def e0 : Env := launch0.env 0 0 0
theorem w_frames : about1.frames = Frame.invoking theMethod args0 :: below0 := rfl
set_option maxRecDepth 65536 in
theorem w_args : argsFit about1.vm theMethod args0 = true := by decide +kernel
set_option maxRecDepth 65536 in
theorem w_heap : heapFits about1 = true := by decide +kernel
set_option maxRecDepth 65536 in
theorem w_runnable : about1.curStatus? = some .runnable := by decide +kernel
set_option maxRecDepth 65536 in
theorem w_alone : about1.alone = true := by decide +kernel
set_option maxRecDepth 65536 in
theorem w_named : about1.methodNamed? x = some theMethod := by decide +kernel
set_option maxRecDepth 65536 in
theorem w_hears : about1.hears theMethod below0 = true := by decide +kernel
set_option maxRecDepth 65536 in
theorem w_ripe : about1.ripe theMethod args0 below0 = true := by decide +kernel
theorem w_running : about1.status = .running := rfl
set_option maxRecDepth 65536 in
theorem w_room : about1.hasRoom e0.platform room_1 = true :=
  launch0.hasRoom_least _ room_1 (by decide +kernel) (by decide +kernel) (by decide +kernel) (by decide +kernel) (by decide +kernel) (by decide +kernel)
theorem allAtoms_all (ts : List Jvm.Cond) (a : Array Jvm.Value) (st : Jvm.State) : (allAtoms ts).before a st = ts.all (fun c => c.before a st) := by
  induction ts with
  | nil => rfl
  | cons c t ih =>
    show (Jvm.Cond.and c (allAtoms t)).before a st = _
    rw [Jvm.Cond.before_and, ih, List.all_cons]
def words1 : List Jvm.Cond := Jvm.Cond.code x code maxLocals ret :: tables_1
/-- a 'code' word, met by the world's own term for the bytes: nothing is compared byte by byte -/
theorem code_word {y : MethodName} {bytes : ByteArray} {mx : Nat} {rt : Option FieldType} {a : Array Value} {s : State} {m : MethodId} {meth : Method} {c : Code} (h1 : s.methodNamed? y = some m) (h2 : s.vm.method? m = some meth) (h3 : meth.code = some c) (h4 : c.code = bytes)
    (h5 : (c.maxLocals == mx && c.exceptionTable.isEmpty && decide (c.maxStack ≤ mostOperands) && decide (meth.sig.returnType = rt) && !meth.locks && decide (parseMethodDescriptor y.desc = some meth.sig)) = true) : (Jvm.Cond.code y bytes mx rt).before a s = true := by
  simp only [Bool.and_eq_true, beq_iff_eq, Bool.not_eq_true', decide_eq_true_eq] at h5
  obtain ⟨⟨⟨⟨⟨g1, g2⟩, g3⟩, g4⟩, g5⟩, g6⟩ := h5
  simp [Cond.before, Cond.holds, Cond.value, h1, h2, h3, h4, g1, g2, g3, g4, g5, g6]
def isCode : Jvm.Cond → Bool
  | .code _ _ _ _ => true
  | _ => false
theorem all_split {L : List Jvm.Cond} {P : Jvm.Cond → Bool} (h1 : L.all (fun c => isCode c || P c) = true) (h2 : ∀ c ∈ L.filter isCode, P c = true) : L.all P = true := by
  refine List.all_eq_true.mpr fun c hc => ?_
  have h := List.all_eq_true.mp h1 c hc
  rcases Bool.eq_false_or_eq_true (isCode c) with hi | hi
  · exact h2 c (List.mem_filter.mpr ⟨hc, hi⟩)
  · simpa [hi] using h
set_option maxRecDepth 65536 in
theorem w_c0 : (Jvm.Cond.code x code maxLocals ret).before args0 about1 = true := code_word (m := ⟨1, 3⟩) (meth := k1m3) (c := k1c3) (by decide +kernel) rfl rfl rfl (by decide +kernel)
set_option maxRecDepth 65536 in
theorem w_c1 : (Jvm.Cond.code ({ cls := "com/example/heed/heed/RectHoldsPinLaw", name := "pick", desc := "(JII)J" } : Jvm.MethodName) method_2_code (5 : Nat) (Option.some Jvm.ClassFile.FieldType.long)).before args0 about1 = true := code_word (m := ⟨1, 1⟩) (meth := k1m1) (c := k1c1) (by decide +kernel) rfl rfl rfl (by decide +kernel)
set_option maxRecDepth 65536 in
theorem w_c2 : (Jvm.Cond.code ({ cls := "com/example/heed/heed/RectHoldsPinLaw", name := "coord", desc := "(JJ)D" } : Jvm.MethodName) method_3_code (6 : Nat) (Option.some Jvm.ClassFile.FieldType.double)).before args0 about1 = true := code_word (m := ⟨1, 2⟩) (meth := k1m2) (c := k1c2) (by decide +kernel) rfl rfl rfl (by decide +kernel)
set_option maxRecDepth 65536 in
theorem w_c3 : (Jvm.Cond.code ({ cls := "com/example/heed/heed/Rect", name := "holds", desc := "(IIIIDD)Z" } : Jvm.MethodName) prog_50_method_8_code (8 : Nat) (Option.some Jvm.ClassFile.FieldType.boolean)).before args0 about1 = true := code_word (m := ⟨2, 0⟩) (meth := k2m0) (c := k2c0) (by decide +kernel) rfl rfl rfl (by decide +kernel)
def codes1 : List Jvm.Cond := [Jvm.Cond.code x code maxLocals ret, Jvm.Cond.code ({ cls := "com/example/heed/heed/RectHoldsPinLaw", name := "pick", desc := "(JII)J" } : Jvm.MethodName) method_2_code (5 : Nat) (Option.some Jvm.ClassFile.FieldType.long), Jvm.Cond.code ({ cls := "com/example/heed/heed/RectHoldsPinLaw", name := "coord", desc := "(JJ)D" } : Jvm.MethodName) method_3_code (6 : Nat) (Option.some Jvm.ClassFile.FieldType.double), Jvm.Cond.code ({ cls := "com/example/heed/heed/Rect", name := "holds", desc := "(IIIIDD)Z" } : Jvm.MethodName) prog_50_method_8_code (8 : Nat) (Option.some Jvm.ClassFile.FieldType.boolean)]
set_option maxRecDepth 65536 in
theorem codes_eq : words1.filter isCode = codes1 := rfl
theorem w_codes : ∀ c ∈ words1.filter isCode, c.before args0 about1 = true := by
  rw [codes_eq]
  intro c hc
  simp only [codes1, List.mem_cons, List.not_mem_nil, or_false] at hc
  rcases hc with rfl | rfl | rfl | rfl
  · exact w_c0
  · exact w_c1
  · exact w_c2
  · exact w_c3
set_option maxRecDepth 65536 in
theorem w_t1 : words1.all (fun c => isCode c || c.before args0 about1) = true := by decide +kernel
theorem w_tables : (allAtoms (Jvm.Cond.code x code maxLocals ret :: tables_1)).before args0 about1 = true := by
  rw [allAtoms_all]
  show words1.all (fun c => c.before args0 about1) = true
  refine all_split ?_ w_codes
  rw [w_t1]
set_option maxRecDepth 65536 in
theorem w_case : (Jvm.Cond.and given_1 narrow_1).before args0 about1 = true := by decide +kernel
theorem w_applies : (headSpec (Jvm.Cond.code x code maxLocals ret :: tables_1) room_1).applies x e0.platform about1 = true :=
  (Spec.applies_iff w_frames).mpr ⟨w_running, w_runnable, w_alone, w_named, w_hears, w_ripe, w_room, w_tables⟩
theorem atStart : AtStart classFile x code maxLocals ret World_1 tables_1 room_1 Calls_1 rest_1 Pre_1 launch0 p0 e0 about1 theMethod args0 below0 :=
  ⟨lists_1, trivial, launch0.admits_env _ _ _, launch0.least_env, fairChoices_fair.cas, fairChoices_fair.clock, w_frames, w_args, w_heap, w_applies, trivial, trivial, w_case⟩
end start1
theorem witness_1 : WitnessClaimed_1 := ⟨start1.p0, start1.e0, start1.about1, start1.theMethod, start1.args0, start1.below0, start1.atStart⟩
end Jvm.Pilot.@@N@@
