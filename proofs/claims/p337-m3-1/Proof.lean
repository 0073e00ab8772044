import JvmDerived
import JvmDerived.Pilot.@@N@@Statement
import JvmDerived.Pilot.@@N@@Code
set_option linter.unusedVariables false
set_option linter.unusedSimpArgs false
namespace Jvm.Pilot.@@N@@
open Jvm Jvm.ClassFile Sem Op Lib Jvm.Free Jvm.Stand Jvm.LawKit Jvm.RoadKit Bundle Jvm.Pilot.@@N@@.Jvm.D
abbrev lv (x : Int64) : Slot := .val (.long x)
abbrev uN : Slot := Slot.unset
abbrev sN : Slot := Slot.second
abbrev oS : String := "com/example/concepta/concepta/store/OidSet"
section Own
variable {p : Program} {l : Launch} {e : Env} {R : Room} {s : State} {m : MethodId} {args : Array Value} {below : List Frame} {meth : Method} {c : Code} {T : State} {locs : List Loc} {cells slots : Nat} {Z : State} {h h' : Heap} {a b : Addr} {G : State → Outcome → Prop} {Q : Option Value → Heap → List Loc → Prop} {C K : Nat}
/-- the run comes to an end of which G holds -/
def gS (p : Program) (e : Env) (below : List Frame) (G : State → Outcome → Prop) (S : State) : Prop := ∃ s₂ o, Steps p.tables e below S s₂ ∧ s₂.status = .running ∧ Ended s₂ below o ∧ G s₂ o
abbrev gM (p : Program) (e : Env) (b : List Frame) (G : State → Outcome → Prop) (T : State) (m : MethodId) (pc : Nat) (L : Array Slot) (S : List Value) : Prop := gS p e b G (T.setTop (mkF m pc L S))
theorem sT {S S' : State} (k : ∀ t, Steps p.tables e below S' t → Steps p.tables e below S t) (h : gS p e below G S') : gS p e below G S := by
  obtain ⟨s₂, o, h1, h2⟩ := h
  exact ⟨s₂, o, k _ h1, h2⟩
theorem own_jump {S S' : State} (k : Steps p.tables e below S S') (h : gS p e below G S') : gS p e below G S := sT (fun _ q => k.trans q) h
def own_Fin (s : State) (Q : Option Value → Heap → List Loc → Prop) (C K : Nat) : State → Outcome → Prop := fun U o => ∃ v L, o = .returned v ∧ Q v U.heap L ∧ FrameEnd s o U L C K
theorem own_ret0 (X : Stand p l e R s m args below meth c T locs cells slots) (hx : p.tables.exec = Jvm.exec) (hlk : meth.locks = false) (hret : meth.sig.returnType = none) {pc : Nat} {Ls : Array Slot} (hd : decode c.code pc = .ok (.return_, 1)) (hq : Q none T.heap locs) (hc : cells ≤ C) (hk : slots ≤ K) :
    gS p e below (own_Fin s Q C K) (T.setTop (mkF m pc Ls [])) := by
  obtain ⟨fs, hr, hrun, hended, hW, hsame⟩ := X.leave (v := none) (fun _ => rfl)
  exact ⟨_, _, X.returnOut hx hret hd hr, hrun, hended, _, _, rfl, hq, ⟨_, rfl⟩, hW, hsame.mono hc hk⟩
theorem own_retV (X : Stand p l e R s m args below meth c T locs cells slots) (hx : p.tables.exec = Jvm.exec) (hlk : meth.locks = false) {t : FieldType} (hret : meth.sig.returnType = some t) {w : Value} (hn : narrow t w = w) {i : Instr}
    (hi : (i = .ireturn ∧ (t = .int ∨ t = .boolean ∨ t = .byte ∨ t = .char ∨ t = .short) ∧ ∃ z, w = .int z) ∨ (i = .lreturn ∧ t = .long ∧ ∃ z, w = .long z) ∨ (i = .dreturn ∧ t = .double ∧ ∃ z, w = .double z) ∨ (i = .freturn ∧ t = .float ∧ ∃ z, w = .float z) ∨ (i = .areturn ∧ t.isReference = true ∧ w.isRef = true))
    {pc : Nat} {Ls : Array Slot} {rest : List Value} (hd : decode c.code pc = .ok (i, 1)) (hq : Q (some w) T.heap locs) (hc : cells ≤ C) (hk : slots ≤ K) :
    gS p e below (own_Fin s Q C K) (T.setTop (mkF m pc Ls (w :: rest))) := by
  obtain ⟨fs, hr, hrun, hended, hW, hsame⟩ := X.leave (v := some w) (fun h => by rw [hret] at h; cases h)
  exact ⟨_, _, retOut X hx hret hn hi hd hr, hrun, hended, _, _, rfl, hq, ⟨_, rfl⟩, hW, hsame.mono hc hk⟩
theorem own_nb {z : Int32} (h : z = 0 ∨ z = 1) : narrow .boolean (.int z) = .int z := by
  rcases h with rfl | rfl <;> rfl
theorem own_01 {q : Prop} [Decidable q] {x y : Int32} (hx : x = 0 ∨ x = 1) (hy : y = 0 ∨ y = 1) : (if q then x else y) = 0 ∨ (if q then x else y) = 1 := by
  split
  · exact hx
  · exact hy
/-- the law's own promise -/
def own_Q0 (n0 : Nat) (v : Option Value) (h : Heap) (L : List Loc) : Prop := v = some (.int 1) ∧ Fr n0 L
theorem own_retL {n0 : Nat} (X : Stand p l e R s m args below meth c T locs cells slots) (hx : p.tables.exec = Jvm.exec) (hlk : meth.locks = false) (hret : meth.sig.returnType = some .boolean) {pc : Nat} {Ls : Array Slot} {z : Int32} {rest : List Value} (hd : decode c.code pc = .ok (.ireturn, 1)) (hz : z = 1) (N : Fr n0 locs) (hc : cells ≤ C) (hk : slots ≤ K) :
    gS p e below (own_Fin s (own_Q0 n0) C K) (T.setTop (mkF m pc Ls (.int z :: rest))) := by
  subst hz
  exact own_retV X hx hlk hret (own_nb (Or.inr rfl)) (Or.inl ⟨rfl, Or.inr (Or.inl rfl), _, rfl⟩) hd ⟨rfl, N⟩ hc hk
/-! arrays of ints and of longs, by their lists -/
theorem own_getI (xs : List Int32) (n : Nat) : (xs.map Value.int).getD n (Value.int 0) = Value.int (xs.getD n 0) := by
  simp only [List.getD_eq_getElem?_getD, List.getElem?_map]
  cases xs[n]? <;> rfl
theorem own_getJ (xs : List Int64) (n : Nat) : (xs.map Value.long).getD n (Value.long 0) = Value.long (xs.getD n 0) := by
  simp only [List.getD_eq_getElem?_getD, List.getElem?_map]
  cases xs[n]? <;> rfl
theorem own_newI {k : ClassId} {z : Int32} (A : Arr Z h a (newA k .int z) .int) (q : ¬ z < 0) (n : Nat) : Arv Z h a k .int z ((List.replicate n (0 : Int32)).map Value.int) (Value.int 0) :=
  (Arv.new A q).pad fun i => by rw [List.map_replicate]; exact pad_rep [] (Value.int 0) n i
theorem own_newJ {k : ClassId} {z : Int32} (A : Arr Z h a (newA k .long z) .long) (q : ¬ z < 0) (n : Nat) : Arv Z h a k .long z ((List.replicate n (0 : Int64)).map Value.long) (Value.long 0) :=
  (Arv.new A q).pad fun i => by rw [List.map_replicate]; exact pad_rep [] (Value.long 0) n i
theorem own_ial (X : Stand p l e R s m args below meth c T locs cells slots) (hx : p.tables.exec = Jvm.exec) (hZ : Z.Warmed39 s.vm) (eT : T.heap = h) {k : ClassId} {z j : Int32} {xs : List Int32} (F : Arv Z h a k .int z (xs.map Value.int) (Value.int 0)) (hj : ¬ j < 0 ∧ j < z)
    {g : JFrame} (hg : g.method = m) {rest : List Value} (hs : g.stack = .int j :: .ref a :: rest) (hd : decode c.code g.pc = .ok (.iaload, 1)) (t : State) (kk : Steps p.tables e below (T.setTop { g with pc := g.pc + 1, stack := .int (xs.getD j.toNatClampNeg 0) :: rest }) t) : Steps p.tables e below (T.setTop g) t := by
  obtain ⟨cl, Ar, -, S, -, H, -⟩ := F
  have hin := inb_of S hj
  exact X.iaload hx (j := j) (by rw [eT]; exact Ar.1) (State.isArrayOf_alike hZ.alike Ar.2.1) Ar.2.2 hin (H.at hin (own_getI _ _)) hg hs hd t kk
theorem own_lal (X : Stand p l e R s m args below meth c T locs cells slots) (hx : p.tables.exec = Jvm.exec) (hZ : Z.Warmed39 s.vm) (eT : T.heap = h) {k : ClassId} {z j : Int32} {xs : List Int64} (F : Arv Z h a k .long z (xs.map Value.long) (Value.long 0)) (hj : ¬ j < 0 ∧ j < z)
    {g : JFrame} (hg : g.method = m) {rest : List Value} (hs : g.stack = .int j :: .ref a :: rest) (hd : decode c.code g.pc = .ok (.laload, 1)) (t : State) (kk : Steps p.tables e below (T.setTop { g with pc := g.pc + 1, stack := .long (xs.getD j.toNatClampNeg 0) :: rest }) t) : Steps p.tables e below (T.setTop g) t := by
  obtain ⟨cl, Ar, -, S, -, H, -⟩ := F
  have hin := inb_of S hj
  exact X.laload hx (j := j) (by rw [eT]; exact Ar.1) (State.isArrayOf_alike hZ.alike Ar.2.1) Ar.2.2 hin (H.at hin (own_getJ _ _)) hg hs hd t kk
theorem own_len (X : Stand p l e R s m args below meth c T locs cells slots) (hx : p.tables.exec = Jvm.exec) (hZ : Z.Warmed39 s.vm) (eT : T.heap = h) {k : ClassId} {ty : FieldType} {z : Int32} {vs : List Value} {dv : Value} (F : Arv Z h a k ty z vs dv)
    {g : JFrame} (hg : g.method = m) {rest : List Value} (hs : g.stack = .ref a :: rest) (hd : decode c.code g.pc = .ok (.arraylength, 1)) (t : State) (kk : Steps p.tables e below (T.setTop { g with pc := g.pc + 1, stack := .int z :: rest }) t) : Steps p.tables e below (T.setTop g) t := by
  obtain ⟨cl, Ar, -, S, N, -, -⟩ := F
  refine X.arraylength hx (by rw [eT]; exact Ar.1) (State.isArrayOf_alike hZ.alike Ar.2.1) hg hs hd t ?_
  rw [len_of S N]
  exact kk
theorem own_ist (X : Stand p l e R s m args below meth c T locs cells slots) (hx : p.tables.exec = Jvm.exec) (hZ : Z.Warmed39 s.vm) (eT : T.heap = h) {k : ClassId} {z j y : Int32} {xs : List Int32} (F : Arv Z h a k .int z (xs.map Value.int) (Value.int 0)) (hj : ¬ j < 0 ∧ j < z) (n : Nat) (hn : j.toNatClampNeg = n) (hl : n < xs.length)
    {g : JFrame} (hg : g.method = m) {rest : List Value} (hs : g.stack = .int y :: .int j :: .ref a :: rest) (hd : decode c.code g.pc = .ok (.iastore, 1)) :
    ∃ T' h', Stand p l e R s m args below meth c T' (locs ++ [⟨a, j.toNatClampNeg⟩]) cells slots ∧ T'.heap = h' ∧ Wr h h' a j.toNatClampNeg (.int y) ∧ Arv Z h' a k .int z ((xs.set n y).map Value.int) (Value.int 0) ∧ ∀ t, Steps p.tables e below (T'.setTop { g with pc := g.pc + 1, stack := rest }) t → Steps p.tables e below (T.setTop g) t := by
  obtain ⟨cl, Ar, q, S, N, H, I⟩ := F
  obtain ⟨T', h', X', e', W, st⟩ := stI X hx hZ eT Ar (inb_of S hj) hg hs hd
  refine ⟨T', h', X', e', W, ?_, st⟩
  rw [List.map_set]
  exact Arv.set Ar q S N H I rfl W n hn (by rw [List.length_map]; exact hl)
theorem own_lst (X : Stand p l e R s m args below meth c T locs cells slots) (hx : p.tables.exec = Jvm.exec) (hZ : Z.Warmed39 s.vm) (eT : T.heap = h) {k : ClassId} {z j : Int32} {y : Int64} {xs : List Int64} (F : Arv Z h a k .long z (xs.map Value.long) (Value.long 0)) (hj : ¬ j < 0 ∧ j < z) (n : Nat) (hn : j.toNatClampNeg = n) (hl : n < xs.length)
    {g : JFrame} (hg : g.method = m) {rest : List Value} (hs : g.stack = .long y :: .int j :: .ref a :: rest) (hd : decode c.code g.pc = .ok (.lastore, 1)) :
    ∃ T' h', Stand p l e R s m args below meth c T' (locs ++ [⟨a, j.toNatClampNeg⟩]) cells slots ∧ T'.heap = h' ∧ Wr h h' a j.toNatClampNeg (.long y) ∧ Arv Z h' a k .long z ((xs.set n y).map Value.long) (Value.long 0) ∧ ∀ t, Steps p.tables e below (T'.setTop { g with pc := g.pc + 1, stack := rest }) t → Steps p.tables e below (T.setTop g) t := by
  obtain ⟨cl, Ar, q, S, N, H, I⟩ := F
  obtain ⟨T', h', X', e', W, st⟩ := stJ X hx hZ eT Ar (inb_of S hj) hg hs hd
  refine ⟨T', h', X', e', W, ?_, st⟩
  rw [List.map_set]
  exact Arv.set Ar q S N H I rfl W n hn (by rw [List.length_map]; exact hl)
end Own
def own_nl (n z mo : Int32) : Int32 := if n = z then (if n < mo then ((if (mo.toInt64) < ((2 : Int64) * (n.toInt64)) then (mo.toInt64) else ((2 : Int64) * (n.toInt64))).toInt32) else n + n) else z
theorem own_len1 {xs : List Int64} (h : xs.length = (1 : Int32).toNatClampNeg) : ∃ x, xs = [x] := by
  have h' : xs.length = 1 := h
  match xs, h' with
  | [x], _ => exact ⟨x, rfl⟩
theorem own_len2 {xs : List Int64} (h : xs.length = (2 : Int32).toNatClampNeg) : ∃ x y, xs = [x, y] := by
  have h' : xs.length = 2 := h
  match xs, h' with
  | [x, y], _ => exact ⟨x, y, rfl⟩
theorem own_t32 {v : Int64} {k : Int32} (h : v.toInt = k.toInt) : v.toInt32 = k := by
  apply Int32.toInt_inj.mp
  have e := c_l2i v
  have r := rng32 v.toInt32
  have r2 := rng32 k
  omega
theorem own_l1 {mo : Int32} (h : (1 : Int32) < mo) : ((if (mo.toInt64) < ((2 : Int64) * ((1 : Int32).toInt64)) then (mo.toInt64) else ((2 : Int64) * ((1 : Int32).toInt64))).toInt32) = (2 : Int32) := by
  rw [Int32.lt_iff_toInt_lt] at h
  have z1 : (1 : Int32).toInt = 1 := rfl
  have z2 : ((2 : Int64) * ((1 : Int32).toInt64)).toInt = 2 := by decide
  have e := c_i2l mo
  rw [if_neg (by rw [Int64.lt_iff_toInt_lt]; omega)]
  decide
theorem own_l2 {mo : Int32} (h : (2 : Int32) < mo) : ((if (mo.toInt64) < ((2 : Int64) * ((2 : Int32).toInt64)) then (mo.toInt64) else ((2 : Int64) * ((2 : Int32).toInt64))).toInt32) = (3 : Int32) ∨ ((if (mo.toInt64) < ((2 : Int64) * ((2 : Int32).toInt64)) then (mo.toInt64) else ((2 : Int64) * ((2 : Int32).toInt64))).toInt32) = (4 : Int32) := by
  rw [Int32.lt_iff_toInt_lt] at h
  have z1 : (2 : Int32).toInt = 2 := rfl
  have z2 : ((2 : Int64) * ((2 : Int32).toInt64)).toInt = 4 := by decide
  have z3 : (3 : Int32).toInt = 3 := rfl
  have e := c_i2l mo
  by_cases q : (mo.toInt64) < ((2 : Int64) * ((2 : Int32).toInt64))
  · rw [if_pos q]
    rw [Int64.lt_iff_toInt_lt] at q
    exact Or.inl (own_t32 (by omega))
  · rw [if_neg q]
    exact Or.inr (by decide)
theorem own_gs {i j : Nat} (h : i ≠ j) (xs : List Int64) {v d : Int64} : (xs.set i v).getD j d = xs.getD j d := by
  simp only [List.getD_eq_getElem?_getD, List.getElem?_set_ne h]
theorem own_gh {xs : List Int64} {i : Nat} {v d : Int64} (h : i < xs.length) : (xs.set i v).getD i d = v := by
  simp [List.getD_eq_getElem?_getD, List.getElem?_set_self, h]
theorem own_in {n z : Int32} (hn : ¬ n < 0) (h : ¬ z < n) (hne : ¬ n = z) : ¬ n < 0 ∧ n < z := by
  refine ⟨hn, ?_⟩
  rw [Int32.lt_iff_toInt_lt] at *
  have q : ¬ n.toInt = z.toInt := fun e => hne (Int32.toInt_inj.mp e)
  omega
theorem own_clamp {n z : Int32} (hn : ¬ n < 0) (h : n < z) : n.toNatClampNeg < z.toNatClampNeg := by
  rw [Int32.lt_iff_toInt_lt] at *
  have z0 : (0 : Int32).toInt = 0 := rfl
  have a := nat_of (j := n) (by rw [Int32.lt_iff_toInt_lt]; omega)
  have b := nat_of (j := z) (by rw [Int32.lt_iff_toInt_lt]; omega)
  omega
theorem own_il {n z : Int32} (hn : ¬ n < 0) (h : ¬ z < n) {xs : List Int64} (hl : xs.length = z.toNatClampNeg) (hne : ¬ n = z) : n.toNatClampNeg < xs.length := by
  rw [hl]
  exact own_clamp hn (own_in hn h hne).2
theorem own_w {z : Int32} (h : ¬ z < (1 : Int32)) : ¬ z < (0 : Int32) := by
  rw [Int32.lt_iff_toInt_lt] at *
  have z0 : (0 : Int32).toInt = 0 := rfl
  have z1 : (1 : Int32).toInt = 1 := rfl
  omega
theorem own_w2 {z : Int32} (h : ¬ z < (2 : Int32)) : ¬ z < (1 : Int32) := by
  rw [Int32.lt_iff_toInt_lt] at *
  have z0 : (2 : Int32).toInt = 2 := rfl
  have z1 : (1 : Int32).toInt = 1 := rfl
  omega
theorem own_j {j o z : Int32} (h0 : ¬ j < 0) (h1 : j < o) (h : ¬ z < o) : ¬ j < 0 ∧ j < z := by
  refine ⟨h0, ?_⟩
  rw [Int32.lt_iff_toInt_lt] at *
  omega
theorem own_jl {j o z : Int32} (h0 : ¬ j < 0) (h1 : j < o) (h : ¬ z < o) {xs : List Int64} (hl : xs.length = z.toNatClampNeg) : j.toNatClampNeg < xs.length := by
  rw [hl]
  exact own_clamp h0 (own_j h0 h1 h).2
theorem own_selp {Z s : State} {a0 args : Array Value} {y : MethodName} {n : Nat} (hZ : Z.Warmed39 s.vm) (wi : (Jvm.Cond.instantiable y.cls n).before a0 Z = true) (wp : (Jvm.Cond.privateMethod y).before a0 Z = true) (wm : (Jvm.Cond.instanceMethod y).before a0 Z = true) (hy : y.cls ≠ "java/lang/invoke/MethodHandle" ∧ y.cls ≠ "java/lang/invoke/VarHandle") : (Jvm.Cond.selects y.cls y y).before args s = true := by
  obtain ⟨c, k, h1, h2, -, h4, -⟩ := Cond.instantiable_spec (mvT hZ wi (args := args))
  exact selects_self_of_private h1 h2 (Bool.or_eq_false_iff.mp h4).1 (Cond.privateMethod_at (mvP hZ wp (args := args))) (mvT hZ wm) hy
theorem own_neb {h : Heap} {o b2 bb : Addr} (sb : h.size ≤ b2 ∨ b2 = bb) (lt : o < h.size) (ne : o ≠ bb) : o ≠ b2 := by
  rcases sb with q | q
  · exact Nat.ne_of_lt (Nat.lt_of_lt_of_le lt q)
  · rw [q]
    exact ne
def own_h (q : Int64) : Int32 := (((((q * (-7046029254386353131 : Int64)).toUInt64 >>> ((40 : Int32) &&& 0x3f).toInt64.toUInt64).toInt64).toInt32) &&& (31 : Int32))
theorem own_a31 (x : Int32) : ¬ (x &&& (31 : Int32)) < 0 ∧ (x &&& (31 : Int32)) < (32 : Int32) := by
  have q := c_and x 31 (by decide)
  rw [Int32.lt_iff_toInt_lt, Int32.lt_iff_toInt_lt]
  have z0 : (0 : Int32).toInt = 0 := rfl
  have z1 : (31 : Int32).toInt = 31 := rfl
  have z2 : (32 : Int32).toInt = 32 := rfl
  omega
theorem own_hr {x vs : Int32} (h : (x &&& (31 : Int32)) = vs) : ¬ vs < 0 ∧ vs < (32 : Int32) := h ▸ own_a31 x
theorem own_hh (q : Int64) : ¬ own_h q < 0 ∧ own_h q < (32 : Int32) := own_a31 _
theorem own_z (v : Int32) : (List.replicate 32 (0 : Int32)).getD v.toNatClampNeg 0 = 0 := by
  rw [List.getD_eq_getElem?_getD, List.getElem?_replicate]
  split <;> rfl
theorem own_hl (q : Int64) : (own_h q).toNatClampNeg < (List.replicate 32 (0 : Int32)).length := by
  rw [List.length_replicate]
  exact own_clamp (own_hh q).1 (own_hh q).2
theorem own_cl {a b : Int32} (ha : ¬ a < 0) (hb : ¬ b < 0) (h : a.toNatClampNeg = b.toNatClampNeg) : a = b := by
  apply Int32.toInt_inj.mp
  rw [nat_of ha, nat_of hb, h]
theorem own_zo {vs s1 x : Int32} (hvs : ¬ vs = s1) (hv : (x &&& (31 : Int32)) = vs) (hs1 : ¬ s1 < 0 ∧ s1 < (32 : Int32)) : (((List.replicate 32 (0 : Int32)).set (s1.toNatClampNeg) (2 : Int32)).getD vs.toNatClampNeg 0) = 0 := by
  rw [List.getD_eq_getElem?_getD, List.getElem?_set_ne (fun e => hvs (own_cl (own_hr hv).1 hs1.1 e.symm)), ← List.getD_eq_getElem?_getD]
  exact own_z vs
theorem own_zt {s1 : Int32} (hs1 : ¬ s1 < 0 ∧ s1 < (32 : Int32)) : (((List.replicate 32 (0 : Int32)).set (s1.toNatClampNeg) (2 : Int32)).getD s1.toNatClampNeg 0) = 2 := by
  have q : s1.toNatClampNeg < (List.replicate 32 (0 : Int32)).length := by
    rw [List.length_replicate]
    exact own_clamp hs1.1 hs1.2
  rw [List.getD_eq_getElem?_getD, List.getElem?_set_self q]
  rfl
theorem own_znz {s1 : Int32} (hs1 : ¬ s1 < 0 ∧ s1 < (32 : Int32)) : ¬ ((((List.replicate 32 (0 : Int32)).set (s1.toNatClampNeg) (2 : Int32)).getD s1.toNatClampNeg 0) = (0 : Int32)) := by
  rw [own_zt hs1]
  decide
theorem own_s1 {s1 : Int32} (hs1 : ¬ s1 < 0 ∧ s1 < (32 : Int32)) : ¬ ((s1 + (1 : Int32)) &&& (31 : Int32)) = s1 := by
  intro e
  have e1 := congrArg Int32.toInt e
  rw [c_mask _ _ 5 (by decide) (by decide)] at e1
  rw [Int32.lt_iff_toInt_lt, Int32.lt_iff_toInt_lt] at hs1
  have z0 : (0 : Int32).toInt = 0 := rfl
  have z1 : (1 : Int32).toInt = 1 := rfl
  have z2 : (32 : Int32).toInt = 32 := rfl
  have q := c_iadd s1 1
  have r := rng32 (s1 + (1 : Int32))
  omega
theorem own_zn {s1 : Int32} (hs1 : ¬ s1 < 0 ∧ s1 < (32 : Int32)) : (((List.replicate 32 (0 : Int32)).set (s1.toNatClampNeg) (2 : Int32)).getD ((s1 + (1 : Int32)) &&& (31 : Int32)).toNatClampNeg 0) = 0 := own_zo (own_s1 hs1) rfl hs1
theorem own_sbE {q1 : Int64} {vs s1 : Int32} (hvs : vs = s1) (hv : own_h q1 = vs) : some (Value.int ((s1 + (1 : Int32)) &&& (31 : Int32))) = some (Value.int (if (own_h q1) = s1 then ((s1 + (1 : Int32)) &&& (31 : Int32)) else (own_h q1))) := by
  rw [if_pos (hv.trans hvs)]
theorem own_sbN {q1 : Int64} {vs s1 : Int32} (hvs : ¬ vs = s1) (hv : own_h q1 = vs) : some (Value.int vs) = some (Value.int (if (own_h q1) = s1 then ((s1 + (1 : Int32)) &&& (31 : Int32)) else (own_h q1))) := by
  rw [if_neg (fun e => hvs (hv.symm.trans e)), hv]
theorem own_h2r {q1 : Int64} {s1 : Int32} (hs1 : ¬ s1 < 0 ∧ s1 < (32 : Int32)) : ¬ (if (own_h q1) = s1 then ((s1 + (1 : Int32)) &&& (31 : Int32)) else (own_h q1)) < 0 ∧ (if (own_h q1) = s1 then ((s1 + (1 : Int32)) &&& (31 : Int32)) else (own_h q1)) < (32 : Int32) := by
  split
  · exact own_a31 _
  · exact own_hh _
theorem own_h2z {q1 : Int64} {s1 : Int32} (hs1 : ¬ s1 < 0 ∧ s1 < (32 : Int32)) : (((List.replicate 32 (0 : Int32)).set (s1.toNatClampNeg) (2 : Int32)).getD (if (own_h q1) = s1 then ((s1 + (1 : Int32)) &&& (31 : Int32)) else (own_h q1)).toNatClampNeg 0) = 0 := by
  split
  · exact own_zn hs1
  · rename_i h
    exact own_zo h rfl hs1
theorem own_h2l (q1 : Int64) (s1 : Int32) : (if (own_h q1) = s1 then ((s1 + (1 : Int32)) &&& (31 : Int32)) else (own_h q1)).toNatClampNeg < ((List.replicate 32 (0 : Int32)).set (s1.toNatClampNeg) (2 : Int32)).length := by
  rw [List.length_set, List.length_replicate]
  split
  · exact own_clamp (own_a31 _).1 (own_a31 _).2
  · exact own_clamp (own_hh _).1 (own_hh _).2
def own_exp (p1 p2 p3 : Int64) (vsm vmo : Int32) : Int64 := (((16 : Int64) * ((if vsm = (0 : Int32) then (16 : Int64) else (if ((((1 : Int32) + (if p2 = p1 then (0 : Int32) else (1 : Int32))) + (if p3 = p1 then (0 : Int32) else (if p3 = p2 then (0 : Int32) else (1 : Int32))))) = (1 : Int32) then (1 : Int64) else (if ((((1 : Int32) + (if p2 = p1 then (0 : Int32) else (1 : Int32))) + (if p3 = p1 then (0 : Int32) else (if p3 = p2 then (0 : Int32) else (1 : Int32))))) = (2 : Int32) then (2 : Int64) else (if vmo = (3 : Int32) then (3 : Int64) else (4 : Int64))))))) + (if ((if p2 < p1 then (1 : Int32) else (if p3 < p2 then (if p3 = p1 then (0 : Int32) else (1 : Int32)) else (0 : Int32)))) = (0 : Int32) then (0 : Int64) else (128 : Int64)))
theorem own_cases {x v : Int32} (h : (if (x &&& (1 : Int32)) = (0 : Int32) then (0 : Int32) else (1 : Int32)) = v) : v = (0 : Int32) ∨ v = (1 : Int32) := by
  rw [← h]
  split
  · exact Or.inl rfl
  · exact Or.inr rfl
theorem own_tri (a b : Int64) : a = b ∨ a < b ∨ b < a := by
  simp only [Int64.lt_iff_toInt_lt, ← Int64.toInt_inj] at *
  omega
theorem own_alte {b0 b1 : Int64} (b2 : Int64) (h : b0 = b1) : b0 = b2 ∨ b0 < b2 ∨ b2 < b0 := own_tri b0 b2
theorem own_altg {b0 b1 : Int64} (b2 : Int64) (h : b0 < b1) : b1 = b2 ∨ b1 < b2 ∨ b0 = b2 ∨ (b2 < b1 ∧ ¬ b0 = b2) := by
  simp only [Int64.lt_iff_toInt_lt, ← Int64.toInt_inj] at *
  omega
theorem own_altl {b0 b1 : Int64} (b2 : Int64) (h : b1 < b0) : b1 = b2 ∨ b0 = b2 ∨ (¬ b1 = b2 ∧ ¬ b0 = b2) := by
  simp only [Int64.lt_iff_toInt_lt, ← Int64.toInt_inj] at *
  omega
theorem own_zc0 {vsm z1 z2 vmo : Int32} (hzc : (vsm = (0 : Int32) ∧ z1 = (16 : Int32)) ∨ (vsm = (1 : Int32) ∧ z1 = (1 : Int32))) (h : z2 = own_nl (0 : Int32) z1 vmo) : (vsm = (0 : Int32) ∧ z2 = (16 : Int32)) ∨ (vsm = (1 : Int32) ∧ z2 = (1 : Int32)) := by
  rcases hzc with ⟨a, b⟩ | ⟨a, b⟩
  · refine Or.inl ⟨a, ?_⟩
    rw [h, b, own_nl, if_neg (by decide)]
  · refine Or.inr ⟨a, ?_⟩
    rw [h, b, own_nl, if_neg (by decide)]
theorem own_nl1 (mo : Int32) : own_nl (1 : Int32) (1 : Int32) mo = (2 : Int32) := by
  rw [own_nl, if_pos rfl]
  by_cases q : (1 : Int32) < mo
  · rw [if_pos q, own_l1 q]
  · rw [if_neg q]
    rfl
theorem own_nl2 (mo : Int32) : own_nl (2 : Int32) (2 : Int32) mo = if mo = (3 : Int32) then (3 : Int32) else (4 : Int32) := by
  have z2 : ((2 : Int64) * ((2 : Int32).toInt64)).toInt = 4 := by decide
  have z3 : (3 : Int32).toInt = 3 := rfl
  have z1 : (2 : Int32).toInt = 2 := rfl
  have e := c_i2l mo
  rw [own_nl, if_pos rfl]
  by_cases h3 : mo = (3 : Int32)
  · subst h3
    decide
  · rw [if_neg h3]
    by_cases q : (2 : Int32) < mo
    · rw [if_pos q]
      have n3 : ¬ mo.toInt = (3 : Int32).toInt := fun z => h3 (Int32.toInt_inj.mp z)
      rw [if_neg (by rw [Int64.lt_iff_toInt_lt]; rw [Int32.lt_iff_toInt_lt] at q; omega)]
      decide
    · rw [if_neg q]
      rfl
theorem own_zc1 {vsm z2 z3 vmo : Int32} (hzc : (vsm = (0 : Int32) ∧ z2 = (16 : Int32)) ∨ (vsm = (1 : Int32) ∧ z2 = (1 : Int32))) (h : z3 = own_nl (1 : Int32) z2 vmo) : (vsm = (0 : Int32) ∧ z3 = (16 : Int32)) ∨ (vsm = (1 : Int32) ∧ z3 = (2 : Int32)) := by
  rcases hzc with ⟨a, b⟩ | ⟨a, b⟩
  · refine Or.inl ⟨a, ?_⟩
    rw [h, b, own_nl, if_neg (by decide)]
  · refine Or.inr ⟨a, ?_⟩
    rw [h, b, own_nl1]
theorem own_zc2 {vsm z3 z4 vmo : Int32} (hzc : (vsm = (0 : Int32) ∧ z3 = (16 : Int32)) ∨ (vsm = (1 : Int32) ∧ z3 = (2 : Int32))) (h : z4 = own_nl (2 : Int32) z3 vmo) : (vsm = (0 : Int32) ∧ z4 = (16 : Int32)) ∨ (vsm = (1 : Int32) ∧ z4 = if vmo = (3 : Int32) then (3 : Int32) else (4 : Int32)) := by
  rcases hzc with ⟨a, b⟩ | ⟨a, b⟩
  · refine Or.inl ⟨a, ?_⟩
    rw [h, b, own_nl, if_neg (by decide)]
  · refine Or.inr ⟨a, ?_⟩
    rw [h, b, own_nl2]
theorem own_ge0 {vsm z1 : Int32} (hzc : (vsm = (0 : Int32) ∧ z1 = (16 : Int32)) ∨ (vsm = (1 : Int32) ∧ z1 = (1 : Int32))) : ¬ z1 < (1 : Int32) := by
  rcases hzc with ⟨-, b⟩ | ⟨-, b⟩ <;> rw [b] <;> decide
theorem own_ge1 {vsm z1 z2 vmo : Int32} (h : z2 = own_nl (0 : Int32) z1 vmo) (hzc : (vsm = (0 : Int32) ∧ z1 = (16 : Int32)) ∨ (vsm = (1 : Int32) ∧ z1 = (1 : Int32))) : ¬ z2 < (1 : Int32) := own_ge0 (own_zc0 hzc h)
theorem own_ge2 {vsm z1 z2 z3 vmo : Int32} (h : z2 = own_nl (0 : Int32) z1 vmo) (h' : z3 = own_nl (1 : Int32) z2 vmo) (hzc : (vsm = (0 : Int32) ∧ z1 = (16 : Int32)) ∨ (vsm = (1 : Int32) ∧ z1 = (1 : Int32))) : ¬ z3 < (2 : Int32) := by
  rcases own_zc1 (own_zc0 hzc h) h' with ⟨-, b⟩ | ⟨-, b⟩ <;> rw [b] <;> decide
theorem own_bef {vsm z1 : Int32} (hzc : (vsm = (0 : Int32) ∧ z1 = (16 : Int32)) ∨ (vsm = (1 : Int32) ∧ z1 = (1 : Int32))) : (((8 : Int64) * ((z1 + z1).toInt64)) + (0 : Int64)) = (if vsm = (0 : Int32) then (256 : Int64) else (16 : Int64)) := by
  rcases hzc with ⟨a, b⟩ | ⟨a, b⟩ <;> rw [a, b] <;> decide
theorem own_nqg {x b0 q : Int64} (hg : x = b0) (h : b0 < q) : ¬ x = q := by
  subst hg
  simp only [Int64.lt_iff_toInt_lt, ← Int64.toInt_inj] at *
  omega
theorem own_nql {x b0 q : Int64} (hg : x = b0) (h : q < b0) : ¬ x = q := by
  subst hg
  simp only [Int64.lt_iff_toInt_lt, ← Int64.toInt_inj] at *
  omega
theorem own_gt {x b0 q : Int64} (hg : x = b0) (h : b0 < q) : x < q := by
  subst hg
  simp only [Int64.lt_iff_toInt_lt, ← Int64.toInt_inj] at *
  omega
theorem own_lt' {x b0 q : Int64} (hg : x = b0) (h : q < b0) : ¬ x < q := by
  subst hg
  simp only [Int64.lt_iff_toInt_lt, ← Int64.toInt_inj] at *
  omega
theorem own_b1 {x b0 q : Int64} (hg : x = b0) (h : q < b0) : (if x < q then (-2 : Int32) else (if q < x then (-1 : Int32) else (0 : Int32))) < (0 : Int32) := by
  rw [if_neg (own_lt' hg h), if_pos (by rw [hg]; exact h)]
  decide
theorem own_nqgg {x b0 b1 q : Int64} (hg : x = b1) (hA : b0 < b1) (hB : b1 < q) : ¬ x = q := by
  subst hg
  simp only [Int64.lt_iff_toInt_lt, ← Int64.toInt_inj] at *
  omega
theorem own_gtgg {x b1 q : Int64} (hg : x = b1) (hB : b1 < q) : x < q := by
  subst hg
  simp only [Int64.lt_iff_toInt_lt, ← Int64.toInt_inj] at *
  omega
theorem own_nqgf {x b0 b1 q : Int64} (hg : x = b1) (hA : b0 < b1) (hB : b0 = q) : ¬ x = q := by
  subst hg
  simp only [Int64.lt_iff_toInt_lt, ← Int64.toInt_inj] at *
  omega
theorem own_ltgf {x b0 b1 q : Int64} (hg : x = b1) (hA : b0 < b1) (hB : b0 = q) : ¬ x < q := by
  subst hg
  simp only [Int64.lt_iff_toInt_lt, ← Int64.toInt_inj] at *
  omega
theorem own_nqgl {x b0 b1 q : Int64} (hg : x = b1) (hA : b0 < b1) (hB : q < b1 ∧ ¬ b0 = q) : ¬ x = q := by
  subst hg
  simp only [Int64.lt_iff_toInt_lt, ← Int64.toInt_inj] at *
  omega
theorem own_ltgl {x b0 b1 q : Int64} (hg : x = b1) (hA : b0 < b1) (hB : q < b1 ∧ ¬ b0 = q) : ¬ x < q := by
  subst hg
  simp only [Int64.lt_iff_toInt_lt, ← Int64.toInt_inj] at *
  omega
theorem own_nqlf {x b0 b1 q : Int64} (hg : x = b1) (hA : b1 < b0) (hB : b0 = q) : ¬ x = q := by
  subst hg
  simp only [Int64.lt_iff_toInt_lt, ← Int64.toInt_inj] at *
  omega
theorem own_nqll {x b0 b1 q : Int64} (hg : x = b1) (hA : b1 < b0) (hB : ¬ b1 = q ∧ ¬ b0 = q) : ¬ x = q := by
  subst hg
  simp only [Int64.lt_iff_toInt_lt, ← Int64.toInt_inj] at *
  omega
theorem own_bbgf {x0 x1 b0 b1 q : Int64} (h0 : x0 = b0) (h1 : x1 = b1) (hA : b0 < b1) (hB : b0 = q) : (if x0 < q then (if x1 < q then (-3 : Int32) else (if q < x1 then (-2 : Int32) else (1 : Int32))) else (if q < x0 then (-1 : Int32) else (0 : Int32))) = (0 : Int32) := by
  subst h0 h1
  have c1 : ¬ x0 < q := by (simp only [Int64.lt_iff_toInt_lt, ← Int64.toInt_inj] at *; omega)
  have c2 : ¬ q < x0 := by (simp only [Int64.lt_iff_toInt_lt, ← Int64.toInt_inj] at *; omega)
  rw [if_neg c1, if_neg c2]
theorem own_bbgl {x0 x1 b0 b1 q : Int64} (h0 : x0 = b0) (h1 : x1 = b1) (hA : b0 < b1) (hB : q < b1 ∧ ¬ b0 = q) : (if x0 < q then (if x1 < q then (-3 : Int32) else (if q < x1 then (-2 : Int32) else (1 : Int32))) else (if q < x0 then (-1 : Int32) else (0 : Int32))) < (0 : Int32) := by
  subst h0 h1
  have c2 : ¬ x1 < q := by (simp only [Int64.lt_iff_toInt_lt, ← Int64.toInt_inj] at *; omega)
  by_cases c1 : x0 < q
  · rw [if_pos c1, if_neg c2, if_pos hB.1]
    decide
  · have c3 : q < x0 := by (simp only [Int64.lt_iff_toInt_lt, ← Int64.toInt_inj] at *; omega)
    rw [if_neg c1, if_pos c3]
    decide
theorem own_bblf {x0 x1 b0 b1 q : Int64} (h0 : x0 = b0) (h1 : x1 = b1) (hA : b1 < b0) (hB : b0 = q) : (if x0 < q then (-2 : Int32) else (if q < x0 then (-1 : Int32) else (0 : Int32))) = (0 : Int32) := by
  subst h0 h1
  have c1 : ¬ x0 < q := by (simp only [Int64.lt_iff_toInt_lt, ← Int64.toInt_inj] at *; omega)
  have c2 : ¬ q < x0 := by (simp only [Int64.lt_iff_toInt_lt, ← Int64.toInt_inj] at *; omega)
  rw [if_neg c1, if_neg c2]
theorem own_bbll {x0 x1 b0 b1 q : Int64} (h0 : x0 = b0) (h1 : x1 = b1) (hA : b1 < b0) (hB : ¬ b1 = q ∧ ¬ b0 = q) : (if x0 < q then (-2 : Int32) else (if q < x0 then (-1 : Int32) else (0 : Int32))) < (0 : Int32) := by
  subst h0 h1
  by_cases c1 : x0 < q
  · rw [if_pos c1]
    decide
  · have c3 : q < x0 := by (simp only [Int64.lt_iff_toInt_lt, ← Int64.toInt_inj] at *; omega)
    rw [if_neg c1, if_pos c3]
    decide
theorem own_leaf_ee {vsm vmo z1 z2 : Int32} {p1 p2 p3 : Int64} (hzc : (vsm = (0 : Int32) ∧ z1 = (16 : Int32)) ∨ (vsm = (1 : Int32) ∧ z1 = (1 : Int32))) (hz2 : z2 = own_nl (0 : Int32) z1 vmo) (hA : p1 = p2) (hB : p1 = p3) : (((8 : Int64) * ((z2 + z2).toInt64)) + (0 : Int64)) = own_exp p1 p2 p3 vsm vmo := by
  have c0 : p2 = p1 := by (simp only [Int64.lt_iff_toInt_lt, ← Int64.toInt_inj] at *; omega)
  have c1 : p3 = p1 := by (simp only [Int64.lt_iff_toInt_lt, ← Int64.toInt_inj] at *; omega)
  have c2 : p3 = p2 := by (simp only [Int64.lt_iff_toInt_lt, ← Int64.toInt_inj] at *; omega)
  have c3 : ¬ (p2 < p1) := by (simp only [Int64.lt_iff_toInt_lt, ← Int64.toInt_inj] at *; omega)
  have c4 : ¬ (p3 < p2) := by (simp only [Int64.lt_iff_toInt_lt, ← Int64.toInt_inj] at *; omega)
  have hz := own_zc0 hzc hz2
  unfold own_exp
  simp only [if_pos c0, if_pos c1, if_pos c2, if_neg c3, if_neg c4]
  rcases hz with ⟨a, b⟩ | ⟨a, b⟩
  · rw [a, b]
    first | decide | (by_cases h3 : vmo = (3 : Int32) <;> simp only [h3, if_true, if_false] <;> decide) | (by_cases h3 : vmo = (3 : Int32) <;> simp [h3] <;> decide)
  · rw [a, b]
    first | decide | (by_cases h3 : vmo = (3 : Int32) <;> simp only [h3, if_true, if_false] <;> decide) | (by_cases h3 : vmo = (3 : Int32) <;> simp [h3] <;> decide)
theorem own_leaf_eg {vsm vmo z1 z2 z3 : Int32} {p1 p2 p3 : Int64} (hzc : (vsm = (0 : Int32) ∧ z1 = (16 : Int32)) ∨ (vsm = (1 : Int32) ∧ z1 = (1 : Int32))) (hz2 : z2 = own_nl (0 : Int32) z1 vmo) (hz3 : z3 = own_nl (1 : Int32) z2 vmo) (hA : p1 = p2) (hB : p1 < p3) : (((8 : Int64) * ((z3 + z3).toInt64)) + (0 : Int64)) = own_exp p1 p2 p3 vsm vmo := by
  have c0 : p2 = p1 := by (simp only [Int64.lt_iff_toInt_lt, ← Int64.toInt_inj] at *; omega)
  have c1 : ¬ (p3 = p1) := by (simp only [Int64.lt_iff_toInt_lt, ← Int64.toInt_inj] at *; omega)
  have c2 : ¬ (p3 = p2) := by (simp only [Int64.lt_iff_toInt_lt, ← Int64.toInt_inj] at *; omega)
  have c3 : ¬ (p2 < p1) := by (simp only [Int64.lt_iff_toInt_lt, ← Int64.toInt_inj] at *; omega)
  have c4 : ¬ (p3 < p2) := by (simp only [Int64.lt_iff_toInt_lt, ← Int64.toInt_inj] at *; omega)
  have hz := own_zc1 (own_zc0 hzc hz2) hz3
  unfold own_exp
  simp only [if_pos c0, if_neg c1, if_neg c2, if_neg c3, if_neg c4]
  rcases hz with ⟨a, b⟩ | ⟨a, b⟩
  · rw [a, b]
    first | decide | (by_cases h3 : vmo = (3 : Int32) <;> simp only [h3, if_true, if_false] <;> decide) | (by_cases h3 : vmo = (3 : Int32) <;> simp [h3] <;> decide)
  · rw [a, b]
    first | decide | (by_cases h3 : vmo = (3 : Int32) <;> simp only [h3, if_true, if_false] <;> decide) | (by_cases h3 : vmo = (3 : Int32) <;> simp [h3] <;> decide)
theorem own_leaf_el {vsm vmo z1 z2 z3 : Int32} {p1 p2 p3 : Int64} (hzc : (vsm = (0 : Int32) ∧ z1 = (16 : Int32)) ∨ (vsm = (1 : Int32) ∧ z1 = (1 : Int32))) (hz2 : z2 = own_nl (0 : Int32) z1 vmo) (hz3 : z3 = own_nl (1 : Int32) z2 vmo) (hA : p1 = p2) (hB : p3 < p1) : (((8 : Int64) * ((z3 + z3).toInt64)) + ((4 : Int64) * ((32 : Int32).toInt64))) = own_exp p1 p2 p3 vsm vmo := by
  have c0 : p2 = p1 := by (simp only [Int64.lt_iff_toInt_lt, ← Int64.toInt_inj] at *; omega)
  have c1 : ¬ (p3 = p1) := by (simp only [Int64.lt_iff_toInt_lt, ← Int64.toInt_inj] at *; omega)
  have c2 : ¬ (p3 = p2) := by (simp only [Int64.lt_iff_toInt_lt, ← Int64.toInt_inj] at *; omega)
  have c3 : ¬ (p2 < p1) := by (simp only [Int64.lt_iff_toInt_lt, ← Int64.toInt_inj] at *; omega)
  have c4 : p3 < p2 := by (simp only [Int64.lt_iff_toInt_lt, ← Int64.toInt_inj] at *; omega)
  have hz := own_zc1 (own_zc0 hzc hz2) hz3
  unfold own_exp
  simp only [if_pos c0, if_neg c1, if_neg c2, if_neg c3, if_pos c4]
  rcases hz with ⟨a, b⟩ | ⟨a, b⟩
  · rw [a, b]
    first | decide | (by_cases h3 : vmo = (3 : Int32) <;> simp only [h3, if_true, if_false] <;> decide) | (by_cases h3 : vmo = (3 : Int32) <;> simp [h3] <;> decide)
  · rw [a, b]
    first | decide | (by_cases h3 : vmo = (3 : Int32) <;> simp only [h3, if_true, if_false] <;> decide) | (by_cases h3 : vmo = (3 : Int32) <;> simp [h3] <;> decide)
theorem own_leaf_ge {vsm vmo z1 z2 z3 : Int32} {p1 p2 p3 : Int64} (hzc : (vsm = (0 : Int32) ∧ z1 = (16 : Int32)) ∨ (vsm = (1 : Int32) ∧ z1 = (1 : Int32))) (hz2 : z2 = own_nl (0 : Int32) z1 vmo) (hz3 : z3 = own_nl (1 : Int32) z2 vmo) (hA : p1 < p2) (hB : p2 = p3) : (((8 : Int64) * ((z3 + z3).toInt64)) + (0 : Int64)) = own_exp p1 p2 p3 vsm vmo := by
  have c0 : ¬ (p2 = p1) := by (simp only [Int64.lt_iff_toInt_lt, ← Int64.toInt_inj] at *; omega)
  have c1 : ¬ (p3 = p1) := by (simp only [Int64.lt_iff_toInt_lt, ← Int64.toInt_inj] at *; omega)
  have c2 : p3 = p2 := by (simp only [Int64.lt_iff_toInt_lt, ← Int64.toInt_inj] at *; omega)
  have c3 : ¬ (p2 < p1) := by (simp only [Int64.lt_iff_toInt_lt, ← Int64.toInt_inj] at *; omega)
  have c4 : ¬ (p3 < p2) := by (simp only [Int64.lt_iff_toInt_lt, ← Int64.toInt_inj] at *; omega)
  have hz := own_zc1 (own_zc0 hzc hz2) hz3
  unfold own_exp
  simp only [if_neg c0, if_neg c1, if_pos c2, if_neg c3, if_neg c4]
  rcases hz with ⟨a, b⟩ | ⟨a, b⟩
  · rw [a, b]
    first | decide | (by_cases h3 : vmo = (3 : Int32) <;> simp only [h3, if_true, if_false] <;> decide) | (by_cases h3 : vmo = (3 : Int32) <;> simp [h3] <;> decide)
  · rw [a, b]
    first | decide | (by_cases h3 : vmo = (3 : Int32) <;> simp only [h3, if_true, if_false] <;> decide) | (by_cases h3 : vmo = (3 : Int32) <;> simp [h3] <;> decide)
theorem own_leaf_gg {vsm vmo z1 z2 z3 z4 : Int32} {p1 p2 p3 : Int64} (hzc : (vsm = (0 : Int32) ∧ z1 = (16 : Int32)) ∨ (vsm = (1 : Int32) ∧ z1 = (1 : Int32))) (hz2 : z2 = own_nl (0 : Int32) z1 vmo) (hz3 : z3 = own_nl (1 : Int32) z2 vmo) (hz4 : z4 = own_nl (2 : Int32) z3 vmo) (hA : p1 < p2) (hB : p2 < p3) : (((8 : Int64) * ((z4 + z4).toInt64)) + (0 : Int64)) = own_exp p1 p2 p3 vsm vmo := by
  have c0 : ¬ (p2 = p1) := by (simp only [Int64.lt_iff_toInt_lt, ← Int64.toInt_inj] at *; omega)
  have c1 : ¬ (p3 = p1) := by (simp only [Int64.lt_iff_toInt_lt, ← Int64.toInt_inj] at *; omega)
  have c2 : ¬ (p3 = p2) := by (simp only [Int64.lt_iff_toInt_lt, ← Int64.toInt_inj] at *; omega)
  have c3 : ¬ (p2 < p1) := by (simp only [Int64.lt_iff_toInt_lt, ← Int64.toInt_inj] at *; omega)
  have c4 : ¬ (p3 < p2) := by (simp only [Int64.lt_iff_toInt_lt, ← Int64.toInt_inj] at *; omega)
  have hz := own_zc2 (own_zc1 (own_zc0 hzc hz2) hz3) hz4
  unfold own_exp
  simp only [if_neg c0, if_neg c1, if_neg c2, if_neg c3, if_neg c4]
  rcases hz with ⟨a, b⟩ | ⟨a, b⟩
  · rw [a, b]
    first | decide | (by_cases h3 : vmo = (3 : Int32) <;> simp only [h3, if_true, if_false] <;> decide) | (by_cases h3 : vmo = (3 : Int32) <;> simp [h3] <;> decide)
  · rw [a, b]
    first | decide | (by_cases h3 : vmo = (3 : Int32) <;> simp only [h3, if_true, if_false] <;> decide) | (by_cases h3 : vmo = (3 : Int32) <;> simp [h3] <;> decide)
theorem own_leaf_gf {vsm vmo z1 z2 z3 : Int32} {p1 p2 p3 : Int64} (hzc : (vsm = (0 : Int32) ∧ z1 = (16 : Int32)) ∨ (vsm = (1 : Int32) ∧ z1 = (1 : Int32))) (hz2 : z2 = own_nl (0 : Int32) z1 vmo) (hz3 : z3 = own_nl (1 : Int32) z2 vmo) (hA : p1 < p2) (hB : p1 = p3) : (((8 : Int64) * ((z3 + z3).toInt64)) + (0 : Int64)) = own_exp p1 p2 p3 vsm vmo := by
  have c0 : ¬ (p2 = p1) := by (simp only [Int64.lt_iff_toInt_lt, ← Int64.toInt_inj] at *; omega)
  have c1 : p3 = p1 := by (simp only [Int64.lt_iff_toInt_lt, ← Int64.toInt_inj] at *; omega)
  have c2 : ¬ (p3 = p2) := by (simp only [Int64.lt_iff_toInt_lt, ← Int64.toInt_inj] at *; omega)
  have c3 : ¬ (p2 < p1) := by (simp only [Int64.lt_iff_toInt_lt, ← Int64.toInt_inj] at *; omega)
  have c4 : p3 < p2 := by (simp only [Int64.lt_iff_toInt_lt, ← Int64.toInt_inj] at *; omega)
  have hz := own_zc1 (own_zc0 hzc hz2) hz3
  unfold own_exp
  simp only [if_neg c0, if_pos c1, if_neg c2, if_neg c3, if_pos c4]
  rcases hz with ⟨a, b⟩ | ⟨a, b⟩
  · rw [a, b]
    first | decide | (by_cases h3 : vmo = (3 : Int32) <;> simp only [h3, if_true, if_false] <;> decide) | (by_cases h3 : vmo = (3 : Int32) <;> simp [h3] <;> decide)
  · rw [a, b]
    first | decide | (by_cases h3 : vmo = (3 : Int32) <;> simp only [h3, if_true, if_false] <;> decide) | (by_cases h3 : vmo = (3 : Int32) <;> simp [h3] <;> decide)
theorem own_leaf_gl {vsm vmo z1 z2 z3 z4 : Int32} {p1 p2 p3 : Int64} (hzc : (vsm = (0 : Int32) ∧ z1 = (16 : Int32)) ∨ (vsm = (1 : Int32) ∧ z1 = (1 : Int32))) (hz2 : z2 = own_nl (0 : Int32) z1 vmo) (hz3 : z3 = own_nl (1 : Int32) z2 vmo) (hz4 : z4 = own_nl (2 : Int32) z3 vmo) (hA : p1 < p2) (hB : p3 < p2 ∧ ¬ p1 = p3) : (((8 : Int64) * ((z4 + z4).toInt64)) + ((4 : Int64) * ((32 : Int32).toInt64))) = own_exp p1 p2 p3 vsm vmo := by
  have c0 : ¬ (p2 = p1) := by (simp only [Int64.lt_iff_toInt_lt, ← Int64.toInt_inj] at *; omega)
  have c1 : ¬ (p3 = p1) := by (simp only [Int64.lt_iff_toInt_lt, ← Int64.toInt_inj] at *; omega)
  have c2 : ¬ (p3 = p2) := by (simp only [Int64.lt_iff_toInt_lt, ← Int64.toInt_inj] at *; omega)
  have c3 : ¬ (p2 < p1) := by (simp only [Int64.lt_iff_toInt_lt, ← Int64.toInt_inj] at *; omega)
  have c4 : p3 < p2 := by (simp only [Int64.lt_iff_toInt_lt, ← Int64.toInt_inj] at *; omega)
  have hz := own_zc2 (own_zc1 (own_zc0 hzc hz2) hz3) hz4
  unfold own_exp
  simp only [if_neg c0, if_neg c1, if_neg c2, if_neg c3, if_pos c4]
  rcases hz with ⟨a, b⟩ | ⟨a, b⟩
  · rw [a, b]
    first | decide | (by_cases h3 : vmo = (3 : Int32) <;> simp only [h3, if_true, if_false] <;> decide) | (by_cases h3 : vmo = (3 : Int32) <;> simp [h3] <;> decide)
  · rw [a, b]
    first | decide | (by_cases h3 : vmo = (3 : Int32) <;> simp only [h3, if_true, if_false] <;> decide) | (by_cases h3 : vmo = (3 : Int32) <;> simp [h3] <;> decide)
theorem own_leaf_le {vsm vmo z1 z2 z3 : Int32} {p1 p2 p3 : Int64} (hzc : (vsm = (0 : Int32) ∧ z1 = (16 : Int32)) ∨ (vsm = (1 : Int32) ∧ z1 = (1 : Int32))) (hz2 : z2 = own_nl (0 : Int32) z1 vmo) (hz3 : z3 = own_nl (1 : Int32) z2 vmo) (hA : p2 < p1) (hB : p2 = p3) : (((8 : Int64) * ((z3 + z3).toInt64)) + ((4 : Int64) * ((32 : Int32).toInt64))) = own_exp p1 p2 p3 vsm vmo := by
  have c0 : ¬ (p2 = p1) := by (simp only [Int64.lt_iff_toInt_lt, ← Int64.toInt_inj] at *; omega)
  have c1 : ¬ (p3 = p1) := by (simp only [Int64.lt_iff_toInt_lt, ← Int64.toInt_inj] at *; omega)
  have c2 : p3 = p2 := by (simp only [Int64.lt_iff_toInt_lt, ← Int64.toInt_inj] at *; omega)
  have c3 : p2 < p1 := by (simp only [Int64.lt_iff_toInt_lt, ← Int64.toInt_inj] at *; omega)
  have c4 : ¬ (p3 < p2) := by (simp only [Int64.lt_iff_toInt_lt, ← Int64.toInt_inj] at *; omega)
  have hz := own_zc1 (own_zc0 hzc hz2) hz3
  unfold own_exp
  simp only [if_neg c0, if_neg c1, if_pos c2, if_pos c3, if_neg c4]
  rcases hz with ⟨a, b⟩ | ⟨a, b⟩
  · rw [a, b]
    first | decide | (by_cases h3 : vmo = (3 : Int32) <;> simp only [h3, if_true, if_false] <;> decide) | (by_cases h3 : vmo = (3 : Int32) <;> simp [h3] <;> decide)
  · rw [a, b]
    first | decide | (by_cases h3 : vmo = (3 : Int32) <;> simp only [h3, if_true, if_false] <;> decide) | (by_cases h3 : vmo = (3 : Int32) <;> simp [h3] <;> decide)
theorem own_leaf_lf {vsm vmo z1 z2 z3 : Int32} {p1 p2 p3 : Int64} (hzc : (vsm = (0 : Int32) ∧ z1 = (16 : Int32)) ∨ (vsm = (1 : Int32) ∧ z1 = (1 : Int32))) (hz2 : z2 = own_nl (0 : Int32) z1 vmo) (hz3 : z3 = own_nl (1 : Int32) z2 vmo) (hA : p2 < p1) (hB : p1 = p3) : (((8 : Int64) * ((z3 + z3).toInt64)) + ((4 : Int64) * ((32 : Int32).toInt64))) = own_exp p1 p2 p3 vsm vmo := by
  have c0 : ¬ (p2 = p1) := by (simp only [Int64.lt_iff_toInt_lt, ← Int64.toInt_inj] at *; omega)
  have c1 : p3 = p1 := by (simp only [Int64.lt_iff_toInt_lt, ← Int64.toInt_inj] at *; omega)
  have c2 : ¬ (p3 = p2) := by (simp only [Int64.lt_iff_toInt_lt, ← Int64.toInt_inj] at *; omega)
  have c3 : p2 < p1 := by (simp only [Int64.lt_iff_toInt_lt, ← Int64.toInt_inj] at *; omega)
  have c4 : ¬ (p3 < p2) := by (simp only [Int64.lt_iff_toInt_lt, ← Int64.toInt_inj] at *; omega)
  have hz := own_zc1 (own_zc0 hzc hz2) hz3
  unfold own_exp
  simp only [if_neg c0, if_pos c1, if_neg c2, if_pos c3, if_neg c4]
  rcases hz with ⟨a, b⟩ | ⟨a, b⟩
  · rw [a, b]
    first | decide | (by_cases h3 : vmo = (3 : Int32) <;> simp only [h3, if_true, if_false] <;> decide) | (by_cases h3 : vmo = (3 : Int32) <;> simp [h3] <;> decide)
  · rw [a, b]
    first | decide | (by_cases h3 : vmo = (3 : Int32) <;> simp only [h3, if_true, if_false] <;> decide) | (by_cases h3 : vmo = (3 : Int32) <;> simp [h3] <;> decide)
theorem own_leaf_ll {vsm vmo z1 z2 z3 z4 : Int32} {p1 p2 p3 : Int64} (hzc : (vsm = (0 : Int32) ∧ z1 = (16 : Int32)) ∨ (vsm = (1 : Int32) ∧ z1 = (1 : Int32))) (hz2 : z2 = own_nl (0 : Int32) z1 vmo) (hz3 : z3 = own_nl (1 : Int32) z2 vmo) (hz4 : z4 = own_nl (2 : Int32) z3 vmo) (hA : p2 < p1) (hB : ¬ p2 = p3 ∧ ¬ p1 = p3) : (((8 : Int64) * ((z4 + z4).toInt64)) + ((4 : Int64) * ((32 : Int32).toInt64))) = own_exp p1 p2 p3 vsm vmo := by
  have c0 : ¬ (p2 = p1) := by (simp only [Int64.lt_iff_toInt_lt, ← Int64.toInt_inj] at *; omega)
  have c1 : ¬ (p3 = p1) := by (simp only [Int64.lt_iff_toInt_lt, ← Int64.toInt_inj] at *; omega)
  have c2 : ¬ (p3 = p2) := by (simp only [Int64.lt_iff_toInt_lt, ← Int64.toInt_inj] at *; omega)
  have c3 : p2 < p1 := by (simp only [Int64.lt_iff_toInt_lt, ← Int64.toInt_inj] at *; omega)
  have hz := own_zc2 (own_zc1 (own_zc0 hzc hz2) hz3) hz4
  unfold own_exp
  simp only [if_neg c0, if_neg c1, if_neg c2, if_pos c3]
  rcases hz with ⟨a, b⟩ | ⟨a, b⟩
  · rw [a, b]
    first | decide | (by_cases h3 : vmo = (3 : Int32) <;> simp only [h3, if_true, if_false] <;> decide) | (by_cases h3 : vmo = (3 : Int32) <;> simp [h3] <;> decide)
  · rw [a, b]
    first | decide | (by_cases h3 : vmo = (3 : Int32) <;> simp only [h3, if_true, if_false] <;> decide) | (by_cases h3 : vmo = (3 : Int32) <;> simp [h3] <;> decide)
theorem d0_0 : decode jdk_29_method_65_code 0 = .ok (.iload_n 0, 1) := by decide +kernel
theorem d0_1 : decode jdk_29_method_65_code 1 = .ok (.iload_n 1, 1) := by decide +kernel
theorem d0_2 : decode jdk_29_method_65_code 2 = .ok (.if_icmp .lt 7, 3) := by decide +kernel
theorem d0_9 : decode jdk_29_method_65_code 9 = .ok (.iload_n 1, 1) := by decide +kernel
theorem d0_5 : decode jdk_29_method_65_code 5 = .ok (.iload_n 0, 1) := by decide +kernel
theorem d0_6 : decode jdk_29_method_65_code 6 = .ok (.goto 4, 3) := by decide +kernel
theorem d0_10 : decode jdk_29_method_65_code 10 = .ok (.ireturn, 1) := by decide +kernel
theorem own_mx_ef (m : MethodId) (q1 : Int32) (q2 : Int32) : entryFrame m #[(.int q1), (.int q2)] 2 = mkF m 0 #[iv q1, iv q2] [] := by first | (simp [entryFrame, mkF, argsToLocals, Value.category]; done) | rfl
def own_mx_Q (Z : State) (q1 : Int32) (q2 : Int32) (r1 : Int32) (h0 : Heap) (n0 : Nat) (v : Option Value) (h : Heap) (L : List Loc) : Prop := v = some (.int r1) ∧ Fr n0 L ∧ h = h0
set_option maxRecDepth 65536 in
set_option maxHeartbeats 40000000 in
theorem own_mx (l : Launch) (Z : State) (a0 : Array Value) (hw : ∀ d ∈ tables_1, d.before a0 Z = true) (ws : List Jvm.Cond) (q1 : Int32) (q2 : Int32) (r1 : Int32) (h0 : Heap) (n0 : Nat) (Z0 : n0 ≤ h0.size) (hr1 : (if q1 < q2 then q2 else q1) = r1) :
    MetFree l (⟨"java/lang/Math", "max", "(II)I"⟩ : MethodName) (head1 (Jvm.Cond.code (⟨"java/lang/Math", "max", "(II)I"⟩ : MethodName) jdk_29_method_65_code 2 (some .int) :: ws) ({ frames := 0, cells := 0, slots := 0, locals := 0 } : Room)) (fun aa U => aa = #[(.int q1), (.int q2)] ∧ Z.Warmed39 U.vm ∧ U.heap = h0) (fun _ _ _ _ _ => True) (fun _ U o U' => ∃ v L, o = .returned v ∧ own_mx_Q Z q1 q2 r1 h0 n0 v U'.heap L ∧ FrameEnd U o U' L ({ frames := 0, cells := 0, slots := 0, locals := 0 } : Room).cells ({ frames := 0, cells := 0, slots := 0, locals := 0 } : Room).slots) := by
  refine MetFree.of_bodySF (Jvm.Free.JP.mathPlain rfl (by decide +kernel)) hisR ?_
  intro p e s m args below meth c s₁ Bd hml0 hP hK
  obtain ⟨rfl, hZ, hh⟩ := hP
  have hx := Bd.exec
  have hby := Bd.bytes
  have hlk := Bd.notSynchronized
  have hml : c.maxLocals = 2 := hml0
  have hown : s.vm.findClass "java/lang/Math" = some m.cls := findClass_of_methodNamed Bd.named
  have hnm := (name_of_methodNamed Bd.named Bd.method).1
  have X0 : Stand p l e ({ frames := 0, cells := 0, slots := 0, locals := 0 } : Room) s m #[(.int q1), (.int q2)] below meth c s₁ [] 0 0 := Stand.of_body Bd
  have e0 : s₁.heap = h0 := by rw [← hh, Bd.state]; rfl
  have N0 := Fr.nil n0
  have K0 : Keep h0 h0 [] := Keep.refl h0 _
  show gS p e below (own_Fin s (own_mx_Q Z q1 q2 r1 h0 n0) ({ frames := 0, cells := 0, slots := 0, locals := 0 } : Room).cells ({ frames := 0, cells := 0, slots := 0, locals := 0 } : Room).slots) _
  refine sT (fun t k => castTop (own_mx_ef m q1 q2) k) ?_
  show gM p e below _ s₁ m 0 #[iv q1, iv q2] []
  refine sT (fun t k => XS.iloadN X0.here hx rfl (hb hby d0_0) rfl k) ?_
  show gM p e below _ s₁ m 1 #[iv q1, iv q2] [(.int q1)]
  refine sT (fun t k => XS.iloadN X0.here hx rfl (hb hby d0_1) rfl k) ?_
  show gM p e below _ s₁ m 2 #[iv q1, iv q2] [(.int q2), (.int q1)]
  refine sT (S' := s₁.setTop (mkF m 10 #[iv q1, iv q2] [(.int (if q1 < q2 then q2 else q1))])) (fun t k => ?_) ?_
  · show Steps p.tables e below (s₁.setTop (mkF m 2 #[iv q1, iv q2] [(.int q2), (.int q1)])) _
    by_cases hc2 : q1 < q2
    · --
      refine XS.icmpYes X0.here hx rfl (pc0 := 2) (pc' := 9) rfl (hb hby d0_2) rfl (tlt hc2).1 (by decide) (by decide) ?_
      show Steps p.tables e below (s₁.setTop (mkF m 9 #[iv q1, iv q2] [])) _
      refine XS.iloadN X0.here hx rfl (hb hby d0_9) rfl ?_
      show Steps p.tables e below (s₁.setTop (mkF m 10 #[iv q1, iv q2] [(.int q2)])) _
      simp only [if_pos hc2] at k
      exact k
    · --
      refine XS.icmpNo X0.here hx rfl (hb hby d0_2) rfl (flt hc2).1 ?_
      show Steps p.tables e below (s₁.setTop (mkF m 5 #[iv q1, iv q2] [])) _
      refine XS.iloadN X0.here hx rfl (hb hby d0_5) rfl ?_
      show Steps p.tables e below (s₁.setTop (mkF m 6 #[iv q1, iv q2] [(.int q1)])) _
      refine XS.goto X0.here hx rfl (pc0 := 6) (pc' := 10) rfl (hb hby d0_6) (by decide) (by decide) ?_
      show Steps p.tables e below (s₁.setTop (mkF m 10 #[iv q1, iv q2] [(.int q1)])) _
      simp only [if_neg hc2] at k
      exact k
  show gM p e below _ s₁ m 10 #[iv q1, iv q2] [(.int (if q1 < q2 then q2 else q1))]
  refine own_retV X0 hx hlk Bd.returns (w := (.int (if q1 < q2 then q2 else q1))) rfl (Or.inl ⟨rfl, Or.inl rfl, _, rfl⟩) (hb hby d0_10) ?_ (by decide) (by decide)
  show own_mx_Q Z q1 q2 r1 h0 n0 _ s₁.heap _
  rw [e0]
  exact ⟨(by rw [hr1]), N0, rfl⟩
theorem d1_0 : decode jdk_29_method_69_code 0 = .ok (.iload_n 0, 1) := by decide +kernel
theorem d1_1 : decode jdk_29_method_69_code 1 = .ok (.iload_n 1, 1) := by decide +kernel
theorem d1_2 : decode jdk_29_method_69_code 2 = .ok (.if_icmp .gt 7, 3) := by decide +kernel
theorem d1_9 : decode jdk_29_method_69_code 9 = .ok (.iload_n 1, 1) := by decide +kernel
theorem d1_5 : decode jdk_29_method_69_code 5 = .ok (.iload_n 0, 1) := by decide +kernel
theorem d1_6 : decode jdk_29_method_69_code 6 = .ok (.goto 4, 3) := by decide +kernel
theorem d1_10 : decode jdk_29_method_69_code 10 = .ok (.ireturn, 1) := by decide +kernel
theorem own_mn_ef (m : MethodId) (q1 : Int32) (q2 : Int32) : entryFrame m #[(.int q1), (.int q2)] 2 = mkF m 0 #[iv q1, iv q2] [] := by first | (simp [entryFrame, mkF, argsToLocals, Value.category]; done) | rfl
def own_mn_Q (Z : State) (q1 : Int32) (q2 : Int32) (r1 : Int32) (h0 : Heap) (n0 : Nat) (v : Option Value) (h : Heap) (L : List Loc) : Prop := v = some (.int r1) ∧ Fr n0 L ∧ h = h0
set_option maxRecDepth 65536 in
set_option maxHeartbeats 40000000 in
theorem own_mn (l : Launch) (Z : State) (a0 : Array Value) (hw : ∀ d ∈ tables_1, d.before a0 Z = true) (ws : List Jvm.Cond) (q1 : Int32) (q2 : Int32) (r1 : Int32) (h0 : Heap) (n0 : Nat) (Z0 : n0 ≤ h0.size) (hr1 : (if q2 < q1 then q2 else q1) = r1) :
    MetFree l (⟨"java/lang/Math", "min", "(II)I"⟩ : MethodName) (head1 (Jvm.Cond.code (⟨"java/lang/Math", "min", "(II)I"⟩ : MethodName) jdk_29_method_69_code 2 (some .int) :: ws) ({ frames := 0, cells := 0, slots := 0, locals := 0 } : Room)) (fun aa U => aa = #[(.int q1), (.int q2)] ∧ Z.Warmed39 U.vm ∧ U.heap = h0) (fun _ _ _ _ _ => True) (fun _ U o U' => ∃ v L, o = .returned v ∧ own_mn_Q Z q1 q2 r1 h0 n0 v U'.heap L ∧ FrameEnd U o U' L ({ frames := 0, cells := 0, slots := 0, locals := 0 } : Room).cells ({ frames := 0, cells := 0, slots := 0, locals := 0 } : Room).slots) := by
  refine MetFree.of_bodySF (Jvm.Free.JP.mathPlain rfl (by decide +kernel)) hisR ?_
  intro p e s m args below meth c s₁ Bd hml0 hP hK
  obtain ⟨rfl, hZ, hh⟩ := hP
  have hx := Bd.exec
  have hby := Bd.bytes
  have hlk := Bd.notSynchronized
  have hml : c.maxLocals = 2 := hml0
  have hown : s.vm.findClass "java/lang/Math" = some m.cls := findClass_of_methodNamed Bd.named
  have hnm := (name_of_methodNamed Bd.named Bd.method).1
  have X0 : Stand p l e ({ frames := 0, cells := 0, slots := 0, locals := 0 } : Room) s m #[(.int q1), (.int q2)] below meth c s₁ [] 0 0 := Stand.of_body Bd
  have e0 : s₁.heap = h0 := by rw [← hh, Bd.state]; rfl
  have N0 := Fr.nil n0
  have K0 : Keep h0 h0 [] := Keep.refl h0 _
  show gS p e below (own_Fin s (own_mn_Q Z q1 q2 r1 h0 n0) ({ frames := 0, cells := 0, slots := 0, locals := 0 } : Room).cells ({ frames := 0, cells := 0, slots := 0, locals := 0 } : Room).slots) _
  refine sT (fun t k => castTop (own_mn_ef m q1 q2) k) ?_
  show gM p e below _ s₁ m 0 #[iv q1, iv q2] []
  refine sT (fun t k => XS.iloadN X0.here hx rfl (hb hby d1_0) rfl k) ?_
  show gM p e below _ s₁ m 1 #[iv q1, iv q2] [(.int q1)]
  refine sT (fun t k => XS.iloadN X0.here hx rfl (hb hby d1_1) rfl k) ?_
  show gM p e below _ s₁ m 2 #[iv q1, iv q2] [(.int q2), (.int q1)]
  refine sT (S' := s₁.setTop (mkF m 10 #[iv q1, iv q2] [(.int (if q2 < q1 then q2 else q1))])) (fun t k => ?_) ?_
  · show Steps p.tables e below (s₁.setTop (mkF m 2 #[iv q1, iv q2] [(.int q2), (.int q1)])) _
    by_cases hc4 : q2 < q1
    · --
      refine XS.icmpYes X0.here hx rfl (pc0 := 2) (pc' := 9) rfl (hb hby d1_2) rfl (tlt hc4).2.2.1 (by decide) (by decide) ?_
      show Steps p.tables e below (s₁.setTop (mkF m 9 #[iv q1, iv q2] [])) _
      refine XS.iloadN X0.here hx rfl (hb hby d1_9) rfl ?_
      show Steps p.tables e below (s₁.setTop (mkF m 10 #[iv q1, iv q2] [(.int q2)])) _
      simp only [if_pos hc4] at k
      exact k
    · --
      refine XS.icmpNo X0.here hx rfl (hb hby d1_2) rfl (flt hc4).2.2.1 ?_
      show Steps p.tables e below (s₁.setTop (mkF m 5 #[iv q1, iv q2] [])) _
      refine XS.iloadN X0.here hx rfl (hb hby d1_5) rfl ?_
      show Steps p.tables e below (s₁.setTop (mkF m 6 #[iv q1, iv q2] [(.int q1)])) _
      refine XS.goto X0.here hx rfl (pc0 := 6) (pc' := 10) rfl (hb hby d1_6) (by decide) (by decide) ?_
      show Steps p.tables e below (s₁.setTop (mkF m 10 #[iv q1, iv q2] [(.int q1)])) _
      simp only [if_neg hc4] at k
      exact k
  show gM p e below _ s₁ m 10 #[iv q1, iv q2] [(.int (if q2 < q1 then q2 else q1))]
  refine own_retV X0 hx hlk Bd.returns (w := (.int (if q2 < q1 then q2 else q1))) rfl (Or.inl ⟨rfl, Or.inl rfl, _, rfl⟩) (hb hby d1_10) ?_ (by decide) (by decide)
  show own_mn_Q Z q1 q2 r1 h0 n0 _ s₁.heap _
  rw [e0]
  exact ⟨(by rw [hr1]), N0, rfl⟩
theorem d2_0 : decode jdk_29_method_70_code 0 = .ok (.lload_n 0, 1) := by decide +kernel
theorem d2_1 : decode jdk_29_method_70_code 1 = .ok (.lload_n 2, 1) := by decide +kernel
theorem d2_2 : decode jdk_29_method_70_code 2 = .ok (.lcmp, 1) := by decide +kernel
theorem d2_3 : decode jdk_29_method_70_code 3 = .ok (.ifCond .gt 7, 3) := by decide +kernel
theorem d2_10 : decode jdk_29_method_70_code 10 = .ok (.lload_n 2, 1) := by decide +kernel
theorem d2_6 : decode jdk_29_method_70_code 6 = .ok (.lload_n 0, 1) := by decide +kernel
theorem d2_7 : decode jdk_29_method_70_code 7 = .ok (.goto 4, 3) := by decide +kernel
theorem d2_11 : decode jdk_29_method_70_code 11 = .ok (.lreturn, 1) := by decide +kernel
theorem own_ml_ef (m : MethodId) (q1 : Int64) (q2 : Int64) : entryFrame m #[(.long q1), (.long q2)] 4 = mkF m 0 #[lv q1, sN, lv q2, sN] [] := by first | (simp [entryFrame, mkF, argsToLocals, Value.category]; done) | rfl
def own_ml_Q (Z : State) (q1 : Int64) (q2 : Int64) (h0 : Heap) (n0 : Nat) (v : Option Value) (h : Heap) (L : List Loc) : Prop := v = some (.long (if q2 < q1 then q2 else q1)) ∧ Fr n0 L ∧ h = h0
set_option maxRecDepth 65536 in
set_option maxHeartbeats 40000000 in
theorem own_ml (l : Launch) (Z : State) (a0 : Array Value) (hw : ∀ d ∈ tables_1, d.before a0 Z = true) (ws : List Jvm.Cond) (q1 : Int64) (q2 : Int64) (h0 : Heap) (n0 : Nat) (Z0 : n0 ≤ h0.size) :
    MetFree l (⟨"java/lang/Math", "min", "(JJ)J"⟩ : MethodName) (head1 (Jvm.Cond.code (⟨"java/lang/Math", "min", "(JJ)J"⟩ : MethodName) jdk_29_method_70_code 4 (some .long) :: ws) ({ frames := 0, cells := 0, slots := 0, locals := 0 } : Room)) (fun aa U => aa = #[(.long q1), (.long q2)] ∧ Z.Warmed39 U.vm ∧ U.heap = h0) (fun _ _ _ _ _ => True) (fun _ U o U' => ∃ v L, o = .returned v ∧ own_ml_Q Z q1 q2 h0 n0 v U'.heap L ∧ FrameEnd U o U' L ({ frames := 0, cells := 0, slots := 0, locals := 0 } : Room).cells ({ frames := 0, cells := 0, slots := 0, locals := 0 } : Room).slots) := by
  refine MetFree.of_bodySF (Jvm.Free.JP.mathPlain rfl (by decide +kernel)) hisR ?_
  intro p e s m args below meth c s₁ Bd hml0 hP hK
  obtain ⟨rfl, hZ, hh⟩ := hP
  have hx := Bd.exec
  have hby := Bd.bytes
  have hlk := Bd.notSynchronized
  have hml : c.maxLocals = 4 := hml0
  have hown : s.vm.findClass "java/lang/Math" = some m.cls := findClass_of_methodNamed Bd.named
  have hnm := (name_of_methodNamed Bd.named Bd.method).1
  have X0 : Stand p l e ({ frames := 0, cells := 0, slots := 0, locals := 0 } : Room) s m #[(.long q1), (.long q2)] below meth c s₁ [] 0 0 := Stand.of_body Bd
  have e0 : s₁.heap = h0 := by rw [← hh, Bd.state]; rfl
  have N0 := Fr.nil n0
  have K0 : Keep h0 h0 [] := Keep.refl h0 _
  show gS p e below (own_Fin s (own_ml_Q Z q1 q2 h0 n0) ({ frames := 0, cells := 0, slots := 0, locals := 0 } : Room).cells ({ frames := 0, cells := 0, slots := 0, locals := 0 } : Room).slots) _
  refine sT (fun t k => castTop (own_ml_ef m q1 q2) k) ?_
  show gM p e below _ s₁ m 0 #[lv q1, sN, lv q2, sN] []
  refine sT (fun t k => XS.lloadN X0.here hx rfl (hb hby d2_0) rfl k) ?_
  show gM p e below _ s₁ m 1 #[lv q1, sN, lv q2, sN] [(.long q1)]
  refine sT (fun t k => XS.lloadN X0.here hx rfl (hb hby d2_1) rfl k) ?_
  show gM p e below _ s₁ m 2 #[lv q1, sN, lv q2, sN] [(.long q2), (.long q1)]
  refine sT (fun t k => XS.lcmp X0.here hx rfl (hb hby d2_2) rfl k) ?_
  show gM p e below _ s₁ m 3 #[lv q1, sN, lv q2, sN] [(.int (lcmpW q1 q2))]
  refine sT (S' := s₁.setTop (mkF m 11 #[lv q1, sN, lv q2, sN] [(.long (if q2 < q1 then q2 else q1))])) (fun t k => ?_) ?_
  · show Steps p.tables e below (s₁.setTop (mkF m 3 #[lv q1, sN, lv q2, sN] [(.int (lcmpW q1 q2))])) _
    by_cases hc6 : q2 < q1
    · --
      refine XS.ifYes X0.here hx rfl (pc0 := 3) (pc' := 10) rfl (hb hby d2_3) rfl ((if0 _ _).trans (tlt ((lw_gt q1 q2).mpr hc6)).2.2.1) (by decide) (by decide) ?_
      show Steps p.tables e below (s₁.setTop (mkF m 10 #[lv q1, sN, lv q2, sN] [])) _
      refine XS.lloadN X0.here hx rfl (hb hby d2_10) rfl ?_
      show Steps p.tables e below (s₁.setTop (mkF m 11 #[lv q1, sN, lv q2, sN] [(.long q2)])) _
      simp only [if_pos hc6] at k
      exact k
    · --
      refine XS.ifNo X0.here hx rfl (hb hby d2_3) rfl ((if0 _ _).trans (flt (fun zq => hc6 ((lw_gt q1 q2).mp zq))).2.2.1) ?_
      show Steps p.tables e below (s₁.setTop (mkF m 6 #[lv q1, sN, lv q2, sN] [])) _
      refine XS.lloadN X0.here hx rfl (hb hby d2_6) rfl ?_
      show Steps p.tables e below (s₁.setTop (mkF m 7 #[lv q1, sN, lv q2, sN] [(.long q1)])) _
      refine XS.goto X0.here hx rfl (pc0 := 7) (pc' := 11) rfl (hb hby d2_7) (by decide) (by decide) ?_
      show Steps p.tables e below (s₁.setTop (mkF m 11 #[lv q1, sN, lv q2, sN] [(.long q1)])) _
      simp only [if_neg hc6] at k
      exact k
  show gM p e below _ s₁ m 11 #[lv q1, sN, lv q2, sN] [(.long (if q2 < q1 then q2 else q1))]
  refine own_retV X0 hx hlk Bd.returns (w := (.long (if q2 < q1 then q2 else q1))) rfl (Or.inr (Or.inl ⟨rfl, rfl, _, rfl⟩)) (hb hby d2_11) ?_ (by decide) (by decide)
  show own_ml_Q Z q1 q2 h0 n0 _ s₁.heap _
  rw [e0]
  exact ⟨rfl, N0, rfl⟩
theorem own_pn0 : plainName oS = true := by first | (simp [plainName, overriddenIn]; done) | decide +kernel
theorem d3_0 : decode prog_128_method_2_code 0 = .ok (.aload_n 0, 1) := by decide +kernel
theorem d3_1 : decode prog_128_method_2_code 1 = .ok (.invokespecial 7, 3) := by decide +kernel
theorem d3_4 : decode prog_128_method_2_code 4 = .ok (.aload_n 0, 1) := by decide +kernel
theorem d3_5 : decode prog_128_method_2_code 5 = .ok (.ldc 14, 2) := by decide +kernel
theorem d3_7 : decode prog_128_method_2_code 7 = .ok (.putfield 15, 3) := by decide +kernel
theorem d3_10 : decode prog_128_method_2_code 10 = .ok (.aload_n 0, 1) := by decide +kernel
theorem d3_11 : decode prog_128_method_2_code 11 = .ok (.iload_n 1, 1) := by decide +kernel
theorem d3_12 : decode prog_128_method_2_code 12 = .ok (.iconst 1, 1) := by decide +kernel
theorem own_pd0 : parseMethodDescriptor "(II)I" = some ⟨[.int, .int], some .int⟩ := by decide +kernel
theorem d3_13 : decode prog_128_method_2_code 13 = .ok (.invokestatic 19, 3) := by decide +kernel
theorem d3_16 : decode prog_128_method_2_code 16 = .ok (.newarray .long, 2) := by decide +kernel
theorem d3_18 : decode prog_128_method_2_code 18 = .ok (.putfield 25, 3) := by decide +kernel
theorem d3_21 : decode prog_128_method_2_code 21 = .ok (.aload_n 0, 1) := by decide +kernel
theorem d3_22 : decode prog_128_method_2_code 22 = .ok (.aload_n 0, 1) := by decide +kernel
theorem d3_23 : decode prog_128_method_2_code 23 = .ok (.getfield 25, 3) := by decide +kernel
theorem d3_26 : decode prog_128_method_2_code 26 = .ok (.arraylength, 1) := by decide +kernel
theorem d3_27 : decode prog_128_method_2_code 27 = .ok (.newarray .long, 2) := by decide +kernel
theorem d3_29 : decode prog_128_method_2_code 29 = .ok (.putfield 29, 3) := by decide +kernel
theorem d3_32 : decode prog_128_method_2_code 32 = .ok (.return_, 1) := by decide +kernel
theorem own_i16_ef (m : MethodId) (a1 : Addr) : entryFrame m #[(.ref a1), (.int 16)] 2 = mkF m 0 #[rv a1, iv 16] [] := by first | (simp [entryFrame, mkF, argsToLocals, Value.category]; done) | rfl
def own_i16_Q (Z : State) (a1 : Addr) (u1 : Value) (u2 : Value) (u3 : Value) (h0 : Heap) (n0 : Nat) (v : Option Value) (h : Heap) (L : List Loc) : Prop := ∃ bb : Addr, ∃ cc : Addr, ∃ kb : ClassId, ∃ kc : ClassId, v = none ∧ Fr n0 L ∧ Keep h0 h [a1] ∧ h0.size ≤ bb ∧ h0.size ≤ cc ∧ bb ≠ cc ∧ Exa Z h a1 oS ∧ Fld Z h a1 oS "blocks" "[J" (.ref bb) ∧ Fld Z h a1 oS "bits" "[J" (.ref cc) ∧ Fld Z h a1 oS "size" "I" (.int 0) ∧ Fld Z h a1 oS "ordered" "I" (.int 0) ∧ Fld Z h a1 oS "table" "[I" .null ∧ Fld Z h a1 oS "most" "I" (.int 2147483647) ∧ Arv Z h bb kb .long 16 (([0, 0, 0, 0, 0, 0, 0, 0, 0, 0, 0, 0, 0, 0, 0, 0] : List Int64).map Value.long) (Value.long 0) ∧ Arv Z h cc kc .long 16 (([0, 0, 0, 0, 0, 0, 0, 0, 0, 0, 0, 0, 0, 0, 0, 0] : List Int64).map Value.long) (Value.long 0)
set_option maxRecDepth 65536 in
set_option maxHeartbeats 40000000 in
theorem own_i16 (l : Launch) (Z : State) (a0 : Array Value) (hw : ∀ d ∈ tables_1, d.before a0 Z = true) (ws : List Jvm.Cond) (a1 : Addr) (u1 : Value) (u2 : Value) (u3 : Value) (h0 : Heap) (n0 : Nat) (Z0 : n0 ≤ h0.size) (E_a1 : Exa Z h0 a1 oS) (g_a1 : n0 ≤ a1) (F_size_a1 : Fld Z h0 a1 oS "size" "I" (.int 0)) (F_ordered_a1 : Fld Z h0 a1 oS "ordered" "I" (.int 0)) (F_table_a1 : Fld Z h0 a1 oS "table" "[I" .null) (F_most_a1 : Fld Z h0 a1 oS "most" "I" u1) (F_blocks_a1 : Fld Z h0 a1 oS "blocks" "[J" u2) (F_bits_a1 : Fld Z h0 a1 oS "bits" "[J" u3) :
    MetFree l (⟨oS, "<init>", "(I)V"⟩ : MethodName) (head1 (Jvm.Cond.code (⟨oS, "<init>", "(I)V"⟩ : MethodName) prog_128_method_2_code 2 none :: ws) ({ frames := 1, cells := 2, slots := 32, locals := 14 } : Room)) (fun aa U => aa = #[(.ref a1), (.int 16)] ∧ Z.Warmed39 U.vm ∧ U.heap = h0) (fun _ _ _ _ _ => True) (fun _ U o U' => ∃ v L, o = .returned v ∧ own_i16_Q Z a1 u1 u2 u3 h0 n0 v U'.heap L ∧ FrameEnd U o U' L ({ frames := 1, cells := 2, slots := 32, locals := 14 } : Room).cells ({ frames := 1, cells := 2, slots := 32, locals := 14 } : Room).slots) := by
  refine MetFree.of_bodySF (plainFor_of_name own_pn0) hisR ?_
  have w1 := hw _ (List.mem_of_getElem? (i := 1) rfl)
  have w9 := hw _ (List.mem_of_getElem? (i := 9) rfl)
  have w10 := hw _ (List.mem_of_getElem? (i := 10) rfl)
  have w11 := hw _ (List.mem_of_getElem? (i := 11) rfl)
  have w12 := hw _ (List.mem_of_getElem? (i := 12) rfl)
  have w13 := hw _ (List.mem_of_getElem? (i := 13) rfl)
  have w14 := hw _ (List.mem_of_getElem? (i := 14) rfl)
  have w15 := hw _ (List.mem_of_getElem? (i := 15) rfl)
  have w16 := hw _ (List.mem_of_getElem? (i := 16) rfl)
  have w17 := hw _ (List.mem_of_getElem? (i := 17) rfl)
  have w18 := hw _ (List.mem_of_getElem? (i := 18) rfl)
  have w19 := hw _ (List.mem_of_getElem? (i := 19) rfl)
  have w20 := hw _ (List.mem_of_getElem? (i := 20) rfl)
  have w21 := hw _ (List.mem_of_getElem? (i := 21) rfl)
  have w22 := hw _ (List.mem_of_getElem? (i := 22) rfl)
  have w23 := hw _ (List.mem_of_getElem? (i := 23) rfl)
  have w36 := hw _ (List.mem_of_getElem? (i := 36) rfl)
  have w43 := hw _ (List.mem_of_getElem? (i := 43) rfl)
  have w49 := hw _ (List.mem_of_getElem? (i := 49) rfl)
  intro p e s m args below meth c s₁ Bd hml0 hP hK
  obtain ⟨rfl, hZ, hh⟩ := hP
  have hx := Bd.exec
  have hby := Bd.bytes
  have hlk := Bd.notSynchronized
  have hml : c.maxLocals = 2 := hml0
  have hown : s.vm.findClass oS = some m.cls := findClass_of_methodNamed Bd.named
  have hnm := (name_of_methodNamed Bd.named Bd.method).1
  have X0 : Stand p l e ({ frames := 1, cells := 2, slots := 32, locals := 14 } : Room) s m #[(.ref a1), (.int 16)] below meth c s₁ [] 0 0 := Stand.of_body Bd
  have e0 : s₁.heap = h0 := by rw [← hh, Bd.state]; rfl
  have N0 := Fr.nil n0
  have K0 : Keep h0 h0 [a1] := Keep.refl h0 _
  show gS p e below (own_Fin s (own_i16_Q Z a1 u1 u2 u3 h0 n0) ({ frames := 1, cells := 2, slots := 32, locals := 14 } : Room).cells ({ frames := 1, cells := 2, slots := 32, locals := 14 } : Room).slots) _
  refine sT (fun t k => castTop (own_i16_ef m a1) k) ?_
  show gM p e below _ s₁ m 0 #[rv a1, iv 16] []
  refine sT (fun t k => XS.aloadN X0.here hx rfl (hb hby d3_0) rfl rfl k) ?_
  show gM p e below _ s₁ m 1 #[rv a1, iv 16] [(.ref a1)]
  obtain ⟨T20, X20, e20, st20⟩ := initO X0 hx hZ hown w9 w10 w11 e0 (g := (mkF m 1 #[rv a1, iv 16] [(.ref a1)])) rfl (by rw [hml]; rfl) rfl (hb hby d3_1) (by decide) (W := 0) (by show 2 * 0 + _ ≤ _; exact Nat.le_of_eq rfl) (by decide)
  refine sT st20 ?_
  show gM p e below _ T20 m 4 #[rv a1, iv 16] []
  refine sT (fun t k => XS.aloadN X20.here hx rfl (hb hby d3_4) rfl rfl k) ?_
  show gM p e below _ T20 m 5 #[rv a1, iv 16] [(.ref a1)]
  refine sT (fun t k => X20.ldcInt hx hown (mvT hZ w12) (g := (mkF m 5 #[rv a1, iv 16] [(.ref a1)])) rfl (hb hby d3_5) _ k) ?_
  show gM p e below _ T20 m 7 #[rv a1, iv 16] [(.int 2147483647), (.ref a1)]
  obtain ⟨T21, h21, X21, e21, W21, st21⟩ := putF X20 hx hZ hown (host := "") (Or.inl w13) Via.refl e20 F_most_a1 E_a1 (Or.inl w14) w1 (ty := .int) (by decide) rfl rfl (g := (mkF m 7 #[rv a1, iv 16] [(.int 2147483647), (.ref a1)])) rfl rfl (hb hby d3_7)
  have Fw21 := F_most_a1.same W21
  have N21 := Fr.snoc X21 N0 g_a1
  have K22 : Keep h0 h21 [a1] := K0.wr W21 (Or.inl (List.mem_of_getElem? (i := 0) rfl))
  refine sT st21 ?_
  show gM p e below _ T21 m 10 #[rv a1, iv 16] []
  refine sT (fun t k => XS.aloadN X21.here hx rfl (hb hby d3_10) rfl rfl k) ?_
  show gM p e below _ T21 m 11 #[rv a1, iv 16] [(.ref a1)]
  refine sT (fun t k => XS.iloadN X21.here hx rfl (hb hby d3_11) rfl k) ?_
  show gM p e below _ T21 m 12 #[rv a1, iv 16] [(.int 16), (.ref a1)]
  refine sT (fun t k => XS.iconst X21.here hx rfl (hb hby d3_12) k) ?_
  show gM p e below _ T21 m 13 #[rv a1, iv 16] [(.int 1), (.int 16), (.ref a1)]
  obtain ⟨_, _, ⟨T23, L23, k23, n23⟩, -, X23, ⟨Lc23, hQ23, l23, y23, z23⟩, st23⟩ := Jvm.LawKit.callS X21 hx (y := (⟨"java/lang/Math", "max", "(II)I"⟩ : MethodName)) hown (mvT hZ w15) (mvT hZ w16) (mvT hZ w17) (mvT hZ w18) (by decide) (backOf (W := 1) (own_mx l Z a0 hw [] (16 : Int32) (1 : Int32) ((16 : Int32)) h21 n0 (Nat.le_trans Z0 (Keep.of_wr W21).1) rfl) hZ w18 w17 (by decide) (by decide)) (g := (mkF m 13 #[rv a1, iv 16] [(.int 1), (.int 16), (.ref a1)])) rfl (by rw [hml]; rfl) (argsL := [(.int 16), (.int 1)]) (rest := [(.ref a1)]) (lenOf own_pd0 rfl) rfl (by show 2 * 0 + _ ≤ _; exact Nat.le_of_eq rfl) (hb hby d3_13) (fun _ _ => ⟨rfl, e21, (by decide : 0 + 0 ≤ _), (by decide : 0 + 0 ≤ _)⟩)
  dsimp only [Pt.U, Pt.locs, Pt.cells, Pt.slots] at X23 l23 y23 z23 st23 hQ23
  subst y23 z23
  obtain ⟨rfl, N23q, eh23⟩ := hQ23
  have N23 : Fr n0 L23 := by rw [l23]; exact Fr.app N21 N23q
  refine sT st23 ?_
  show gM p e below _ T23 m 16 #[rv a1, iv 16] [(.int 16), (.ref a1)]
  obtain ⟨T24, h24, k24, X24, e24, E24, A24, st24⟩ := newP (aty := .long) X23 hx hZ w19 eh23 (g := (mkF m 16 #[rv a1, iv 16] [(.int 16), (.ref a1)])) rfl (hb hby d3_16) rfl (by decide) (cap := 16) (by decide) (by decide) (by decide) (by decide)
  obtain ⟨b24, g24⟩ : ∃ z, z = h21.size := ⟨_, rfl⟩
  rw [← g24] at A24 st24
  have ne_a1_b24 : a1 ≠ b24 := Nat.ne_of_lt (Nat.lt_of_lt_of_le (E_a1.wr W21).lt (Nat.le_of_eq g24.symm))
  have g_b24 : n0 ≤ b24 := Nat.le_trans (Nat.le_trans Z0 (Keep.of_wr W21).1) (Nat.le_of_eq g24.symm)
  have sz_b24 : h0.size ≤ b24 := Nat.le_trans K22.1 (Nat.le_of_eq g24.symm)
  have V24 : Arv Z h24 b24 k24 .long 16 (([0, 0, 0, 0, 0, 0, 0, 0, 0, 0, 0, 0, 0, 0, 0, 0] : List Int64).map Value.long) (Value.long 0) := own_newJ A24 (by decide) 16
  have K25 : Keep h0 h24 [a1] := K22.ext E24
  refine sT st24 ?_
  show gM p e below _ T24 m 18 #[rv a1, iv 16] [(.ref b24), (.ref a1)]
  obtain ⟨T26, h26, X26, e26, W26, st26⟩ := putF X24 hx hZ hown (host := "") (Or.inl w20) Via.refl e24 ((F_blocks_a1.other W21 (Or.inr (slot_ne (Or.inl w21) (Or.inl w14) (by decide) (t := (.array .long)) (t' := .int) (by decide) (by decide)))).ext E24) ((E_a1.wr W21).ext E24) (Or.inl w21) w1 (ty := (.array .long)) (by decide) rfl rfl (g := (mkF m 18 #[rv a1, iv 16] [(.ref b24), (.ref a1)])) rfl rfl (hb hby d3_18)
  have Fw26 := ((F_blocks_a1.other W21 (Or.inr (slot_ne (Or.inl w21) (Or.inl w14) (by decide) (t := (.array .long)) (t' := .int) (by decide) (by decide)))).ext E24).same W26
  have N26 := Fr.snoc X26 N23 g_a1
  have K27 : Keep h0 h26 [a1] := K25.wr W26 (Or.inl (List.mem_of_getElem? (i := 0) rfl))
  refine sT st26 ?_
  show gM p e below _ T26 m 21 #[rv a1, iv 16] []
  refine sT (fun t k => XS.aloadN X26.here hx rfl (hb hby d3_21) rfl rfl k) ?_
  show gM p e below _ T26 m 22 #[rv a1, iv 16] [(.ref a1)]
  refine sT (fun t k => XS.aloadN X26.here hx rfl (hb hby d3_22) rfl rfl k) ?_
  show gM p e below _ T26 m 23 #[rv a1, iv 16] [(.ref a1), (.ref a1)]
  obtain ⟨T28, X28, e28, st28⟩ := getF X26 hx hZ hown (host := "") (Or.inl w20) Via.refl e26 Fw26 (g := (mkF m 23 #[rv a1, iv 16] [(.ref a1), (.ref a1)])) rfl rfl (hb hby d3_23)
  refine sT st28 ?_
  show gM p e below _ T28 m 26 #[rv a1, iv 16] [(.ref b24), (.ref a1)]
  refine sT (fun t k => own_len X28 hx hZ e28 (V24.other W26 (Ne.symm ne_a1_b24)) (g := (mkF m 26 #[rv a1, iv 16] [(.ref b24), (.ref a1)])) rfl rfl (hb hby d3_26) _ k) ?_
  show gM p e below _ T28 m 27 #[rv a1, iv 16] [(.int 16), (.ref a1)]
  obtain ⟨T29, h29, k29, X29, e29, E29, A29, st29⟩ := newP (aty := .long) X28 hx hZ w19 e28 (g := (mkF m 27 #[rv a1, iv 16] [(.int 16), (.ref a1)])) rfl (hb hby d3_27) rfl (by decide) (cap := 16) (by decide) (by decide) (by decide) (by decide)
  obtain ⟨b29, g29⟩ : ∃ z, z = h26.size := ⟨_, rfl⟩
  rw [← g29] at A29 st29
  have ne_a1_b29 : a1 ≠ b29 := Nat.ne_of_lt (Nat.lt_of_lt_of_le (((E_a1.wr W21).ext E24).wr W26).lt (Nat.le_of_eq g29.symm))
  have ne_b24_b29 : b24 ≠ b29 := Nat.ne_of_lt (Nat.lt_of_lt_of_le (V24.other W26 (Ne.symm ne_a1_b24)).lt (Nat.le_of_eq g29.symm))
  have g_b29 : n0 ≤ b29 := Nat.le_trans (Nat.le_trans (Nat.le_trans (Nat.le_trans Z0 (Keep.of_wr W21).1) E24.1) (Keep.of_wr W26).1) (Nat.le_of_eq g29.symm)
  have sz_b29 : h0.size ≤ b29 := Nat.le_trans K27.1 (Nat.le_of_eq g29.symm)
  have V29 : Arv Z h29 b29 k29 .long 16 (([0, 0, 0, 0, 0, 0, 0, 0, 0, 0, 0, 0, 0, 0, 0, 0] : List Int64).map Value.long) (Value.long 0) := own_newJ A29 (by decide) 16
  have K30 : Keep h0 h29 [a1] := K27.ext E29
  refine sT st29 ?_
  show gM p e below _ T29 m 29 #[rv a1, iv 16] [(.ref b29), (.ref a1)]
  obtain ⟨T31, h31, X31, e31, W31, st31⟩ := putF X29 hx hZ hown (host := "") (Or.inl w22) Via.refl e29 ((((F_bits_a1.other W21 (Or.inr (slot_ne (Or.inl w23) (Or.inl w14) (by decide) (t := (.array .long)) (t' := .int) (by decide) (by decide)))).ext E24).other W26 (Or.inr (slot_ne (Or.inl w23) (Or.inl w21) (by decide) (t := (.array .long)) (t' := (.array .long)) (by decide) (by decide)))).ext E29) ((((E_a1.wr W21).ext E24).wr W26).ext E29) (Or.inl w23) w1 (ty := (.array .long)) (by decide) rfl rfl (g := (mkF m 29 #[rv a1, iv 16] [(.ref b29), (.ref a1)])) rfl rfl (hb hby d3_29)
  have Fw31 := ((((F_bits_a1.other W21 (Or.inr (slot_ne (Or.inl w23) (Or.inl w14) (by decide) (t := (.array .long)) (t' := .int) (by decide) (by decide)))).ext E24).other W26 (Or.inr (slot_ne (Or.inl w23) (Or.inl w21) (by decide) (t := (.array .long)) (t' := (.array .long)) (by decide) (by decide)))).ext E29).same W31
  have N31 := Fr.snoc X31 N26 g_a1
  have K32 : Keep h0 h31 [a1] := K30.wr W31 (Or.inl (List.mem_of_getElem? (i := 0) rfl))
  refine sT st31 ?_
  show gM p e below _ T31 m 32 #[rv a1, iv 16] []
  refine own_ret0 X31 hx hlk Bd.returns (hb hby d3_32) ?_ (by decide) (by decide)
  show own_i16_Q Z a1 u1 u2 u3 h0 n0 _ T31.heap _
  rw [e31]
  exact ⟨b24, b29, k24, k29, rfl, N31, K32, sz_b24, sz_b29, ne_b24_b29, (((((E_a1.wr W21).ext E24).wr W26).ext E29).wr W31), ((Fw26.ext E29).other W31 (Or.inr (slot_ne (Or.inl w21) (Or.inl w23) (by decide) (t := (.array .long)) (t' := (.array .long)) (by decide) (by decide)))), Fw31, (((((F_size_a1.other W21 (Or.inr (slot_ne (Or.inl w43) (Or.inl w14) (by decide) (t := .int) (t' := .int) (by decide) (by decide)))).ext E24).other W26 (Or.inr (slot_ne (Or.inl w43) (Or.inl w21) (by decide) (t := .int) (t' := (.array .long)) (by decide) (by decide)))).ext E29).other W31 (Or.inr (slot_ne (Or.inl w43) (Or.inl w23) (by decide) (t := .int) (t' := (.array .long)) (by decide) (by decide)))), (((((F_ordered_a1.other W21 (Or.inr (slot_ne (Or.inl w49) (Or.inl w14) (by decide) (t := .int) (t' := .int) (by decide) (by decide)))).ext E24).other W26 (Or.inr (slot_ne (Or.inl w49) (Or.inl w21) (by decide) (t := .int) (t' := (.array .long)) (by decide) (by decide)))).ext E29).other W31 (Or.inr (slot_ne (Or.inl w49) (Or.inl w23) (by decide) (t := .int) (t' := (.array .long)) (by decide) (by decide)))), (((((F_table_a1.other W21 (Or.inr (slot_ne (Or.inl w36) (Or.inl w14) (by decide) (t := (.array .int)) (t' := .int) (by decide) (by decide)))).ext E24).other W26 (Or.inr (slot_ne (Or.inl w36) (Or.inl w21) (by decide) (t := (.array .int)) (t' := (.array .long)) (by decide) (by decide)))).ext E29).other W31 (Or.inr (slot_ne (Or.inl w36) (Or.inl w23) (by decide) (t := (.array .int)) (t' := (.array .long)) (by decide) (by decide)))), ((((Fw21.ext E24).other W26 (Or.inr (slot_ne (Or.inl w14) (Or.inl w21) (by decide) (t := .int) (t' := (.array .long)) (by decide) (by decide)))).ext E29).other W31 (Or.inr (slot_ne (Or.inl w14) (Or.inl w23) (by decide) (t := .int) (t' := (.array .long)) (by decide) (by decide)))), (((V24.other W26 (Ne.symm ne_a1_b24)).ext E29).other W31 (Ne.symm ne_a1_b24)), (V29.other W31 (Ne.symm ne_a1_b29))⟩
theorem own_i1_ef (m : MethodId) (a1 : Addr) : entryFrame m #[(.ref a1), (.int 0)] 2 = mkF m 0 #[rv a1, iv 0] [] := by first | (simp [entryFrame, mkF, argsToLocals, Value.category]; done) | rfl
def own_i1_Q (Z : State) (a1 : Addr) (u1 : Value) (u2 : Value) (u3 : Value) (h0 : Heap) (n0 : Nat) (v : Option Value) (h : Heap) (L : List Loc) : Prop := ∃ bb : Addr, ∃ cc : Addr, ∃ kb : ClassId, ∃ kc : ClassId, v = none ∧ Fr n0 L ∧ Keep h0 h [a1] ∧ h0.size ≤ bb ∧ h0.size ≤ cc ∧ bb ≠ cc ∧ Exa Z h a1 oS ∧ Fld Z h a1 oS "blocks" "[J" (.ref bb) ∧ Fld Z h a1 oS "bits" "[J" (.ref cc) ∧ Fld Z h a1 oS "size" "I" (.int 0) ∧ Fld Z h a1 oS "ordered" "I" (.int 0) ∧ Fld Z h a1 oS "table" "[I" .null ∧ Fld Z h a1 oS "most" "I" (.int 2147483647) ∧ Arv Z h bb kb .long 1 (([0] : List Int64).map Value.long) (Value.long 0) ∧ Arv Z h cc kc .long 1 (([0] : List Int64).map Value.long) (Value.long 0)
set_option maxRecDepth 65536 in
set_option maxHeartbeats 40000000 in
theorem own_i1 (l : Launch) (Z : State) (a0 : Array Value) (hw : ∀ d ∈ tables_1, d.before a0 Z = true) (ws : List Jvm.Cond) (a1 : Addr) (u1 : Value) (u2 : Value) (u3 : Value) (h0 : Heap) (n0 : Nat) (Z0 : n0 ≤ h0.size) (E_a1 : Exa Z h0 a1 oS) (g_a1 : n0 ≤ a1) (F_size_a1 : Fld Z h0 a1 oS "size" "I" (.int 0)) (F_ordered_a1 : Fld Z h0 a1 oS "ordered" "I" (.int 0)) (F_table_a1 : Fld Z h0 a1 oS "table" "[I" .null) (F_most_a1 : Fld Z h0 a1 oS "most" "I" u1) (F_blocks_a1 : Fld Z h0 a1 oS "blocks" "[J" u2) (F_bits_a1 : Fld Z h0 a1 oS "bits" "[J" u3) :
    MetFree l (⟨oS, "<init>", "(I)V"⟩ : MethodName) (head1 (Jvm.Cond.code (⟨oS, "<init>", "(I)V"⟩ : MethodName) prog_128_method_2_code 2 none :: ws) ({ frames := 1, cells := 2, slots := 2, locals := 14 } : Room)) (fun aa U => aa = #[(.ref a1), (.int 0)] ∧ Z.Warmed39 U.vm ∧ U.heap = h0) (fun _ _ _ _ _ => True) (fun _ U o U' => ∃ v L, o = .returned v ∧ own_i1_Q Z a1 u1 u2 u3 h0 n0 v U'.heap L ∧ FrameEnd U o U' L ({ frames := 1, cells := 2, slots := 2, locals := 14 } : Room).cells ({ frames := 1, cells := 2, slots := 2, locals := 14 } : Room).slots) := by
  refine MetFree.of_bodySF (plainFor_of_name own_pn0) hisR ?_
  have w1 := hw _ (List.mem_of_getElem? (i := 1) rfl)
  have w9 := hw _ (List.mem_of_getElem? (i := 9) rfl)
  have w10 := hw _ (List.mem_of_getElem? (i := 10) rfl)
  have w11 := hw _ (List.mem_of_getElem? (i := 11) rfl)
  have w12 := hw _ (List.mem_of_getElem? (i := 12) rfl)
  have w13 := hw _ (List.mem_of_getElem? (i := 13) rfl)
  have w14 := hw _ (List.mem_of_getElem? (i := 14) rfl)
  have w15 := hw _ (List.mem_of_getElem? (i := 15) rfl)
  have w16 := hw _ (List.mem_of_getElem? (i := 16) rfl)
  have w17 := hw _ (List.mem_of_getElem? (i := 17) rfl)
  have w18 := hw _ (List.mem_of_getElem? (i := 18) rfl)
  have w19 := hw _ (List.mem_of_getElem? (i := 19) rfl)
  have w20 := hw _ (List.mem_of_getElem? (i := 20) rfl)
  have w21 := hw _ (List.mem_of_getElem? (i := 21) rfl)
  have w22 := hw _ (List.mem_of_getElem? (i := 22) rfl)
  have w23 := hw _ (List.mem_of_getElem? (i := 23) rfl)
  have w36 := hw _ (List.mem_of_getElem? (i := 36) rfl)
  have w43 := hw _ (List.mem_of_getElem? (i := 43) rfl)
  have w49 := hw _ (List.mem_of_getElem? (i := 49) rfl)
  intro p e s m args below meth c s₁ Bd hml0 hP hK
  obtain ⟨rfl, hZ, hh⟩ := hP
  have hx := Bd.exec
  have hby := Bd.bytes
  have hlk := Bd.notSynchronized
  have hml : c.maxLocals = 2 := hml0
  have hown : s.vm.findClass oS = some m.cls := findClass_of_methodNamed Bd.named
  have hnm := (name_of_methodNamed Bd.named Bd.method).1
  have X0 : Stand p l e ({ frames := 1, cells := 2, slots := 2, locals := 14 } : Room) s m #[(.ref a1), (.int 0)] below meth c s₁ [] 0 0 := Stand.of_body Bd
  have e0 : s₁.heap = h0 := by rw [← hh, Bd.state]; rfl
  have N0 := Fr.nil n0
  have K0 : Keep h0 h0 [a1] := Keep.refl h0 _
  show gS p e below (own_Fin s (own_i1_Q Z a1 u1 u2 u3 h0 n0) ({ frames := 1, cells := 2, slots := 2, locals := 14 } : Room).cells ({ frames := 1, cells := 2, slots := 2, locals := 14 } : Room).slots) _
  refine sT (fun t k => castTop (own_i1_ef m a1) k) ?_
  show gM p e below _ s₁ m 0 #[rv a1, iv 0] []
  refine sT (fun t k => XS.aloadN X0.here hx rfl (hb hby d3_0) rfl rfl k) ?_
  show gM p e below _ s₁ m 1 #[rv a1, iv 0] [(.ref a1)]
  obtain ⟨T46, X46, e46, st46⟩ := initO X0 hx hZ hown w9 w10 w11 e0 (g := (mkF m 1 #[rv a1, iv 0] [(.ref a1)])) rfl (by rw [hml]; rfl) rfl (hb hby d3_1) (by decide) (W := 0) (by show 2 * 0 + _ ≤ _; exact Nat.le_of_eq rfl) (by decide)
  refine sT st46 ?_
  show gM p e below _ T46 m 4 #[rv a1, iv 0] []
  refine sT (fun t k => XS.aloadN X46.here hx rfl (hb hby d3_4) rfl rfl k) ?_
  show gM p e below _ T46 m 5 #[rv a1, iv 0] [(.ref a1)]
  refine sT (fun t k => X46.ldcInt hx hown (mvT hZ w12) (g := (mkF m 5 #[rv a1, iv 0] [(.ref a1)])) rfl (hb hby d3_5) _ k) ?_
  show gM p e below _ T46 m 7 #[rv a1, iv 0] [(.int 2147483647), (.ref a1)]
  obtain ⟨T47, h47, X47, e47, W47, st47⟩ := putF X46 hx hZ hown (host := "") (Or.inl w13) Via.refl e46 F_most_a1 E_a1 (Or.inl w14) w1 (ty := .int) (by decide) rfl rfl (g := (mkF m 7 #[rv a1, iv 0] [(.int 2147483647), (.ref a1)])) rfl rfl (hb hby d3_7)
  have Fw47 := F_most_a1.same W47
  have N47 := Fr.snoc X47 N0 g_a1
  have K48 : Keep h0 h47 [a1] := K0.wr W47 (Or.inl (List.mem_of_getElem? (i := 0) rfl))
  refine sT st47 ?_
  show gM p e below _ T47 m 10 #[rv a1, iv 0] []
  refine sT (fun t k => XS.aloadN X47.here hx rfl (hb hby d3_10) rfl rfl k) ?_
  show gM p e below _ T47 m 11 #[rv a1, iv 0] [(.ref a1)]
  refine sT (fun t k => XS.iloadN X47.here hx rfl (hb hby d3_11) rfl k) ?_
  show gM p e below _ T47 m 12 #[rv a1, iv 0] [(.int 0), (.ref a1)]
  refine sT (fun t k => XS.iconst X47.here hx rfl (hb hby d3_12) k) ?_
  show gM p e below _ T47 m 13 #[rv a1, iv 0] [(.int 1), (.int 0), (.ref a1)]
  obtain ⟨_, _, ⟨T49, L49, k49, n49⟩, -, X49, ⟨Lc49, hQ49, l49, y49, z49⟩, st49⟩ := Jvm.LawKit.callS X47 hx (y := (⟨"java/lang/Math", "max", "(II)I"⟩ : MethodName)) hown (mvT hZ w15) (mvT hZ w16) (mvT hZ w17) (mvT hZ w18) (by decide) (backOf (W := 1) (own_mx l Z a0 hw [] (0 : Int32) (1 : Int32) ((1 : Int32)) h47 n0 (Nat.le_trans Z0 (Keep.of_wr W47).1) rfl) hZ w18 w17 (by decide) (by decide)) (g := (mkF m 13 #[rv a1, iv 0] [(.int 1), (.int 0), (.ref a1)])) rfl (by rw [hml]; rfl) (argsL := [(.int 0), (.int 1)]) (rest := [(.ref a1)]) (lenOf own_pd0 rfl) rfl (by show 2 * 0 + _ ≤ _; exact Nat.le_of_eq rfl) (hb hby d3_13) (fun _ _ => ⟨rfl, e47, (by decide : 0 + 0 ≤ _), (by decide : 0 + 0 ≤ _)⟩)
  dsimp only [Pt.U, Pt.locs, Pt.cells, Pt.slots] at X49 l49 y49 z49 st49 hQ49
  subst y49 z49
  obtain ⟨rfl, N49q, eh49⟩ := hQ49
  have N49 : Fr n0 L49 := by rw [l49]; exact Fr.app N47 N49q
  refine sT st49 ?_
  show gM p e below _ T49 m 16 #[rv a1, iv 0] [(.int 1), (.ref a1)]
  obtain ⟨T50, h50, k50, X50, e50, E50, A50, st50⟩ := newP (aty := .long) X49 hx hZ w19 eh49 (g := (mkF m 16 #[rv a1, iv 0] [(.int 1), (.ref a1)])) rfl (hb hby d3_16) rfl (by decide) (cap := 1) (by decide) (by decide) (by decide) (by decide)
  obtain ⟨b50, g50⟩ : ∃ z, z = h47.size := ⟨_, rfl⟩
  rw [← g50] at A50 st50
  have ne_a1_b50 : a1 ≠ b50 := Nat.ne_of_lt (Nat.lt_of_lt_of_le (E_a1.wr W47).lt (Nat.le_of_eq g50.symm))
  have g_b50 : n0 ≤ b50 := Nat.le_trans (Nat.le_trans Z0 (Keep.of_wr W47).1) (Nat.le_of_eq g50.symm)
  have sz_b50 : h0.size ≤ b50 := Nat.le_trans K48.1 (Nat.le_of_eq g50.symm)
  have V50 : Arv Z h50 b50 k50 .long 1 (([0] : List Int64).map Value.long) (Value.long 0) := own_newJ A50 (by decide) 1
  have K51 : Keep h0 h50 [a1] := K48.ext E50
  refine sT st50 ?_
  show gM p e below _ T50 m 18 #[rv a1, iv 0] [(.ref b50), (.ref a1)]
  obtain ⟨T52, h52, X52, e52, W52, st52⟩ := putF X50 hx hZ hown (host := "") (Or.inl w20) Via.refl e50 ((F_blocks_a1.other W47 (Or.inr (slot_ne (Or.inl w21) (Or.inl w14) (by decide) (t := (.array .long)) (t' := .int) (by decide) (by decide)))).ext E50) ((E_a1.wr W47).ext E50) (Or.inl w21) w1 (ty := (.array .long)) (by decide) rfl rfl (g := (mkF m 18 #[rv a1, iv 0] [(.ref b50), (.ref a1)])) rfl rfl (hb hby d3_18)
  have Fw52 := ((F_blocks_a1.other W47 (Or.inr (slot_ne (Or.inl w21) (Or.inl w14) (by decide) (t := (.array .long)) (t' := .int) (by decide) (by decide)))).ext E50).same W52
  have N52 := Fr.snoc X52 N49 g_a1
  have K53 : Keep h0 h52 [a1] := K51.wr W52 (Or.inl (List.mem_of_getElem? (i := 0) rfl))
  refine sT st52 ?_
  show gM p e below _ T52 m 21 #[rv a1, iv 0] []
  refine sT (fun t k => XS.aloadN X52.here hx rfl (hb hby d3_21) rfl rfl k) ?_
  show gM p e below _ T52 m 22 #[rv a1, iv 0] [(.ref a1)]
  refine sT (fun t k => XS.aloadN X52.here hx rfl (hb hby d3_22) rfl rfl k) ?_
  show gM p e below _ T52 m 23 #[rv a1, iv 0] [(.ref a1), (.ref a1)]
  obtain ⟨T54, X54, e54, st54⟩ := getF X52 hx hZ hown (host := "") (Or.inl w20) Via.refl e52 Fw52 (g := (mkF m 23 #[rv a1, iv 0] [(.ref a1), (.ref a1)])) rfl rfl (hb hby d3_23)
  refine sT st54 ?_
  show gM p e below _ T54 m 26 #[rv a1, iv 0] [(.ref b50), (.ref a1)]
  refine sT (fun t k => own_len X54 hx hZ e54 (V50.other W52 (Ne.symm ne_a1_b50)) (g := (mkF m 26 #[rv a1, iv 0] [(.ref b50), (.ref a1)])) rfl rfl (hb hby d3_26) _ k) ?_
  show gM p e below _ T54 m 27 #[rv a1, iv 0] [(.int 1), (.ref a1)]
  obtain ⟨T55, h55, k55, X55, e55, E55, A55, st55⟩ := newP (aty := .long) X54 hx hZ w19 e54 (g := (mkF m 27 #[rv a1, iv 0] [(.int 1), (.ref a1)])) rfl (hb hby d3_27) rfl (by decide) (cap := 1) (by decide) (by decide) (by decide) (by decide)
  obtain ⟨b55, g55⟩ : ∃ z, z = h52.size := ⟨_, rfl⟩
  rw [← g55] at A55 st55
  have ne_a1_b55 : a1 ≠ b55 := Nat.ne_of_lt (Nat.lt_of_lt_of_le (((E_a1.wr W47).ext E50).wr W52).lt (Nat.le_of_eq g55.symm))
  have ne_b50_b55 : b50 ≠ b55 := Nat.ne_of_lt (Nat.lt_of_lt_of_le (V50.other W52 (Ne.symm ne_a1_b50)).lt (Nat.le_of_eq g55.symm))
  have g_b55 : n0 ≤ b55 := Nat.le_trans (Nat.le_trans (Nat.le_trans (Nat.le_trans Z0 (Keep.of_wr W47).1) E50.1) (Keep.of_wr W52).1) (Nat.le_of_eq g55.symm)
  have sz_b55 : h0.size ≤ b55 := Nat.le_trans K53.1 (Nat.le_of_eq g55.symm)
  have V55 : Arv Z h55 b55 k55 .long 1 (([0] : List Int64).map Value.long) (Value.long 0) := own_newJ A55 (by decide) 1
  have K56 : Keep h0 h55 [a1] := K53.ext E55
  refine sT st55 ?_
  show gM p e below _ T55 m 29 #[rv a1, iv 0] [(.ref b55), (.ref a1)]
  obtain ⟨T57, h57, X57, e57, W57, st57⟩ := putF X55 hx hZ hown (host := "") (Or.inl w22) Via.refl e55 ((((F_bits_a1.other W47 (Or.inr (slot_ne (Or.inl w23) (Or.inl w14) (by decide) (t := (.array .long)) (t' := .int) (by decide) (by decide)))).ext E50).other W52 (Or.inr (slot_ne (Or.inl w23) (Or.inl w21) (by decide) (t := (.array .long)) (t' := (.array .long)) (by decide) (by decide)))).ext E55) ((((E_a1.wr W47).ext E50).wr W52).ext E55) (Or.inl w23) w1 (ty := (.array .long)) (by decide) rfl rfl (g := (mkF m 29 #[rv a1, iv 0] [(.ref b55), (.ref a1)])) rfl rfl (hb hby d3_29)
  have Fw57 := ((((F_bits_a1.other W47 (Or.inr (slot_ne (Or.inl w23) (Or.inl w14) (by decide) (t := (.array .long)) (t' := .int) (by decide) (by decide)))).ext E50).other W52 (Or.inr (slot_ne (Or.inl w23) (Or.inl w21) (by decide) (t := (.array .long)) (t' := (.array .long)) (by decide) (by decide)))).ext E55).same W57
  have N57 := Fr.snoc X57 N52 g_a1
  have K58 : Keep h0 h57 [a1] := K56.wr W57 (Or.inl (List.mem_of_getElem? (i := 0) rfl))
  refine sT st57 ?_
  show gM p e below _ T57 m 32 #[rv a1, iv 0] []
  refine own_ret0 X57 hx hlk Bd.returns (hb hby d3_32) ?_ (by decide) (by decide)
  show own_i1_Q Z a1 u1 u2 u3 h0 n0 _ T57.heap _
  rw [e57]
  exact ⟨b50, b55, k50, k55, rfl, N57, K58, sz_b50, sz_b55, ne_b50_b55, (((((E_a1.wr W47).ext E50).wr W52).ext E55).wr W57), ((Fw52.ext E55).other W57 (Or.inr (slot_ne (Or.inl w21) (Or.inl w23) (by decide) (t := (.array .long)) (t' := (.array .long)) (by decide) (by decide)))), Fw57, (((((F_size_a1.other W47 (Or.inr (slot_ne (Or.inl w43) (Or.inl w14) (by decide) (t := .int) (t' := .int) (by decide) (by decide)))).ext E50).other W52 (Or.inr (slot_ne (Or.inl w43) (Or.inl w21) (by decide) (t := .int) (t' := (.array .long)) (by decide) (by decide)))).ext E55).other W57 (Or.inr (slot_ne (Or.inl w43) (Or.inl w23) (by decide) (t := .int) (t' := (.array .long)) (by decide) (by decide)))), (((((F_ordered_a1.other W47 (Or.inr (slot_ne (Or.inl w49) (Or.inl w14) (by decide) (t := .int) (t' := .int) (by decide) (by decide)))).ext E50).other W52 (Or.inr (slot_ne (Or.inl w49) (Or.inl w21) (by decide) (t := .int) (t' := (.array .long)) (by decide) (by decide)))).ext E55).other W57 (Or.inr (slot_ne (Or.inl w49) (Or.inl w23) (by decide) (t := .int) (t' := (.array .long)) (by decide) (by decide)))), (((((F_table_a1.other W47 (Or.inr (slot_ne (Or.inl w36) (Or.inl w14) (by decide) (t := (.array .int)) (t' := .int) (by decide) (by decide)))).ext E50).other W52 (Or.inr (slot_ne (Or.inl w36) (Or.inl w21) (by decide) (t := (.array .int)) (t' := (.array .long)) (by decide) (by decide)))).ext E55).other W57 (Or.inr (slot_ne (Or.inl w36) (Or.inl w23) (by decide) (t := (.array .int)) (t' := (.array .long)) (by decide) (by decide)))), ((((Fw47.ext E50).other W52 (Or.inr (slot_ne (Or.inl w14) (Or.inl w21) (by decide) (t := .int) (t' := (.array .long)) (by decide) (by decide)))).ext E55).other W57 (Or.inr (slot_ne (Or.inl w14) (Or.inl w23) (by decide) (t := .int) (t' := (.array .long)) (by decide) (by decide)))), (((V50.other W52 (Ne.symm ne_a1_b50)).ext E55).other W57 (Ne.symm ne_a1_b50)), (V55.other W57 (Ne.symm ne_a1_b55))⟩
theorem d4_0 : decode prog_128_method_1_code 0 = .ok (.aload_n 0, 1) := by decide +kernel
theorem d4_1 : decode prog_128_method_1_code 1 = .ok (.bipush 16, 2) := by decide +kernel
theorem own_pd1 : parseMethodDescriptor "(I)V" = some ⟨[.int], none⟩ := by decide +kernel
theorem d4_3 : decode prog_128_method_1_code 3 = .ok (.invokespecial 3, 3) := by decide +kernel
theorem d4_6 : decode prog_128_method_1_code 6 = .ok (.return_, 1) := by decide +kernel
theorem own_i0_ef (m : MethodId) (a1 : Addr) : entryFrame m #[(.ref a1)] 1 = mkF m 0 #[rv a1] [] := by first | (simp [entryFrame, mkF, argsToLocals, Value.category]; done) | rfl
def own_i0_Q (Z : State) (a1 : Addr) (u1 : Value) (u2 : Value) (u3 : Value) (h0 : Heap) (n0 : Nat) (v : Option Value) (h : Heap) (L : List Loc) : Prop := ∃ bb : Addr, ∃ cc : Addr, ∃ kb : ClassId, ∃ kc : ClassId, v = none ∧ Fr n0 L ∧ Keep h0 h [a1] ∧ h0.size ≤ bb ∧ h0.size ≤ cc ∧ bb ≠ cc ∧ Exa Z h a1 oS ∧ Fld Z h a1 oS "blocks" "[J" (.ref bb) ∧ Fld Z h a1 oS "bits" "[J" (.ref cc) ∧ Fld Z h a1 oS "size" "I" (.int 0) ∧ Fld Z h a1 oS "ordered" "I" (.int 0) ∧ Fld Z h a1 oS "table" "[I" .null ∧ Fld Z h a1 oS "most" "I" (.int 2147483647) ∧ Arv Z h bb kb .long 16 (([0, 0, 0, 0, 0, 0, 0, 0, 0, 0, 0, 0, 0, 0, 0, 0] : List Int64).map Value.long) (Value.long 0) ∧ Arv Z h cc kc .long 16 (([0, 0, 0, 0, 0, 0, 0, 0, 0, 0, 0, 0, 0, 0, 0, 0] : List Int64).map Value.long) (Value.long 0)
set_option maxRecDepth 65536 in
set_option maxHeartbeats 40000000 in
theorem own_i0 (l : Launch) (Z : State) (a0 : Array Value) (hw : ∀ d ∈ tables_1, d.before a0 Z = true) (ws : List Jvm.Cond) (a1 : Addr) (u1 : Value) (u2 : Value) (u3 : Value) (h0 : Heap) (n0 : Nat) (Z0 : n0 ≤ h0.size) (E_a1 : Exa Z h0 a1 oS) (g_a1 : n0 ≤ a1) (F_size_a1 : Fld Z h0 a1 oS "size" "I" (.int 0)) (F_ordered_a1 : Fld Z h0 a1 oS "ordered" "I" (.int 0)) (F_table_a1 : Fld Z h0 a1 oS "table" "[I" .null) (F_most_a1 : Fld Z h0 a1 oS "most" "I" u1) (F_blocks_a1 : Fld Z h0 a1 oS "blocks" "[J" u2) (F_bits_a1 : Fld Z h0 a1 oS "bits" "[J" u3) :
    MetFree l (⟨oS, "<init>", "()V"⟩ : MethodName) (head1 (Jvm.Cond.code (⟨oS, "<init>", "()V"⟩ : MethodName) prog_128_method_1_code 1 none :: ws) ({ frames := 2, cells := 2, slots := 32, locals := 27 } : Room)) (fun aa U => aa = #[(.ref a1)] ∧ Z.Warmed39 U.vm ∧ U.heap = h0) (fun _ _ _ _ _ => True) (fun _ U o U' => ∃ v L, o = .returned v ∧ own_i0_Q Z a1 u1 u2 u3 h0 n0 v U'.heap L ∧ FrameEnd U o U' L ({ frames := 2, cells := 2, slots := 32, locals := 27 } : Room).cells ({ frames := 2, cells := 2, slots := 32, locals := 27 } : Room).slots) := by
  refine MetFree.of_bodySF (plainFor_of_name own_pn0) hisR ?_
  have w2 := hw _ (List.mem_of_getElem? (i := 2) rfl)
  have w6 := hw _ (List.mem_of_getElem? (i := 6) rfl)
  have w7 := hw _ (List.mem_of_getElem? (i := 7) rfl)
  have w8 := hw _ (List.mem_of_getElem? (i := 8) rfl)
  intro p e s m args below meth c s₁ Bd hml0 hP hK
  obtain ⟨rfl, hZ, hh⟩ := hP
  have hx := Bd.exec
  have hby := Bd.bytes
  have hlk := Bd.notSynchronized
  have hml : c.maxLocals = 1 := hml0
  have hown : s.vm.findClass oS = some m.cls := findClass_of_methodNamed Bd.named
  have hnm := (name_of_methodNamed Bd.named Bd.method).1
  have X0 : Stand p l e ({ frames := 2, cells := 2, slots := 32, locals := 27 } : Room) s m #[(.ref a1)] below meth c s₁ [] 0 0 := Stand.of_body Bd
  have e0 : s₁.heap = h0 := by rw [← hh, Bd.state]; rfl
  have N0 := Fr.nil n0
  have K0 : Keep h0 h0 [a1] := Keep.refl h0 _
  show gS p e below (own_Fin s (own_i0_Q Z a1 u1 u2 u3 h0 n0) ({ frames := 2, cells := 2, slots := 32, locals := 27 } : Room).cells ({ frames := 2, cells := 2, slots := 32, locals := 27 } : Room).slots) _
  refine sT (fun t k => castTop (own_i0_ef m a1) k) ?_
  show gM p e below _ s₁ m 0 #[rv a1] []
  refine sT (fun t k => XS.aloadN X0.here hx rfl (hb hby d4_0) rfl rfl k) ?_
  show gM p e below _ s₁ m 1 #[rv a1] [(.ref a1)]
  refine sT (fun t k => XS.bipush X0.here hx rfl (hb hby d4_1) k) ?_
  show gM p e below _ s₁ m 3 #[rv a1] [(.int 16), (.ref a1)]
  obtain ⟨_, _, ⟨T61, L61, k61, n61⟩, -, X61, ⟨Lc61, hQ61, l61, y61, z61⟩, st61⟩ := X0.specialBack hx (y := (⟨oS, "<init>", "(I)V"⟩ : MethodName)) rfl hown (mvT hZ w6) (mvT hZ w7) (mvT hZ w8) (by decide) (backOf (W := 0) (own_i16 l Z a0 hw [] a1 (u1) (u2) (u3) h0 n0 Z0 E_a1 g_a1 F_size_a1 F_ordered_a1 F_table_a1 F_most_a1 F_blocks_a1 F_bits_a1) hZ w8 w2 (by decide) (by decide)) (g := (mkF m 3 #[rv a1] [(.int 16), (.ref a1)])) rfl (by rw [hml]; rfl) (Steps.refl _) (a := a1) (argsL := [(.int 16)]) (rest := []) (lenOf own_pd1 rfl) rfl (by show 2 * 0 + _ ≤ _; exact Nat.le_of_eq rfl) (hb hby d4_3) (fun _ _ => ⟨rfl, e0, (by decide : 0 + 2 ≤ _), (by decide : 0 + 32 ≤ _)⟩)
  dsimp only [Pt.U, Pt.locs, Pt.cells, Pt.slots] at X61 l61 y61 z61 st61 hQ61
  subst y61 z61
  obtain ⟨bb_61, cc_61, kb_61, kc_61, rfl, N61q, K61c, f61_0, f61_1, f61_2, f61_3, f61_4, f61_5, f61_6, f61_7, f61_8, f61_9, f61_10, f61_11⟩ := hQ61
  have N61 : Fr n0 L61 := by rw [l61]; exact Fr.app N0 N61q
  refine own_jump st61 ?_
  have K62 : Keep h0 T61.heap [a1] := K0.trans K61c (allS (Or.inl (List.mem_of_getElem? (i := 0) rfl)) all0)
  have sz_bb_61 : h0.size ≤ bb_61 := Nat.le_trans K0.1 f61_0
  have g_bb_61 : n0 ≤ bb_61 := Nat.le_trans Z0 sz_bb_61
  have ne_a1_bb_61 : a1 ≠ bb_61 := Nat.ne_of_lt (Nat.lt_of_lt_of_le E_a1.lt f61_0)
  have sz_cc_61 : h0.size ≤ cc_61 := Nat.le_trans K0.1 f61_1
  have g_cc_61 : n0 ≤ cc_61 := Nat.le_trans Z0 sz_cc_61
  have ne_a1_cc_61 : a1 ≠ cc_61 := Nat.ne_of_lt (Nat.lt_of_lt_of_le E_a1.lt f61_1)
  show gM p e below _ T61 m 6 #[rv a1] []
  refine own_ret0 X61 hx hlk Bd.returns (hb hby d4_6) ?_ (by decide) (by decide)
  show own_i0_Q Z a1 u1 u2 u3 h0 n0 _ T61.heap _
  exact ⟨bb_61, cc_61, kb_61, kc_61, rfl, N61, K62, sz_bb_61, sz_cc_61, f61_2, f61_3, f61_4, f61_5, f61_6, f61_7, f61_8, f61_9, f61_10, f61_11⟩
theorem d5_0 : decode prog_128_method_10_code 0 = .ok (.aload_n 0, 1) := by decide +kernel
theorem d5_1 : decode prog_128_method_10_code 1 = .ok (.iload_n 1, 1) := by decide +kernel
theorem d5_2 : decode prog_128_method_10_code 2 = .ok (.putfield 15, 3) := by decide +kernel
theorem d5_5 : decode prog_128_method_10_code 5 = .ok (.return_, 1) := by decide +kernel
theorem own_hm_ef (m : MethodId) (a1 : Addr) (q1 : Int32) : entryFrame m #[(.ref a1), (.int q1)] 2 = mkF m 0 #[rv a1, iv q1] [] := by first | (simp [entryFrame, mkF, argsToLocals, Value.category]; done) | rfl
def own_hm_Q (Z : State) (a1 : Addr) (q1 : Int32) (u1 : Value) (u2 : Value) (u3 : Value) (u4 : Value) (u5 : Value) (u6 : Value) (h0 : Heap) (n0 : Nat) (v : Option Value) (h : Heap) (L : List Loc) : Prop := v = none ∧ Fr n0 L ∧ Keep h0 h [a1] ∧ Exa Z h a1 oS ∧ Fld Z h a1 oS "most" "I" (.int q1) ∧ Fld Z h a1 oS "blocks" "[J" u2 ∧ Fld Z h a1 oS "bits" "[J" u3 ∧ Fld Z h a1 oS "size" "I" u4 ∧ Fld Z h a1 oS "ordered" "I" u5 ∧ Fld Z h a1 oS "table" "[I" u6
set_option maxRecDepth 65536 in
set_option maxHeartbeats 40000000 in
theorem own_hm (l : Launch) (Z : State) (a0 : Array Value) (hw : ∀ d ∈ tables_1, d.before a0 Z = true) (ws : List Jvm.Cond) (a1 : Addr) (q1 : Int32) (u1 : Value) (u2 : Value) (u3 : Value) (u4 : Value) (u5 : Value) (u6 : Value) (h0 : Heap) (n0 : Nat) (Z0 : n0 ≤ h0.size) (E_a1 : Exa Z h0 a1 oS) (g_a1 : n0 ≤ a1) (F_most_a1 : Fld Z h0 a1 oS "most" "I" u1) (F_blocks_a1 : Fld Z h0 a1 oS "blocks" "[J" u2) (F_bits_a1 : Fld Z h0 a1 oS "bits" "[J" u3) (F_size_a1 : Fld Z h0 a1 oS "size" "I" u4) (F_ordered_a1 : Fld Z h0 a1 oS "ordered" "I" u5) (F_table_a1 : Fld Z h0 a1 oS "table" "[I" u6) :
    MetFree l (⟨oS, "holdAtMost", "(I)V"⟩ : MethodName) (head1 (Jvm.Cond.code (⟨oS, "holdAtMost", "(I)V"⟩ : MethodName) prog_128_method_10_code 2 none :: ws) ({ frames := 0, cells := 0, slots := 0, locals := 0 } : Room)) (fun aa U => aa = #[(.ref a1), (.int q1)] ∧ Z.Warmed39 U.vm ∧ U.heap = h0) (fun _ _ _ _ _ => True) (fun _ U o U' => ∃ v L, o = .returned v ∧ own_hm_Q Z a1 q1 u1 u2 u3 u4 u5 u6 h0 n0 v U'.heap L ∧ FrameEnd U o U' L ({ frames := 0, cells := 0, slots := 0, locals := 0 } : Room).cells ({ frames := 0, cells := 0, slots := 0, locals := 0 } : Room).slots) := by
  refine MetFree.of_bodySF (plainFor_of_name own_pn0) hisR ?_
  have w1 := hw _ (List.mem_of_getElem? (i := 1) rfl)
  have w13 := hw _ (List.mem_of_getElem? (i := 13) rfl)
  have w14 := hw _ (List.mem_of_getElem? (i := 14) rfl)
  have w21 := hw _ (List.mem_of_getElem? (i := 21) rfl)
  have w23 := hw _ (List.mem_of_getElem? (i := 23) rfl)
  have w36 := hw _ (List.mem_of_getElem? (i := 36) rfl)
  have w43 := hw _ (List.mem_of_getElem? (i := 43) rfl)
  have w49 := hw _ (List.mem_of_getElem? (i := 49) rfl)
  intro p e s m args below meth c s₁ Bd hml0 hP hK
  obtain ⟨rfl, hZ, hh⟩ := hP
  have hx := Bd.exec
  have hby := Bd.bytes
  have hlk := Bd.notSynchronized
  have hml : c.maxLocals = 2 := hml0
  have hown : s.vm.findClass oS = some m.cls := findClass_of_methodNamed Bd.named
  have hnm := (name_of_methodNamed Bd.named Bd.method).1
  have X0 : Stand p l e ({ frames := 0, cells := 0, slots := 0, locals := 0 } : Room) s m #[(.ref a1), (.int q1)] below meth c s₁ [] 0 0 := Stand.of_body Bd
  have e0 : s₁.heap = h0 := by rw [← hh, Bd.state]; rfl
  have N0 := Fr.nil n0
  have K0 : Keep h0 h0 [a1] := Keep.refl h0 _
  show gS p e below (own_Fin s (own_hm_Q Z a1 q1 u1 u2 u3 u4 u5 u6 h0 n0) ({ frames := 0, cells := 0, slots := 0, locals := 0 } : Room).cells ({ frames := 0, cells := 0, slots := 0, locals := 0 } : Room).slots) _
  refine sT (fun t k => castTop (own_hm_ef m a1 q1) k) ?_
  show gM p e below _ s₁ m 0 #[rv a1, iv q1] []
  refine sT (fun t k => XS.aloadN X0.here hx rfl (hb hby d5_0) rfl rfl k) ?_
  show gM p e below _ s₁ m 1 #[rv a1, iv q1] [(.ref a1)]
  refine sT (fun t k => XS.iloadN X0.here hx rfl (hb hby d5_1) rfl k) ?_
  show gM p e below _ s₁ m 2 #[rv a1, iv q1] [(.int q1), (.ref a1)]
  obtain ⟨T65, h65, X65, e65, W65, st65⟩ := putF X0 hx hZ hown (host := "") (Or.inl w13) Via.refl e0 F_most_a1 E_a1 (Or.inl w14) w1 (ty := .int) (by decide) rfl rfl (g := (mkF m 2 #[rv a1, iv q1] [(.int q1), (.ref a1)])) rfl rfl (hb hby d5_2)
  have Fw65 := F_most_a1.same W65
  have N65 := Fr.snoc X65 N0 g_a1
  have K66 : Keep h0 h65 [a1] := K0.wr W65 (Or.inl (List.mem_of_getElem? (i := 0) rfl))
  refine sT st65 ?_
  show gM p e below _ T65 m 5 #[rv a1, iv q1] []
  refine own_ret0 X65 hx hlk Bd.returns (hb hby d5_5) ?_ (by decide) (by decide)
  show own_hm_Q Z a1 q1 u1 u2 u3 u4 u5 u6 h0 n0 _ T65.heap _
  rw [e65]
  exact ⟨rfl, N65, K66, (E_a1.wr W65), Fw65, (F_blocks_a1.other W65 (Or.inr (slot_ne (Or.inl w21) (Or.inl w14) (by decide) (t := (.array .long)) (t' := .int) (by decide) (by decide)))), (F_bits_a1.other W65 (Or.inr (slot_ne (Or.inl w23) (Or.inl w14) (by decide) (t := (.array .long)) (t' := .int) (by decide) (by decide)))), (F_size_a1.other W65 (Or.inr (slot_ne (Or.inl w43) (Or.inl w14) (by decide) (t := .int) (t' := .int) (by decide) (by decide)))), (F_ordered_a1.other W65 (Or.inr (slot_ne (Or.inl w49) (Or.inl w14) (by decide) (t := .int) (t' := .int) (by decide) (by decide)))), (F_table_a1.other W65 (Or.inr (slot_ne (Or.inl w36) (Or.inl w14) (by decide) (t := (.array .int)) (t' := .int) (by decide) (by decide))))⟩
theorem d6_0 : decode prog_128_method_15_code 0 = .ok (.aload_n 0, 1) := by decide +kernel
theorem d6_1 : decode prog_128_method_15_code 1 = .ok (.getfield 49, 3) := by decide +kernel
theorem d6_4 : decode prog_128_method_15_code 4 = .ok (.ifnonnull 4, 3) := by decide +kernel
theorem d6_7 : decode prog_128_method_15_code 7 = .ok (.return_, 1) := by decide +kernel
theorem own_as_ef (m : MethodId) (a1 : Addr) : entryFrame m #[(.ref a1)] 6 = mkF m 0 #[rv a1, uN, uN, uN, uN, uN] [] := by first | (simp [entryFrame, mkF, argsToLocals, Value.category]; done) | rfl
def own_as_Q (Z : State) (a1 : Addr) (h0 : Heap) (n0 : Nat) (v : Option Value) (h : Heap) (L : List Loc) : Prop := v = none ∧ Fr n0 L ∧ h = h0
set_option maxRecDepth 65536 in
set_option maxHeartbeats 40000000 in
theorem own_as (l : Launch) (Z : State) (a0 : Array Value) (hw : ∀ d ∈ tables_1, d.before a0 Z = true) (ws : List Jvm.Cond) (a1 : Addr) (h0 : Heap) (n0 : Nat) (Z0 : n0 ≤ h0.size) (F_table_a1 : Fld Z h0 a1 oS "table" "[I" .null) :
    MetFree l (⟨oS, "ascending", "()V"⟩ : MethodName) (head1 (Jvm.Cond.code (⟨oS, "ascending", "()V"⟩ : MethodName) prog_128_method_15_code 6 none :: ws) ({ frames := 0, cells := 0, slots := 0, locals := 0 } : Room)) (fun aa U => aa = #[(.ref a1)] ∧ Z.Warmed39 U.vm ∧ U.heap = h0) (fun _ _ _ _ _ => True) (fun _ U o U' => ∃ v L, o = .returned v ∧ own_as_Q Z a1 h0 n0 v U'.heap L ∧ FrameEnd U o U' L ({ frames := 0, cells := 0, slots := 0, locals := 0 } : Room).cells ({ frames := 0, cells := 0, slots := 0, locals := 0 } : Room).slots) := by
  refine MetFree.of_bodySF (plainFor_of_name own_pn0) hisR ?_
  have w35 := hw _ (List.mem_of_getElem? (i := 35) rfl)
  intro p e s m args below meth c s₁ Bd hml0 hP hK
  obtain ⟨rfl, hZ, hh⟩ := hP
  have hx := Bd.exec
  have hby := Bd.bytes
  have hlk := Bd.notSynchronized
  have hml : c.maxLocals = 6 := hml0
  have hown : s.vm.findClass oS = some m.cls := findClass_of_methodNamed Bd.named
  have hnm := (name_of_methodNamed Bd.named Bd.method).1
  have X0 : Stand p l e ({ frames := 0, cells := 0, slots := 0, locals := 0 } : Room) s m #[(.ref a1)] below meth c s₁ [] 0 0 := Stand.of_body Bd
  have e0 : s₁.heap = h0 := by rw [← hh, Bd.state]; rfl
  have N0 := Fr.nil n0
  have K0 : Keep h0 h0 [] := Keep.refl h0 _
  show gS p e below (own_Fin s (own_as_Q Z a1 h0 n0) ({ frames := 0, cells := 0, slots := 0, locals := 0 } : Room).cells ({ frames := 0, cells := 0, slots := 0, locals := 0 } : Room).slots) _
  refine sT (fun t k => castTop (own_as_ef m a1) k) ?_
  show gM p e below _ s₁ m 0 #[rv a1, uN, uN, uN, uN, uN] []
  refine sT (fun t k => XS.aloadN X0.here hx rfl (hb hby d6_0) rfl rfl k) ?_
  show gM p e below _ s₁ m 1 #[rv a1, uN, uN, uN, uN, uN] [(.ref a1)]
  obtain ⟨T68, X68, e68, st68⟩ := getF X0 hx hZ hown (host := "") (Or.inl w35) Via.refl e0 F_table_a1 (g := (mkF m 1 #[rv a1, uN, uN, uN, uN, uN] [(.ref a1)])) rfl rfl (hb hby d6_1)
  refine sT st68 ?_
  show gM p e below _ T68 m 4 #[rv a1, uN, uN, uN, uN, uN] [.null]
  refine sT (fun t k => XS.ifnonnullNo X68.here hx rfl (hb hby d6_4) rfl k) ?_
  show gM p e below _ T68 m 7 #[rv a1, uN, uN, uN, uN, uN] []
  refine own_ret0 X68 hx hlk Bd.returns (hb hby d6_7) ?_ (by decide) (by decide)
  show own_as_Q Z a1 h0 n0 _ T68.heap _
  rw [e68]
  exact ⟨rfl, N0, rfl⟩
theorem d7_0 : decode prog_128_method_16_code 0 = .ok (.aload_n 0, 1) := by decide +kernel
theorem own_pd2 : parseMethodDescriptor "()V" = some ⟨[], none⟩ := by decide +kernel
theorem d7_1 : decode prog_128_method_16_code 1 = .ok (.invokevirtual 101, 3) := by decide +kernel
theorem d7_4 : decode prog_128_method_16_code 4 = .ok (.new 1, 3) := by decide +kernel
theorem d7_7 : decode prog_128_method_16_code 7 = .ok (.dup, 1) := by decide +kernel
theorem d7_8 : decode prog_128_method_16_code 8 = .ok (.aload_n 0, 1) := by decide +kernel
theorem d7_9 : decode prog_128_method_16_code 9 = .ok (.getfield 44, 3) := by decide +kernel
theorem d7_12 : decode prog_128_method_16_code 12 = .ok (.invokespecial 3, 3) := by decide +kernel
theorem d7_15 : decode prog_128_method_16_code 15 = .ok (.astore_n 1, 1) := by decide +kernel
theorem d7_16 : decode prog_128_method_16_code 16 = .ok (.aload_n 0, 1) := by decide +kernel
theorem d7_17 : decode prog_128_method_16_code 17 = .ok (.getfield 25, 3) := by decide +kernel
theorem d7_20 : decode prog_128_method_16_code 20 = .ok (.iconst 0, 1) := by decide +kernel
theorem d7_21 : decode prog_128_method_16_code 21 = .ok (.aload_n 1, 1) := by decide +kernel
theorem d7_22 : decode prog_128_method_16_code 22 = .ok (.getfield 25, 3) := by decide +kernel
theorem d7_25 : decode prog_128_method_16_code 25 = .ok (.iconst 0, 1) := by decide +kernel
theorem d7_26 : decode prog_128_method_16_code 26 = .ok (.aload_n 0, 1) := by decide +kernel
theorem d7_27 : decode prog_128_method_16_code 27 = .ok (.getfield 44, 3) := by decide +kernel
theorem d7_30 : decode prog_128_method_16_code 30 = .ok (.invokestatic 104, 3) := by decide +kernel
theorem d7_33 : decode prog_128_method_16_code 33 = .ok (.aload_n 0, 1) := by decide +kernel
theorem d7_34 : decode prog_128_method_16_code 34 = .ok (.getfield 29, 3) := by decide +kernel
theorem d7_37 : decode prog_128_method_16_code 37 = .ok (.iconst 0, 1) := by decide +kernel
theorem d7_38 : decode prog_128_method_16_code 38 = .ok (.aload_n 1, 1) := by decide +kernel
theorem d7_39 : decode prog_128_method_16_code 39 = .ok (.getfield 29, 3) := by decide +kernel
theorem d7_42 : decode prog_128_method_16_code 42 = .ok (.iconst 0, 1) := by decide +kernel
theorem d7_43 : decode prog_128_method_16_code 43 = .ok (.aload_n 0, 1) := by decide +kernel
theorem d7_44 : decode prog_128_method_16_code 44 = .ok (.getfield 44, 3) := by decide +kernel
theorem d7_47 : decode prog_128_method_16_code 47 = .ok (.invokestatic 104, 3) := by decide +kernel
theorem d7_50 : decode prog_128_method_16_code 50 = .ok (.aload_n 1, 1) := by decide +kernel
theorem d7_51 : decode prog_128_method_16_code 51 = .ok (.aload_n 0, 1) := by decide +kernel
theorem d7_52 : decode prog_128_method_16_code 52 = .ok (.getfield 44, 3) := by decide +kernel
theorem d7_55 : decode prog_128_method_16_code 55 = .ok (.putfield 44, 3) := by decide +kernel
theorem d7_58 : decode prog_128_method_16_code 58 = .ok (.aload_n 1, 1) := by decide +kernel
theorem d7_59 : decode prog_128_method_16_code 59 = .ok (.aload_n 0, 1) := by decide +kernel
theorem d7_60 : decode prog_128_method_16_code 60 = .ok (.getfield 44, 3) := by decide +kernel
theorem d7_63 : decode prog_128_method_16_code 63 = .ok (.putfield 59, 3) := by decide +kernel
theorem d7_66 : decode prog_128_method_16_code 66 = .ok (.aload_n 1, 1) := by decide +kernel
theorem d7_67 : decode prog_128_method_16_code 67 = .ok (.areturn, 1) := by decide +kernel
theorem own_cp_ef (m : MethodId) (a1 : Addr) : entryFrame m #[(.ref a1)] 2 = mkF m 0 #[rv a1, uN] [] := by first | (simp [entryFrame, mkF, argsToLocals, Value.category]; done) | rfl
def own_cp_Q (Z : State) (a1 : Addr) (b1 : Addr) (c1 : Addr) (k1 : ClassId) (k2 : ClassId) (h0 : Heap) (n0 : Nat) (v : Option Value) (h : Heap) (L : List Loc) : Prop := ∃ xo : Addr, ∃ bb : Addr, ∃ cc : Addr, ∃ kb : ClassId, ∃ kc : ClassId, v = some (.ref xo) ∧ Fr n0 L ∧ Keep h0 h [] ∧ h0.size ≤ xo ∧ h0.size ≤ bb ∧ h0.size ≤ cc ∧ bb ≠ cc ∧ Exa Z h xo oS ∧ Fld Z h xo oS "blocks" "[J" (.ref bb) ∧ Fld Z h xo oS "bits" "[J" (.ref cc) ∧ Fld Z h xo oS "size" "I" (.int 0) ∧ Fld Z h xo oS "ordered" "I" (.int 0) ∧ Fld Z h xo oS "table" "[I" .null ∧ Fld Z h xo oS "most" "I" (.int 2147483647) ∧ Arv Z h bb kb .long 1 (([0] : List Int64).map Value.long) (Value.long 0) ∧ Arv Z h cc kc .long 1 (([0] : List Int64).map Value.long) (Value.long 0) ∧ xo ≠ bb ∧ xo ≠ cc
set_option maxRecDepth 65536 in
set_option maxHeartbeats 40000000 in
theorem own_cp (l : Launch) (Z : State) (a0 : Array Value) (hw : ∀ d ∈ tables_1, d.before a0 Z = true) (ws : List Jvm.Cond) (a1 : Addr) (b1 : Addr) (c1 : Addr) (k1 : ClassId) (k2 : ClassId) (h0 : Heap) (n0 : Nat) (Z0 : n0 ≤ h0.size) (E_a1 : Exa Z h0 a1 oS) (F_size_a1 : Fld Z h0 a1 oS "size" "I" (.int 0)) (F_table_a1 : Fld Z h0 a1 oS "table" "[I" .null) (F_blocks_a1 : Fld Z h0 a1 oS "blocks" "[J" (.ref b1)) (F_bits_a1 : Fld Z h0 a1 oS "bits" "[J" (.ref c1)) (V_b1 : Arv Z h0 b1 k1 .long 16 (([0, 0, 0, 0, 0, 0, 0, 0, 0, 0, 0, 0, 0, 0, 0, 0] : List Int64).map Value.long) (Value.long 0)) (V_c1 : Arv Z h0 c1 k2 .long 16 (([0, 0, 0, 0, 0, 0, 0, 0, 0, 0, 0, 0, 0, 0, 0, 0] : List Int64).map Value.long) (Value.long 0)) :
    MetFree l (⟨oS, "copy", "()Lcom/example/concepta/concepta/store/OidSet;"⟩ : MethodName) (head1 (Jvm.Cond.code (⟨oS, "copy", "()Lcom/example/concepta/concepta/store/OidSet;"⟩ : MethodName) prog_128_method_16_code 2 (some (.object oS)) :: ws) ({ frames := 2, cells := 3, slots := 8, locals := 28 } : Room)) (fun aa U => aa = #[(.ref a1)] ∧ Z.Warmed39 U.vm ∧ U.heap = h0) (fun _ _ _ _ _ => True) (fun _ U o U' => ∃ v L, o = .returned v ∧ own_cp_Q Z a1 b1 c1 k1 k2 h0 n0 v U'.heap L ∧ FrameEnd U o U' L ({ frames := 2, cells := 3, slots := 8, locals := 28 } : Room).cells ({ frames := 2, cells := 3, slots := 8, locals := 28 } : Room).slots) := by
  refine MetFree.of_bodySF (plainFor_of_name own_pn0) hisR ?_
  have w1 := hw _ (List.mem_of_getElem? (i := 1) rfl)
  have w2 := hw _ (List.mem_of_getElem? (i := 2) rfl)
  have w6 := hw _ (List.mem_of_getElem? (i := 6) rfl)
  have w7 := hw _ (List.mem_of_getElem? (i := 7) rfl)
  have w8 := hw _ (List.mem_of_getElem? (i := 8) rfl)
  have w14 := hw _ (List.mem_of_getElem? (i := 14) rfl)
  have w20 := hw _ (List.mem_of_getElem? (i := 20) rfl)
  have w21 := hw _ (List.mem_of_getElem? (i := 21) rfl)
  have w22 := hw _ (List.mem_of_getElem? (i := 22) rfl)
  have w23 := hw _ (List.mem_of_getElem? (i := 23) rfl)
  have w36 := hw _ (List.mem_of_getElem? (i := 36) rfl)
  have w42 := hw _ (List.mem_of_getElem? (i := 42) rfl)
  have w43 := hw _ (List.mem_of_getElem? (i := 43) rfl)
  have w48 := hw _ (List.mem_of_getElem? (i := 48) rfl)
  have w49 := hw _ (List.mem_of_getElem? (i := 49) rfl)
  have w81 := hw _ (List.mem_of_getElem? (i := 81) rfl)
  have w82 := hw _ (List.mem_of_getElem? (i := 82) rfl)
  have w83 := hw _ (List.mem_of_getElem? (i := 83) rfl)
  have w84 := hw _ (List.mem_of_getElem? (i := 84) rfl)
  have w85 := hw _ (List.mem_of_getElem? (i := 85) rfl)
  have w86 := hw _ (List.mem_of_getElem? (i := 86) rfl)
  have w87 := hw _ (List.mem_of_getElem? (i := 87) rfl)
  have w88 := hw _ (List.mem_of_getElem? (i := 88) rfl)
  have w89 := hw _ (List.mem_of_getElem? (i := 89) rfl)
  intro p e s m args below meth c s₁ Bd hml0 hP hK
  obtain ⟨rfl, hZ, hh⟩ := hP
  have hx := Bd.exec
  have hby := Bd.bytes
  have hlk := Bd.notSynchronized
  have hml : c.maxLocals = 2 := hml0
  have hown : s.vm.findClass oS = some m.cls := findClass_of_methodNamed Bd.named
  have hnm := (name_of_methodNamed Bd.named Bd.method).1
  have X0 : Stand p l e ({ frames := 2, cells := 3, slots := 8, locals := 28 } : Room) s m #[(.ref a1)] below meth c s₁ [] 0 0 := Stand.of_body Bd
  have e0 : s₁.heap = h0 := by rw [← hh, Bd.state]; rfl
  have N0 := Fr.nil n0
  have K0 : Keep h0 h0 [] := Keep.refl h0 _
  show gS p e below (own_Fin s (own_cp_Q Z a1 b1 c1 k1 k2 h0 n0) ({ frames := 2, cells := 3, slots := 8, locals := 28 } : Room).cells ({ frames := 2, cells := 3, slots := 8, locals := 28 } : Room).slots) _
  refine sT (fun t k => castTop (own_cp_ef m a1) k) ?_
  show gM p e below _ s₁ m 0 #[rv a1, uN] []
  refine sT (fun t k => XS.aloadN X0.here hx rfl (hb hby d7_0) rfl rfl k) ?_
  show gM p e below _ s₁ m 1 #[rv a1, uN] [(.ref a1)]
  obtain ⟨cq91, q91, q91'⟩ := E_a1.cell
  obtain ⟨_, _, ⟨T91, L91, k91, n91⟩, -, X91, ⟨Lc91, hQ91, l91, y91, z91⟩, st91⟩ := X0.privateBack hx (y := (⟨oS, "ascending", "()V"⟩ : MethodName)) hown (mvT hZ w81) (mvT hZ w82) (own_selp hZ w1 w83 w82 (by decide)) (Cond.privateMethod_at (mvP hZ w83 (args := #[]))) (mvT hZ w84) (by decide) (backOf (W := 0) (own_as l Z a0 hw [] a1  h0 n0 Z0 F_table_a1) hZ w84 w2 (by decide) (by decide)) (g := (mkF m 1 #[rv a1, uN] [(.ref a1)])) rfl (by rw [hml]; rfl) (Steps.refl _) (a := a1) (by rw [e0]; exact q91) q91' (argsL := []) (rest := []) (lenOf own_pd2 rfl) rfl (by show 2 * 0 + _ ≤ _; exact Nat.le_of_eq rfl) (hb hby d7_1) (fun _ _ => ⟨rfl, e0, (by decide : 0 + 0 ≤ _), (by decide : 0 + 0 ≤ _)⟩)
  dsimp only [Pt.U, Pt.locs, Pt.cells, Pt.slots] at X91 l91 y91 z91 st91 hQ91
  subst y91 z91
  obtain ⟨rfl, N91q, eh91⟩ := hQ91
  have N91 : Fr n0 L91 := by rw [l91]; exact Fr.app N0 N91q
  refine own_jump st91 ?_
  show gM p e below _ T91 m 4 #[rv a1, uN] []
  obtain ⟨T92, h92, X92, e92, E92, A92, D92, -, st92⟩ := newO X91 hx hZ hown w85 w1 w2 eh91 (g := (mkF m 4 #[rv a1, uN] [])) rfl (hb hby d7_4) (by decide) (by decide)
  obtain ⟨b92, g92⟩ : ∃ z, z = h0.size := ⟨_, rfl⟩
  rw [← g92] at A92 D92 st92
  have ne_a1_b92 : a1 ≠ b92 := Nat.ne_of_lt (Nat.lt_of_lt_of_le E_a1.lt (Nat.le_of_eq g92.symm))
  have ne_b1_b92 : b1 ≠ b92 := Nat.ne_of_lt (Nat.lt_of_lt_of_le V_b1.lt (Nat.le_of_eq g92.symm))
  have ne_c1_b92 : c1 ≠ b92 := Nat.ne_of_lt (Nat.lt_of_lt_of_le V_c1.lt (Nat.le_of_eq g92.symm))
  have g_b92 : n0 ≤ b92 := Nat.le_trans Z0 (Nat.le_of_eq g92.symm)
  have sz_b92 : h0.size ≤ b92 := Nat.le_trans K0.1 (Nat.le_of_eq g92.symm)
  have K93 : Keep h0 h92 [] := K0.ext E92
  have F_most_b92 : Fld Z h92 b92 oS "most" "I" (.int 0) := D92 (Or.inl w14) (ty := .int) (by decide)
  have F_blocks_b92 : Fld Z h92 b92 oS "blocks" "[J" .null := D92 (Or.inl w21) (ty := (.array .long)) (by decide)
  have F_bits_b92 : Fld Z h92 b92 oS "bits" "[J" .null := D92 (Or.inl w23) (ty := (.array .long)) (by decide)
  have F_table_b92 : Fld Z h92 b92 oS "table" "[I" .null := D92 (Or.inl w36) (ty := (.array .int)) (by decide)
  have F_size_b92 : Fld Z h92 b92 oS "size" "I" (.int 0) := D92 (Or.inl w43) (ty := .int) (by decide)
  have F_ordered_b92 : Fld Z h92 b92 oS "ordered" "I" (.int 0) := D92 (Or.inl w49) (ty := .int) (by decide)
  refine sT st92 ?_
  show gM p e below _ T92 m 7 #[rv a1, uN] [(.ref b92)]
  refine sT (fun t k => XS.dup X92.here hx rfl (hb hby d7_7) rfl rfl k) ?_
  show gM p e below _ T92 m 8 #[rv a1, uN] [(.ref b92), (.ref b92)]
  refine sT (fun t k => XS.aloadN X92.here hx rfl (hb hby d7_8) rfl rfl k) ?_
  show gM p e below _ T92 m 9 #[rv a1, uN] [(.ref a1), (.ref b92), (.ref b92)]
  obtain ⟨T94, X94, e94, st94⟩ := getF X92 hx hZ hown (host := "") (Or.inl w42) Via.refl e92 (F_size_a1.ext E92) (g := (mkF m 9 #[rv a1, uN] [(.ref a1), (.ref b92), (.ref b92)])) rfl rfl (hb hby d7_9)
  refine sT st94 ?_
  show gM p e below _ T94 m 12 #[rv a1, uN] [(.int 0), (.ref b92), (.ref b92)]
  obtain ⟨_, _, ⟨T95, L95, k95, n95⟩, -, X95, ⟨Lc95, hQ95, l95, y95, z95⟩, st95⟩ := X94.specialBack hx (y := (⟨oS, "<init>", "(I)V"⟩ : MethodName)) rfl hown (mvT hZ w6) (mvT hZ w7) (mvT hZ w8) (by decide) (backOf (W := 1) (own_i1 l Z a0 hw [] b92 ((.int 0)) (.null) (.null) h92 n0 (Nat.le_trans Z0 E92.1) A92 g_b92 F_size_b92 F_ordered_b92 F_table_b92 F_most_b92 F_blocks_b92 F_bits_b92) hZ w8 w2 (by decide) (by decide)) (g := (mkF m 12 #[rv a1, uN] [(.int 0), (.ref b92), (.ref b92)])) rfl (by rw [hml]; rfl) (Steps.refl _) (a := b92) (argsL := [(.int 0)]) (rest := [(.ref b92)]) (lenOf own_pd1 rfl) rfl (by show 2 * 0 + _ ≤ _; exact Nat.le_of_eq rfl) (hb hby d7_12) (fun _ _ => ⟨rfl, e94, (by decide : 1 + 2 ≤ _), (by decide : 6 + 2 ≤ _)⟩)
  dsimp only [Pt.U, Pt.locs, Pt.cells, Pt.slots] at X95 l95 y95 z95 st95 hQ95
  subst y95 z95
  obtain ⟨bb_95, cc_95, kb_95, kc_95, rfl, N95q, K95c, f95_0, f95_1, f95_2, f95_3, f95_4, f95_5, f95_6, f95_7, f95_8, f95_9, f95_10, f95_11⟩ := hQ95
  have N95 : Fr n0 L95 := by rw [l95]; exact Fr.app N91 N95q
  refine own_jump st95 ?_
  have K96 : Keep h0 T95.heap [] := K93.trans K95c (allS (Or.inr sz_b92) all0)
  have sz_bb_95 : h0.size ≤ bb_95 := Nat.le_trans K93.1 f95_0
  have g_bb_95 : n0 ≤ bb_95 := Nat.le_trans Z0 sz_bb_95
  have ne_c1_bb_95 : c1 ≠ bb_95 := Nat.ne_of_lt (Nat.lt_of_lt_of_le (V_c1.ext E92).lt f95_0)
  have ne_a1_bb_95 : a1 ≠ bb_95 := Nat.ne_of_lt (Nat.lt_of_lt_of_le (E_a1.ext E92).lt f95_0)
  have ne_b1_bb_95 : b1 ≠ bb_95 := Nat.ne_of_lt (Nat.lt_of_lt_of_le (V_b1.ext E92).lt f95_0)
  have ne_b92_bb_95 : b92 ≠ bb_95 := Nat.ne_of_lt (Nat.lt_of_lt_of_le A92.lt f95_0)
  have sz_cc_95 : h0.size ≤ cc_95 := Nat.le_trans K93.1 f95_1
  have g_cc_95 : n0 ≤ cc_95 := Nat.le_trans Z0 sz_cc_95
  have ne_c1_cc_95 : c1 ≠ cc_95 := Nat.ne_of_lt (Nat.lt_of_lt_of_le (V_c1.ext E92).lt f95_1)
  have ne_a1_cc_95 : a1 ≠ cc_95 := Nat.ne_of_lt (Nat.lt_of_lt_of_le (E_a1.ext E92).lt f95_1)
  have ne_b1_cc_95 : b1 ≠ cc_95 := Nat.ne_of_lt (Nat.lt_of_lt_of_le (V_b1.ext E92).lt f95_1)
  have ne_b92_cc_95 : b92 ≠ cc_95 := Nat.ne_of_lt (Nat.lt_of_lt_of_le A92.lt f95_1)
  show gM p e below _ T95 m 15 #[rv a1, uN] [(.ref b92)]
  refine sT (fun t k => XS.astoreN X95.here hx rfl (hb hby d7_15) rfl rfl (l' := #[rv a1, rv b92]) rfl k) ?_
  show gM p e below _ T95 m 16 #[rv a1, rv b92] []
  refine sT (fun t k => XS.aloadN X95.here hx rfl (hb hby d7_16) rfl rfl k) ?_
  show gM p e below _ T95 m 17 #[rv a1, rv b92] [(.ref a1)]
  obtain ⟨T97, X97, e97, st97⟩ := getF X95 hx hZ hown (host := "") (Or.inl w20) Via.refl rfl ((F_blocks_a1.ext E92).keep K95c (ninS ne_a1_b92 nin0)) (g := (mkF m 17 #[rv a1, rv b92] [(.ref a1)])) rfl rfl (hb hby d7_17)
  refine sT st97 ?_
  show gM p e below _ T97 m 20 #[rv a1, rv b92] [(.ref b1)]
  refine sT (fun t k => XS.iconst X97.here hx rfl (hb hby d7_20) k) ?_
  show gM p e below _ T97 m 21 #[rv a1, rv b92] [(.int 0), (.ref b1)]
  refine sT (fun t k => XS.aloadN X97.here hx rfl (hb hby d7_21) rfl rfl k) ?_
  show gM p e below _ T97 m 22 #[rv a1, rv b92] [(.ref b92), (.int 0), (.ref b1)]
  obtain ⟨T98, X98, e98, st98⟩ := getF X97 hx hZ hown (host := "") (Or.inl w20) Via.refl e97 f95_4 (g := (mkF m 22 #[rv a1, rv b92] [(.ref b92), (.int 0), (.ref b1)])) rfl rfl (hb hby d7_22)
  refine sT st98 ?_
  show gM p e below _ T98 m 25 #[rv a1, rv b92] [(.ref bb_95), (.int 0), (.ref b1)]
  refine sT (fun t k => XS.iconst X98.here hx rfl (hb hby d7_25) k) ?_
  show gM p e below _ T98 m 26 #[rv a1, rv b92] [(.int 0), (.ref bb_95), (.int 0), (.ref b1)]
  refine sT (fun t k => XS.aloadN X98.here hx rfl (hb hby d7_26) rfl rfl k) ?_
  show gM p e below _ T98 m 27 #[rv a1, rv b92] [(.ref a1), (.int 0), (.ref bb_95), (.int 0), (.ref b1)]
  obtain ⟨T99, X99, e99, st99⟩ := getF X98 hx hZ hown (host := "") (Or.inl w42) Via.refl e98 ((F_size_a1.ext E92).keep K95c (ninS ne_a1_b92 nin0)) (g := (mkF m 27 #[rv a1, rv b92] [(.ref a1), (.int 0), (.ref bb_95), (.int 0), (.ref b1)])) rfl rfl (hb hby d7_27)
  refine sT st99 ?_
  show gM p e below _ T99 m 30 #[rv a1, rv b92] [(.int 0), (.int 0), (.ref bb_95), (.int 0), (.ref b1)]
  obtain ⟨T100, h100, L100, X100, e100, N100, K100c, V100q, st100⟩ := cpA X99 hx hZ hown w86 w89 w87 w88 e99 ((V_b1.ext E92).keep K95c (ninS ne_b1_b92 nin0)) f95_10 (Or.inl ⟨rfl, rfl⟩) (sp := (0 : Int32)) (dp := (0 : Int32)) (nn := (0 : Int32)) (by decide) (by decide) (by decide) (by decide) (by decide) (us := (([] : List Int64).map Value.long)) rfl (Nat.le_of_ble_eq_true rfl) N95 g_bb_95 (g := (mkF m 30 #[rv a1, rv b92] [(.int 0), (.int 0), (.ref bb_95), (.int 0), (.ref b1)])) rfl (by rw [hml]; rfl) rfl (hb hby d7_30) (by decide) (W := 0) (by show 2 * 0 + _ ≤ _; exact Nat.le_of_eq rfl) (by decide)
  have V100 : Arv Z h100 bb_95 kb_95 .long 1 (([0] : List Int64).map Value.long) (Value.long 0) := V100q
  have K101 : Keep h0 h100 [] := K96.trans K100c (allS (Or.inr sz_bb_95) all0)
  refine sT st100 ?_
  show gM p e below _ T100 m 33 #[rv a1, rv b92] []
  refine sT (fun t k => XS.aloadN X100.here hx rfl (hb hby d7_33) rfl rfl k) ?_
  show gM p e below _ T100 m 34 #[rv a1, rv b92] [(.ref a1)]
  obtain ⟨T102, X102, e102, st102⟩ := getF X100 hx hZ hown (host := "") (Or.inl w22) Via.refl e100 (((F_bits_a1.ext E92).keep K95c (ninS ne_a1_b92 nin0)).keep K100c (ninS ne_a1_bb_95 nin0)) (g := (mkF m 34 #[rv a1, rv b92] [(.ref a1)])) rfl rfl (hb hby d7_34)
  refine sT st102 ?_
  show gM p e below _ T102 m 37 #[rv a1, rv b92] [(.ref c1)]
  refine sT (fun t k => XS.iconst X102.here hx rfl (hb hby d7_37) k) ?_
  show gM p e below _ T102 m 38 #[rv a1, rv b92] [(.int 0), (.ref c1)]
  refine sT (fun t k => XS.aloadN X102.here hx rfl (hb hby d7_38) rfl rfl k) ?_
  show gM p e below _ T102 m 39 #[rv a1, rv b92] [(.ref b92), (.int 0), (.ref c1)]
  obtain ⟨T103, X103, e103, st103⟩ := getF X102 hx hZ hown (host := "") (Or.inl w22) Via.refl e102 (f95_5.keep K100c (ninS ne_b92_bb_95 nin0)) (g := (mkF m 39 #[rv a1, rv b92] [(.ref b92), (.int 0), (.ref c1)])) rfl rfl (hb hby d7_39)
  refine sT st103 ?_
  show gM p e below _ T103 m 42 #[rv a1, rv b92] [(.ref cc_95), (.int 0), (.ref c1)]
  refine sT (fun t k => XS.iconst X103.here hx rfl (hb hby d7_42) k) ?_
  show gM p e below _ T103 m 43 #[rv a1, rv b92] [(.int 0), (.ref cc_95), (.int 0), (.ref c1)]
  refine sT (fun t k => XS.aloadN X103.here hx rfl (hb hby d7_43) rfl rfl k) ?_
  show gM p e below _ T103 m 44 #[rv a1, rv b92] [(.ref a1), (.int 0), (.ref cc_95), (.int 0), (.ref c1)]
  obtain ⟨T104, X104, e104, st104⟩ := getF X103 hx hZ hown (host := "") (Or.inl w42) Via.refl e103 (((F_size_a1.ext E92).keep K95c (ninS ne_a1_b92 nin0)).keep K100c (ninS ne_a1_bb_95 nin0)) (g := (mkF m 44 #[rv a1, rv b92] [(.ref a1), (.int 0), (.ref cc_95), (.int 0), (.ref c1)])) rfl rfl (hb hby d7_44)
  refine sT st104 ?_
  show gM p e below _ T104 m 47 #[rv a1, rv b92] [(.int 0), (.int 0), (.ref cc_95), (.int 0), (.ref c1)]
  obtain ⟨T105, h105, L105, X105, e105, N105, K105c, V105q, st105⟩ := cpA X104 hx hZ hown w86 w89 w87 w88 e104 (((V_c1.ext E92).keep K95c (ninS ne_c1_b92 nin0)).keep K100c (ninS ne_c1_bb_95 nin0)) (f95_11.keep K100c (ninS (Ne.symm f95_2) nin0)) (Or.inl ⟨rfl, rfl⟩) (sp := (0 : Int32)) (dp := (0 : Int32)) (nn := (0 : Int32)) (by decide) (by decide) (by decide) (by decide) (by decide) (us := (([] : List Int64).map Value.long)) rfl (Nat.le_of_ble_eq_true rfl) N100 g_cc_95 (g := (mkF m 47 #[rv a1, rv b92] [(.int 0), (.int 0), (.ref cc_95), (.int 0), (.ref c1)])) rfl (by rw [hml]; rfl) rfl (hb hby d7_47) (by decide) (W := 0) (by show 2 * 0 + _ ≤ _; exact Nat.le_of_eq rfl) (by decide)
  have V105 : Arv Z h105 cc_95 kc_95 .long 1 (([0] : List Int64).map Value.long) (Value.long 0) := V105q
  have K106 : Keep h0 h105 [] := K101.trans K105c (allS (Or.inr sz_cc_95) all0)
  refine sT st105 ?_
  show gM p e below _ T105 m 50 #[rv a1, rv b92] []
  refine sT (fun t k => XS.aloadN X105.here hx rfl (hb hby d7_50) rfl rfl k) ?_
  show gM p e below _ T105 m 51 #[rv a1, rv b92] [(.ref b92)]
  refine sT (fun t k => XS.aloadN X105.here hx rfl (hb hby d7_51) rfl rfl k) ?_
  show gM p e below _ T105 m 52 #[rv a1, rv b92] [(.ref a1), (.ref b92)]
  obtain ⟨T107, X107, e107, st107⟩ := getF X105 hx hZ hown (host := "") (Or.inl w42) Via.refl e105 ((((F_size_a1.ext E92).keep K95c (ninS ne_a1_b92 nin0)).keep K100c (ninS ne_a1_bb_95 nin0)).keep K105c (ninS ne_a1_cc_95 nin0)) (g := (mkF m 52 #[rv a1, rv b92] [(.ref a1), (.ref b92)])) rfl rfl (hb hby d7_52)
  refine sT st107 ?_
  show gM p e below _ T107 m 55 #[rv a1, rv b92] [(.int 0), (.ref b92)]
  obtain ⟨T108, h108, X108, e108, W108, st108⟩ := putF X107 hx hZ hown (host := "") (Or.inl w42) Via.refl e107 ((f95_6.keep K100c (ninS ne_b92_bb_95 nin0)).keep K105c (ninS ne_b92_cc_95 nin0)) ((f95_3.keep K100c).keep K105c) (Or.inl w43) w1 (ty := .int) (by decide) rfl rfl (g := (mkF m 55 #[rv a1, rv b92] [(.int 0), (.ref b92)])) rfl rfl (hb hby d7_55)
  have Fw108 := ((f95_6.keep K100c (ninS ne_b92_bb_95 nin0)).keep K105c (ninS ne_b92_cc_95 nin0)).same W108
  have N108 := Fr.snoc X108 N105 g_b92
  have K109 : Keep h0 h108 [] := K106.wr W108 (Or.inr sz_b92)
  refine sT st108 ?_
  show gM p e below _ T108 m 58 #[rv a1, rv b92] []
  refine sT (fun t k => XS.aloadN X108.here hx rfl (hb hby d7_58) rfl rfl k) ?_
  show gM p e below _ T108 m 59 #[rv a1, rv b92] [(.ref b92)]
  refine sT (fun t k => XS.aloadN X108.here hx rfl (hb hby d7_59) rfl rfl k) ?_
  show gM p e below _ T108 m 60 #[rv a1, rv b92] [(.ref a1), (.ref b92)]
  obtain ⟨T110, X110, e110, st110⟩ := getF X108 hx hZ hown (host := "") (Or.inl w42) Via.refl e108 (((((F_size_a1.ext E92).keep K95c (ninS ne_a1_b92 nin0)).keep K100c (ninS ne_a1_bb_95 nin0)).keep K105c (ninS ne_a1_cc_95 nin0)).other W108 (Or.inl ne_a1_b92)) (g := (mkF m 60 #[rv a1, rv b92] [(.ref a1), (.ref b92)])) rfl rfl (hb hby d7_60)
  refine sT st110 ?_
  show gM p e below _ T110 m 63 #[rv a1, rv b92] [(.int 0), (.ref b92)]
  obtain ⟨T111, h111, X111, e111, W111, st111⟩ := putF X110 hx hZ hown (host := "") (Or.inl w48) Via.refl e110 (((f95_7.keep K100c (ninS ne_b92_bb_95 nin0)).keep K105c (ninS ne_b92_cc_95 nin0)).other W108 (Or.inr (slot_ne (Or.inl w49) (Or.inl w43) (by decide) (t := .int) (t' := .int) (by decide) (by decide)))) (((f95_3.keep K100c).keep K105c).wr W108) (Or.inl w49) w1 (ty := .int) (by decide) rfl rfl (g := (mkF m 63 #[rv a1, rv b92] [(.int 0), (.ref b92)])) rfl rfl (hb hby d7_63)
  have Fw111 := (((f95_7.keep K100c (ninS ne_b92_bb_95 nin0)).keep K105c (ninS ne_b92_cc_95 nin0)).other W108 (Or.inr (slot_ne (Or.inl w49) (Or.inl w43) (by decide) (t := .int) (t' := .int) (by decide) (by decide)))).same W111
  have N111 := Fr.snoc X111 N108 g_b92
  have K112 : Keep h0 h111 [] := K109.wr W111 (Or.inr sz_b92)
  refine sT st111 ?_
  show gM p e below _ T111 m 66 #[rv a1, rv b92] []
  refine sT (fun t k => XS.aloadN X111.here hx rfl (hb hby d7_66) rfl rfl k) ?_
  show gM p e below _ T111 m 67 #[rv a1, rv b92] [(.ref b92)]
  refine own_retV X111 hx hlk Bd.returns (w := (.ref b92)) rfl (Or.inr (Or.inr (Or.inr (Or.inr ⟨rfl, rfl, rfl⟩)))) (hb hby d7_67) ?_ (by decide) (by decide)
  show own_cp_Q Z a1 b1 c1 k1 k2 h0 n0 _ T111.heap _
  rw [e111]
  exact ⟨b92, bb_95, cc_95, kb_95, kc_95, rfl, N111, K112, sz_b92, sz_bb_95, sz_cc_95, f95_2, ((((f95_3.keep K100c).keep K105c).wr W108).wr W111), ((((f95_4.keep K100c (ninS ne_b92_bb_95 nin0)).keep K105c (ninS ne_b92_cc_95 nin0)).other W108 (Or.inr (slot_ne (Or.inl w21) (Or.inl w43) (by decide) (t := (.array .long)) (t' := .int) (by decide) (by decide)))).other W111 (Or.inr (slot_ne (Or.inl w21) (Or.inl w49) (by decide) (t := (.array .long)) (t' := .int) (by decide) (by decide)))), ((((f95_5.keep K100c (ninS ne_b92_bb_95 nin0)).keep K105c (ninS ne_b92_cc_95 nin0)).other W108 (Or.inr (slot_ne (Or.inl w23) (Or.inl w43) (by decide) (t := (.array .long)) (t' := .int) (by decide) (by decide)))).other W111 (Or.inr (slot_ne (Or.inl w23) (Or.inl w49) (by decide) (t := (.array .long)) (t' := .int) (by decide) (by decide)))), (Fw108.other W111 (Or.inr (slot_ne (Or.inl w43) (Or.inl w49) (by decide) (t := .int) (t' := .int) (by decide) (by decide)))), Fw111, ((((f95_8.keep K100c (ninS ne_b92_bb_95 nin0)).keep K105c (ninS ne_b92_cc_95 nin0)).other W108 (Or.inr (slot_ne (Or.inl w36) (Or.inl w43) (by decide) (t := (.array .int)) (t' := .int) (by decide) (by decide)))).other W111 (Or.inr (slot_ne (Or.inl w36) (Or.inl w49) (by decide) (t := (.array .int)) (t' := .int) (by decide) (by decide)))), ((((f95_9.keep K100c (ninS ne_b92_bb_95 nin0)).keep K105c (ninS ne_b92_cc_95 nin0)).other W108 (Or.inr (slot_ne (Or.inl w14) (Or.inl w43) (by decide) (t := .int) (t' := .int) (by decide) (by decide)))).other W111 (Or.inr (slot_ne (Or.inl w14) (Or.inl w49) (by decide) (t := .int) (t' := .int) (by decide) (by decide)))), (((V100.keep K105c (ninS f95_2 nin0)).other W108 (Ne.symm ne_b92_bb_95)).other W111 (Ne.symm ne_b92_bb_95)), ((V105.other W108 (Ne.symm ne_b92_cc_95)).other W111 (Ne.symm ne_b92_cc_95)), ne_b92_bb_95, ne_b92_cc_95⟩
theorem d8_0 : decode prog_128_method_7_code 0 = .ok (.ldc2_w 47, 3) := by decide +kernel
theorem d8_3 : decode prog_128_method_7_code 3 = .ok (.aload_n 0, 1) := by decide +kernel
theorem d8_4 : decode prog_128_method_7_code 4 = .ok (.getfield 25, 3) := by decide +kernel
theorem d8_7 : decode prog_128_method_7_code 7 = .ok (.arraylength, 1) := by decide +kernel
theorem d8_8 : decode prog_128_method_7_code 8 = .ok (.aload_n 0, 1) := by decide +kernel
theorem d8_9 : decode prog_128_method_7_code 9 = .ok (.getfield 29, 3) := by decide +kernel
theorem d8_12 : decode prog_128_method_7_code 12 = .ok (.arraylength, 1) := by decide +kernel
theorem d8_13 : decode prog_128_method_7_code 13 = .ok (.iadd, 1) := by decide +kernel
theorem d8_14 : decode prog_128_method_7_code 14 = .ok (.i2l, 1) := by decide +kernel
theorem d8_15 : decode prog_128_method_7_code 15 = .ok (.lmul, 1) := by decide +kernel
theorem d8_16 : decode prog_128_method_7_code 16 = .ok (.aload_n 0, 1) := by decide +kernel
theorem d8_17 : decode prog_128_method_7_code 17 = .ok (.getfield 49, 3) := by decide +kernel
theorem d8_20 : decode prog_128_method_7_code 20 = .ok (.ifnonnull 7, 3) := by decide +kernel
theorem d8_23 : decode prog_128_method_7_code 23 = .ok (.lconst 0, 1) := by decide +kernel
theorem d8_24 : decode prog_128_method_7_code 24 = .ok (.goto 13, 3) := by decide +kernel
theorem d8_37 : decode prog_128_method_7_code 37 = .ok (.ladd, 1) := by decide +kernel
theorem d8_38 : decode prog_128_method_7_code 38 = .ok (.lreturn, 1) := by decide +kernel
theorem own_bN_ef (m : MethodId) (a1 : Addr) : entryFrame m #[(.ref a1)] 1 = mkF m 0 #[rv a1] [] := by first | (simp [entryFrame, mkF, argsToLocals, Value.category]; done) | rfl
def own_bN_Q (Z : State) (a1 : Addr) (bb : Addr) (cc : Addr) (kb : ClassId) (kc : ClassId) (z1 : Int32) (z2 : Int32) (xs1 : List Int64) (xs2 : List Int64) (h0 : Heap) (n0 : Nat) (v : Option Value) (h : Heap) (L : List Loc) : Prop := v = some (.long (((8 : Int64) * ((z1 + z2).toInt64)) + (0 : Int64))) ∧ Fr n0 L ∧ h = h0
set_option maxRecDepth 65536 in
set_option maxHeartbeats 40000000 in
theorem own_bN (l : Launch) (Z : State) (a0 : Array Value) (hw : ∀ d ∈ tables_1, d.before a0 Z = true) (ws : List Jvm.Cond) (a1 : Addr) (bb : Addr) (cc : Addr) (kb : ClassId) (kc : ClassId) (z1 : Int32) (z2 : Int32) (xs1 : List Int64) (xs2 : List Int64) (h0 : Heap) (n0 : Nat) (Z0 : n0 ≤ h0.size) (F_blocks_a1 : Fld Z h0 a1 oS "blocks" "[J" (.ref bb)) (F_bits_a1 : Fld Z h0 a1 oS "bits" "[J" (.ref cc)) (F_table_a1 : Fld Z h0 a1 oS "table" "[I" .null) (V_bb : Arv Z h0 bb kb .long z1 (xs1.map Value.long) (Value.long 0)) (V_cc : Arv Z h0 cc kc .long z2 (xs2.map Value.long) (Value.long 0)) :
    MetFree l (⟨oS, "bytes", "()J"⟩ : MethodName) (head1 (Jvm.Cond.code (⟨oS, "bytes", "()J"⟩ : MethodName) prog_128_method_7_code 1 (some .long) :: ws) ({ frames := 0, cells := 0, slots := 0, locals := 0 } : Room)) (fun aa U => aa = #[(.ref a1)] ∧ Z.Warmed39 U.vm ∧ U.heap = h0) (fun _ _ _ _ _ => True) (fun _ U o U' => ∃ v L, o = .returned v ∧ own_bN_Q Z a1 bb cc kb kc z1 z2 xs1 xs2 h0 n0 v U'.heap L ∧ FrameEnd U o U' L ({ frames := 0, cells := 0, slots := 0, locals := 0 } : Room).cells ({ frames := 0, cells := 0, slots := 0, locals := 0 } : Room).slots) := by
  refine MetFree.of_bodySF (plainFor_of_name own_pn0) hisR ?_
  have w20 := hw _ (List.mem_of_getElem? (i := 20) rfl)
  have w22 := hw _ (List.mem_of_getElem? (i := 22) rfl)
  have w34 := hw _ (List.mem_of_getElem? (i := 34) rfl)
  have w35 := hw _ (List.mem_of_getElem? (i := 35) rfl)
  intro p e s m args below meth c s₁ Bd hml0 hP hK
  obtain ⟨rfl, hZ, hh⟩ := hP
  have hx := Bd.exec
  have hby := Bd.bytes
  have hlk := Bd.notSynchronized
  have hml : c.maxLocals = 1 := hml0
  have hown : s.vm.findClass oS = some m.cls := findClass_of_methodNamed Bd.named
  have hnm := (name_of_methodNamed Bd.named Bd.method).1
  have X0 : Stand p l e ({ frames := 0, cells := 0, slots := 0, locals := 0 } : Room) s m #[(.ref a1)] below meth c s₁ [] 0 0 := Stand.of_body Bd
  have e0 : s₁.heap = h0 := by rw [← hh, Bd.state]; rfl
  have N0 := Fr.nil n0
  have K0 : Keep h0 h0 [] := Keep.refl h0 _
  show gS p e below (own_Fin s (own_bN_Q Z a1 bb cc kb kc z1 z2 xs1 xs2 h0 n0) ({ frames := 0, cells := 0, slots := 0, locals := 0 } : Room).cells ({ frames := 0, cells := 0, slots := 0, locals := 0 } : Room).slots) _
  refine sT (fun t k => castTop (own_bN_ef m a1) k) ?_
  show gM p e below _ s₁ m 0 #[rv a1] []
  refine sT (fun t k => X0.ldc2Long hx hown (mvT hZ w34) (g := (mkF m 0 #[rv a1] [])) rfl (hb hby d8_0) _ k) ?_
  show gM p e below _ s₁ m 3 #[rv a1] [(.long 8)]
  refine sT (fun t k => XS.aloadN X0.here hx rfl (hb hby d8_3) rfl rfl k) ?_
  show gM p e below _ s₁ m 4 #[rv a1] [(.ref a1), (.long 8)]
  obtain ⟨T116, X116, e116, st116⟩ := getF X0 hx hZ hown (host := "") (Or.inl w20) Via.refl e0 F_blocks_a1 (g := (mkF m 4 #[rv a1] [(.ref a1), (.long 8)])) rfl rfl (hb hby d8_4)
  refine sT st116 ?_
  show gM p e below _ T116 m 7 #[rv a1] [(.ref bb), (.long 8)]
  refine sT (fun t k => own_len X116 hx hZ e116 V_bb (g := (mkF m 7 #[rv a1] [(.ref bb), (.long 8)])) rfl rfl (hb hby d8_7) _ k) ?_
  show gM p e below _ T116 m 8 #[rv a1] [(.int z1), (.long 8)]
  refine sT (fun t k => XS.aloadN X116.here hx rfl (hb hby d8_8) rfl rfl k) ?_
  show gM p e below _ T116 m 9 #[rv a1] [(.ref a1), (.int z1), (.long 8)]
  obtain ⟨T117, X117, e117, st117⟩ := getF X116 hx hZ hown (host := "") (Or.inl w22) Via.refl e116 F_bits_a1 (g := (mkF m 9 #[rv a1] [(.ref a1), (.int z1), (.long 8)])) rfl rfl (hb hby d8_9)
  refine sT st117 ?_
  show gM p e below _ T117 m 12 #[rv a1] [(.ref cc), (.int z1), (.long 8)]
  refine sT (fun t k => own_len X117 hx hZ e117 V_cc (g := (mkF m 12 #[rv a1] [(.ref cc), (.int z1), (.long 8)])) rfl rfl (hb hby d8_12) _ k) ?_
  show gM p e below _ T117 m 13 #[rv a1] [(.int z2), (.int z1), (.long 8)]
  refine sT (fun t k => XS.iadd X117.here hx rfl (hb hby d8_13) rfl k) ?_
  show gM p e below _ T117 m 14 #[rv a1] [(.int (z1 + z2)), (.long 8)]
  refine sT (fun t k => XS.i2l X117.here hx rfl (hb hby d8_14) rfl k) ?_
  show gM p e below _ T117 m 15 #[rv a1] [(.long ((z1 + z2).toInt64)), (.long 8)]
  refine sT (fun t k => XS.lmul X117.here hx rfl (hb hby d8_15) rfl k) ?_
  show gM p e below _ T117 m 16 #[rv a1] [(.long ((8 : Int64) * ((z1 + z2).toInt64)))]
  refine sT (fun t k => XS.aloadN X117.here hx rfl (hb hby d8_16) rfl rfl k) ?_
  show gM p e below _ T117 m 17 #[rv a1] [(.ref a1), (.long ((8 : Int64) * ((z1 + z2).toInt64)))]
  obtain ⟨T118, X118, e118, st118⟩ := getF X117 hx hZ hown (host := "") (Or.inl w35) Via.refl e117 F_table_a1 (g := (mkF m 17 #[rv a1] [(.ref a1), (.long ((8 : Int64) * ((z1 + z2).toInt64)))])) rfl rfl (hb hby d8_17)
  refine sT st118 ?_
  show gM p e below _ T118 m 20 #[rv a1] [.null, (.long ((8 : Int64) * ((z1 + z2).toInt64)))]
  refine sT (fun t k => XS.ifnonnullNo X118.here hx rfl (hb hby d8_20) rfl k) ?_
  show gM p e below _ T118 m 23 #[rv a1] [(.long ((8 : Int64) * ((z1 + z2).toInt64)))]
  refine sT (fun t k => XS.lconst X118.here hx rfl (hb hby d8_23) k) ?_
  show gM p e below _ T118 m 24 #[rv a1] [(.long 0), (.long ((8 : Int64) * ((z1 + z2).toInt64)))]
  refine sT (fun t k => XS.goto X118.here hx rfl (pc0 := 24) (pc' := 37) rfl (hb hby d8_24) (by decide) (by decide) k) ?_
  show gM p e below _ T118 m 37 #[rv a1] [(.long 0), (.long ((8 : Int64) * ((z1 + z2).toInt64)))]
  refine sT (fun t k => XS.ladd X118.here hx rfl (hb hby d8_37) rfl k) ?_
  show gM p e below _ T118 m 38 #[rv a1] [(.long (((8 : Int64) * ((z1 + z2).toInt64)) + (0 : Int64)))]
  refine own_retV X118 hx hlk Bd.returns (w := (.long (((8 : Int64) * ((z1 + z2).toInt64)) + (0 : Int64)))) rfl (Or.inr (Or.inl ⟨rfl, rfl, _, rfl⟩)) (hb hby d8_38) ?_ (by decide) (by decide)
  show own_bN_Q Z a1 bb cc kb kc z1 z2 xs1 xs2 h0 n0 _ T118.heap _
  rw [e118]
  exact ⟨rfl, N0, rfl⟩
theorem d8_27 : decode prog_128_method_7_code 27 = .ok (.ldc2_w 53, 3) := by decide +kernel
theorem d8_30 : decode prog_128_method_7_code 30 = .ok (.aload_n 0, 1) := by decide +kernel
theorem d8_31 : decode prog_128_method_7_code 31 = .ok (.getfield 49, 3) := by decide +kernel
theorem d8_34 : decode prog_128_method_7_code 34 = .ok (.arraylength, 1) := by decide +kernel
theorem d8_35 : decode prog_128_method_7_code 35 = .ok (.i2l, 1) := by decide +kernel
theorem d8_36 : decode prog_128_method_7_code 36 = .ok (.lmul, 1) := by decide +kernel
theorem own_bT_ef (m : MethodId) (a1 : Addr) : entryFrame m #[(.ref a1)] 1 = mkF m 0 #[rv a1] [] := by first | (simp [entryFrame, mkF, argsToLocals, Value.category]; done) | rfl
def own_bT_Q (Z : State) (a1 : Addr) (bb : Addr) (cc : Addr) (kb : ClassId) (kc : ClassId) (tt : Addr) (kt : ClassId) (z1 : Int32) (z2 : Int32) (xs1 : List Int64) (xs2 : List Int64) (ts : List Int32) (h0 : Heap) (n0 : Nat) (v : Option Value) (h : Heap) (L : List Loc) : Prop := v = some (.long (((8 : Int64) * ((z1 + z2).toInt64)) + ((4 : Int64) * ((32 : Int32).toInt64)))) ∧ Fr n0 L ∧ h = h0
set_option maxRecDepth 65536 in
set_option maxHeartbeats 40000000 in
theorem own_bT (l : Launch) (Z : State) (a0 : Array Value) (hw : ∀ d ∈ tables_1, d.before a0 Z = true) (ws : List Jvm.Cond) (a1 : Addr) (bb : Addr) (cc : Addr) (kb : ClassId) (kc : ClassId) (tt : Addr) (kt : ClassId) (z1 : Int32) (z2 : Int32) (xs1 : List Int64) (xs2 : List Int64) (ts : List Int32) (h0 : Heap) (n0 : Nat) (Z0 : n0 ≤ h0.size) (F_blocks_a1 : Fld Z h0 a1 oS "blocks" "[J" (.ref bb)) (F_bits_a1 : Fld Z h0 a1 oS "bits" "[J" (.ref cc)) (F_table_a1 : Fld Z h0 a1 oS "table" "[I" (.ref tt)) (V_bb : Arv Z h0 bb kb .long z1 (xs1.map Value.long) (Value.long 0)) (V_cc : Arv Z h0 cc kc .long z2 (xs2.map Value.long) (Value.long 0)) (V_tt : Arv Z h0 tt kt .int 32 (ts.map Value.int) (Value.int 0)) :
    MetFree l (⟨oS, "bytes", "()J"⟩ : MethodName) (head1 (Jvm.Cond.code (⟨oS, "bytes", "()J"⟩ : MethodName) prog_128_method_7_code 1 (some .long) :: ws) ({ frames := 0, cells := 0, slots := 0, locals := 0 } : Room)) (fun aa U => aa = #[(.ref a1)] ∧ Z.Warmed39 U.vm ∧ U.heap = h0) (fun _ _ _ _ _ => True) (fun _ U o U' => ∃ v L, o = .returned v ∧ own_bT_Q Z a1 bb cc kb kc tt kt z1 z2 xs1 xs2 ts h0 n0 v U'.heap L ∧ FrameEnd U o U' L ({ frames := 0, cells := 0, slots := 0, locals := 0 } : Room).cells ({ frames := 0, cells := 0, slots := 0, locals := 0 } : Room).slots) := by
  refine MetFree.of_bodySF (plainFor_of_name own_pn0) hisR ?_
  have w20 := hw _ (List.mem_of_getElem? (i := 20) rfl)
  have w22 := hw _ (List.mem_of_getElem? (i := 22) rfl)
  have w34 := hw _ (List.mem_of_getElem? (i := 34) rfl)
  have w35 := hw _ (List.mem_of_getElem? (i := 35) rfl)
  have w72 := hw _ (List.mem_of_getElem? (i := 72) rfl)
  intro p e s m args below meth c s₁ Bd hml0 hP hK
  obtain ⟨rfl, hZ, hh⟩ := hP
  have hx := Bd.exec
  have hby := Bd.bytes
  have hlk := Bd.notSynchronized
  have hml : c.maxLocals = 1 := hml0
  have hown : s.vm.findClass oS = some m.cls := findClass_of_methodNamed Bd.named
  have hnm := (name_of_methodNamed Bd.named Bd.method).1
  have X0 : Stand p l e ({ frames := 0, cells := 0, slots := 0, locals := 0 } : Room) s m #[(.ref a1)] below meth c s₁ [] 0 0 := Stand.of_body Bd
  have e0 : s₁.heap = h0 := by rw [← hh, Bd.state]; rfl
  have N0 := Fr.nil n0
  have K0 : Keep h0 h0 [] := Keep.refl h0 _
  show gS p e below (own_Fin s (own_bT_Q Z a1 bb cc kb kc tt kt z1 z2 xs1 xs2 ts h0 n0) ({ frames := 0, cells := 0, slots := 0, locals := 0 } : Room).cells ({ frames := 0, cells := 0, slots := 0, locals := 0 } : Room).slots) _
  refine sT (fun t k => castTop (own_bT_ef m a1) k) ?_
  show gM p e below _ s₁ m 0 #[rv a1] []
  refine sT (fun t k => X0.ldc2Long hx hown (mvT hZ w34) (g := (mkF m 0 #[rv a1] [])) rfl (hb hby d8_0) _ k) ?_
  show gM p e below _ s₁ m 3 #[rv a1] [(.long 8)]
  refine sT (fun t k => XS.aloadN X0.here hx rfl (hb hby d8_3) rfl rfl k) ?_
  show gM p e below _ s₁ m 4 #[rv a1] [(.ref a1), (.long 8)]
  obtain ⟨T123, X123, e123, st123⟩ := getF X0 hx hZ hown (host := "") (Or.inl w20) Via.refl e0 F_blocks_a1 (g := (mkF m 4 #[rv a1] [(.ref a1), (.long 8)])) rfl rfl (hb hby d8_4)
  refine sT st123 ?_
  show gM p e below _ T123 m 7 #[rv a1] [(.ref bb), (.long 8)]
  refine sT (fun t k => own_len X123 hx hZ e123 V_bb (g := (mkF m 7 #[rv a1] [(.ref bb), (.long 8)])) rfl rfl (hb hby d8_7) _ k) ?_
  show gM p e below _ T123 m 8 #[rv a1] [(.int z1), (.long 8)]
  refine sT (fun t k => XS.aloadN X123.here hx rfl (hb hby d8_8) rfl rfl k) ?_
  show gM p e below _ T123 m 9 #[rv a1] [(.ref a1), (.int z1), (.long 8)]
  obtain ⟨T124, X124, e124, st124⟩ := getF X123 hx hZ hown (host := "") (Or.inl w22) Via.refl e123 F_bits_a1 (g := (mkF m 9 #[rv a1] [(.ref a1), (.int z1), (.long 8)])) rfl rfl (hb hby d8_9)
  refine sT st124 ?_
  show gM p e below _ T124 m 12 #[rv a1] [(.ref cc), (.int z1), (.long 8)]
  refine sT (fun t k => own_len X124 hx hZ e124 V_cc (g := (mkF m 12 #[rv a1] [(.ref cc), (.int z1), (.long 8)])) rfl rfl (hb hby d8_12) _ k) ?_
  show gM p e below _ T124 m 13 #[rv a1] [(.int z2), (.int z1), (.long 8)]
  refine sT (fun t k => XS.iadd X124.here hx rfl (hb hby d8_13) rfl k) ?_
  show gM p e below _ T124 m 14 #[rv a1] [(.int (z1 + z2)), (.long 8)]
  refine sT (fun t k => XS.i2l X124.here hx rfl (hb hby d8_14) rfl k) ?_
  show gM p e below _ T124 m 15 #[rv a1] [(.long ((z1 + z2).toInt64)), (.long 8)]
  refine sT (fun t k => XS.lmul X124.here hx rfl (hb hby d8_15) rfl k) ?_
  show gM p e below _ T124 m 16 #[rv a1] [(.long ((8 : Int64) * ((z1 + z2).toInt64)))]
  refine sT (fun t k => XS.aloadN X124.here hx rfl (hb hby d8_16) rfl rfl k) ?_
  show gM p e below _ T124 m 17 #[rv a1] [(.ref a1), (.long ((8 : Int64) * ((z1 + z2).toInt64)))]
  obtain ⟨T125, X125, e125, st125⟩ := getF X124 hx hZ hown (host := "") (Or.inl w35) Via.refl e124 F_table_a1 (g := (mkF m 17 #[rv a1] [(.ref a1), (.long ((8 : Int64) * ((z1 + z2).toInt64)))])) rfl rfl (hb hby d8_17)
  refine sT st125 ?_
  show gM p e below _ T125 m 20 #[rv a1] [(.ref tt), (.long ((8 : Int64) * ((z1 + z2).toInt64)))]
  refine sT (fun t k => XS.ifnonnullYes X125.here hx rfl (pc0 := 20) (pc' := 27) rfl (hb hby d8_20) rfl (by decide) (by decide) k) ?_
  show gM p e below _ T125 m 27 #[rv a1] [(.long ((8 : Int64) * ((z1 + z2).toInt64)))]
  refine sT (fun t k => X125.ldc2Long hx hown (mvT hZ w72) (g := (mkF m 27 #[rv a1] [(.long ((8 : Int64) * ((z1 + z2).toInt64)))])) rfl (hb hby d8_27) _ k) ?_
  show gM p e below _ T125 m 30 #[rv a1] [(.long 4), (.long ((8 : Int64) * ((z1 + z2).toInt64)))]
  refine sT (fun t k => XS.aloadN X125.here hx rfl (hb hby d8_30) rfl rfl k) ?_
  show gM p e below _ T125 m 31 #[rv a1] [(.ref a1), (.long 4), (.long ((8 : Int64) * ((z1 + z2).toInt64)))]
  obtain ⟨T126, X126, e126, st126⟩ := getF X125 hx hZ hown (host := "") (Or.inl w35) Via.refl e125 F_table_a1 (g := (mkF m 31 #[rv a1] [(.ref a1), (.long 4), (.long ((8 : Int64) * ((z1 + z2).toInt64)))])) rfl rfl (hb hby d8_31)
  refine sT st126 ?_
  show gM p e below _ T126 m 34 #[rv a1] [(.ref tt), (.long 4), (.long ((8 : Int64) * ((z1 + z2).toInt64)))]
  refine sT (fun t k => own_len X126 hx hZ e126 V_tt (g := (mkF m 34 #[rv a1] [(.ref tt), (.long 4), (.long ((8 : Int64) * ((z1 + z2).toInt64)))])) rfl rfl (hb hby d8_34) _ k) ?_
  show gM p e below _ T126 m 35 #[rv a1] [(.int 32), (.long 4), (.long ((8 : Int64) * ((z1 + z2).toInt64)))]
  refine sT (fun t k => XS.i2l X126.here hx rfl (hb hby d8_35) rfl k) ?_
  show gM p e below _ T126 m 36 #[rv a1] [(.long ((32 : Int32).toInt64)), (.long 4), (.long ((8 : Int64) * ((z1 + z2).toInt64)))]
  refine sT (fun t k => XS.lmul X126.here hx rfl (hb hby d8_36) rfl k) ?_
  show gM p e below _ T126 m 37 #[rv a1] [(.long ((4 : Int64) * ((32 : Int32).toInt64))), (.long ((8 : Int64) * ((z1 + z2).toInt64)))]
  refine sT (fun t k => XS.ladd X126.here hx rfl (hb hby d8_37) rfl k) ?_
  show gM p e below _ T126 m 38 #[rv a1] [(.long (((8 : Int64) * ((z1 + z2).toInt64)) + ((4 : Int64) * ((32 : Int32).toInt64))))]
  refine own_retV X126 hx hlk Bd.returns (w := (.long (((8 : Int64) * ((z1 + z2).toInt64)) + ((4 : Int64) * ((32 : Int32).toInt64))))) rfl (Or.inr (Or.inl ⟨rfl, rfl, _, rfl⟩)) (hb hby d8_38) ?_ (by decide) (by decide)
  show own_bT_Q Z a1 bb cc kb kc tt kt z1 z2 xs1 xs2 ts h0 n0 _ T126.heap _
  rw [e126]
  exact ⟨rfl, N0, rfl⟩
theorem own_pn1 : plainName "java/util/Arrays" = true := by first | (simp [plainName, overriddenIn]; done) | decide +kernel
theorem d9_0 : decode jdk_65_method_124_code 0 = .ok (.iload_n 1, 1) := by decide +kernel
theorem d9_1 : decode jdk_65_method_124_code 1 = .ok (.aload_n 0, 1) := by decide +kernel
theorem d9_2 : decode jdk_65_method_124_code 2 = .ok (.arraylength, 1) := by decide +kernel
theorem d9_3 : decode jdk_65_method_124_code 3 = .ok (.if_icmp .ne 11, 3) := by decide +kernel
theorem d9_14 : decode jdk_65_method_124_code 14 = .ok (.iload_n 1, 1) := by decide +kernel
theorem d9_15 : decode jdk_65_method_124_code 15 = .ok (.newarray .long, 2) := by decide +kernel
theorem d9_17 : decode jdk_65_method_124_code 17 = .ok (.astore_n 2, 1) := by decide +kernel
theorem d9_18 : decode jdk_65_method_124_code 18 = .ok (.aload_n 0, 1) := by decide +kernel
theorem d9_19 : decode jdk_65_method_124_code 19 = .ok (.iconst 0, 1) := by decide +kernel
theorem d9_20 : decode jdk_65_method_124_code 20 = .ok (.aload_n 2, 1) := by decide +kernel
theorem d9_21 : decode jdk_65_method_124_code 21 = .ok (.iconst 0, 1) := by decide +kernel
theorem d9_22 : decode jdk_65_method_124_code 22 = .ok (.aload_n 0, 1) := by decide +kernel
theorem d9_23 : decode jdk_65_method_124_code 23 = .ok (.arraylength, 1) := by decide +kernel
theorem d9_24 : decode jdk_65_method_124_code 24 = .ok (.iload_n 1, 1) := by decide +kernel
theorem d9_25 : decode jdk_65_method_124_code 25 = .ok (.invokestatic 304, 3) := by decide +kernel
theorem d9_28 : decode jdk_65_method_124_code 28 = .ok (.invokestatic 150, 3) := by decide +kernel
theorem d9_31 : decode jdk_65_method_124_code 31 = .ok (.aload_n 2, 1) := by decide +kernel
theorem d9_32 : decode jdk_65_method_124_code 32 = .ok (.areturn, 1) := by decide +kernel
theorem own_co12_ef (m : MethodId) (r1 : Addr) : entryFrame m #[(.ref r1), (.int 2)] 3 = mkF m 0 #[rv r1, iv 2, uN] [] := by first | (simp [entryFrame, mkF, argsToLocals, Value.category]; done) | rfl
def own_co12_Q (Z : State) (r1 : Addr) (k1 : ClassId) (x0 : Int64) (h0 : Heap) (n0 : Nat) (v : Option Value) (h : Heap) (L : List Loc) : Prop := ∃ bb : Addr, ∃ kb : ClassId, v = some (.ref bb) ∧ Fr n0 L ∧ Keep h0 h [] ∧ h0.size ≤ bb ∧ Arv Z h bb kb .long 2 (([x0, 0] : List Int64).map Value.long) (Value.long 0)
set_option maxRecDepth 65536 in
set_option maxHeartbeats 40000000 in
theorem own_co12 (l : Launch) (Z : State) (a0 : Array Value) (hw : ∀ d ∈ tables_1, d.before a0 Z = true) (ws : List Jvm.Cond) (r1 : Addr) (k1 : ClassId) (x0 : Int64) (h0 : Heap) (n0 : Nat) (Z0 : n0 ≤ h0.size) (V_r1 : Arv Z h0 r1 k1 .long 1 (([x0] : List Int64).map Value.long) (Value.long 0)) :
    MetFree l (⟨"java/util/Arrays", "copyOf", "([JI)[J"⟩ : MethodName) (head1 (Jvm.Cond.code (⟨"java/util/Arrays", "copyOf", "([JI)[J"⟩ : MethodName) jdk_65_method_124_code 3 (some (.array .long)) :: ws) ({ frames := 1, cells := 1, slots := 2, locals := 18 } : Room)) (fun aa U => aa = #[(.ref r1), (.int 2)] ∧ Z.Warmed39 U.vm ∧ U.heap = h0) (fun _ _ _ _ _ => True) (fun _ U o U' => ∃ v L, o = .returned v ∧ own_co12_Q Z r1 k1 x0 h0 n0 v U'.heap L ∧ FrameEnd U o U' L ({ frames := 1, cells := 1, slots := 2, locals := 18 } : Room).cells ({ frames := 1, cells := 1, slots := 2, locals := 18 } : Room).slots) := by
  refine MetFree.of_bodySF (plainFor_of_name own_pn1) hisR ?_
  have w17 := hw _ (List.mem_of_getElem? (i := 17) rfl)
  have w19 := hw _ (List.mem_of_getElem? (i := 19) rfl)
  have w87 := hw _ (List.mem_of_getElem? (i := 87) rfl)
  have w88 := hw _ (List.mem_of_getElem? (i := 88) rfl)
  have w89 := hw _ (List.mem_of_getElem? (i := 89) rfl)
  have w97 := hw _ (List.mem_of_getElem? (i := 97) rfl)
  have w98 := hw _ (List.mem_of_getElem? (i := 98) rfl)
  have w99 := hw _ (List.mem_of_getElem? (i := 99) rfl)
  have w100 := hw _ (List.mem_of_getElem? (i := 100) rfl)
  intro p e s m args below meth c s₁ Bd hml0 hP hK
  obtain ⟨rfl, hZ, hh⟩ := hP
  have hx := Bd.exec
  have hby := Bd.bytes
  have hlk := Bd.notSynchronized
  have hml : c.maxLocals = 3 := hml0
  have hown : s.vm.findClass "java/util/Arrays" = some m.cls := findClass_of_methodNamed Bd.named
  have hnm := (name_of_methodNamed Bd.named Bd.method).1
  have X0 : Stand p l e ({ frames := 1, cells := 1, slots := 2, locals := 18 } : Room) s m #[(.ref r1), (.int 2)] below meth c s₁ [] 0 0 := Stand.of_body Bd
  have e0 : s₁.heap = h0 := by rw [← hh, Bd.state]; rfl
  have N0 := Fr.nil n0
  have K0 : Keep h0 h0 [] := Keep.refl h0 _
  show gS p e below (own_Fin s (own_co12_Q Z r1 k1 x0 h0 n0) ({ frames := 1, cells := 1, slots := 2, locals := 18 } : Room).cells ({ frames := 1, cells := 1, slots := 2, locals := 18 } : Room).slots) _
  refine sT (fun t k => castTop (own_co12_ef m r1) k) ?_
  show gM p e below _ s₁ m 0 #[rv r1, iv 2, uN] []
  refine sT (fun t k => XS.iloadN X0.here hx rfl (hb hby d9_0) rfl k) ?_
  show gM p e below _ s₁ m 1 #[rv r1, iv 2, uN] [(.int 2)]
  refine sT (fun t k => XS.aloadN X0.here hx rfl (hb hby d9_1) rfl rfl k) ?_
  show gM p e below _ s₁ m 2 #[rv r1, iv 2, uN] [(.ref r1), (.int 2)]
  refine sT (fun t k => own_len X0 hx hZ e0 V_r1 (g := (mkF m 2 #[rv r1, iv 2, uN] [(.ref r1), (.int 2)])) rfl rfl (hb hby d9_2) _ k) ?_
  show gM p e below _ s₁ m 3 #[rv r1, iv 2, uN] [(.int 1), (.int 2)]
  have hc133 : ¬ ((2 : Int32) = (1 : Int32)) := by decide
  refine sT (fun t k => XS.icmpYes X0.here hx rfl (pc0 := 3) (pc' := 14) rfl (hb hby d9_3) rfl (feq hc133).2 (by decide) (by decide) k) ?_
  show gM p e below _ s₁ m 14 #[rv r1, iv 2, uN] []
  refine sT (fun t k => XS.iloadN X0.here hx rfl (hb hby d9_14) rfl k) ?_
  show gM p e below _ s₁ m 15 #[rv r1, iv 2, uN] [(.int 2)]
  obtain ⟨T134, h134, k134, X134, e134, E134, A134, st134⟩ := newP (aty := .long) X0 hx hZ w19 e0 (g := (mkF m 15 #[rv r1, iv 2, uN] [(.int 2)])) rfl (hb hby d9_15) rfl (by decide) (cap := 2) (by decide) (by decide) (by decide) (by decide)
  obtain ⟨b134, g134⟩ : ∃ z, z = h0.size := ⟨_, rfl⟩
  rw [← g134] at A134 st134
  have ne_r1_b134 : r1 ≠ b134 := Nat.ne_of_lt (Nat.lt_of_lt_of_le V_r1.lt (Nat.le_of_eq g134.symm))
  have g_b134 : n0 ≤ b134 := Nat.le_trans Z0 (Nat.le_of_eq g134.symm)
  have sz_b134 : h0.size ≤ b134 := Nat.le_trans K0.1 (Nat.le_of_eq g134.symm)
  have V134 : Arv Z h134 b134 k134 .long 2 (([0, 0] : List Int64).map Value.long) (Value.long 0) := own_newJ A134 (by decide) 2
  have K135 : Keep h0 h134 [] := K0.ext E134
  refine sT st134 ?_
  show gM p e below _ T134 m 17 #[rv r1, iv 2, uN] [(.ref b134)]
  refine sT (fun t k => XS.astoreN X134.here hx rfl (hb hby d9_17) rfl rfl (l' := #[rv r1, iv 2, rv b134]) rfl k) ?_
  show gM p e below _ T134 m 18 #[rv r1, iv 2, rv b134] []
  refine sT (fun t k => XS.aloadN X134.here hx rfl (hb hby d9_18) rfl rfl k) ?_
  show gM p e below _ T134 m 19 #[rv r1, iv 2, rv b134] [(.ref r1)]
  refine sT (fun t k => XS.iconst X134.here hx rfl (hb hby d9_19) k) ?_
  show gM p e below _ T134 m 20 #[rv r1, iv 2, rv b134] [(.int 0), (.ref r1)]
  refine sT (fun t k => XS.aloadN X134.here hx rfl (hb hby d9_20) rfl rfl k) ?_
  show gM p e below _ T134 m 21 #[rv r1, iv 2, rv b134] [(.ref b134), (.int 0), (.ref r1)]
  refine sT (fun t k => XS.iconst X134.here hx rfl (hb hby d9_21) k) ?_
  show gM p e below _ T134 m 22 #[rv r1, iv 2, rv b134] [(.int 0), (.ref b134), (.int 0), (.ref r1)]
  refine sT (fun t k => XS.aloadN X134.here hx rfl (hb hby d9_22) rfl rfl k) ?_
  show gM p e below _ T134 m 23 #[rv r1, iv 2, rv b134] [(.ref r1), (.int 0), (.ref b134), (.int 0), (.ref r1)]
  refine sT (fun t k => own_len X134 hx hZ e134 (V_r1.ext E134) (g := (mkF m 23 #[rv r1, iv 2, rv b134] [(.ref r1), (.int 0), (.ref b134), (.int 0), (.ref r1)])) rfl rfl (hb hby d9_23) _ k) ?_
  show gM p e below _ T134 m 24 #[rv r1, iv 2, rv b134] [(.int 1), (.int 0), (.ref b134), (.int 0), (.ref r1)]
  refine sT (fun t k => XS.iloadN X134.here hx rfl (hb hby d9_24) rfl k) ?_
  show gM p e below _ T134 m 25 #[rv r1, iv 2, rv b134] [(.int 2), (.int 1), (.int 0), (.ref b134), (.int 0), (.ref r1)]
  obtain ⟨_, _, ⟨T136, L136, k136, n136⟩, -, X136, ⟨Lc136, hQ136, l136, y136, z136⟩, st136⟩ := Jvm.LawKit.callS X134 hx (y := (⟨"java/lang/Math", "min", "(II)I"⟩ : MethodName)) hown (mvT hZ w97) (mvT hZ w98) (mvT hZ w17) (mvT hZ w99) (by decide) (backOf (W := 4) (own_mn l Z a0 hw [] (1 : Int32) (2 : Int32) ((1 : Int32)) h134 n0 (Nat.le_trans Z0 E134.1) rfl) hZ w99 w17 (by decide) (by decide)) (g := (mkF m 25 #[rv r1, iv 2, rv b134] [(.int 2), (.int 1), (.int 0), (.ref b134), (.int 0), (.ref r1)])) rfl (by rw [hml]; rfl) (argsL := [(.int 1), (.int 2)]) (rest := [(.int 0), (.ref b134), (.int 0), (.ref r1)]) (lenOf own_pd0 rfl) rfl (by show 2 * 0 + _ ≤ _; exact Nat.le_of_eq rfl) (hb hby d9_25) (fun _ _ => ⟨rfl, e134, (by decide : 1 + 0 ≤ _), (by decide : 2 + 0 ≤ _)⟩)
  dsimp only [Pt.U, Pt.locs, Pt.cells, Pt.slots] at X136 l136 y136 z136 st136 hQ136
  subst y136 z136
  obtain ⟨rfl, N136q, eh136⟩ := hQ136
  have N136 : Fr n0 L136 := by rw [l136]; exact Fr.app N0 N136q
  refine sT st136 ?_
  show gM p e below _ T136 m 28 #[rv r1, iv 2, rv b134] [(.int 1), (.int 0), (.ref b134), (.int 0), (.ref r1)]
  obtain ⟨T137, h137, L137, X137, e137, N137, K137c, V137q, st137⟩ := cpA X136 hx hZ hown w100 w89 w87 w88 eh136 (V_r1.ext E134) V134 (Or.inl ⟨rfl, rfl⟩) (sp := (0 : Int32)) (dp := (0 : Int32)) (nn := (1 : Int32)) (by decide) (by decide) (by decide) (by decide) (by decide) (us := (([x0] : List Int64).map Value.long)) rfl (Nat.le_of_ble_eq_true rfl) N136 g_b134 (g := (mkF m 28 #[rv r1, iv 2, rv b134] [(.int 1), (.int 0), (.ref b134), (.int 0), (.ref r1)])) rfl (by rw [hml]; rfl) rfl (hb hby d9_28) (by decide) (W := 0) (by show 2 * 0 + _ ≤ _; exact Nat.le_of_eq rfl) (by decide)
  have V137 : Arv Z h137 b134 k134 .long 2 (([x0, 0] : List Int64).map Value.long) (Value.long 0) := V137q
  have K138 : Keep h0 h137 [] := K135.trans K137c (allS (Or.inr sz_b134) all0)
  refine sT st137 ?_
  show gM p e below _ T137 m 31 #[rv r1, iv 2, rv b134] []
  refine sT (fun t k => XS.aloadN X137.here hx rfl (hb hby d9_31) rfl rfl k) ?_
  show gM p e below _ T137 m 32 #[rv r1, iv 2, rv b134] [(.ref b134)]
  refine own_retV X137 hx hlk Bd.returns (w := (.ref b134)) rfl (Or.inr (Or.inr (Or.inr (Or.inr ⟨rfl, rfl, rfl⟩)))) (hb hby d9_32) ?_ (by decide) (by decide)
  show own_co12_Q Z r1 k1 x0 h0 n0 _ T137.heap _
  rw [e137]
  exact ⟨b134, k134, rfl, N137, K138, sz_b134, V137⟩
theorem own_co23_ef (m : MethodId) (r1 : Addr) : entryFrame m #[(.ref r1), (.int 3)] 3 = mkF m 0 #[rv r1, iv 3, uN] [] := by first | (simp [entryFrame, mkF, argsToLocals, Value.category]; done) | rfl
def own_co23_Q (Z : State) (r1 : Addr) (k1 : ClassId) (x0 : Int64) (x1 : Int64) (h0 : Heap) (n0 : Nat) (v : Option Value) (h : Heap) (L : List Loc) : Prop := ∃ bb : Addr, ∃ kb : ClassId, v = some (.ref bb) ∧ Fr n0 L ∧ Keep h0 h [] ∧ h0.size ≤ bb ∧ Arv Z h bb kb .long 3 (([x0, x1, 0] : List Int64).map Value.long) (Value.long 0)
set_option maxRecDepth 65536 in
set_option maxHeartbeats 40000000 in
theorem own_co23 (l : Launch) (Z : State) (a0 : Array Value) (hw : ∀ d ∈ tables_1, d.before a0 Z = true) (ws : List Jvm.Cond) (r1 : Addr) (k1 : ClassId) (x0 : Int64) (x1 : Int64) (h0 : Heap) (n0 : Nat) (Z0 : n0 ≤ h0.size) (V_r1 : Arv Z h0 r1 k1 .long 2 (([x0, x1] : List Int64).map Value.long) (Value.long 0)) :
    MetFree l (⟨"java/util/Arrays", "copyOf", "([JI)[J"⟩ : MethodName) (head1 (Jvm.Cond.code (⟨"java/util/Arrays", "copyOf", "([JI)[J"⟩ : MethodName) jdk_65_method_124_code 3 (some (.array .long)) :: ws) ({ frames := 1, cells := 1, slots := 3, locals := 18 } : Room)) (fun aa U => aa = #[(.ref r1), (.int 3)] ∧ Z.Warmed39 U.vm ∧ U.heap = h0) (fun _ _ _ _ _ => True) (fun _ U o U' => ∃ v L, o = .returned v ∧ own_co23_Q Z r1 k1 x0 x1 h0 n0 v U'.heap L ∧ FrameEnd U o U' L ({ frames := 1, cells := 1, slots := 3, locals := 18 } : Room).cells ({ frames := 1, cells := 1, slots := 3, locals := 18 } : Room).slots) := by
  refine MetFree.of_bodySF (plainFor_of_name own_pn1) hisR ?_
  have w17 := hw _ (List.mem_of_getElem? (i := 17) rfl)
  have w19 := hw _ (List.mem_of_getElem? (i := 19) rfl)
  have w87 := hw _ (List.mem_of_getElem? (i := 87) rfl)
  have w88 := hw _ (List.mem_of_getElem? (i := 88) rfl)
  have w89 := hw _ (List.mem_of_getElem? (i := 89) rfl)
  have w97 := hw _ (List.mem_of_getElem? (i := 97) rfl)
  have w98 := hw _ (List.mem_of_getElem? (i := 98) rfl)
  have w99 := hw _ (List.mem_of_getElem? (i := 99) rfl)
  have w100 := hw _ (List.mem_of_getElem? (i := 100) rfl)
  intro p e s m args below meth c s₁ Bd hml0 hP hK
  obtain ⟨rfl, hZ, hh⟩ := hP
  have hx := Bd.exec
  have hby := Bd.bytes
  have hlk := Bd.notSynchronized
  have hml : c.maxLocals = 3 := hml0
  have hown : s.vm.findClass "java/util/Arrays" = some m.cls := findClass_of_methodNamed Bd.named
  have hnm := (name_of_methodNamed Bd.named Bd.method).1
  have X0 : Stand p l e ({ frames := 1, cells := 1, slots := 3, locals := 18 } : Room) s m #[(.ref r1), (.int 3)] below meth c s₁ [] 0 0 := Stand.of_body Bd
  have e0 : s₁.heap = h0 := by rw [← hh, Bd.state]; rfl
  have N0 := Fr.nil n0
  have K0 : Keep h0 h0 [] := Keep.refl h0 _
  show gS p e below (own_Fin s (own_co23_Q Z r1 k1 x0 x1 h0 n0) ({ frames := 1, cells := 1, slots := 3, locals := 18 } : Room).cells ({ frames := 1, cells := 1, slots := 3, locals := 18 } : Room).slots) _
  refine sT (fun t k => castTop (own_co23_ef m r1) k) ?_
  show gM p e below _ s₁ m 0 #[rv r1, iv 3, uN] []
  refine sT (fun t k => XS.iloadN X0.here hx rfl (hb hby d9_0) rfl k) ?_
  show gM p e below _ s₁ m 1 #[rv r1, iv 3, uN] [(.int 3)]
  refine sT (fun t k => XS.aloadN X0.here hx rfl (hb hby d9_1) rfl rfl k) ?_
  show gM p e below _ s₁ m 2 #[rv r1, iv 3, uN] [(.ref r1), (.int 3)]
  refine sT (fun t k => own_len X0 hx hZ e0 V_r1 (g := (mkF m 2 #[rv r1, iv 3, uN] [(.ref r1), (.int 3)])) rfl rfl (hb hby d9_2) _ k) ?_
  show gM p e below _ s₁ m 3 #[rv r1, iv 3, uN] [(.int 2), (.int 3)]
  have hc145 : ¬ ((3 : Int32) = (2 : Int32)) := by decide
  refine sT (fun t k => XS.icmpYes X0.here hx rfl (pc0 := 3) (pc' := 14) rfl (hb hby d9_3) rfl (feq hc145).2 (by decide) (by decide) k) ?_
  show gM p e below _ s₁ m 14 #[rv r1, iv 3, uN] []
  refine sT (fun t k => XS.iloadN X0.here hx rfl (hb hby d9_14) rfl k) ?_
  show gM p e below _ s₁ m 15 #[rv r1, iv 3, uN] [(.int 3)]
  obtain ⟨T146, h146, k146, X146, e146, E146, A146, st146⟩ := newP (aty := .long) X0 hx hZ w19 e0 (g := (mkF m 15 #[rv r1, iv 3, uN] [(.int 3)])) rfl (hb hby d9_15) rfl (by decide) (cap := 3) (by decide) (by decide) (by decide) (by decide)
  obtain ⟨b146, g146⟩ : ∃ z, z = h0.size := ⟨_, rfl⟩
  rw [← g146] at A146 st146
  have ne_r1_b146 : r1 ≠ b146 := Nat.ne_of_lt (Nat.lt_of_lt_of_le V_r1.lt (Nat.le_of_eq g146.symm))
  have g_b146 : n0 ≤ b146 := Nat.le_trans Z0 (Nat.le_of_eq g146.symm)
  have sz_b146 : h0.size ≤ b146 := Nat.le_trans K0.1 (Nat.le_of_eq g146.symm)
  have V146 : Arv Z h146 b146 k146 .long 3 (([0, 0, 0] : List Int64).map Value.long) (Value.long 0) := own_newJ A146 (by decide) 3
  have K147 : Keep h0 h146 [] := K0.ext E146
  refine sT st146 ?_
  show gM p e below _ T146 m 17 #[rv r1, iv 3, uN] [(.ref b146)]
  refine sT (fun t k => XS.astoreN X146.here hx rfl (hb hby d9_17) rfl rfl (l' := #[rv r1, iv 3, rv b146]) rfl k) ?_
  show gM p e below _ T146 m 18 #[rv r1, iv 3, rv b146] []
  refine sT (fun t k => XS.aloadN X146.here hx rfl (hb hby d9_18) rfl rfl k) ?_
  show gM p e below _ T146 m 19 #[rv r1, iv 3, rv b146] [(.ref r1)]
  refine sT (fun t k => XS.iconst X146.here hx rfl (hb hby d9_19) k) ?_
  show gM p e below _ T146 m 20 #[rv r1, iv 3, rv b146] [(.int 0), (.ref r1)]
  refine sT (fun t k => XS.aloadN X146.here hx rfl (hb hby d9_20) rfl rfl k) ?_
  show gM p e below _ T146 m 21 #[rv r1, iv 3, rv b146] [(.ref b146), (.int 0), (.ref r1)]
  refine sT (fun t k => XS.iconst X146.here hx rfl (hb hby d9_21) k) ?_
  show gM p e below _ T146 m 22 #[rv r1, iv 3, rv b146] [(.int 0), (.ref b146), (.int 0), (.ref r1)]
  refine sT (fun t k => XS.aloadN X146.here hx rfl (hb hby d9_22) rfl rfl k) ?_
  show gM p e below _ T146 m 23 #[rv r1, iv 3, rv b146] [(.ref r1), (.int 0), (.ref b146), (.int 0), (.ref r1)]
  refine sT (fun t k => own_len X146 hx hZ e146 (V_r1.ext E146) (g := (mkF m 23 #[rv r1, iv 3, rv b146] [(.ref r1), (.int 0), (.ref b146), (.int 0), (.ref r1)])) rfl rfl (hb hby d9_23) _ k) ?_
  show gM p e below _ T146 m 24 #[rv r1, iv 3, rv b146] [(.int 2), (.int 0), (.ref b146), (.int 0), (.ref r1)]
  refine sT (fun t k => XS.iloadN X146.here hx rfl (hb hby d9_24) rfl k) ?_
  show gM p e below _ T146 m 25 #[rv r1, iv 3, rv b146] [(.int 3), (.int 2), (.int 0), (.ref b146), (.int 0), (.ref r1)]
  obtain ⟨_, _, ⟨T148, L148, k148, n148⟩, -, X148, ⟨Lc148, hQ148, l148, y148, z148⟩, st148⟩ := Jvm.LawKit.callS X146 hx (y := (⟨"java/lang/Math", "min", "(II)I"⟩ : MethodName)) hown (mvT hZ w97) (mvT hZ w98) (mvT hZ w17) (mvT hZ w99) (by decide) (backOf (W := 4) (own_mn l Z a0 hw [] (2 : Int32) (3 : Int32) ((2 : Int32)) h146 n0 (Nat.le_trans Z0 E146.1) rfl) hZ w99 w17 (by decide) (by decide)) (g := (mkF m 25 #[rv r1, iv 3, rv b146] [(.int 3), (.int 2), (.int 0), (.ref b146), (.int 0), (.ref r1)])) rfl (by rw [hml]; rfl) (argsL := [(.int 2), (.int 3)]) (rest := [(.int 0), (.ref b146), (.int 0), (.ref r1)]) (lenOf own_pd0 rfl) rfl (by show 2 * 0 + _ ≤ _; exact Nat.le_of_eq rfl) (hb hby d9_25) (fun _ _ => ⟨rfl, e146, (by decide : 1 + 0 ≤ _), (by decide : 3 + 0 ≤ _)⟩)
  dsimp only [Pt.U, Pt.locs, Pt.cells, Pt.slots] at X148 l148 y148 z148 st148 hQ148
  subst y148 z148
  obtain ⟨rfl, N148q, eh148⟩ := hQ148
  have N148 : Fr n0 L148 := by rw [l148]; exact Fr.app N0 N148q
  refine sT st148 ?_
  show gM p e below _ T148 m 28 #[rv r1, iv 3, rv b146] [(.int 2), (.int 0), (.ref b146), (.int 0), (.ref r1)]
  obtain ⟨T149, h149, L149, X149, e149, N149, K149c, V149q, st149⟩ := cpA X148 hx hZ hown w100 w89 w87 w88 eh148 (V_r1.ext E146) V146 (Or.inl ⟨rfl, rfl⟩) (sp := (0 : Int32)) (dp := (0 : Int32)) (nn := (2 : Int32)) (by decide) (by decide) (by decide) (by decide) (by decide) (us := (([x0, x1] : List Int64).map Value.long)) rfl (Nat.le_of_ble_eq_true rfl) N148 g_b146 (g := (mkF m 28 #[rv r1, iv 3, rv b146] [(.int 2), (.int 0), (.ref b146), (.int 0), (.ref r1)])) rfl (by rw [hml]; rfl) rfl (hb hby d9_28) (by decide) (W := 0) (by show 2 * 0 + _ ≤ _; exact Nat.le_of_eq rfl) (by decide)
  have V149 : Arv Z h149 b146 k146 .long 3 (([x0, x1, 0] : List Int64).map Value.long) (Value.long 0) := V149q
  have K150 : Keep h0 h149 [] := K147.trans K149c (allS (Or.inr sz_b146) all0)
  refine sT st149 ?_
  show gM p e below _ T149 m 31 #[rv r1, iv 3, rv b146] []
  refine sT (fun t k => XS.aloadN X149.here hx rfl (hb hby d9_31) rfl rfl k) ?_
  show gM p e below _ T149 m 32 #[rv r1, iv 3, rv b146] [(.ref b146)]
  refine own_retV X149 hx hlk Bd.returns (w := (.ref b146)) rfl (Or.inr (Or.inr (Or.inr (Or.inr ⟨rfl, rfl, rfl⟩)))) (hb hby d9_32) ?_ (by decide) (by decide)
  show own_co23_Q Z r1 k1 x0 x1 h0 n0 _ T149.heap _
  rw [e149]
  exact ⟨b146, k146, rfl, N149, K150, sz_b146, V149⟩
theorem own_co24_ef (m : MethodId) (r1 : Addr) : entryFrame m #[(.ref r1), (.int 4)] 3 = mkF m 0 #[rv r1, iv 4, uN] [] := by first | (simp [entryFrame, mkF, argsToLocals, Value.category]; done) | rfl
def own_co24_Q (Z : State) (r1 : Addr) (k1 : ClassId) (x0 : Int64) (x1 : Int64) (h0 : Heap) (n0 : Nat) (v : Option Value) (h : Heap) (L : List Loc) : Prop := ∃ bb : Addr, ∃ kb : ClassId, v = some (.ref bb) ∧ Fr n0 L ∧ Keep h0 h [] ∧ h0.size ≤ bb ∧ Arv Z h bb kb .long 4 (([x0, x1, 0, 0] : List Int64).map Value.long) (Value.long 0)
set_option maxRecDepth 65536 in
set_option maxHeartbeats 40000000 in
theorem own_co24 (l : Launch) (Z : State) (a0 : Array Value) (hw : ∀ d ∈ tables_1, d.before a0 Z = true) (ws : List Jvm.Cond) (r1 : Addr) (k1 : ClassId) (x0 : Int64) (x1 : Int64) (h0 : Heap) (n0 : Nat) (Z0 : n0 ≤ h0.size) (V_r1 : Arv Z h0 r1 k1 .long 2 (([x0, x1] : List Int64).map Value.long) (Value.long 0)) :
    MetFree l (⟨"java/util/Arrays", "copyOf", "([JI)[J"⟩ : MethodName) (head1 (Jvm.Cond.code (⟨"java/util/Arrays", "copyOf", "([JI)[J"⟩ : MethodName) jdk_65_method_124_code 3 (some (.array .long)) :: ws) ({ frames := 1, cells := 1, slots := 4, locals := 18 } : Room)) (fun aa U => aa = #[(.ref r1), (.int 4)] ∧ Z.Warmed39 U.vm ∧ U.heap = h0) (fun _ _ _ _ _ => True) (fun _ U o U' => ∃ v L, o = .returned v ∧ own_co24_Q Z r1 k1 x0 x1 h0 n0 v U'.heap L ∧ FrameEnd U o U' L ({ frames := 1, cells := 1, slots := 4, locals := 18 } : Room).cells ({ frames := 1, cells := 1, slots := 4, locals := 18 } : Room).slots) := by
  refine MetFree.of_bodySF (plainFor_of_name own_pn1) hisR ?_
  have w17 := hw _ (List.mem_of_getElem? (i := 17) rfl)
  have w19 := hw _ (List.mem_of_getElem? (i := 19) rfl)
  have w87 := hw _ (List.mem_of_getElem? (i := 87) rfl)
  have w88 := hw _ (List.mem_of_getElem? (i := 88) rfl)
  have w89 := hw _ (List.mem_of_getElem? (i := 89) rfl)
  have w97 := hw _ (List.mem_of_getElem? (i := 97) rfl)
  have w98 := hw _ (List.mem_of_getElem? (i := 98) rfl)
  have w99 := hw _ (List.mem_of_getElem? (i := 99) rfl)
  have w100 := hw _ (List.mem_of_getElem? (i := 100) rfl)
  intro p e s m args below meth c s₁ Bd hml0 hP hK
  obtain ⟨rfl, hZ, hh⟩ := hP
  have hx := Bd.exec
  have hby := Bd.bytes
  have hlk := Bd.notSynchronized
  have hml : c.maxLocals = 3 := hml0
  have hown : s.vm.findClass "java/util/Arrays" = some m.cls := findClass_of_methodNamed Bd.named
  have hnm := (name_of_methodNamed Bd.named Bd.method).1
  have X0 : Stand p l e ({ frames := 1, cells := 1, slots := 4, locals := 18 } : Room) s m #[(.ref r1), (.int 4)] below meth c s₁ [] 0 0 := Stand.of_body Bd
  have e0 : s₁.heap = h0 := by rw [← hh, Bd.state]; rfl
  have N0 := Fr.nil n0
  have K0 : Keep h0 h0 [] := Keep.refl h0 _
  show gS p e below (own_Fin s (own_co24_Q Z r1 k1 x0 x1 h0 n0) ({ frames := 1, cells := 1, slots := 4, locals := 18 } : Room).cells ({ frames := 1, cells := 1, slots := 4, locals := 18 } : Room).slots) _
  refine sT (fun t k => castTop (own_co24_ef m r1) k) ?_
  show gM p e below _ s₁ m 0 #[rv r1, iv 4, uN] []
  refine sT (fun t k => XS.iloadN X0.here hx rfl (hb hby d9_0) rfl k) ?_
  show gM p e below _ s₁ m 1 #[rv r1, iv 4, uN] [(.int 4)]
  refine sT (fun t k => XS.aloadN X0.here hx rfl (hb hby d9_1) rfl rfl k) ?_
  show gM p e below _ s₁ m 2 #[rv r1, iv 4, uN] [(.ref r1), (.int 4)]
  refine sT (fun t k => own_len X0 hx hZ e0 V_r1 (g := (mkF m 2 #[rv r1, iv 4, uN] [(.ref r1), (.int 4)])) rfl rfl (hb hby d9_2) _ k) ?_
  show gM p e below _ s₁ m 3 #[rv r1, iv 4, uN] [(.int 2), (.int 4)]
  have hc157 : ¬ ((4 : Int32) = (2 : Int32)) := by decide
  refine sT (fun t k => XS.icmpYes X0.here hx rfl (pc0 := 3) (pc' := 14) rfl (hb hby d9_3) rfl (feq hc157).2 (by decide) (by decide) k) ?_
  show gM p e below _ s₁ m 14 #[rv r1, iv 4, uN] []
  refine sT (fun t k => XS.iloadN X0.here hx rfl (hb hby d9_14) rfl k) ?_
  show gM p e below _ s₁ m 15 #[rv r1, iv 4, uN] [(.int 4)]
  obtain ⟨T158, h158, k158, X158, e158, E158, A158, st158⟩ := newP (aty := .long) X0 hx hZ w19 e0 (g := (mkF m 15 #[rv r1, iv 4, uN] [(.int 4)])) rfl (hb hby d9_15) rfl (by decide) (cap := 4) (by decide) (by decide) (by decide) (by decide)
  obtain ⟨b158, g158⟩ : ∃ z, z = h0.size := ⟨_, rfl⟩
  rw [← g158] at A158 st158
  have ne_r1_b158 : r1 ≠ b158 := Nat.ne_of_lt (Nat.lt_of_lt_of_le V_r1.lt (Nat.le_of_eq g158.symm))
  have g_b158 : n0 ≤ b158 := Nat.le_trans Z0 (Nat.le_of_eq g158.symm)
  have sz_b158 : h0.size ≤ b158 := Nat.le_trans K0.1 (Nat.le_of_eq g158.symm)
  have V158 : Arv Z h158 b158 k158 .long 4 (([0, 0, 0, 0] : List Int64).map Value.long) (Value.long 0) := own_newJ A158 (by decide) 4
  have K159 : Keep h0 h158 [] := K0.ext E158
  refine sT st158 ?_
  show gM p e below _ T158 m 17 #[rv r1, iv 4, uN] [(.ref b158)]
  refine sT (fun t k => XS.astoreN X158.here hx rfl (hb hby d9_17) rfl rfl (l' := #[rv r1, iv 4, rv b158]) rfl k) ?_
  show gM p e below _ T158 m 18 #[rv r1, iv 4, rv b158] []
  refine sT (fun t k => XS.aloadN X158.here hx rfl (hb hby d9_18) rfl rfl k) ?_
  show gM p e below _ T158 m 19 #[rv r1, iv 4, rv b158] [(.ref r1)]
  refine sT (fun t k => XS.iconst X158.here hx rfl (hb hby d9_19) k) ?_
  show gM p e below _ T158 m 20 #[rv r1, iv 4, rv b158] [(.int 0), (.ref r1)]
  refine sT (fun t k => XS.aloadN X158.here hx rfl (hb hby d9_20) rfl rfl k) ?_
  show gM p e below _ T158 m 21 #[rv r1, iv 4, rv b158] [(.ref b158), (.int 0), (.ref r1)]
  refine sT (fun t k => XS.iconst X158.here hx rfl (hb hby d9_21) k) ?_
  show gM p e below _ T158 m 22 #[rv r1, iv 4, rv b158] [(.int 0), (.ref b158), (.int 0), (.ref r1)]
  refine sT (fun t k => XS.aloadN X158.here hx rfl (hb hby d9_22) rfl rfl k) ?_
  show gM p e below _ T158 m 23 #[rv r1, iv 4, rv b158] [(.ref r1), (.int 0), (.ref b158), (.int 0), (.ref r1)]
  refine sT (fun t k => own_len X158 hx hZ e158 (V_r1.ext E158) (g := (mkF m 23 #[rv r1, iv 4, rv b158] [(.ref r1), (.int 0), (.ref b158), (.int 0), (.ref r1)])) rfl rfl (hb hby d9_23) _ k) ?_
  show gM p e below _ T158 m 24 #[rv r1, iv 4, rv b158] [(.int 2), (.int 0), (.ref b158), (.int 0), (.ref r1)]
  refine sT (fun t k => XS.iloadN X158.here hx rfl (hb hby d9_24) rfl k) ?_
  show gM p e below _ T158 m 25 #[rv r1, iv 4, rv b158] [(.int 4), (.int 2), (.int 0), (.ref b158), (.int 0), (.ref r1)]
  obtain ⟨_, _, ⟨T160, L160, k160, n160⟩, -, X160, ⟨Lc160, hQ160, l160, y160, z160⟩, st160⟩ := Jvm.LawKit.callS X158 hx (y := (⟨"java/lang/Math", "min", "(II)I"⟩ : MethodName)) hown (mvT hZ w97) (mvT hZ w98) (mvT hZ w17) (mvT hZ w99) (by decide) (backOf (W := 4) (own_mn l Z a0 hw [] (2 : Int32) (4 : Int32) ((2 : Int32)) h158 n0 (Nat.le_trans Z0 E158.1) rfl) hZ w99 w17 (by decide) (by decide)) (g := (mkF m 25 #[rv r1, iv 4, rv b158] [(.int 4), (.int 2), (.int 0), (.ref b158), (.int 0), (.ref r1)])) rfl (by rw [hml]; rfl) (argsL := [(.int 2), (.int 4)]) (rest := [(.int 0), (.ref b158), (.int 0), (.ref r1)]) (lenOf own_pd0 rfl) rfl (by show 2 * 0 + _ ≤ _; exact Nat.le_of_eq rfl) (hb hby d9_25) (fun _ _ => ⟨rfl, e158, (by decide : 1 + 0 ≤ _), (by decide : 4 + 0 ≤ _)⟩)
  dsimp only [Pt.U, Pt.locs, Pt.cells, Pt.slots] at X160 l160 y160 z160 st160 hQ160
  subst y160 z160
  obtain ⟨rfl, N160q, eh160⟩ := hQ160
  have N160 : Fr n0 L160 := by rw [l160]; exact Fr.app N0 N160q
  refine sT st160 ?_
  show gM p e below _ T160 m 28 #[rv r1, iv 4, rv b158] [(.int 2), (.int 0), (.ref b158), (.int 0), (.ref r1)]
  obtain ⟨T161, h161, L161, X161, e161, N161, K161c, V161q, st161⟩ := cpA X160 hx hZ hown w100 w89 w87 w88 eh160 (V_r1.ext E158) V158 (Or.inl ⟨rfl, rfl⟩) (sp := (0 : Int32)) (dp := (0 : Int32)) (nn := (2 : Int32)) (by decide) (by decide) (by decide) (by decide) (by decide) (us := (([x0, x1] : List Int64).map Value.long)) rfl (Nat.le_of_ble_eq_true rfl) N160 g_b158 (g := (mkF m 28 #[rv r1, iv 4, rv b158] [(.int 2), (.int 0), (.ref b158), (.int 0), (.ref r1)])) rfl (by rw [hml]; rfl) rfl (hb hby d9_28) (by decide) (W := 0) (by show 2 * 0 + _ ≤ _; exact Nat.le_of_eq rfl) (by decide)
  have V161 : Arv Z h161 b158 k158 .long 4 (([x0, x1, 0, 0] : List Int64).map Value.long) (Value.long 0) := V161q
  have K162 : Keep h0 h161 [] := K159.trans K161c (allS (Or.inr sz_b158) all0)
  refine sT st161 ?_
  show gM p e below _ T161 m 31 #[rv r1, iv 4, rv b158] []
  refine sT (fun t k => XS.aloadN X161.here hx rfl (hb hby d9_31) rfl rfl k) ?_
  show gM p e below _ T161 m 32 #[rv r1, iv 4, rv b158] [(.ref b158)]
  refine own_retV X161 hx hlk Bd.returns (w := (.ref b158)) rfl (Or.inr (Or.inr (Or.inr (Or.inr ⟨rfl, rfl, rfl⟩)))) (hb hby d9_32) ?_ (by decide) (by decide)
  show own_co24_Q Z r1 k1 x0 x1 h0 n0 _ T161.heap _
  rw [e161]
  exact ⟨b158, k158, rfl, N161, K162, sz_b158, V161⟩
theorem d10_0 : decode prog_128_method_11_code 0 = .ok (.aload_n 0, 1) := by decide +kernel
theorem d10_1 : decode prog_128_method_11_code 1 = .ok (.getfield 44, 3) := by decide +kernel
theorem d10_4 : decode prog_128_method_11_code 4 = .ok (.aload_n 0, 1) := by decide +kernel
theorem d10_5 : decode prog_128_method_11_code 5 = .ok (.getfield 25, 3) := by decide +kernel
theorem d10_8 : decode prog_128_method_11_code 8 = .ok (.arraylength, 1) := by decide +kernel
theorem d10_9 : decode prog_128_method_11_code 9 = .ok (.if_icmp .ne 69, 3) := by decide +kernel
theorem d10_78 : decode prog_128_method_11_code 78 = .ok (.aload_n 0, 1) := by decide +kernel
theorem d10_79 : decode prog_128_method_11_code 79 = .ok (.getfield 25, 3) := by decide +kernel
theorem d10_82 : decode prog_128_method_11_code 82 = .ok (.aload_n 0, 1) := by decide +kernel
theorem d10_83 : decode prog_128_method_11_code 83 = .ok (.getfield 44, 3) := by decide +kernel
theorem d10_86 : decode prog_128_method_11_code 86 = .ok (.lload_n 1, 1) := by decide +kernel
theorem d10_87 : decode prog_128_method_11_code 87 = .ok (.lastore, 1) := by decide +kernel
theorem d10_88 : decode prog_128_method_11_code 88 = .ok (.aload_n 0, 1) := by decide +kernel
theorem d10_89 : decode prog_128_method_11_code 89 = .ok (.getfield 29, 3) := by decide +kernel
theorem d10_92 : decode prog_128_method_11_code 92 = .ok (.aload_n 0, 1) := by decide +kernel
theorem d10_93 : decode prog_128_method_11_code 93 = .ok (.getfield 44, 3) := by decide +kernel
theorem d10_96 : decode prog_128_method_11_code 96 = .ok (.lload_n 3, 1) := by decide +kernel
theorem d10_97 : decode prog_128_method_11_code 97 = .ok (.lastore, 1) := by decide +kernel
theorem d10_98 : decode prog_128_method_11_code 98 = .ok (.aload_n 0, 1) := by decide +kernel
theorem d10_99 : decode prog_128_method_11_code 99 = .ok (.dup, 1) := by decide +kernel
theorem d10_100 : decode prog_128_method_11_code 100 = .ok (.getfield 44, 3) := by decide +kernel
theorem d10_103 : decode prog_128_method_11_code 103 = .ok (.iconst 1, 1) := by decide +kernel
theorem d10_104 : decode prog_128_method_11_code 104 = .ok (.iadd, 1) := by decide +kernel
theorem d10_105 : decode prog_128_method_11_code 105 = .ok (.putfield 44, 3) := by decide +kernel
theorem d10_108 : decode prog_128_method_11_code 108 = .ok (.return_, 1) := by decide +kernel
theorem own_ap0_ef (m : MethodId) (a1 : Addr) (q1 : Int64) (q2 : Int64) : entryFrame m #[(.ref a1), (.long q1), (.long q2)] 6 = mkF m 0 #[rv a1, lv q1, sN, lv q2, sN, uN] [] := by first | (simp [entryFrame, mkF, argsToLocals, Value.category]; done) | rfl
def own_ap0_Q (Z : State) (a1 : Addr) (q1 : Int64) (q2 : Int64) (bb : Addr) (cc : Addr) (kb : ClassId) (kc : ClassId) (z1 : Int32) (xs1 : List Int64) (ys1 : List Int64) (mo : Int32) (uo : Value) (ut : Value) (h0 : Heap) (n0 : Nat) (v : Option Value) (h : Heap) (L : List Loc) : Prop := ∃ b2 : Addr, ∃ c2 : Addr, ∃ k2 : ClassId, ∃ k3 : ClassId, ∃ z2 : Int32, ∃ xs2 : List Int64, ∃ ys2 : List Int64, v = none ∧ Fr n0 L ∧ Keep h0 h [a1, bb, cc] ∧ (h0.size ≤ b2 ∨ b2 = bb) ∧ (h0.size ≤ c2 ∨ c2 = cc) ∧ a1 ≠ b2 ∧ a1 ≠ c2 ∧ b2 ≠ c2 ∧ Exa Z h a1 oS ∧ Fld Z h a1 oS "size" "I" (.int 1) ∧ Fld Z h a1 oS "most" "I" (.int mo) ∧ Fld Z h a1 oS "blocks" "[J" (.ref b2) ∧ Fld Z h a1 oS "bits" "[J" (.ref c2) ∧ Fld Z h a1 oS "ordered" "I" uo ∧ Fld Z h a1 oS "table" "[I" ut ∧ Arv Z h b2 k2 .long z2 (xs2.map Value.long) (Value.long 0) ∧ Arv Z h c2 k3 .long z2 (ys2.map Value.long) (Value.long 0) ∧ z2 = own_nl (0 : Int32) z1 mo ∧ xs2.length = z2.toNatClampNeg ∧ ys2.length = z2.toNatClampNeg ∧ xs2.getD (0 : Int32).toNatClampNeg 0 = q1
set_option maxRecDepth 65536 in
set_option maxHeartbeats 40000000 in
theorem own_ap0 (l : Launch) (Z : State) (a0 : Array Value) (hw : ∀ d ∈ tables_1, d.before a0 Z = true) (ws : List Jvm.Cond) (a1 : Addr) (q1 : Int64) (q2 : Int64) (bb : Addr) (cc : Addr) (kb : ClassId) (kc : ClassId) (z1 : Int32) (xs1 : List Int64) (ys1 : List Int64) (mo : Int32) (uo : Value) (ut : Value) (h0 : Heap) (n0 : Nat) (Z0 : n0 ≤ h0.size) (E_a1 : Exa Z h0 a1 oS) (g_a1 : n0 ≤ a1) (F_size_a1 : Fld Z h0 a1 oS "size" "I" (.int 0)) (F_most_a1 : Fld Z h0 a1 oS "most" "I" (.int mo)) (F_blocks_a1 : Fld Z h0 a1 oS "blocks" "[J" (.ref bb)) (F_bits_a1 : Fld Z h0 a1 oS "bits" "[J" (.ref cc)) (V_bb : Arv Z h0 bb kb .long z1 (xs1.map Value.long) (Value.long 0)) (V_cc : Arv Z h0 cc kc .long z1 (ys1.map Value.long) (Value.long 0)) (g_bb : n0 ≤ bb) (g_cc : n0 ≤ cc) (ne_a1_bb : a1 ≠ bb) (ne_a1_cc : a1 ≠ cc) (ne_bb_cc : bb ≠ cc) (hz : ¬ z1 < (1 : Int32)) (hxl : xs1.length = z1.toNatClampNeg) (hyl : ys1.length = z1.toNatClampNeg) (F_ordered_a1 : Fld Z h0 a1 oS "ordered" "I" uo) (F_table_a1 : Fld Z h0 a1 oS "table" "[I" ut) :
    MetFree l (⟨oS, "append", "(JJ)V"⟩ : MethodName) (head1 (Jvm.Cond.code (⟨oS, "append", "(JJ)V"⟩ : MethodName) prog_128_method_11_code 6 none :: ws) ({ frames := 0, cells := 0, slots := 0, locals := 0 } : Room)) (fun aa U => aa = #[(.ref a1), (.long q1), (.long q2)] ∧ Z.Warmed39 U.vm ∧ U.heap = h0) (fun _ _ _ _ _ => True) (fun _ U o U' => ∃ v L, o = .returned v ∧ own_ap0_Q Z a1 q1 q2 bb cc kb kc z1 xs1 ys1 mo uo ut h0 n0 v U'.heap L ∧ FrameEnd U o U' L ({ frames := 0, cells := 0, slots := 0, locals := 0 } : Room).cells ({ frames := 0, cells := 0, slots := 0, locals := 0 } : Room).slots) := by
  refine MetFree.of_bodySF (plainFor_of_name own_pn0) hisR ?_
  have w1 := hw _ (List.mem_of_getElem? (i := 1) rfl)
  have w14 := hw _ (List.mem_of_getElem? (i := 14) rfl)
  have w20 := hw _ (List.mem_of_getElem? (i := 20) rfl)
  have w21 := hw _ (List.mem_of_getElem? (i := 21) rfl)
  have w22 := hw _ (List.mem_of_getElem? (i := 22) rfl)
  have w23 := hw _ (List.mem_of_getElem? (i := 23) rfl)
  have w36 := hw _ (List.mem_of_getElem? (i := 36) rfl)
  have w42 := hw _ (List.mem_of_getElem? (i := 42) rfl)
  have w43 := hw _ (List.mem_of_getElem? (i := 43) rfl)
  have w49 := hw _ (List.mem_of_getElem? (i := 49) rfl)
  intro p e s m args below meth c s₁ Bd hml0 hP hK
  obtain ⟨rfl, hZ, hh⟩ := hP
  have hx := Bd.exec
  have hby := Bd.bytes
  have hlk := Bd.notSynchronized
  have hml : c.maxLocals = 6 := hml0
  have hown : s.vm.findClass oS = some m.cls := findClass_of_methodNamed Bd.named
  have hnm := (name_of_methodNamed Bd.named Bd.method).1
  have X0 : Stand p l e ({ frames := 0, cells := 0, slots := 0, locals := 0 } : Room) s m #[(.ref a1), (.long q1), (.long q2)] below meth c s₁ [] 0 0 := Stand.of_body Bd
  have e0 : s₁.heap = h0 := by rw [← hh, Bd.state]; rfl
  have N0 := Fr.nil n0
  have K0 : Keep h0 h0 [a1, bb, cc] := Keep.refl h0 _
  show gS p e below (own_Fin s (own_ap0_Q Z a1 q1 q2 bb cc kb kc z1 xs1 ys1 mo uo ut h0 n0) ({ frames := 0, cells := 0, slots := 0, locals := 0 } : Room).cells ({ frames := 0, cells := 0, slots := 0, locals := 0 } : Room).slots) _
  refine sT (fun t k => castTop (own_ap0_ef m a1 q1 q2) k) ?_
  show gM p e below _ s₁ m 0 #[rv a1, lv q1, sN, lv q2, sN, uN] []
  refine sT (fun t k => XS.aloadN X0.here hx rfl (hb hby d10_0) rfl rfl k) ?_
  show gM p e below _ s₁ m 1 #[rv a1, lv q1, sN, lv q2, sN, uN] [(.ref a1)]
  obtain ⟨T177, X177, e177, st177⟩ := getF X0 hx hZ hown (host := "") (Or.inl w42) Via.refl e0 F_size_a1 (g := (mkF m 1 #[rv a1, lv q1, sN, lv q2, sN, uN] [(.ref a1)])) rfl rfl (hb hby d10_1)
  refine sT st177 ?_
  show gM p e below _ T177 m 4 #[rv a1, lv q1, sN, lv q2, sN, uN] [(.int 0)]
  refine sT (fun t k => XS.aloadN X177.here hx rfl (hb hby d10_4) rfl rfl k) ?_
  show gM p e below _ T177 m 5 #[rv a1, lv q1, sN, lv q2, sN, uN] [(.ref a1), (.int 0)]
  obtain ⟨T178, X178, e178, st178⟩ := getF X177 hx hZ hown (host := "") (Or.inl w20) Via.refl e177 F_blocks_a1 (g := (mkF m 5 #[rv a1, lv q1, sN, lv q2, sN, uN] [(.ref a1), (.int 0)])) rfl rfl (hb hby d10_5)
  refine sT st178 ?_
  show gM p e below _ T178 m 8 #[rv a1, lv q1, sN, lv q2, sN, uN] [(.ref bb), (.int 0)]
  refine sT (fun t k => own_len X178 hx hZ e178 V_bb (g := (mkF m 8 #[rv a1, lv q1, sN, lv q2, sN, uN] [(.ref bb), (.int 0)])) rfl rfl (hb hby d10_8) _ k) ?_
  show gM p e below _ T178 m 9 #[rv a1, lv q1, sN, lv q2, sN, uN] [(.int z1), (.int 0)]
  have hc179 : ¬ ((0 : Int32) = z1) := (fun zq => hz (by rw [← zq]; decide))
  refine sT (fun t k => XS.icmpYes X178.here hx rfl (pc0 := 9) (pc' := 78) rfl (hb hby d10_9) rfl (feq hc179).2 (by decide) (by decide) k) ?_
  show gM p e below _ T178 m 78 #[rv a1, lv q1, sN, lv q2, sN, uN] []
  refine sT (fun t k => XS.aloadN X178.here hx rfl (hb hby d10_78) rfl rfl k) ?_
  show gM p e below _ T178 m 79 #[rv a1, lv q1, sN, lv q2, sN, uN] [(.ref a1)]
  obtain ⟨T180, X180, e180, st180⟩ := getF X178 hx hZ hown (host := "") (Or.inl w20) Via.refl e178 F_blocks_a1 (g := (mkF m 79 #[rv a1, lv q1, sN, lv q2, sN, uN] [(.ref a1)])) rfl rfl (hb hby d10_79)
  refine sT st180 ?_
  show gM p e below _ T180 m 82 #[rv a1, lv q1, sN, lv q2, sN, uN] [(.ref bb)]
  refine sT (fun t k => XS.aloadN X180.here hx rfl (hb hby d10_82) rfl rfl k) ?_
  show gM p e below _ T180 m 83 #[rv a1, lv q1, sN, lv q2, sN, uN] [(.ref a1), (.ref bb)]
  obtain ⟨T181, X181, e181, st181⟩ := getF X180 hx hZ hown (host := "") (Or.inl w42) Via.refl e180 F_size_a1 (g := (mkF m 83 #[rv a1, lv q1, sN, lv q2, sN, uN] [(.ref a1), (.ref bb)])) rfl rfl (hb hby d10_83)
  refine sT st181 ?_
  show gM p e below _ T181 m 86 #[rv a1, lv q1, sN, lv q2, sN, uN] [(.int 0), (.ref bb)]
  refine sT (fun t k => XS.lloadN X181.here hx rfl (hb hby d10_86) rfl k) ?_
  show gM p e below _ T181 m 87 #[rv a1, lv q1, sN, lv q2, sN, uN] [(.long q1), (.int 0), (.ref bb)]
  obtain ⟨T182, h182, X182, e182, W182, V182, st182⟩ := own_lst X181 hx hZ e181 V_bb (j := (0 : Int32)) (own_in (by decide) (own_w hz) (by assumption)) (0) rfl (own_il (n := (0 : Int32)) (by decide) (own_w hz) hxl (by assumption)) (g := (mkF m 87 #[rv a1, lv q1, sN, lv q2, sN, uN] [(.long q1), (.int 0), (.ref bb)])) rfl rfl (hb hby d10_87)
  have V182 : Arv Z h182 bb kb .long z1 ((xs1.set (0) q1).map Value.long) (Value.long 0) := V182
  have N182 := Fr.snoc X182 N0 g_bb
  have K183 : Keep h0 h182 [a1, bb, cc] := K0.wr W182 (Or.inl (List.mem_of_getElem? (i := 1) rfl))
  refine sT st182 ?_
  show gM p e below _ T182 m 88 #[rv a1, lv q1, sN, lv q2, sN, uN] []
  refine sT (fun t k => XS.aloadN X182.here hx rfl (hb hby d10_88) rfl rfl k) ?_
  show gM p e below _ T182 m 89 #[rv a1, lv q1, sN, lv q2, sN, uN] [(.ref a1)]
  obtain ⟨T184, X184, e184, st184⟩ := getF X182 hx hZ hown (host := "") (Or.inl w22) Via.refl e182 (F_bits_a1.other W182 (Or.inl ne_a1_bb)) (g := (mkF m 89 #[rv a1, lv q1, sN, lv q2, sN, uN] [(.ref a1)])) rfl rfl (hb hby d10_89)
  refine sT st184 ?_
  show gM p e below _ T184 m 92 #[rv a1, lv q1, sN, lv q2, sN, uN] [(.ref cc)]
  refine sT (fun t k => XS.aloadN X184.here hx rfl (hb hby d10_92) rfl rfl k) ?_
  show gM p e below _ T184 m 93 #[rv a1, lv q1, sN, lv q2, sN, uN] [(.ref a1), (.ref cc)]
  obtain ⟨T185, X185, e185, st185⟩ := getF X184 hx hZ hown (host := "") (Or.inl w42) Via.refl e184 (F_size_a1.other W182 (Or.inl ne_a1_bb)) (g := (mkF m 93 #[rv a1, lv q1, sN, lv q2, sN, uN] [(.ref a1), (.ref cc)])) rfl rfl (hb hby d10_93)
  refine sT st185 ?_
  show gM p e below _ T185 m 96 #[rv a1, lv q1, sN, lv q2, sN, uN] [(.int 0), (.ref cc)]
  refine sT (fun t k => XS.lloadN X185.here hx rfl (hb hby d10_96) rfl k) ?_
  show gM p e below _ T185 m 97 #[rv a1, lv q1, sN, lv q2, sN, uN] [(.long q2), (.int 0), (.ref cc)]
  obtain ⟨T186, h186, X186, e186, W186, V186, st186⟩ := own_lst X185 hx hZ e185 (V_cc.other W182 (Ne.symm ne_bb_cc)) (j := (0 : Int32)) (own_in (by decide) (own_w hz) (by assumption)) (0) rfl (own_il (n := (0 : Int32)) (by decide) (own_w hz) hyl (by assumption)) (g := (mkF m 97 #[rv a1, lv q1, sN, lv q2, sN, uN] [(.long q2), (.int 0), (.ref cc)])) rfl rfl (hb hby d10_97)
  have V186 : Arv Z h186 cc kc .long z1 ((ys1.set (0) q2).map Value.long) (Value.long 0) := V186
  have N186 := Fr.snoc X186 N182 g_cc
  have K187 : Keep h0 h186 [a1, bb, cc] := K183.wr W186 (Or.inl (List.mem_of_getElem? (i := 2) rfl))
  refine sT st186 ?_
  show gM p e below _ T186 m 98 #[rv a1, lv q1, sN, lv q2, sN, uN] []
  refine sT (fun t k => XS.aloadN X186.here hx rfl (hb hby d10_98) rfl rfl k) ?_
  show gM p e below _ T186 m 99 #[rv a1, lv q1, sN, lv q2, sN, uN] [(.ref a1)]
  refine sT (fun t k => XS.dup X186.here hx rfl (hb hby d10_99) rfl rfl k) ?_
  show gM p e below _ T186 m 100 #[rv a1, lv q1, sN, lv q2, sN, uN] [(.ref a1), (.ref a1)]
  obtain ⟨T188, X188, e188, st188⟩ := getF X186 hx hZ hown (host := "") (Or.inl w42) Via.refl e186 ((F_size_a1.other W182 (Or.inl ne_a1_bb)).other W186 (Or.inl ne_a1_cc)) (g := (mkF m 100 #[rv a1, lv q1, sN, lv q2, sN, uN] [(.ref a1), (.ref a1)])) rfl rfl (hb hby d10_100)
  refine sT st188 ?_
  show gM p e below _ T188 m 103 #[rv a1, lv q1, sN, lv q2, sN, uN] [(.int 0), (.ref a1)]
  refine sT (fun t k => XS.iconst X188.here hx rfl (hb hby d10_103) k) ?_
  show gM p e below _ T188 m 104 #[rv a1, lv q1, sN, lv q2, sN, uN] [(.int 1), (.int 0), (.ref a1)]
  refine sT (fun t k => XS.iadd X188.here hx rfl (hb hby d10_104) rfl k) ?_
  show gM p e below _ T188 m 105 #[rv a1, lv q1, sN, lv q2, sN, uN] [(.int 1), (.ref a1)]
  obtain ⟨T189, h189, X189, e189, W189, st189⟩ := putF X188 hx hZ hown (host := "") (Or.inl w42) Via.refl e188 ((F_size_a1.other W182 (Or.inl ne_a1_bb)).other W186 (Or.inl ne_a1_cc)) ((E_a1.wr W182).wr W186) (Or.inl w43) w1 (ty := .int) (by decide) rfl rfl (g := (mkF m 105 #[rv a1, lv q1, sN, lv q2, sN, uN] [(.int 1), (.ref a1)])) rfl rfl (hb hby d10_105)
  have Fw189 := ((F_size_a1.other W182 (Or.inl ne_a1_bb)).other W186 (Or.inl ne_a1_cc)).same W189
  have N189 := Fr.snoc X189 N186 g_a1
  have K190 : Keep h0 h189 [a1, bb, cc] := K187.wr W189 (Or.inl (List.mem_of_getElem? (i := 0) rfl))
  refine sT st189 ?_
  show gM p e below _ T189 m 108 #[rv a1, lv q1, sN, lv q2, sN, uN] []
  refine own_ret0 X189 hx hlk Bd.returns (hb hby d10_108) ?_ (by decide) (by decide)
  show own_ap0_Q Z a1 q1 q2 bb cc kb kc z1 xs1 ys1 mo uo ut h0 n0 _ T189.heap _
  rw [e189]
  exact ⟨bb, cc, kb, kc, z1, (xs1.set (0) q1), (ys1.set (0) q2), rfl, N189, K190, (Or.inr rfl), (Or.inr rfl), ne_a1_bb, ne_a1_cc, ne_bb_cc, (((E_a1.wr W182).wr W186).wr W189), Fw189, (((F_most_a1.other W182 (Or.inl ne_a1_bb)).other W186 (Or.inl ne_a1_cc)).other W189 (Or.inr (slot_ne (Or.inl w14) (Or.inl w43) (by decide) (t := .int) (t' := .int) (by decide) (by decide)))), (((F_blocks_a1.other W182 (Or.inl ne_a1_bb)).other W186 (Or.inl ne_a1_cc)).other W189 (Or.inr (slot_ne (Or.inl w21) (Or.inl w43) (by decide) (t := (.array .long)) (t' := .int) (by decide) (by decide)))), (((F_bits_a1.other W182 (Or.inl ne_a1_bb)).other W186 (Or.inl ne_a1_cc)).other W189 (Or.inr (slot_ne (Or.inl w23) (Or.inl w43) (by decide) (t := (.array .long)) (t' := .int) (by decide) (by decide)))), (((F_ordered_a1.other W182 (Or.inl ne_a1_bb)).other W186 (Or.inl ne_a1_cc)).other W189 (Or.inr (slot_ne (Or.inl w49) (Or.inl w43) (by decide) (t := .int) (t' := .int) (by decide) (by decide)))), (((F_table_a1.other W182 (Or.inl ne_a1_bb)).other W186 (Or.inl ne_a1_cc)).other W189 (Or.inr (slot_ne (Or.inl w36) (Or.inl w43) (by decide) (t := (.array .int)) (t' := .int) (by decide) (by decide)))), ((V182.other W186 ne_bb_cc).other W189 (Ne.symm ne_a1_bb)), (V186.other W189 (Ne.symm ne_a1_cc)), (by rw [own_nl, if_neg hc179]), (by rw [List.length_set]; exact hxl), (by rw [List.length_set]; exact hyl), (own_gh (own_il (n := (0 : Int32)) (by decide) (own_w hz) hxl hc179))⟩
theorem d10_12 : decode prog_128_method_11_code 12 = .ok (.aload_n 0, 1) := by decide +kernel
theorem d10_13 : decode prog_128_method_11_code 13 = .ok (.getfield 44, 3) := by decide +kernel
theorem d10_16 : decode prog_128_method_11_code 16 = .ok (.aload_n 0, 1) := by decide +kernel
theorem d10_17 : decode prog_128_method_11_code 17 = .ok (.getfield 15, 3) := by decide +kernel
theorem d10_20 : decode prog_128_method_11_code 20 = .ok (.if_icmp .ge 24, 3) := by decide +kernel
theorem d10_23 : decode prog_128_method_11_code 23 = .ok (.ldc2_w 78, 3) := by decide +kernel
theorem d10_26 : decode prog_128_method_11_code 26 = .ok (.aload_n 0, 1) := by decide +kernel
theorem d10_27 : decode prog_128_method_11_code 27 = .ok (.getfield 44, 3) := by decide +kernel
theorem d10_30 : decode prog_128_method_11_code 30 = .ok (.i2l, 1) := by decide +kernel
theorem d10_31 : decode prog_128_method_11_code 31 = .ok (.lmul, 1) := by decide +kernel
theorem d10_32 : decode prog_128_method_11_code 32 = .ok (.aload_n 0, 1) := by decide +kernel
theorem d10_33 : decode prog_128_method_11_code 33 = .ok (.getfield 15, 3) := by decide +kernel
theorem d10_36 : decode prog_128_method_11_code 36 = .ok (.i2l, 1) := by decide +kernel
theorem own_pd3 : parseMethodDescriptor "(JJ)J" = some ⟨[.long, .long], some .long⟩ := by decide +kernel
theorem d10_37 : decode prog_128_method_11_code 37 = .ok (.invokestatic 80, 3) := by decide +kernel
theorem d10_40 : decode prog_128_method_11_code 40 = .ok (.l2i, 1) := by decide +kernel
theorem d10_41 : decode prog_128_method_11_code 41 = .ok (.goto 9, 3) := by decide +kernel
theorem d10_50 : decode prog_128_method_11_code 50 = .ok (.istore 5, 2) := by decide +kernel
theorem d10_52 : decode prog_128_method_11_code 52 = .ok (.aload_n 0, 1) := by decide +kernel
theorem d10_53 : decode prog_128_method_11_code 53 = .ok (.aload_n 0, 1) := by decide +kernel
theorem d10_54 : decode prog_128_method_11_code 54 = .ok (.getfield 25, 3) := by decide +kernel
theorem d10_57 : decode prog_128_method_11_code 57 = .ok (.iload 5, 2) := by decide +kernel
theorem own_pd4 : parseMethodDescriptor "([JI)[J" = some ⟨[(.array .long), .int], some (.array .long)⟩ := by decide +kernel
theorem d10_59 : decode prog_128_method_11_code 59 = .ok (.invokestatic 84, 3) := by decide +kernel
theorem d10_62 : decode prog_128_method_11_code 62 = .ok (.putfield 25, 3) := by decide +kernel
theorem d10_65 : decode prog_128_method_11_code 65 = .ok (.aload_n 0, 1) := by decide +kernel
theorem d10_66 : decode prog_128_method_11_code 66 = .ok (.aload_n 0, 1) := by decide +kernel
theorem d10_67 : decode prog_128_method_11_code 67 = .ok (.getfield 29, 3) := by decide +kernel
theorem d10_70 : decode prog_128_method_11_code 70 = .ok (.iload 5, 2) := by decide +kernel
theorem d10_72 : decode prog_128_method_11_code 72 = .ok (.invokestatic 84, 3) := by decide +kernel
theorem d10_75 : decode prog_128_method_11_code 75 = .ok (.putfield 29, 3) := by decide +kernel
theorem d10_44 : decode prog_128_method_11_code 44 = .ok (.iconst 2, 1) := by decide +kernel
theorem d10_45 : decode prog_128_method_11_code 45 = .ok (.aload_n 0, 1) := by decide +kernel
theorem d10_46 : decode prog_128_method_11_code 46 = .ok (.getfield 44, 3) := by decide +kernel
theorem d10_49 : decode prog_128_method_11_code 49 = .ok (.imul, 1) := by decide +kernel
theorem own_ap1_ef (m : MethodId) (a1 : Addr) (q1 : Int64) (q2 : Int64) : entryFrame m #[(.ref a1), (.long q1), (.long q2)] 6 = mkF m 0 #[rv a1, lv q1, sN, lv q2, sN, uN] [] := by first | (simp [entryFrame, mkF, argsToLocals, Value.category]; done) | rfl
def own_ap1_Q (Z : State) (a1 : Addr) (q1 : Int64) (q2 : Int64) (bb : Addr) (cc : Addr) (kb : ClassId) (kc : ClassId) (z1 : Int32) (xs1 : List Int64) (ys1 : List Int64) (mo : Int32) (uo : Value) (ut : Value) (h0 : Heap) (n0 : Nat) (v : Option Value) (h : Heap) (L : List Loc) : Prop := ∃ b2 : Addr, ∃ c2 : Addr, ∃ k2 : ClassId, ∃ k3 : ClassId, ∃ z2 : Int32, ∃ xs2 : List Int64, ∃ ys2 : List Int64, v = none ∧ Fr n0 L ∧ Keep h0 h [a1, bb, cc] ∧ (h0.size ≤ b2 ∨ b2 = bb) ∧ (h0.size ≤ c2 ∨ c2 = cc) ∧ a1 ≠ b2 ∧ a1 ≠ c2 ∧ b2 ≠ c2 ∧ Exa Z h a1 oS ∧ Fld Z h a1 oS "size" "I" (.int 2) ∧ Fld Z h a1 oS "most" "I" (.int mo) ∧ Fld Z h a1 oS "blocks" "[J" (.ref b2) ∧ Fld Z h a1 oS "bits" "[J" (.ref c2) ∧ Fld Z h a1 oS "ordered" "I" uo ∧ Fld Z h a1 oS "table" "[I" ut ∧ Arv Z h b2 k2 .long z2 (xs2.map Value.long) (Value.long 0) ∧ Arv Z h c2 k3 .long z2 (ys2.map Value.long) (Value.long 0) ∧ z2 = own_nl (1 : Int32) z1 mo ∧ xs2.length = z2.toNatClampNeg ∧ ys2.length = z2.toNatClampNeg ∧ xs2.getD (0 : Int32).toNatClampNeg 0 = xs1.getD (0 : Int32).toNatClampNeg 0 ∧ xs2.getD (1 : Int32).toNatClampNeg 0 = q1
set_option maxRecDepth 65536 in
set_option maxHeartbeats 40000000 in
theorem own_ap1 (l : Launch) (Z : State) (a0 : Array Value) (hw : ∀ d ∈ tables_1, d.before a0 Z = true) (ws : List Jvm.Cond) (a1 : Addr) (q1 : Int64) (q2 : Int64) (bb : Addr) (cc : Addr) (kb : ClassId) (kc : ClassId) (z1 : Int32) (xs1 : List Int64) (ys1 : List Int64) (mo : Int32) (uo : Value) (ut : Value) (h0 : Heap) (n0 : Nat) (Z0 : n0 ≤ h0.size) (E_a1 : Exa Z h0 a1 oS) (g_a1 : n0 ≤ a1) (F_size_a1 : Fld Z h0 a1 oS "size" "I" (.int 1)) (F_most_a1 : Fld Z h0 a1 oS "most" "I" (.int mo)) (F_blocks_a1 : Fld Z h0 a1 oS "blocks" "[J" (.ref bb)) (F_bits_a1 : Fld Z h0 a1 oS "bits" "[J" (.ref cc)) (V_bb : Arv Z h0 bb kb .long z1 (xs1.map Value.long) (Value.long 0)) (V_cc : Arv Z h0 cc kc .long z1 (ys1.map Value.long) (Value.long 0)) (g_bb : n0 ≤ bb) (g_cc : n0 ≤ cc) (ne_a1_bb : a1 ≠ bb) (ne_a1_cc : a1 ≠ cc) (ne_bb_cc : bb ≠ cc) (hz : ¬ z1 < (1 : Int32)) (hxl : xs1.length = z1.toNatClampNeg) (hyl : ys1.length = z1.toNatClampNeg) (F_ordered_a1 : Fld Z h0 a1 oS "ordered" "I" uo) (F_table_a1 : Fld Z h0 a1 oS "table" "[I" ut) :
    MetFree l (⟨oS, "append", "(JJ)V"⟩ : MethodName) (head1 (Jvm.Cond.code (⟨oS, "append", "(JJ)V"⟩ : MethodName) prog_128_method_11_code 6 none :: ws) ({ frames := 2, cells := 2, slots := 4, locals := 33 } : Room)) (fun aa U => aa = #[(.ref a1), (.long q1), (.long q2)] ∧ Z.Warmed39 U.vm ∧ U.heap = h0) (fun _ _ _ _ _ => True) (fun _ U o U' => ∃ v L, o = .returned v ∧ own_ap1_Q Z a1 q1 q2 bb cc kb kc z1 xs1 ys1 mo uo ut h0 n0 v U'.heap L ∧ FrameEnd U o U' L ({ frames := 2, cells := 2, slots := 4, locals := 33 } : Room).cells ({ frames := 2, cells := 2, slots := 4, locals := 33 } : Room).slots) := by
  refine MetFree.of_bodySF (plainFor_of_name own_pn0) hisR ?_
  have w1 := hw _ (List.mem_of_getElem? (i := 1) rfl)
  have w13 := hw _ (List.mem_of_getElem? (i := 13) rfl)
  have w14 := hw _ (List.mem_of_getElem? (i := 14) rfl)
  have w17 := hw _ (List.mem_of_getElem? (i := 17) rfl)
  have w20 := hw _ (List.mem_of_getElem? (i := 20) rfl)
  have w21 := hw _ (List.mem_of_getElem? (i := 21) rfl)
  have w22 := hw _ (List.mem_of_getElem? (i := 22) rfl)
  have w23 := hw _ (List.mem_of_getElem? (i := 23) rfl)
  have w36 := hw _ (List.mem_of_getElem? (i := 36) rfl)
  have w42 := hw _ (List.mem_of_getElem? (i := 42) rfl)
  have w43 := hw _ (List.mem_of_getElem? (i := 43) rfl)
  have w49 := hw _ (List.mem_of_getElem? (i := 49) rfl)
  have w53 := hw _ (List.mem_of_getElem? (i := 53) rfl)
  have w90 := hw _ (List.mem_of_getElem? (i := 90) rfl)
  have w91 := hw _ (List.mem_of_getElem? (i := 91) rfl)
  have w92 := hw _ (List.mem_of_getElem? (i := 92) rfl)
  have w93 := hw _ (List.mem_of_getElem? (i := 93) rfl)
  have w94 := hw _ (List.mem_of_getElem? (i := 94) rfl)
  have w95 := hw _ (List.mem_of_getElem? (i := 95) rfl)
  have w96 := hw _ (List.mem_of_getElem? (i := 96) rfl)
  intro p e s m args below meth c s₁ Bd hml0 hP hK
  obtain ⟨rfl, hZ, hh⟩ := hP
  have hx := Bd.exec
  have hby := Bd.bytes
  have hlk := Bd.notSynchronized
  have hml : c.maxLocals = 6 := hml0
  have hown : s.vm.findClass oS = some m.cls := findClass_of_methodNamed Bd.named
  have hnm := (name_of_methodNamed Bd.named Bd.method).1
  have X0 : Stand p l e ({ frames := 2, cells := 2, slots := 4, locals := 33 } : Room) s m #[(.ref a1), (.long q1), (.long q2)] below meth c s₁ [] 0 0 := Stand.of_body Bd
  have e0 : s₁.heap = h0 := by rw [← hh, Bd.state]; rfl
  have N0 := Fr.nil n0
  have K0 : Keep h0 h0 [a1, bb, cc] := Keep.refl h0 _
  show gS p e below (own_Fin s (own_ap1_Q Z a1 q1 q2 bb cc kb kc z1 xs1 ys1 mo uo ut h0 n0) ({ frames := 2, cells := 2, slots := 4, locals := 33 } : Room).cells ({ frames := 2, cells := 2, slots := 4, locals := 33 } : Room).slots) _
  refine sT (fun t k => castTop (own_ap1_ef m a1 q1 q2) k) ?_
  show gM p e below _ s₁ m 0 #[rv a1, lv q1, sN, lv q2, sN, uN] []
  refine sT (fun t k => XS.aloadN X0.here hx rfl (hb hby d10_0) rfl rfl k) ?_
  show gM p e below _ s₁ m 1 #[rv a1, lv q1, sN, lv q2, sN, uN] [(.ref a1)]
  obtain ⟨T254, X254, e254, st254⟩ := getF X0 hx hZ hown (host := "") (Or.inl w42) Via.refl e0 F_size_a1 (g := (mkF m 1 #[rv a1, lv q1, sN, lv q2, sN, uN] [(.ref a1)])) rfl rfl (hb hby d10_1)
  refine sT st254 ?_
  show gM p e below _ T254 m 4 #[rv a1, lv q1, sN, lv q2, sN, uN] [(.int 1)]
  refine sT (fun t k => XS.aloadN X254.here hx rfl (hb hby d10_4) rfl rfl k) ?_
  show gM p e below _ T254 m 5 #[rv a1, lv q1, sN, lv q2, sN, uN] [(.ref a1), (.int 1)]
  obtain ⟨T255, X255, e255, st255⟩ := getF X254 hx hZ hown (host := "") (Or.inl w20) Via.refl e254 F_blocks_a1 (g := (mkF m 5 #[rv a1, lv q1, sN, lv q2, sN, uN] [(.ref a1), (.int 1)])) rfl rfl (hb hby d10_5)
  refine sT st255 ?_
  show gM p e below _ T255 m 8 #[rv a1, lv q1, sN, lv q2, sN, uN] [(.ref bb), (.int 1)]
  refine sT (fun t k => own_len X255 hx hZ e255 V_bb (g := (mkF m 8 #[rv a1, lv q1, sN, lv q2, sN, uN] [(.ref bb), (.int 1)])) rfl rfl (hb hby d10_8) _ k) ?_
  show gM p e below _ T255 m 9 #[rv a1, lv q1, sN, lv q2, sN, uN] [(.int z1), (.int 1)]
  by_cases hc256 : (1 : Int32) = z1
  · --
    refine sT (fun t k => XS.icmpNo X255.here hx rfl (hb hby d10_9) rfl (teq hc256).2 k) ?_
    show gM p e below _ T255 m 12 #[rv a1, lv q1, sN, lv q2, sN, uN] []
    subst hc256
    obtain ⟨x0, rfl⟩ := own_len1 hxl
    obtain ⟨y0, rfl⟩ := own_len1 hyl
    refine sT (fun t k => XS.aloadN X255.here hx rfl (hb hby d10_12) rfl rfl k) ?_
    show gM p e below _ T255 m 13 #[rv a1, lv q1, sN, lv q2, sN, uN] [(.ref a1)]
    obtain ⟨T257, X257, e257, st257⟩ := getF X255 hx hZ hown (host := "") (Or.inl w42) Via.refl e255 F_size_a1 (g := (mkF m 13 #[rv a1, lv q1, sN, lv q2, sN, uN] [(.ref a1)])) rfl rfl (hb hby d10_13)
    refine sT st257 ?_
    show gM p e below _ T257 m 16 #[rv a1, lv q1, sN, lv q2, sN, uN] [(.int 1)]
    refine sT (fun t k => XS.aloadN X257.here hx rfl (hb hby d10_16) rfl rfl k) ?_
    show gM p e below _ T257 m 17 #[rv a1, lv q1, sN, lv q2, sN, uN] [(.ref a1), (.int 1)]
    obtain ⟨T258, X258, e258, st258⟩ := getF X257 hx hZ hown (host := "") (Or.inl w13) Via.refl e257 F_most_a1 (g := (mkF m 17 #[rv a1, lv q1, sN, lv q2, sN, uN] [(.ref a1), (.int 1)])) rfl rfl (hb hby d10_17)
    refine sT st258 ?_
    show gM p e below _ T258 m 20 #[rv a1, lv q1, sN, lv q2, sN, uN] [(.int mo), (.int 1)]
    by_cases hc259 : (1 : Int32) < mo
    · --
      refine sT (fun t k => XS.icmpNo X258.here hx rfl (hb hby d10_20) rfl (tlt hc259).2.1 k) ?_
      show gM p e below _ T258 m 23 #[rv a1, lv q1, sN, lv q2, sN, uN] []
      refine sT (fun t k => X258.ldc2Long hx hown (mvT hZ w90) (g := (mkF m 23 #[rv a1, lv q1, sN, lv q2, sN, uN] [])) rfl (hb hby d10_23) _ k) ?_
      show gM p e below _ T258 m 26 #[rv a1, lv q1, sN, lv q2, sN, uN] [(.long 2)]
      refine sT (fun t k => XS.aloadN X258.here hx rfl (hb hby d10_26) rfl rfl k) ?_
      show gM p e below _ T258 m 27 #[rv a1, lv q1, sN, lv q2, sN, uN] [(.ref a1), (.long 2)]
      obtain ⟨T260, X260, e260, st260⟩ := getF X258 hx hZ hown (host := "") (Or.inl w42) Via.refl e258 F_size_a1 (g := (mkF m 27 #[rv a1, lv q1, sN, lv q2, sN, uN] [(.ref a1), (.long 2)])) rfl rfl (hb hby d10_27)
      refine sT st260 ?_
      show gM p e below _ T260 m 30 #[rv a1, lv q1, sN, lv q2, sN, uN] [(.int 1), (.long 2)]
      refine sT (fun t k => XS.i2l X260.here hx rfl (hb hby d10_30) rfl k) ?_
      show gM p e below _ T260 m 31 #[rv a1, lv q1, sN, lv q2, sN, uN] [(.long ((1 : Int32).toInt64)), (.long 2)]
      refine sT (fun t k => XS.lmul X260.here hx rfl (hb hby d10_31) rfl k) ?_
      show gM p e below _ T260 m 32 #[rv a1, lv q1, sN, lv q2, sN, uN] [(.long ((2 : Int64) * ((1 : Int32).toInt64)))]
      refine sT (fun t k => XS.aloadN X260.here hx rfl (hb hby d10_32) rfl rfl k) ?_
      show gM p e below _ T260 m 33 #[rv a1, lv q1, sN, lv q2, sN, uN] [(.ref a1), (.long ((2 : Int64) * ((1 : Int32).toInt64)))]
      obtain ⟨T261, X261, e261, st261⟩ := getF X260 hx hZ hown (host := "") (Or.inl w13) Via.refl e260 F_most_a1 (g := (mkF m 33 #[rv a1, lv q1, sN, lv q2, sN, uN] [(.ref a1), (.long ((2 : Int64) * ((1 : Int32).toInt64)))])) rfl rfl (hb hby d10_33)
      refine sT st261 ?_
      show gM p e below _ T261 m 36 #[rv a1, lv q1, sN, lv q2, sN, uN] [(.int mo), (.long ((2 : Int64) * ((1 : Int32).toInt64)))]
      refine sT (fun t k => XS.i2l X261.here hx rfl (hb hby d10_36) rfl k) ?_
      show gM p e below _ T261 m 37 #[rv a1, lv q1, sN, lv q2, sN, uN] [(.long (mo.toInt64)), (.long ((2 : Int64) * ((1 : Int32).toInt64)))]
      obtain ⟨_, _, ⟨T262, L262, k262, n262⟩, -, X262, ⟨Lc262, hQ262, l262, y262, z262⟩, st262⟩ := Jvm.LawKit.callS X261 hx (y := (⟨"java/lang/Math", "min", "(JJ)J"⟩ : MethodName)) hown (mvT hZ w91) (mvT hZ w92) (mvT hZ w17) (mvT hZ w93) (by decide) (backOf (W := 0) (own_ml l Z a0 hw [] ((2 : Int64) * ((1 : Int32).toInt64)) (mo.toInt64)  h0 n0 Z0 ) hZ w93 w17 (by decide) (by decide)) (g := (mkF m 37 #[rv a1, lv q1, sN, lv q2, sN, uN] [(.long (mo.toInt64)), (.long ((2 : Int64) * ((1 : Int32).toInt64)))])) rfl (by rw [hml]; rfl) (argsL := [(.long ((2 : Int64) * ((1 : Int32).toInt64))), (.long (mo.toInt64))]) (rest := []) (lenOf own_pd3 rfl) rfl (by show 2 * 0 + _ ≤ _; exact Nat.le_of_eq rfl) (hb hby d10_37) (fun _ _ => ⟨rfl, e261, (by decide : 0 + 0 ≤ _), (by decide : 0 + 0 ≤ _)⟩)
      dsimp only [Pt.U, Pt.locs, Pt.cells, Pt.slots] at X262 l262 y262 z262 st262 hQ262
      subst y262 z262
      obtain ⟨rfl, N262q, eh262⟩ := hQ262
      have N262 : Fr n0 L262 := by rw [l262]; exact Fr.app N0 N262q
      refine sT st262 ?_
      show gM p e below _ T262 m 40 #[rv a1, lv q1, sN, lv q2, sN, uN] [(.long (if (mo.toInt64) < ((2 : Int64) * ((1 : Int32).toInt64)) then (mo.toInt64) else ((2 : Int64) * ((1 : Int32).toInt64))))]
      refine sT (fun t k => XS.l2i X262.here hx rfl (hb hby d10_40) rfl k) ?_
      show gM p e below _ T262 m 41 #[rv a1, lv q1, sN, lv q2, sN, uN] [(.int ((if (mo.toInt64) < ((2 : Int64) * ((1 : Int32).toInt64)) then (mo.toInt64) else ((2 : Int64) * ((1 : Int32).toInt64))).toInt32))]
      refine sT (fun t k => XS.goto X262.here hx rfl (pc0 := 41) (pc' := 50) rfl (hb hby d10_41) (by decide) (by decide) k) ?_
      show gM p e below _ T262 m 50 #[rv a1, lv q1, sN, lv q2, sN, uN] [(.int ((if (mo.toInt64) < ((2 : Int64) * ((1 : Int32).toInt64)) then (mo.toInt64) else ((2 : Int64) * ((1 : Int32).toInt64))).toInt32))]
      refine sT (fun t k => XS.istore X262.here hx rfl (hb hby d10_50) rfl (l' := #[rv a1, lv q1, sN, lv q2, sN, iv ((if (mo.toInt64) < ((2 : Int64) * ((1 : Int32).toInt64)) then (mo.toInt64) else ((2 : Int64) * ((1 : Int32).toInt64))).toInt32)]) rfl k) ?_
      show gM p e below _ T262 m 52 #[rv a1, lv q1, sN, lv q2, sN, iv ((if (mo.toInt64) < ((2 : Int64) * ((1 : Int32).toInt64)) then (mo.toInt64) else ((2 : Int64) * ((1 : Int32).toInt64))).toInt32)] []
      have hL1 : ((if (mo.toInt64) < ((2 : Int64) * ((1 : Int32).toInt64)) then (mo.toInt64) else ((2 : Int64) * ((1 : Int32).toInt64))).toInt32) = (2 : Int32) := own_l1 hc259
      rw [hL1]
      show gM p e below _ T262 m 52 #[rv a1, lv q1, sN, lv q2, sN, iv 2] []
      refine sT (fun t k => XS.aloadN X262.here hx rfl (hb hby d10_52) rfl rfl k) ?_
      show gM p e below _ T262 m 53 #[rv a1, lv q1, sN, lv q2, sN, iv 2] [(.ref a1)]
      refine sT (fun t k => XS.aloadN X262.here hx rfl (hb hby d10_53) rfl rfl k) ?_
      show gM p e below _ T262 m 54 #[rv a1, lv q1, sN, lv q2, sN, iv 2] [(.ref a1), (.ref a1)]
      obtain ⟨T263, X263, e263, st263⟩ := getF X262 hx hZ hown (host := "") (Or.inl w20) Via.refl eh262 F_blocks_a1 (g := (mkF m 54 #[rv a1, lv q1, sN, lv q2, sN, iv 2] [(.ref a1), (.ref a1)])) rfl rfl (hb hby d10_54)
      refine sT st263 ?_
      show gM p e below _ T263 m 57 #[rv a1, lv q1, sN, lv q2, sN, iv 2] [(.ref bb), (.ref a1)]
      refine sT (fun t k => XS.iload X263.here hx rfl (hb hby d10_57) rfl k) ?_
      show gM p e below _ T263 m 59 #[rv a1, lv q1, sN, lv q2, sN, iv 2] [(.int 2), (.ref bb), (.ref a1)]
      obtain ⟨_, _, ⟨T264, L264, k264, n264⟩, -, X264, ⟨Lc264, hQ264, l264, y264, z264⟩, st264⟩ := Jvm.LawKit.callS X263 hx (y := (⟨"java/util/Arrays", "copyOf", "([JI)[J"⟩ : MethodName)) hown (mvT hZ w94) (mvT hZ w95) (mvT hZ w53) (mvT hZ w96) (by decide) (backOf (W := 1) (own_co12 l Z a0 hw [] bb (kb) (x0) h0 n0 Z0 V_bb) hZ w96 w53 (by decide) (by decide)) (g := (mkF m 59 #[rv a1, lv q1, sN, lv q2, sN, iv 2] [(.int 2), (.ref bb), (.ref a1)])) rfl (by rw [hml]; rfl) (argsL := [(.ref bb), (.int 2)]) (rest := [(.ref a1)]) (lenOf own_pd4 rfl) rfl (by show 2 * 0 + _ ≤ _; exact Nat.le_of_eq rfl) (hb hby d10_59) (fun _ _ => ⟨rfl, e263, (by decide : 0 + 1 ≤ _), (by decide : 0 + 2 ≤ _)⟩)
      dsimp only [Pt.U, Pt.locs, Pt.cells, Pt.slots] at X264 l264 y264 z264 st264 hQ264
      subst y264 z264
      obtain ⟨bb_264, kb_264, rfl, N264q, K264c, f264_0, f264_1⟩ := hQ264
      have N264 : Fr n0 L264 := by rw [l264]; exact Fr.app N262 N264q
      refine sT st264 ?_
      have K265 : Keep h0 T264.heap [a1, bb, cc] := K0.trans K264c all0
      have sz_bb_264 : h0.size ≤ bb_264 := Nat.le_trans K0.1 f264_0
      have g_bb_264 : n0 ≤ bb_264 := Nat.le_trans Z0 sz_bb_264
      have ne_bb_bb_264 : bb ≠ bb_264 := Nat.ne_of_lt (Nat.lt_of_lt_of_le V_bb.lt f264_0)
      have ne_a1_bb_264 : a1 ≠ bb_264 := Nat.ne_of_lt (Nat.lt_of_lt_of_le E_a1.lt f264_0)
      have ne_cc_bb_264 : cc ≠ bb_264 := Nat.ne_of_lt (Nat.lt_of_lt_of_le V_cc.lt f264_0)
      show gM p e below _ T264 m 62 #[rv a1, lv q1, sN, lv q2, sN, iv 2] [(.ref bb_264), (.ref a1)]
      obtain ⟨T266, h266, X266, e266, W266, st266⟩ := putF X264 hx hZ hown (host := "") (Or.inl w20) Via.refl rfl (F_blocks_a1.keep K264c nin0) (E_a1.keep K264c) (Or.inl w21) w1 (ty := (.array .long)) (by decide) rfl rfl (g := (mkF m 62 #[rv a1, lv q1, sN, lv q2, sN, iv 2] [(.ref bb_264), (.ref a1)])) rfl rfl (hb hby d10_62)
      have Fw266 := (F_blocks_a1.keep K264c nin0).same W266
      have N266 := Fr.snoc X266 N264 g_a1
      have K267 : Keep h0 h266 [a1, bb, cc] := K265.wr W266 (Or.inl (List.mem_of_getElem? (i := 0) rfl))
      refine sT st266 ?_
      show gM p e below _ T266 m 65 #[rv a1, lv q1, sN, lv q2, sN, iv 2] []
      refine sT (fun t k => XS.aloadN X266.here hx rfl (hb hby d10_65) rfl rfl k) ?_
      show gM p e below _ T266 m 66 #[rv a1, lv q1, sN, lv q2, sN, iv 2] [(.ref a1)]
      refine sT (fun t k => XS.aloadN X266.here hx rfl (hb hby d10_66) rfl rfl k) ?_
      show gM p e below _ T266 m 67 #[rv a1, lv q1, sN, lv q2, sN, iv 2] [(.ref a1), (.ref a1)]
      obtain ⟨T268, X268, e268, st268⟩ := getF X266 hx hZ hown (host := "") (Or.inl w22) Via.refl e266 ((F_bits_a1.keep K264c nin0).other W266 (Or.inr (slot_ne (Or.inl w23) (Or.inl w21) (by decide) (t := (.array .long)) (t' := (.array .long)) (by decide) (by decide)))) (g := (mkF m 67 #[rv a1, lv q1, sN, lv q2, sN, iv 2] [(.ref a1), (.ref a1)])) rfl rfl (hb hby d10_67)
      refine sT st268 ?_
      show gM p e below _ T268 m 70 #[rv a1, lv q1, sN, lv q2, sN, iv 2] [(.ref cc), (.ref a1)]
      refine sT (fun t k => XS.iload X268.here hx rfl (hb hby d10_70) rfl k) ?_
      show gM p e below _ T268 m 72 #[rv a1, lv q1, sN, lv q2, sN, iv 2] [(.int 2), (.ref cc), (.ref a1)]
      obtain ⟨_, _, ⟨T269, L269, k269, n269⟩, -, X269, ⟨Lc269, hQ269, l269, y269, z269⟩, st269⟩ := Jvm.LawKit.callS X268 hx (y := (⟨"java/util/Arrays", "copyOf", "([JI)[J"⟩ : MethodName)) hown (mvT hZ w94) (mvT hZ w95) (mvT hZ w53) (mvT hZ w96) (by decide) (backOf (W := 1) (own_co12 l Z a0 hw [] cc (kc) (y0) h266 n0 (Nat.le_trans (Nat.le_trans Z0 K264c.1) (Keep.of_wr W266).1) ((V_cc.keep K264c nin0).other W266 (Ne.symm ne_a1_cc))) hZ w96 w53 (by decide) (by decide)) (g := (mkF m 72 #[rv a1, lv q1, sN, lv q2, sN, iv 2] [(.int 2), (.ref cc), (.ref a1)])) rfl (by rw [hml]; rfl) (argsL := [(.ref cc), (.int 2)]) (rest := [(.ref a1)]) (lenOf own_pd4 rfl) rfl (by show 2 * 0 + _ ≤ _; exact Nat.le_of_eq rfl) (hb hby d10_72) (fun _ _ => ⟨rfl, e268, (by decide : 1 + 1 ≤ _), (by decide : 2 + 2 ≤ _)⟩)
      dsimp only [Pt.U, Pt.locs, Pt.cells, Pt.slots] at X269 l269 y269 z269 st269 hQ269
      subst y269 z269
      obtain ⟨bb_269, kb_269, rfl, N269q, K269c, f269_0, f269_1⟩ := hQ269
      have N269 : Fr n0 L269 := by rw [l269]; exact Fr.app N266 N269q
      refine sT st269 ?_
      have K270 : Keep h0 T269.heap [a1, bb, cc] := K267.trans K269c all0
      have sz_bb_269 : h0.size ≤ bb_269 := Nat.le_trans K267.1 f269_0
      have g_bb_269 : n0 ≤ bb_269 := Nat.le_trans Z0 sz_bb_269
      have ne_bb_bb_269 : bb ≠ bb_269 := Nat.ne_of_lt (Nat.lt_of_lt_of_le ((V_bb.keep K264c nin0).other W266 (Ne.symm ne_a1_bb)).lt f269_0)
      have ne_a1_bb_269 : a1 ≠ bb_269 := Nat.ne_of_lt (Nat.lt_of_lt_of_le ((E_a1.keep K264c).wr W266).lt f269_0)
      have ne_cc_bb_269 : cc ≠ bb_269 := Nat.ne_of_lt (Nat.lt_of_lt_of_le ((V_cc.keep K264c nin0).other W266 (Ne.symm ne_a1_cc)).lt f269_0)
      have ne_bb_264_bb_269 : bb_264 ≠ bb_269 := Nat.ne_of_lt (Nat.lt_of_lt_of_le (f264_1.other W266 (Ne.symm ne_a1_bb_264)).lt f269_0)
      show gM p e below _ T269 m 75 #[rv a1, lv q1, sN, lv q2, sN, iv 2] [(.ref bb_269), (.ref a1)]
      obtain ⟨T271, h271, X271, e271, W271, st271⟩ := putF X269 hx hZ hown (host := "") (Or.inl w22) Via.refl rfl (((F_bits_a1.keep K264c nin0).other W266 (Or.inr (slot_ne (Or.inl w23) (Or.inl w21) (by decide) (t := (.array .long)) (t' := (.array .long)) (by decide) (by decide)))).keep K269c nin0) (((E_a1.keep K264c).wr W266).keep K269c) (Or.inl w23) w1 (ty := (.array .long)) (by decide) rfl rfl (g := (mkF m 75 #[rv a1, lv q1, sN, lv q2, sN, iv 2] [(.ref bb_269), (.ref a1)])) rfl rfl (hb hby d10_75)
      have Fw271 := (((F_bits_a1.keep K264c nin0).other W266 (Or.inr (slot_ne (Or.inl w23) (Or.inl w21) (by decide) (t := (.array .long)) (t' := (.array .long)) (by decide) (by decide)))).keep K269c nin0).same W271
      have N271 := Fr.snoc X271 N269 g_a1
      have K272 : Keep h0 h271 [a1, bb, cc] := K270.wr W271 (Or.inl (List.mem_of_getElem? (i := 0) rfl))
      refine sT st271 ?_
      show gM p e below _ T271 m 78 #[rv a1, lv q1, sN, lv q2, sN, iv 2] []
      refine sT (fun t k => XS.aloadN X271.here hx rfl (hb hby d10_78) rfl rfl k) ?_
      show gM p e below _ T271 m 79 #[rv a1, lv q1, sN, lv q2, sN, iv 2] [(.ref a1)]
      obtain ⟨T273, X273, e273, st273⟩ := getF X271 hx hZ hown (host := "") (Or.inl w20) Via.refl e271 ((Fw266.keep K269c nin0).other W271 (Or.inr (slot_ne (Or.inl w21) (Or.inl w23) (by decide) (t := (.array .long)) (t' := (.array .long)) (by decide) (by decide)))) (g := (mkF m 79 #[rv a1, lv q1, sN, lv q2, sN, iv 2] [(.ref a1)])) rfl rfl (hb hby d10_79)
      refine sT st273 ?_
      show gM p e below _ T273 m 82 #[rv a1, lv q1, sN, lv q2, sN, iv 2] [(.ref bb_264)]
      refine sT (fun t k => XS.aloadN X273.here hx rfl (hb hby d10_82) rfl rfl k) ?_
      show gM p e below _ T273 m 83 #[rv a1, lv q1, sN, lv q2, sN, iv 2] [(.ref a1), (.ref bb_264)]
      obtain ⟨T274, X274, e274, st274⟩ := getF X273 hx hZ hown (host := "") (Or.inl w42) Via.refl e273 ((((F_size_a1.keep K264c nin0).other W266 (Or.inr (slot_ne (Or.inl w43) (Or.inl w21) (by decide) (t := .int) (t' := (.array .long)) (by decide) (by decide)))).keep K269c nin0).other W271 (Or.inr (slot_ne (Or.inl w43) (Or.inl w23) (by decide) (t := .int) (t' := (.array .long)) (by decide) (by decide)))) (g := (mkF m 83 #[rv a1, lv q1, sN, lv q2, sN, iv 2] [(.ref a1), (.ref bb_264)])) rfl rfl (hb hby d10_83)
      refine sT st274 ?_
      show gM p e below _ T274 m 86 #[rv a1, lv q1, sN, lv q2, sN, iv 2] [(.int 1), (.ref bb_264)]
      refine sT (fun t k => XS.lloadN X274.here hx rfl (hb hby d10_86) rfl k) ?_
      show gM p e below _ T274 m 87 #[rv a1, lv q1, sN, lv q2, sN, iv 2] [(.long q1), (.int 1), (.ref bb_264)]
      obtain ⟨T275, h275, X275, e275, W275, V275, st275⟩ := own_lst X274 hx hZ e274 (((f264_1.other W266 (Ne.symm ne_a1_bb_264)).keep K269c nin0).other W271 (Ne.symm ne_a1_bb_264)) (j := (1 : Int32)) ⟨by decide, by decide⟩ (1) rfl (Nat.le_of_ble_eq_true rfl) (g := (mkF m 87 #[rv a1, lv q1, sN, lv q2, sN, iv 2] [(.long q1), (.int 1), (.ref bb_264)])) rfl rfl (hb hby d10_87)
      have V275 : Arv Z h275 bb_264 kb_264 .long 2 (([x0, q1] : List Int64).map Value.long) (Value.long 0) := V275
      have N275 := Fr.snoc X275 N271 g_bb_264
      have K276 : Keep h0 h275 [a1, bb, cc] := K272.wr W275 (Or.inr sz_bb_264)
      refine sT st275 ?_
      show gM p e below _ T275 m 88 #[rv a1, lv q1, sN, lv q2, sN, iv 2] []
      refine sT (fun t k => XS.aloadN X275.here hx rfl (hb hby d10_88) rfl rfl k) ?_
      show gM p e below _ T275 m 89 #[rv a1, lv q1, sN, lv q2, sN, iv 2] [(.ref a1)]
      obtain ⟨T277, X277, e277, st277⟩ := getF X275 hx hZ hown (host := "") (Or.inl w22) Via.refl e275 (Fw271.other W275 (Or.inl ne_a1_bb_264)) (g := (mkF m 89 #[rv a1, lv q1, sN, lv q2, sN, iv 2] [(.ref a1)])) rfl rfl (hb hby d10_89)
      refine sT st277 ?_
      show gM p e below _ T277 m 92 #[rv a1, lv q1, sN, lv q2, sN, iv 2] [(.ref bb_269)]
      refine sT (fun t k => XS.aloadN X277.here hx rfl (hb hby d10_92) rfl rfl k) ?_
      show gM p e below _ T277 m 93 #[rv a1, lv q1, sN, lv q2, sN, iv 2] [(.ref a1), (.ref bb_269)]
      obtain ⟨T278, X278, e278, st278⟩ := getF X277 hx hZ hown (host := "") (Or.inl w42) Via.refl e277 (((((F_size_a1.keep K264c nin0).other W266 (Or.inr (slot_ne (Or.inl w43) (Or.inl w21) (by decide) (t := .int) (t' := (.array .long)) (by decide) (by decide)))).keep K269c nin0).other W271 (Or.inr (slot_ne (Or.inl w43) (Or.inl w23) (by decide) (t := .int) (t' := (.array .long)) (by decide) (by decide)))).other W275 (Or.inl ne_a1_bb_264)) (g := (mkF m 93 #[rv a1, lv q1, sN, lv q2, sN, iv 2] [(.ref a1), (.ref bb_269)])) rfl rfl (hb hby d10_93)
      refine sT st278 ?_
      show gM p e below _ T278 m 96 #[rv a1, lv q1, sN, lv q2, sN, iv 2] [(.int 1), (.ref bb_269)]
      refine sT (fun t k => XS.lloadN X278.here hx rfl (hb hby d10_96) rfl k) ?_
      show gM p e below _ T278 m 97 #[rv a1, lv q1, sN, lv q2, sN, iv 2] [(.long q2), (.int 1), (.ref bb_269)]
      obtain ⟨T279, h279, X279, e279, W279, V279, st279⟩ := own_lst X278 hx hZ e278 ((f269_1.other W271 (Ne.symm ne_a1_bb_269)).other W275 (Ne.symm ne_bb_264_bb_269)) (j := (1 : Int32)) ⟨by decide, by decide⟩ (1) rfl (Nat.le_of_ble_eq_true rfl) (g := (mkF m 97 #[rv a1, lv q1, sN, lv q2, sN, iv 2] [(.long q2), (.int 1), (.ref bb_269)])) rfl rfl (hb hby d10_97)
      have V279 : Arv Z h279 bb_269 kb_269 .long 2 (([y0, q2] : List Int64).map Value.long) (Value.long 0) := V279
      have N279 := Fr.snoc X279 N275 g_bb_269
      have K280 : Keep h0 h279 [a1, bb, cc] := K276.wr W279 (Or.inr sz_bb_269)
      refine sT st279 ?_
      show gM p e below _ T279 m 98 #[rv a1, lv q1, sN, lv q2, sN, iv 2] []
      refine sT (fun t k => XS.aloadN X279.here hx rfl (hb hby d10_98) rfl rfl k) ?_
      show gM p e below _ T279 m 99 #[rv a1, lv q1, sN, lv q2, sN, iv 2] [(.ref a1)]
      refine sT (fun t k => XS.dup X279.here hx rfl (hb hby d10_99) rfl rfl k) ?_
      show gM p e below _ T279 m 100 #[rv a1, lv q1, sN, lv q2, sN, iv 2] [(.ref a1), (.ref a1)]
      obtain ⟨T281, X281, e281, st281⟩ := getF X279 hx hZ hown (host := "") (Or.inl w42) Via.refl e279 ((((((F_size_a1.keep K264c nin0).other W266 (Or.inr (slot_ne (Or.inl w43) (Or.inl w21) (by decide) (t := .int) (t' := (.array .long)) (by decide) (by decide)))).keep K269c nin0).other W271 (Or.inr (slot_ne (Or.inl w43) (Or.inl w23) (by decide) (t := .int) (t' := (.array .long)) (by decide) (by decide)))).other W275 (Or.inl ne_a1_bb_264)).other W279 (Or.inl ne_a1_bb_269)) (g := (mkF m 100 #[rv a1, lv q1, sN, lv q2, sN, iv 2] [(.ref a1), (.ref a1)])) rfl rfl (hb hby d10_100)
      refine sT st281 ?_
      show gM p e below _ T281 m 103 #[rv a1, lv q1, sN, lv q2, sN, iv 2] [(.int 1), (.ref a1)]
      refine sT (fun t k => XS.iconst X281.here hx rfl (hb hby d10_103) k) ?_
      show gM p e below _ T281 m 104 #[rv a1, lv q1, sN, lv q2, sN, iv 2] [(.int 1), (.int 1), (.ref a1)]
      refine sT (fun t k => XS.iadd X281.here hx rfl (hb hby d10_104) rfl k) ?_
      show gM p e below _ T281 m 105 #[rv a1, lv q1, sN, lv q2, sN, iv 2] [(.int 2), (.ref a1)]
      obtain ⟨T282, h282, X282, e282, W282, st282⟩ := putF X281 hx hZ hown (host := "") (Or.inl w42) Via.refl e281 ((((((F_size_a1.keep K264c nin0).other W266 (Or.inr (slot_ne (Or.inl w43) (Or.inl w21) (by decide) (t := .int) (t' := (.array .long)) (by decide) (by decide)))).keep K269c nin0).other W271 (Or.inr (slot_ne (Or.inl w43) (Or.inl w23) (by decide) (t := .int) (t' := (.array .long)) (by decide) (by decide)))).other W275 (Or.inl ne_a1_bb_264)).other W279 (Or.inl ne_a1_bb_269)) ((((((E_a1.keep K264c).wr W266).keep K269c).wr W271).wr W275).wr W279) (Or.inl w43) w1 (ty := .int) (by decide) rfl rfl (g := (mkF m 105 #[rv a1, lv q1, sN, lv q2, sN, iv 2] [(.int 2), (.ref a1)])) rfl rfl (hb hby d10_105)
      have Fw282 := ((((((F_size_a1.keep K264c nin0).other W266 (Or.inr (slot_ne (Or.inl w43) (Or.inl w21) (by decide) (t := .int) (t' := (.array .long)) (by decide) (by decide)))).keep K269c nin0).other W271 (Or.inr (slot_ne (Or.inl w43) (Or.inl w23) (by decide) (t := .int) (t' := (.array .long)) (by decide) (by decide)))).other W275 (Or.inl ne_a1_bb_264)).other W279 (Or.inl ne_a1_bb_269)).same W282
      have N282 := Fr.snoc X282 N279 g_a1
      have K283 : Keep h0 h282 [a1, bb, cc] := K280.wr W282 (Or.inl (List.mem_of_getElem? (i := 0) rfl))
      refine sT st282 ?_
      show gM p e below _ T282 m 108 #[rv a1, lv q1, sN, lv q2, sN, iv 2] []
      refine own_ret0 X282 hx hlk Bd.returns (hb hby d10_108) ?_ (by decide) (by decide)
      show own_ap1_Q Z a1 q1 q2 bb cc kb kc _ _ _ mo uo ut h0 n0 _ T282.heap _
      rw [e282]
      exact ⟨bb_264, bb_269, kb_264, kb_269, 2, ([x0, q1] : List Int64), ([y0, q2] : List Int64), rfl, N282, K283, (Or.inl sz_bb_264), (Or.inl sz_bb_269), ne_a1_bb_264, ne_a1_bb_269, ne_bb_264_bb_269, (((((((E_a1.keep K264c).wr W266).keep K269c).wr W271).wr W275).wr W279).wr W282), Fw282, (((((((F_most_a1.keep K264c nin0).other W266 (Or.inr (slot_ne (Or.inl w14) (Or.inl w21) (by decide) (t := .int) (t' := (.array .long)) (by decide) (by decide)))).keep K269c nin0).other W271 (Or.inr (slot_ne (Or.inl w14) (Or.inl w23) (by decide) (t := .int) (t' := (.array .long)) (by decide) (by decide)))).other W275 (Or.inl ne_a1_bb_264)).other W279 (Or.inl ne_a1_bb_269)).other W282 (Or.inr (slot_ne (Or.inl w14) (Or.inl w43) (by decide) (t := .int) (t' := .int) (by decide) (by decide)))), (((((Fw266.keep K269c nin0).other W271 (Or.inr (slot_ne (Or.inl w21) (Or.inl w23) (by decide) (t := (.array .long)) (t' := (.array .long)) (by decide) (by decide)))).other W275 (Or.inl ne_a1_bb_264)).other W279 (Or.inl ne_a1_bb_269)).other W282 (Or.inr (slot_ne (Or.inl w21) (Or.inl w43) (by decide) (t := (.array .long)) (t' := .int) (by decide) (by decide)))), (((Fw271.other W275 (Or.inl ne_a1_bb_264)).other W279 (Or.inl ne_a1_bb_269)).other W282 (Or.inr (slot_ne (Or.inl w23) (Or.inl w43) (by decide) (t := (.array .long)) (t' := .int) (by decide) (by decide)))), (((((((F_ordered_a1.keep K264c nin0).other W266 (Or.inr (slot_ne (Or.inl w49) (Or.inl w21) (by decide) (t := .int) (t' := (.array .long)) (by decide) (by decide)))).keep K269c nin0).other W271 (Or.inr (slot_ne (Or.inl w49) (Or.inl w23) (by decide) (t := .int) (t' := (.array .long)) (by decide) (by decide)))).other W275 (Or.inl ne_a1_bb_264)).other W279 (Or.inl ne_a1_bb_269)).other W282 (Or.inr (slot_ne (Or.inl w49) (Or.inl w43) (by decide) (t := .int) (t' := .int) (by decide) (by decide)))), (((((((F_table_a1.keep K264c nin0).other W266 (Or.inr (slot_ne (Or.inl w36) (Or.inl w21) (by decide) (t := (.array .int)) (t' := (.array .long)) (by decide) (by decide)))).keep K269c nin0).other W271 (Or.inr (slot_ne (Or.inl w36) (Or.inl w23) (by decide) (t := (.array .int)) (t' := (.array .long)) (by decide) (by decide)))).other W275 (Or.inl ne_a1_bb_264)).other W279 (Or.inl ne_a1_bb_269)).other W282 (Or.inr (slot_ne (Or.inl w36) (Or.inl w43) (by decide) (t := (.array .int)) (t' := .int) (by decide) (by decide)))), ((V275.other W279 ne_bb_264_bb_269).other W282 (Ne.symm ne_a1_bb_264)), (V279.other W282 (Ne.symm ne_a1_bb_269)), (by rw [own_nl, if_pos rfl, if_pos hc259, hL1]), rfl, rfl, rfl, rfl⟩
    · --
      refine sT (fun t k => XS.icmpYes X258.here hx rfl (pc0 := 20) (pc' := 44) rfl (hb hby d10_20) rfl (flt hc259).2.1 (by decide) (by decide) k) ?_
      show gM p e below _ T258 m 44 #[rv a1, lv q1, sN, lv q2, sN, uN] []
      refine sT (fun t k => XS.iconst X258.here hx rfl (hb hby d10_44) k) ?_
      show gM p e below _ T258 m 45 #[rv a1, lv q1, sN, lv q2, sN, uN] [(.int 2)]
      refine sT (fun t k => XS.aloadN X258.here hx rfl (hb hby d10_45) rfl rfl k) ?_
      show gM p e below _ T258 m 46 #[rv a1, lv q1, sN, lv q2, sN, uN] [(.ref a1), (.int 2)]
      obtain ⟨T284, X284, e284, st284⟩ := getF X258 hx hZ hown (host := "") (Or.inl w42) Via.refl e258 F_size_a1 (g := (mkF m 46 #[rv a1, lv q1, sN, lv q2, sN, uN] [(.ref a1), (.int 2)])) rfl rfl (hb hby d10_46)
      refine sT st284 ?_
      show gM p e below _ T284 m 49 #[rv a1, lv q1, sN, lv q2, sN, uN] [(.int 1), (.int 2)]
      refine sT (fun t k => XS.imul X284.here hx rfl (hb hby d10_49) rfl k) ?_
      show gM p e below _ T284 m 50 #[rv a1, lv q1, sN, lv q2, sN, uN] [(.int 2)]
      refine sT (fun t k => XS.istore X284.here hx rfl (hb hby d10_50) rfl (l' := #[rv a1, lv q1, sN, lv q2, sN, iv 2]) rfl k) ?_
      show gM p e below _ T284 m 52 #[rv a1, lv q1, sN, lv q2, sN, iv 2] []
      refine sT (fun t k => XS.aloadN X284.here hx rfl (hb hby d10_52) rfl rfl k) ?_
      show gM p e below _ T284 m 53 #[rv a1, lv q1, sN, lv q2, sN, iv 2] [(.ref a1)]
      refine sT (fun t k => XS.aloadN X284.here hx rfl (hb hby d10_53) rfl rfl k) ?_
      show gM p e below _ T284 m 54 #[rv a1, lv q1, sN, lv q2, sN, iv 2] [(.ref a1), (.ref a1)]
      obtain ⟨T285, X285, e285, st285⟩ := getF X284 hx hZ hown (host := "") (Or.inl w20) Via.refl e284 F_blocks_a1 (g := (mkF m 54 #[rv a1, lv q1, sN, lv q2, sN, iv 2] [(.ref a1), (.ref a1)])) rfl rfl (hb hby d10_54)
      refine sT st285 ?_
      show gM p e below _ T285 m 57 #[rv a1, lv q1, sN, lv q2, sN, iv 2] [(.ref bb), (.ref a1)]
      refine sT (fun t k => XS.iload X285.here hx rfl (hb hby d10_57) rfl k) ?_
      show gM p e below _ T285 m 59 #[rv a1, lv q1, sN, lv q2, sN, iv 2] [(.int 2), (.ref bb), (.ref a1)]
      obtain ⟨_, _, ⟨T286, L286, k286, n286⟩, -, X286, ⟨Lc286, hQ286, l286, y286, z286⟩, st286⟩ := Jvm.LawKit.callS X285 hx (y := (⟨"java/util/Arrays", "copyOf", "([JI)[J"⟩ : MethodName)) hown (mvT hZ w94) (mvT hZ w95) (mvT hZ w53) (mvT hZ w96) (by decide) (backOf (W := 1) (own_co12 l Z a0 hw [] bb (kb) (x0) h0 n0 Z0 V_bb) hZ w96 w53 (by decide) (by decide)) (g := (mkF m 59 #[rv a1, lv q1, sN, lv q2, sN, iv 2] [(.int 2), (.ref bb), (.ref a1)])) rfl (by rw [hml]; rfl) (argsL := [(.ref bb), (.int 2)]) (rest := [(.ref a1)]) (lenOf own_pd4 rfl) rfl (by show 2 * 0 + _ ≤ _; exact Nat.le_of_eq rfl) (hb hby d10_59) (fun _ _ => ⟨rfl, e285, (by decide : 0 + 1 ≤ _), (by decide : 0 + 2 ≤ _)⟩)
      dsimp only [Pt.U, Pt.locs, Pt.cells, Pt.slots] at X286 l286 y286 z286 st286 hQ286
      subst y286 z286
      obtain ⟨bb_286, kb_286, rfl, N286q, K286c, f286_0, f286_1⟩ := hQ286
      have N286 : Fr n0 L286 := by rw [l286]; exact Fr.app N0 N286q
      refine sT st286 ?_
      have K287 : Keep h0 T286.heap [a1, bb, cc] := K0.trans K286c all0
      have sz_bb_286 : h0.size ≤ bb_286 := Nat.le_trans K0.1 f286_0
      have g_bb_286 : n0 ≤ bb_286 := Nat.le_trans Z0 sz_bb_286
      have ne_bb_bb_286 : bb ≠ bb_286 := Nat.ne_of_lt (Nat.lt_of_lt_of_le V_bb.lt f286_0)
      have ne_a1_bb_286 : a1 ≠ bb_286 := Nat.ne_of_lt (Nat.lt_of_lt_of_le E_a1.lt f286_0)
      have ne_cc_bb_286 : cc ≠ bb_286 := Nat.ne_of_lt (Nat.lt_of_lt_of_le V_cc.lt f286_0)
      show gM p e below _ T286 m 62 #[rv a1, lv q1, sN, lv q2, sN, iv 2] [(.ref bb_286), (.ref a1)]
      obtain ⟨T288, h288, X288, e288, W288, st288⟩ := putF X286 hx hZ hown (host := "") (Or.inl w20) Via.refl rfl (F_blocks_a1.keep K286c nin0) (E_a1.keep K286c) (Or.inl w21) w1 (ty := (.array .long)) (by decide) rfl rfl (g := (mkF m 62 #[rv a1, lv q1, sN, lv q2, sN, iv 2] [(.ref bb_286), (.ref a1)])) rfl rfl (hb hby d10_62)
      have Fw288 := (F_blocks_a1.keep K286c nin0).same W288
      have N288 := Fr.snoc X288 N286 g_a1
      have K289 : Keep h0 h288 [a1, bb, cc] := K287.wr W288 (Or.inl (List.mem_of_getElem? (i := 0) rfl))
      refine sT st288 ?_
      show gM p e below _ T288 m 65 #[rv a1, lv q1, sN, lv q2, sN, iv 2] []
      refine sT (fun t k => XS.aloadN X288.here hx rfl (hb hby d10_65) rfl rfl k) ?_
      show gM p e below _ T288 m 66 #[rv a1, lv q1, sN, lv q2, sN, iv 2] [(.ref a1)]
      refine sT (fun t k => XS.aloadN X288.here hx rfl (hb hby d10_66) rfl rfl k) ?_
      show gM p e below _ T288 m 67 #[rv a1, lv q1, sN, lv q2, sN, iv 2] [(.ref a1), (.ref a1)]
      obtain ⟨T290, X290, e290, st290⟩ := getF X288 hx hZ hown (host := "") (Or.inl w22) Via.refl e288 ((F_bits_a1.keep K286c nin0).other W288 (Or.inr (slot_ne (Or.inl w23) (Or.inl w21) (by decide) (t := (.array .long)) (t' := (.array .long)) (by decide) (by decide)))) (g := (mkF m 67 #[rv a1, lv q1, sN, lv q2, sN, iv 2] [(.ref a1), (.ref a1)])) rfl rfl (hb hby d10_67)
      refine sT st290 ?_
      show gM p e below _ T290 m 70 #[rv a1, lv q1, sN, lv q2, sN, iv 2] [(.ref cc), (.ref a1)]
      refine sT (fun t k => XS.iload X290.here hx rfl (hb hby d10_70) rfl k) ?_
      show gM p e below _ T290 m 72 #[rv a1, lv q1, sN, lv q2, sN, iv 2] [(.int 2), (.ref cc), (.ref a1)]
      obtain ⟨_, _, ⟨T291, L291, k291, n291⟩, -, X291, ⟨Lc291, hQ291, l291, y291, z291⟩, st291⟩ := Jvm.LawKit.callS X290 hx (y := (⟨"java/util/Arrays", "copyOf", "([JI)[J"⟩ : MethodName)) hown (mvT hZ w94) (mvT hZ w95) (mvT hZ w53) (mvT hZ w96) (by decide) (backOf (W := 1) (own_co12 l Z a0 hw [] cc (kc) (y0) h288 n0 (Nat.le_trans (Nat.le_trans Z0 K286c.1) (Keep.of_wr W288).1) ((V_cc.keep K286c nin0).other W288 (Ne.symm ne_a1_cc))) hZ w96 w53 (by decide) (by decide)) (g := (mkF m 72 #[rv a1, lv q1, sN, lv q2, sN, iv 2] [(.int 2), (.ref cc), (.ref a1)])) rfl (by rw [hml]; rfl) (argsL := [(.ref cc), (.int 2)]) (rest := [(.ref a1)]) (lenOf own_pd4 rfl) rfl (by show 2 * 0 + _ ≤ _; exact Nat.le_of_eq rfl) (hb hby d10_72) (fun _ _ => ⟨rfl, e290, (by decide : 1 + 1 ≤ _), (by decide : 2 + 2 ≤ _)⟩)
      dsimp only [Pt.U, Pt.locs, Pt.cells, Pt.slots] at X291 l291 y291 z291 st291 hQ291
      subst y291 z291
      obtain ⟨bb_291, kb_291, rfl, N291q, K291c, f291_0, f291_1⟩ := hQ291
      have N291 : Fr n0 L291 := by rw [l291]; exact Fr.app N288 N291q
      refine sT st291 ?_
      have K292 : Keep h0 T291.heap [a1, bb, cc] := K289.trans K291c all0
      have sz_bb_291 : h0.size ≤ bb_291 := Nat.le_trans K289.1 f291_0
      have g_bb_291 : n0 ≤ bb_291 := Nat.le_trans Z0 sz_bb_291
      have ne_bb_bb_291 : bb ≠ bb_291 := Nat.ne_of_lt (Nat.lt_of_lt_of_le ((V_bb.keep K286c nin0).other W288 (Ne.symm ne_a1_bb)).lt f291_0)
      have ne_a1_bb_291 : a1 ≠ bb_291 := Nat.ne_of_lt (Nat.lt_of_lt_of_le ((E_a1.keep K286c).wr W288).lt f291_0)
      have ne_bb_286_bb_291 : bb_286 ≠ bb_291 := Nat.ne_of_lt (Nat.lt_of_lt_of_le (f286_1.other W288 (Ne.symm ne_a1_bb_286)).lt f291_0)
      have ne_cc_bb_291 : cc ≠ bb_291 := Nat.ne_of_lt (Nat.lt_of_lt_of_le ((V_cc.keep K286c nin0).other W288 (Ne.symm ne_a1_cc)).lt f291_0)
      show gM p e below _ T291 m 75 #[rv a1, lv q1, sN, lv q2, sN, iv 2] [(.ref bb_291), (.ref a1)]
      obtain ⟨T293, h293, X293, e293, W293, st293⟩ := putF X291 hx hZ hown (host := "") (Or.inl w22) Via.refl rfl (((F_bits_a1.keep K286c nin0).other W288 (Or.inr (slot_ne (Or.inl w23) (Or.inl w21) (by decide) (t := (.array .long)) (t' := (.array .long)) (by decide) (by decide)))).keep K291c nin0) (((E_a1.keep K286c).wr W288).keep K291c) (Or.inl w23) w1 (ty := (.array .long)) (by decide) rfl rfl (g := (mkF m 75 #[rv a1, lv q1, sN, lv q2, sN, iv 2] [(.ref bb_291), (.ref a1)])) rfl rfl (hb hby d10_75)
      have Fw293 := (((F_bits_a1.keep K286c nin0).other W288 (Or.inr (slot_ne (Or.inl w23) (Or.inl w21) (by decide) (t := (.array .long)) (t' := (.array .long)) (by decide) (by decide)))).keep K291c nin0).same W293
      have N293 := Fr.snoc X293 N291 g_a1
      have K294 : Keep h0 h293 [a1, bb, cc] := K292.wr W293 (Or.inl (List.mem_of_getElem? (i := 0) rfl))
      refine sT st293 ?_
      show gM p e below _ T293 m 78 #[rv a1, lv q1, sN, lv q2, sN, iv 2] []
      refine sT (fun t k => XS.aloadN X293.here hx rfl (hb hby d10_78) rfl rfl k) ?_
      show gM p e below _ T293 m 79 #[rv a1, lv q1, sN, lv q2, sN, iv 2] [(.ref a1)]
      obtain ⟨T295, X295, e295, st295⟩ := getF X293 hx hZ hown (host := "") (Or.inl w20) Via.refl e293 ((Fw288.keep K291c nin0).other W293 (Or.inr (slot_ne (Or.inl w21) (Or.inl w23) (by decide) (t := (.array .long)) (t' := (.array .long)) (by decide) (by decide)))) (g := (mkF m 79 #[rv a1, lv q1, sN, lv q2, sN, iv 2] [(.ref a1)])) rfl rfl (hb hby d10_79)
      refine sT st295 ?_
      show gM p e below _ T295 m 82 #[rv a1, lv q1, sN, lv q2, sN, iv 2] [(.ref bb_286)]
      refine sT (fun t k => XS.aloadN X295.here hx rfl (hb hby d10_82) rfl rfl k) ?_
      show gM p e below _ T295 m 83 #[rv a1, lv q1, sN, lv q2, sN, iv 2] [(.ref a1), (.ref bb_286)]
      obtain ⟨T296, X296, e296, st296⟩ := getF X295 hx hZ hown (host := "") (Or.inl w42) Via.refl e295 ((((F_size_a1.keep K286c nin0).other W288 (Or.inr (slot_ne (Or.inl w43) (Or.inl w21) (by decide) (t := .int) (t' := (.array .long)) (by decide) (by decide)))).keep K291c nin0).other W293 (Or.inr (slot_ne (Or.inl w43) (Or.inl w23) (by decide) (t := .int) (t' := (.array .long)) (by decide) (by decide)))) (g := (mkF m 83 #[rv a1, lv q1, sN, lv q2, sN, iv 2] [(.ref a1), (.ref bb_286)])) rfl rfl (hb hby d10_83)
      refine sT st296 ?_
      show gM p e below _ T296 m 86 #[rv a1, lv q1, sN, lv q2, sN, iv 2] [(.int 1), (.ref bb_286)]
      refine sT (fun t k => XS.lloadN X296.here hx rfl (hb hby d10_86) rfl k) ?_
      show gM p e below _ T296 m 87 #[rv a1, lv q1, sN, lv q2, sN, iv 2] [(.long q1), (.int 1), (.ref bb_286)]
      obtain ⟨T297, h297, X297, e297, W297, V297, st297⟩ := own_lst X296 hx hZ e296 (((f286_1.other W288 (Ne.symm ne_a1_bb_286)).keep K291c nin0).other W293 (Ne.symm ne_a1_bb_286)) (j := (1 : Int32)) ⟨by decide, by decide⟩ (1) rfl (Nat.le_of_ble_eq_true rfl) (g := (mkF m 87 #[rv a1, lv q1, sN, lv q2, sN, iv 2] [(.long q1), (.int 1), (.ref bb_286)])) rfl rfl (hb hby d10_87)
      have V297 : Arv Z h297 bb_286 kb_286 .long 2 (([x0, q1] : List Int64).map Value.long) (Value.long 0) := V297
      have N297 := Fr.snoc X297 N293 g_bb_286
      have K298 : Keep h0 h297 [a1, bb, cc] := K294.wr W297 (Or.inr sz_bb_286)
      refine sT st297 ?_
      show gM p e below _ T297 m 88 #[rv a1, lv q1, sN, lv q2, sN, iv 2] []
      refine sT (fun t k => XS.aloadN X297.here hx rfl (hb hby d10_88) rfl rfl k) ?_
      show gM p e below _ T297 m 89 #[rv a1, lv q1, sN, lv q2, sN, iv 2] [(.ref a1)]
      obtain ⟨T299, X299, e299, st299⟩ := getF X297 hx hZ hown (host := "") (Or.inl w22) Via.refl e297 (Fw293.other W297 (Or.inl ne_a1_bb_286)) (g := (mkF m 89 #[rv a1, lv q1, sN, lv q2, sN, iv 2] [(.ref a1)])) rfl rfl (hb hby d10_89)
      refine sT st299 ?_
      show gM p e below _ T299 m 92 #[rv a1, lv q1, sN, lv q2, sN, iv 2] [(.ref bb_291)]
      refine sT (fun t k => XS.aloadN X299.here hx rfl (hb hby d10_92) rfl rfl k) ?_
      show gM p e below _ T299 m 93 #[rv a1, lv q1, sN, lv q2, sN, iv 2] [(.ref a1), (.ref bb_291)]
      obtain ⟨T300, X300, e300, st300⟩ := getF X299 hx hZ hown (host := "") (Or.inl w42) Via.refl e299 (((((F_size_a1.keep K286c nin0).other W288 (Or.inr (slot_ne (Or.inl w43) (Or.inl w21) (by decide) (t := .int) (t' := (.array .long)) (by decide) (by decide)))).keep K291c nin0).other W293 (Or.inr (slot_ne (Or.inl w43) (Or.inl w23) (by decide) (t := .int) (t' := (.array .long)) (by decide) (by decide)))).other W297 (Or.inl ne_a1_bb_286)) (g := (mkF m 93 #[rv a1, lv q1, sN, lv q2, sN, iv 2] [(.ref a1), (.ref bb_291)])) rfl rfl (hb hby d10_93)
      refine sT st300 ?_
      show gM p e below _ T300 m 96 #[rv a1, lv q1, sN, lv q2, sN, iv 2] [(.int 1), (.ref bb_291)]
      refine sT (fun t k => XS.lloadN X300.here hx rfl (hb hby d10_96) rfl k) ?_
      show gM p e below _ T300 m 97 #[rv a1, lv q1, sN, lv q2, sN, iv 2] [(.long q2), (.int 1), (.ref bb_291)]
      obtain ⟨T301, h301, X301, e301, W301, V301, st301⟩ := own_lst X300 hx hZ e300 ((f291_1.other W293 (Ne.symm ne_a1_bb_291)).other W297 (Ne.symm ne_bb_286_bb_291)) (j := (1 : Int32)) ⟨by decide, by decide⟩ (1) rfl (Nat.le_of_ble_eq_true rfl) (g := (mkF m 97 #[rv a1, lv q1, sN, lv q2, sN, iv 2] [(.long q2), (.int 1), (.ref bb_291)])) rfl rfl (hb hby d10_97)
      have V301 : Arv Z h301 bb_291 kb_291 .long 2 (([y0, q2] : List Int64).map Value.long) (Value.long 0) := V301
      have N301 := Fr.snoc X301 N297 g_bb_291
      have K302 : Keep h0 h301 [a1, bb, cc] := K298.wr W301 (Or.inr sz_bb_291)
      refine sT st301 ?_
      show gM p e below _ T301 m 98 #[rv a1, lv q1, sN, lv q2, sN, iv 2] []
      refine sT (fun t k => XS.aloadN X301.here hx rfl (hb hby d10_98) rfl rfl k) ?_
      show gM p e below _ T301 m 99 #[rv a1, lv q1, sN, lv q2, sN, iv 2] [(.ref a1)]
      refine sT (fun t k => XS.dup X301.here hx rfl (hb hby d10_99) rfl rfl k) ?_
      show gM p e below _ T301 m 100 #[rv a1, lv q1, sN, lv q2, sN, iv 2] [(.ref a1), (.ref a1)]
      obtain ⟨T303, X303, e303, st303⟩ := getF X301 hx hZ hown (host := "") (Or.inl w42) Via.refl e301 ((((((F_size_a1.keep K286c nin0).other W288 (Or.inr (slot_ne (Or.inl w43) (Or.inl w21) (by decide) (t := .int) (t' := (.array .long)) (by decide) (by decide)))).keep K291c nin0).other W293 (Or.inr (slot_ne (Or.inl w43) (Or.inl w23) (by decide) (t := .int) (t' := (.array .long)) (by decide) (by decide)))).other W297 (Or.inl ne_a1_bb_286)).other W301 (Or.inl ne_a1_bb_291)) (g := (mkF m 100 #[rv a1, lv q1, sN, lv q2, sN, iv 2] [(.ref a1), (.ref a1)])) rfl rfl (hb hby d10_100)
      refine sT st303 ?_
      show gM p e below _ T303 m 103 #[rv a1, lv q1, sN, lv q2, sN, iv 2] [(.int 1), (.ref a1)]
      refine sT (fun t k => XS.iconst X303.here hx rfl (hb hby d10_103) k) ?_
      show gM p e below _ T303 m 104 #[rv a1, lv q1, sN, lv q2, sN, iv 2] [(.int 1), (.int 1), (.ref a1)]
      refine sT (fun t k => XS.iadd X303.here hx rfl (hb hby d10_104) rfl k) ?_
      show gM p e below _ T303 m 105 #[rv a1, lv q1, sN, lv q2, sN, iv 2] [(.int 2), (.ref a1)]
      obtain ⟨T304, h304, X304, e304, W304, st304⟩ := putF X303 hx hZ hown (host := "") (Or.inl w42) Via.refl e303 ((((((F_size_a1.keep K286c nin0).other W288 (Or.inr (slot_ne (Or.inl w43) (Or.inl w21) (by decide) (t := .int) (t' := (.array .long)) (by decide) (by decide)))).keep K291c nin0).other W293 (Or.inr (slot_ne (Or.inl w43) (Or.inl w23) (by decide) (t := .int) (t' := (.array .long)) (by decide) (by decide)))).other W297 (Or.inl ne_a1_bb_286)).other W301 (Or.inl ne_a1_bb_291)) ((((((E_a1.keep K286c).wr W288).keep K291c).wr W293).wr W297).wr W301) (Or.inl w43) w1 (ty := .int) (by decide) rfl rfl (g := (mkF m 105 #[rv a1, lv q1, sN, lv q2, sN, iv 2] [(.int 2), (.ref a1)])) rfl rfl (hb hby d10_105)
      have Fw304 := ((((((F_size_a1.keep K286c nin0).other W288 (Or.inr (slot_ne (Or.inl w43) (Or.inl w21) (by decide) (t := .int) (t' := (.array .long)) (by decide) (by decide)))).keep K291c nin0).other W293 (Or.inr (slot_ne (Or.inl w43) (Or.inl w23) (by decide) (t := .int) (t' := (.array .long)) (by decide) (by decide)))).other W297 (Or.inl ne_a1_bb_286)).other W301 (Or.inl ne_a1_bb_291)).same W304
      have N304 := Fr.snoc X304 N301 g_a1
      have K305 : Keep h0 h304 [a1, bb, cc] := K302.wr W304 (Or.inl (List.mem_of_getElem? (i := 0) rfl))
      refine sT st304 ?_
      show gM p e below _ T304 m 108 #[rv a1, lv q1, sN, lv q2, sN, iv 2] []
      refine own_ret0 X304 hx hlk Bd.returns (hb hby d10_108) ?_ (by decide) (by decide)
      show own_ap1_Q Z a1 q1 q2 bb cc kb kc _ _ _ mo uo ut h0 n0 _ T304.heap _
      rw [e304]
      exact ⟨bb_286, bb_291, kb_286, kb_291, 2, ([x0, q1] : List Int64), ([y0, q2] : List Int64), rfl, N304, K305, (Or.inl sz_bb_286), (Or.inl sz_bb_291), ne_a1_bb_286, ne_a1_bb_291, ne_bb_286_bb_291, (((((((E_a1.keep K286c).wr W288).keep K291c).wr W293).wr W297).wr W301).wr W304), Fw304, (((((((F_most_a1.keep K286c nin0).other W288 (Or.inr (slot_ne (Or.inl w14) (Or.inl w21) (by decide) (t := .int) (t' := (.array .long)) (by decide) (by decide)))).keep K291c nin0).other W293 (Or.inr (slot_ne (Or.inl w14) (Or.inl w23) (by decide) (t := .int) (t' := (.array .long)) (by decide) (by decide)))).other W297 (Or.inl ne_a1_bb_286)).other W301 (Or.inl ne_a1_bb_291)).other W304 (Or.inr (slot_ne (Or.inl w14) (Or.inl w43) (by decide) (t := .int) (t' := .int) (by decide) (by decide)))), (((((Fw288.keep K291c nin0).other W293 (Or.inr (slot_ne (Or.inl w21) (Or.inl w23) (by decide) (t := (.array .long)) (t' := (.array .long)) (by decide) (by decide)))).other W297 (Or.inl ne_a1_bb_286)).other W301 (Or.inl ne_a1_bb_291)).other W304 (Or.inr (slot_ne (Or.inl w21) (Or.inl w43) (by decide) (t := (.array .long)) (t' := .int) (by decide) (by decide)))), (((Fw293.other W297 (Or.inl ne_a1_bb_286)).other W301 (Or.inl ne_a1_bb_291)).other W304 (Or.inr (slot_ne (Or.inl w23) (Or.inl w43) (by decide) (t := (.array .long)) (t' := .int) (by decide) (by decide)))), (((((((F_ordered_a1.keep K286c nin0).other W288 (Or.inr (slot_ne (Or.inl w49) (Or.inl w21) (by decide) (t := .int) (t' := (.array .long)) (by decide) (by decide)))).keep K291c nin0).other W293 (Or.inr (slot_ne (Or.inl w49) (Or.inl w23) (by decide) (t := .int) (t' := (.array .long)) (by decide) (by decide)))).other W297 (Or.inl ne_a1_bb_286)).other W301 (Or.inl ne_a1_bb_291)).other W304 (Or.inr (slot_ne (Or.inl w49) (Or.inl w43) (by decide) (t := .int) (t' := .int) (by decide) (by decide)))), (((((((F_table_a1.keep K286c nin0).other W288 (Or.inr (slot_ne (Or.inl w36) (Or.inl w21) (by decide) (t := (.array .int)) (t' := (.array .long)) (by decide) (by decide)))).keep K291c nin0).other W293 (Or.inr (slot_ne (Or.inl w36) (Or.inl w23) (by decide) (t := (.array .int)) (t' := (.array .long)) (by decide) (by decide)))).other W297 (Or.inl ne_a1_bb_286)).other W301 (Or.inl ne_a1_bb_291)).other W304 (Or.inr (slot_ne (Or.inl w36) (Or.inl w43) (by decide) (t := (.array .int)) (t' := .int) (by decide) (by decide)))), ((V297.other W301 ne_bb_286_bb_291).other W304 (Ne.symm ne_a1_bb_286)), (V301.other W304 (Ne.symm ne_a1_bb_291)), (by rw [own_nl, if_pos rfl, if_neg hc259]; rfl), rfl, rfl, rfl, rfl⟩
  · --
    refine sT (fun t k => XS.icmpYes X255.here hx rfl (pc0 := 9) (pc' := 78) rfl (hb hby d10_9) rfl (feq hc256).2 (by decide) (by decide) k) ?_
    show gM p e below _ T255 m 78 #[rv a1, lv q1, sN, lv q2, sN, uN] []
    refine sT (fun t k => XS.aloadN X255.here hx rfl (hb hby d10_78) rfl rfl k) ?_
    show gM p e below _ T255 m 79 #[rv a1, lv q1, sN, lv q2, sN, uN] [(.ref a1)]
    obtain ⟨T306, X306, e306, st306⟩ := getF X255 hx hZ hown (host := "") (Or.inl w20) Via.refl e255 F_blocks_a1 (g := (mkF m 79 #[rv a1, lv q1, sN, lv q2, sN, uN] [(.ref a1)])) rfl rfl (hb hby d10_79)
    refine sT st306 ?_
    show gM p e below _ T306 m 82 #[rv a1, lv q1, sN, lv q2, sN, uN] [(.ref bb)]
    refine sT (fun t k => XS.aloadN X306.here hx rfl (hb hby d10_82) rfl rfl k) ?_
    show gM p e below _ T306 m 83 #[rv a1, lv q1, sN, lv q2, sN, uN] [(.ref a1), (.ref bb)]
    obtain ⟨T307, X307, e307, st307⟩ := getF X306 hx hZ hown (host := "") (Or.inl w42) Via.refl e306 F_size_a1 (g := (mkF m 83 #[rv a1, lv q1, sN, lv q2, sN, uN] [(.ref a1), (.ref bb)])) rfl rfl (hb hby d10_83)
    refine sT st307 ?_
    show gM p e below _ T307 m 86 #[rv a1, lv q1, sN, lv q2, sN, uN] [(.int 1), (.ref bb)]
    refine sT (fun t k => XS.lloadN X307.here hx rfl (hb hby d10_86) rfl k) ?_
    show gM p e below _ T307 m 87 #[rv a1, lv q1, sN, lv q2, sN, uN] [(.long q1), (.int 1), (.ref bb)]
    obtain ⟨T308, h308, X308, e308, W308, V308, st308⟩ := own_lst X307 hx hZ e307 V_bb (j := (1 : Int32)) (own_in (by decide) hz (by assumption)) (1) rfl (own_il (n := (1 : Int32)) (by decide) hz hxl (by assumption)) (g := (mkF m 87 #[rv a1, lv q1, sN, lv q2, sN, uN] [(.long q1), (.int 1), (.ref bb)])) rfl rfl (hb hby d10_87)
    have V308 : Arv Z h308 bb kb .long z1 ((xs1.set (1) q1).map Value.long) (Value.long 0) := V308
    have N308 := Fr.snoc X308 N0 g_bb
    have K309 : Keep h0 h308 [a1, bb, cc] := K0.wr W308 (Or.inl (List.mem_of_getElem? (i := 1) rfl))
    refine sT st308 ?_
    show gM p e below _ T308 m 88 #[rv a1, lv q1, sN, lv q2, sN, uN] []
    refine sT (fun t k => XS.aloadN X308.here hx rfl (hb hby d10_88) rfl rfl k) ?_
    show gM p e below _ T308 m 89 #[rv a1, lv q1, sN, lv q2, sN, uN] [(.ref a1)]
    obtain ⟨T310, X310, e310, st310⟩ := getF X308 hx hZ hown (host := "") (Or.inl w22) Via.refl e308 (F_bits_a1.other W308 (Or.inl ne_a1_bb)) (g := (mkF m 89 #[rv a1, lv q1, sN, lv q2, sN, uN] [(.ref a1)])) rfl rfl (hb hby d10_89)
    refine sT st310 ?_
    show gM p e below _ T310 m 92 #[rv a1, lv q1, sN, lv q2, sN, uN] [(.ref cc)]
    refine sT (fun t k => XS.aloadN X310.here hx rfl (hb hby d10_92) rfl rfl k) ?_
    show gM p e below _ T310 m 93 #[rv a1, lv q1, sN, lv q2, sN, uN] [(.ref a1), (.ref cc)]
    obtain ⟨T311, X311, e311, st311⟩ := getF X310 hx hZ hown (host := "") (Or.inl w42) Via.refl e310 (F_size_a1.other W308 (Or.inl ne_a1_bb)) (g := (mkF m 93 #[rv a1, lv q1, sN, lv q2, sN, uN] [(.ref a1), (.ref cc)])) rfl rfl (hb hby d10_93)
    refine sT st311 ?_
    show gM p e below _ T311 m 96 #[rv a1, lv q1, sN, lv q2, sN, uN] [(.int 1), (.ref cc)]
    refine sT (fun t k => XS.lloadN X311.here hx rfl (hb hby d10_96) rfl k) ?_
    show gM p e below _ T311 m 97 #[rv a1, lv q1, sN, lv q2, sN, uN] [(.long q2), (.int 1), (.ref cc)]
    obtain ⟨T312, h312, X312, e312, W312, V312, st312⟩ := own_lst X311 hx hZ e311 (V_cc.other W308 (Ne.symm ne_bb_cc)) (j := (1 : Int32)) (own_in (by decide) hz (by assumption)) (1) rfl (own_il (n := (1 : Int32)) (by decide) hz hyl (by assumption)) (g := (mkF m 97 #[rv a1, lv q1, sN, lv q2, sN, uN] [(.long q2), (.int 1), (.ref cc)])) rfl rfl (hb hby d10_97)
    have V312 : Arv Z h312 cc kc .long z1 ((ys1.set (1) q2).map Value.long) (Value.long 0) := V312
    have N312 := Fr.snoc X312 N308 g_cc
    have K313 : Keep h0 h312 [a1, bb, cc] := K309.wr W312 (Or.inl (List.mem_of_getElem? (i := 2) rfl))
    refine sT st312 ?_
    show gM p e below _ T312 m 98 #[rv a1, lv q1, sN, lv q2, sN, uN] []
    refine sT (fun t k => XS.aloadN X312.here hx rfl (hb hby d10_98) rfl rfl k) ?_
    show gM p e below _ T312 m 99 #[rv a1, lv q1, sN, lv q2, sN, uN] [(.ref a1)]
    refine sT (fun t k => XS.dup X312.here hx rfl (hb hby d10_99) rfl rfl k) ?_
    show gM p e below _ T312 m 100 #[rv a1, lv q1, sN, lv q2, sN, uN] [(.ref a1), (.ref a1)]
    obtain ⟨T314, X314, e314, st314⟩ := getF X312 hx hZ hown (host := "") (Or.inl w42) Via.refl e312 ((F_size_a1.other W308 (Or.inl ne_a1_bb)).other W312 (Or.inl ne_a1_cc)) (g := (mkF m 100 #[rv a1, lv q1, sN, lv q2, sN, uN] [(.ref a1), (.ref a1)])) rfl rfl (hb hby d10_100)
    refine sT st314 ?_
    show gM p e below _ T314 m 103 #[rv a1, lv q1, sN, lv q2, sN, uN] [(.int 1), (.ref a1)]
    refine sT (fun t k => XS.iconst X314.here hx rfl (hb hby d10_103) k) ?_
    show gM p e below _ T314 m 104 #[rv a1, lv q1, sN, lv q2, sN, uN] [(.int 1), (.int 1), (.ref a1)]
    refine sT (fun t k => XS.iadd X314.here hx rfl (hb hby d10_104) rfl k) ?_
    show gM p e below _ T314 m 105 #[rv a1, lv q1, sN, lv q2, sN, uN] [(.int 2), (.ref a1)]
    obtain ⟨T315, h315, X315, e315, W315, st315⟩ := putF X314 hx hZ hown (host := "") (Or.inl w42) Via.refl e314 ((F_size_a1.other W308 (Or.inl ne_a1_bb)).other W312 (Or.inl ne_a1_cc)) ((E_a1.wr W308).wr W312) (Or.inl w43) w1 (ty := .int) (by decide) rfl rfl (g := (mkF m 105 #[rv a1, lv q1, sN, lv q2, sN, uN] [(.int 2), (.ref a1)])) rfl rfl (hb hby d10_105)
    have Fw315 := ((F_size_a1.other W308 (Or.inl ne_a1_bb)).other W312 (Or.inl ne_a1_cc)).same W315
    have N315 := Fr.snoc X315 N312 g_a1
    have K316 : Keep h0 h315 [a1, bb, cc] := K313.wr W315 (Or.inl (List.mem_of_getElem? (i := 0) rfl))
    refine sT st315 ?_
    show gM p e below _ T315 m 108 #[rv a1, lv q1, sN, lv q2, sN, uN] []
    refine own_ret0 X315 hx hlk Bd.returns (hb hby d10_108) ?_ (by decide) (by decide)
    show own_ap1_Q Z a1 q1 q2 bb cc kb kc z1 xs1 ys1 mo uo ut h0 n0 _ T315.heap _
    rw [e315]
    exact ⟨bb, cc, kb, kc, z1, (xs1.set (1) q1), (ys1.set (1) q2), rfl, N315, K316, (Or.inr rfl), (Or.inr rfl), ne_a1_bb, ne_a1_cc, ne_bb_cc, (((E_a1.wr W308).wr W312).wr W315), Fw315, (((F_most_a1.other W308 (Or.inl ne_a1_bb)).other W312 (Or.inl ne_a1_cc)).other W315 (Or.inr (slot_ne (Or.inl w14) (Or.inl w43) (by decide) (t := .int) (t' := .int) (by decide) (by decide)))), (((F_blocks_a1.other W308 (Or.inl ne_a1_bb)).other W312 (Or.inl ne_a1_cc)).other W315 (Or.inr (slot_ne (Or.inl w21) (Or.inl w43) (by decide) (t := (.array .long)) (t' := .int) (by decide) (by decide)))), (((F_bits_a1.other W308 (Or.inl ne_a1_bb)).other W312 (Or.inl ne_a1_cc)).other W315 (Or.inr (slot_ne (Or.inl w23) (Or.inl w43) (by decide) (t := (.array .long)) (t' := .int) (by decide) (by decide)))), (((F_ordered_a1.other W308 (Or.inl ne_a1_bb)).other W312 (Or.inl ne_a1_cc)).other W315 (Or.inr (slot_ne (Or.inl w49) (Or.inl w43) (by decide) (t := .int) (t' := .int) (by decide) (by decide)))), (((F_table_a1.other W308 (Or.inl ne_a1_bb)).other W312 (Or.inl ne_a1_cc)).other W315 (Or.inr (slot_ne (Or.inl w36) (Or.inl w43) (by decide) (t := (.array .int)) (t' := .int) (by decide) (by decide)))), ((V308.other W312 ne_bb_cc).other W315 (Ne.symm ne_a1_bb)), (V312.other W315 (Ne.symm ne_a1_cc)), (by rw [own_nl, if_neg hc256]), (by rw [List.length_set]; exact hxl), (by rw [List.length_set]; exact hyl), (own_gs (by decide) _), (own_gh (own_il (n := (1 : Int32)) (by decide) hz hxl hc256))⟩
theorem own_ap2_ef (m : MethodId) (a1 : Addr) (q1 : Int64) (q2 : Int64) : entryFrame m #[(.ref a1), (.long q1), (.long q2)] 6 = mkF m 0 #[rv a1, lv q1, sN, lv q2, sN, uN] [] := by first | (simp [entryFrame, mkF, argsToLocals, Value.category]; done) | rfl
def own_ap2_Q (Z : State) (a1 : Addr) (q1 : Int64) (q2 : Int64) (bb : Addr) (cc : Addr) (kb : ClassId) (kc : ClassId) (z1 : Int32) (xs1 : List Int64) (ys1 : List Int64) (mo : Int32) (uo : Value) (ut : Value) (h0 : Heap) (n0 : Nat) (v : Option Value) (h : Heap) (L : List Loc) : Prop := ∃ b2 : Addr, ∃ c2 : Addr, ∃ k2 : ClassId, ∃ k3 : ClassId, ∃ z2 : Int32, ∃ xs2 : List Int64, ∃ ys2 : List Int64, v = none ∧ Fr n0 L ∧ Keep h0 h [a1, bb, cc] ∧ (h0.size ≤ b2 ∨ b2 = bb) ∧ (h0.size ≤ c2 ∨ c2 = cc) ∧ a1 ≠ b2 ∧ a1 ≠ c2 ∧ b2 ≠ c2 ∧ Exa Z h a1 oS ∧ Fld Z h a1 oS "size" "I" (.int 3) ∧ Fld Z h a1 oS "most" "I" (.int mo) ∧ Fld Z h a1 oS "blocks" "[J" (.ref b2) ∧ Fld Z h a1 oS "bits" "[J" (.ref c2) ∧ Fld Z h a1 oS "ordered" "I" uo ∧ Fld Z h a1 oS "table" "[I" ut ∧ Arv Z h b2 k2 .long z2 (xs2.map Value.long) (Value.long 0) ∧ Arv Z h c2 k3 .long z2 (ys2.map Value.long) (Value.long 0) ∧ z2 = own_nl (2 : Int32) z1 mo ∧ xs2.length = z2.toNatClampNeg ∧ ys2.length = z2.toNatClampNeg ∧ xs2.getD (0 : Int32).toNatClampNeg 0 = xs1.getD (0 : Int32).toNatClampNeg 0 ∧ xs2.getD (1 : Int32).toNatClampNeg 0 = xs1.getD (1 : Int32).toNatClampNeg 0 ∧ xs2.getD (2 : Int32).toNatClampNeg 0 = q1
set_option maxRecDepth 65536 in
set_option maxHeartbeats 40000000 in
theorem own_ap2 (l : Launch) (Z : State) (a0 : Array Value) (hw : ∀ d ∈ tables_1, d.before a0 Z = true) (ws : List Jvm.Cond) (a1 : Addr) (q1 : Int64) (q2 : Int64) (bb : Addr) (cc : Addr) (kb : ClassId) (kc : ClassId) (z1 : Int32) (xs1 : List Int64) (ys1 : List Int64) (mo : Int32) (uo : Value) (ut : Value) (h0 : Heap) (n0 : Nat) (Z0 : n0 ≤ h0.size) (E_a1 : Exa Z h0 a1 oS) (g_a1 : n0 ≤ a1) (F_size_a1 : Fld Z h0 a1 oS "size" "I" (.int 2)) (F_most_a1 : Fld Z h0 a1 oS "most" "I" (.int mo)) (F_blocks_a1 : Fld Z h0 a1 oS "blocks" "[J" (.ref bb)) (F_bits_a1 : Fld Z h0 a1 oS "bits" "[J" (.ref cc)) (V_bb : Arv Z h0 bb kb .long z1 (xs1.map Value.long) (Value.long 0)) (V_cc : Arv Z h0 cc kc .long z1 (ys1.map Value.long) (Value.long 0)) (g_bb : n0 ≤ bb) (g_cc : n0 ≤ cc) (ne_a1_bb : a1 ≠ bb) (ne_a1_cc : a1 ≠ cc) (ne_bb_cc : bb ≠ cc) (hz : ¬ z1 < (2 : Int32)) (hxl : xs1.length = z1.toNatClampNeg) (hyl : ys1.length = z1.toNatClampNeg) (F_ordered_a1 : Fld Z h0 a1 oS "ordered" "I" uo) (F_table_a1 : Fld Z h0 a1 oS "table" "[I" ut) :
    MetFree l (⟨oS, "append", "(JJ)V"⟩ : MethodName) (head1 (Jvm.Cond.code (⟨oS, "append", "(JJ)V"⟩ : MethodName) prog_128_method_11_code 6 none :: ws) ({ frames := 2, cells := 2, slots := 8, locals := 33 } : Room)) (fun aa U => aa = #[(.ref a1), (.long q1), (.long q2)] ∧ Z.Warmed39 U.vm ∧ U.heap = h0) (fun _ _ _ _ _ => True) (fun _ U o U' => ∃ v L, o = .returned v ∧ own_ap2_Q Z a1 q1 q2 bb cc kb kc z1 xs1 ys1 mo uo ut h0 n0 v U'.heap L ∧ FrameEnd U o U' L ({ frames := 2, cells := 2, slots := 8, locals := 33 } : Room).cells ({ frames := 2, cells := 2, slots := 8, locals := 33 } : Room).slots) := by
  refine MetFree.of_bodySF (plainFor_of_name own_pn0) hisR ?_
  have w1 := hw _ (List.mem_of_getElem? (i := 1) rfl)
  have w13 := hw _ (List.mem_of_getElem? (i := 13) rfl)
  have w14 := hw _ (List.mem_of_getElem? (i := 14) rfl)
  have w17 := hw _ (List.mem_of_getElem? (i := 17) rfl)
  have w20 := hw _ (List.mem_of_getElem? (i := 20) rfl)
  have w21 := hw _ (List.mem_of_getElem? (i := 21) rfl)
  have w22 := hw _ (List.mem_of_getElem? (i := 22) rfl)
  have w23 := hw _ (List.mem_of_getElem? (i := 23) rfl)
  have w36 := hw _ (List.mem_of_getElem? (i := 36) rfl)
  have w42 := hw _ (List.mem_of_getElem? (i := 42) rfl)
  have w43 := hw _ (List.mem_of_getElem? (i := 43) rfl)
  have w49 := hw _ (List.mem_of_getElem? (i := 49) rfl)
  have w53 := hw _ (List.mem_of_getElem? (i := 53) rfl)
  have w90 := hw _ (List.mem_of_getElem? (i := 90) rfl)
  have w91 := hw _ (List.mem_of_getElem? (i := 91) rfl)
  have w92 := hw _ (List.mem_of_getElem? (i := 92) rfl)
  have w93 := hw _ (List.mem_of_getElem? (i := 93) rfl)
  have w94 := hw _ (List.mem_of_getElem? (i := 94) rfl)
  have w95 := hw _ (List.mem_of_getElem? (i := 95) rfl)
  have w96 := hw _ (List.mem_of_getElem? (i := 96) rfl)
  intro p e s m args below meth c s₁ Bd hml0 hP hK
  obtain ⟨rfl, hZ, hh⟩ := hP
  have hx := Bd.exec
  have hby := Bd.bytes
  have hlk := Bd.notSynchronized
  have hml : c.maxLocals = 6 := hml0
  have hown : s.vm.findClass oS = some m.cls := findClass_of_methodNamed Bd.named
  have hnm := (name_of_methodNamed Bd.named Bd.method).1
  have X0 : Stand p l e ({ frames := 2, cells := 2, slots := 8, locals := 33 } : Room) s m #[(.ref a1), (.long q1), (.long q2)] below meth c s₁ [] 0 0 := Stand.of_body Bd
  have e0 : s₁.heap = h0 := by rw [← hh, Bd.state]; rfl
  have N0 := Fr.nil n0
  have K0 : Keep h0 h0 [a1, bb, cc] := Keep.refl h0 _
  show gS p e below (own_Fin s (own_ap2_Q Z a1 q1 q2 bb cc kb kc z1 xs1 ys1 mo uo ut h0 n0) ({ frames := 2, cells := 2, slots := 8, locals := 33 } : Room).cells ({ frames := 2, cells := 2, slots := 8, locals := 33 } : Room).slots) _
  refine sT (fun t k => castTop (own_ap2_ef m a1 q1 q2) k) ?_
  show gM p e below _ s₁ m 0 #[rv a1, lv q1, sN, lv q2, sN, uN] []
  refine sT (fun t k => XS.aloadN X0.here hx rfl (hb hby d10_0) rfl rfl k) ?_
  show gM p e below _ s₁ m 1 #[rv a1, lv q1, sN, lv q2, sN, uN] [(.ref a1)]
  obtain ⟨T401, X401, e401, st401⟩ := getF X0 hx hZ hown (host := "") (Or.inl w42) Via.refl e0 F_size_a1 (g := (mkF m 1 #[rv a1, lv q1, sN, lv q2, sN, uN] [(.ref a1)])) rfl rfl (hb hby d10_1)
  refine sT st401 ?_
  show gM p e below _ T401 m 4 #[rv a1, lv q1, sN, lv q2, sN, uN] [(.int 2)]
  refine sT (fun t k => XS.aloadN X401.here hx rfl (hb hby d10_4) rfl rfl k) ?_
  show gM p e below _ T401 m 5 #[rv a1, lv q1, sN, lv q2, sN, uN] [(.ref a1), (.int 2)]
  obtain ⟨T402, X402, e402, st402⟩ := getF X401 hx hZ hown (host := "") (Or.inl w20) Via.refl e401 F_blocks_a1 (g := (mkF m 5 #[rv a1, lv q1, sN, lv q2, sN, uN] [(.ref a1), (.int 2)])) rfl rfl (hb hby d10_5)
  refine sT st402 ?_
  show gM p e below _ T402 m 8 #[rv a1, lv q1, sN, lv q2, sN, uN] [(.ref bb), (.int 2)]
  refine sT (fun t k => own_len X402 hx hZ e402 V_bb (g := (mkF m 8 #[rv a1, lv q1, sN, lv q2, sN, uN] [(.ref bb), (.int 2)])) rfl rfl (hb hby d10_8) _ k) ?_
  show gM p e below _ T402 m 9 #[rv a1, lv q1, sN, lv q2, sN, uN] [(.int z1), (.int 2)]
  by_cases hc403 : (2 : Int32) = z1
  · --
    refine sT (fun t k => XS.icmpNo X402.here hx rfl (hb hby d10_9) rfl (teq hc403).2 k) ?_
    show gM p e below _ T402 m 12 #[rv a1, lv q1, sN, lv q2, sN, uN] []
    subst hc403
    obtain ⟨x0, x1, rfl⟩ := own_len2 hxl
    obtain ⟨y0, y1, rfl⟩ := own_len2 hyl
    refine sT (fun t k => XS.aloadN X402.here hx rfl (hb hby d10_12) rfl rfl k) ?_
    show gM p e below _ T402 m 13 #[rv a1, lv q1, sN, lv q2, sN, uN] [(.ref a1)]
    obtain ⟨T404, X404, e404, st404⟩ := getF X402 hx hZ hown (host := "") (Or.inl w42) Via.refl e402 F_size_a1 (g := (mkF m 13 #[rv a1, lv q1, sN, lv q2, sN, uN] [(.ref a1)])) rfl rfl (hb hby d10_13)
    refine sT st404 ?_
    show gM p e below _ T404 m 16 #[rv a1, lv q1, sN, lv q2, sN, uN] [(.int 2)]
    refine sT (fun t k => XS.aloadN X404.here hx rfl (hb hby d10_16) rfl rfl k) ?_
    show gM p e below _ T404 m 17 #[rv a1, lv q1, sN, lv q2, sN, uN] [(.ref a1), (.int 2)]
    obtain ⟨T405, X405, e405, st405⟩ := getF X404 hx hZ hown (host := "") (Or.inl w13) Via.refl e404 F_most_a1 (g := (mkF m 17 #[rv a1, lv q1, sN, lv q2, sN, uN] [(.ref a1), (.int 2)])) rfl rfl (hb hby d10_17)
    refine sT st405 ?_
    show gM p e below _ T405 m 20 #[rv a1, lv q1, sN, lv q2, sN, uN] [(.int mo), (.int 2)]
    by_cases hc406 : (2 : Int32) < mo
    · --
      refine sT (fun t k => XS.icmpNo X405.here hx rfl (hb hby d10_20) rfl (tlt hc406).2.1 k) ?_
      show gM p e below _ T405 m 23 #[rv a1, lv q1, sN, lv q2, sN, uN] []
      refine sT (fun t k => X405.ldc2Long hx hown (mvT hZ w90) (g := (mkF m 23 #[rv a1, lv q1, sN, lv q2, sN, uN] [])) rfl (hb hby d10_23) _ k) ?_
      show gM p e below _ T405 m 26 #[rv a1, lv q1, sN, lv q2, sN, uN] [(.long 2)]
      refine sT (fun t k => XS.aloadN X405.here hx rfl (hb hby d10_26) rfl rfl k) ?_
      show gM p e below _ T405 m 27 #[rv a1, lv q1, sN, lv q2, sN, uN] [(.ref a1), (.long 2)]
      obtain ⟨T407, X407, e407, st407⟩ := getF X405 hx hZ hown (host := "") (Or.inl w42) Via.refl e405 F_size_a1 (g := (mkF m 27 #[rv a1, lv q1, sN, lv q2, sN, uN] [(.ref a1), (.long 2)])) rfl rfl (hb hby d10_27)
      refine sT st407 ?_
      show gM p e below _ T407 m 30 #[rv a1, lv q1, sN, lv q2, sN, uN] [(.int 2), (.long 2)]
      refine sT (fun t k => XS.i2l X407.here hx rfl (hb hby d10_30) rfl k) ?_
      show gM p e below _ T407 m 31 #[rv a1, lv q1, sN, lv q2, sN, uN] [(.long ((2 : Int32).toInt64)), (.long 2)]
      refine sT (fun t k => XS.lmul X407.here hx rfl (hb hby d10_31) rfl k) ?_
      show gM p e below _ T407 m 32 #[rv a1, lv q1, sN, lv q2, sN, uN] [(.long ((2 : Int64) * ((2 : Int32).toInt64)))]
      refine sT (fun t k => XS.aloadN X407.here hx rfl (hb hby d10_32) rfl rfl k) ?_
      show gM p e below _ T407 m 33 #[rv a1, lv q1, sN, lv q2, sN, uN] [(.ref a1), (.long ((2 : Int64) * ((2 : Int32).toInt64)))]
      obtain ⟨T408, X408, e408, st408⟩ := getF X407 hx hZ hown (host := "") (Or.inl w13) Via.refl e407 F_most_a1 (g := (mkF m 33 #[rv a1, lv q1, sN, lv q2, sN, uN] [(.ref a1), (.long ((2 : Int64) * ((2 : Int32).toInt64)))])) rfl rfl (hb hby d10_33)
      refine sT st408 ?_
      show gM p e below _ T408 m 36 #[rv a1, lv q1, sN, lv q2, sN, uN] [(.int mo), (.long ((2 : Int64) * ((2 : Int32).toInt64)))]
      refine sT (fun t k => XS.i2l X408.here hx rfl (hb hby d10_36) rfl k) ?_
      show gM p e below _ T408 m 37 #[rv a1, lv q1, sN, lv q2, sN, uN] [(.long (mo.toInt64)), (.long ((2 : Int64) * ((2 : Int32).toInt64)))]
      obtain ⟨_, _, ⟨T409, L409, k409, n409⟩, -, X409, ⟨Lc409, hQ409, l409, y409, z409⟩, st409⟩ := Jvm.LawKit.callS X408 hx (y := (⟨"java/lang/Math", "min", "(JJ)J"⟩ : MethodName)) hown (mvT hZ w91) (mvT hZ w92) (mvT hZ w17) (mvT hZ w93) (by decide) (backOf (W := 0) (own_ml l Z a0 hw [] ((2 : Int64) * ((2 : Int32).toInt64)) (mo.toInt64)  h0 n0 Z0 ) hZ w93 w17 (by decide) (by decide)) (g := (mkF m 37 #[rv a1, lv q1, sN, lv q2, sN, uN] [(.long (mo.toInt64)), (.long ((2 : Int64) * ((2 : Int32).toInt64)))])) rfl (by rw [hml]; rfl) (argsL := [(.long ((2 : Int64) * ((2 : Int32).toInt64))), (.long (mo.toInt64))]) (rest := []) (lenOf own_pd3 rfl) rfl (by show 2 * 0 + _ ≤ _; exact Nat.le_of_eq rfl) (hb hby d10_37) (fun _ _ => ⟨rfl, e408, (by decide : 0 + 0 ≤ _), (by decide : 0 + 0 ≤ _)⟩)
      dsimp only [Pt.U, Pt.locs, Pt.cells, Pt.slots] at X409 l409 y409 z409 st409 hQ409
      subst y409 z409
      obtain ⟨rfl, N409q, eh409⟩ := hQ409
      have N409 : Fr n0 L409 := by rw [l409]; exact Fr.app N0 N409q
      refine sT st409 ?_
      show gM p e below _ T409 m 40 #[rv a1, lv q1, sN, lv q2, sN, uN] [(.long (if (mo.toInt64) < ((2 : Int64) * ((2 : Int32).toInt64)) then (mo.toInt64) else ((2 : Int64) * ((2 : Int32).toInt64))))]
      refine sT (fun t k => XS.l2i X409.here hx rfl (hb hby d10_40) rfl k) ?_
      show gM p e below _ T409 m 41 #[rv a1, lv q1, sN, lv q2, sN, uN] [(.int ((if (mo.toInt64) < ((2 : Int64) * ((2 : Int32).toInt64)) then (mo.toInt64) else ((2 : Int64) * ((2 : Int32).toInt64))).toInt32))]
      refine sT (fun t k => XS.goto X409.here hx rfl (pc0 := 41) (pc' := 50) rfl (hb hby d10_41) (by decide) (by decide) k) ?_
      show gM p e below _ T409 m 50 #[rv a1, lv q1, sN, lv q2, sN, uN] [(.int ((if (mo.toInt64) < ((2 : Int64) * ((2 : Int32).toInt64)) then (mo.toInt64) else ((2 : Int64) * ((2 : Int32).toInt64))).toInt32))]
      refine sT (fun t k => XS.istore X409.here hx rfl (hb hby d10_50) rfl (l' := #[rv a1, lv q1, sN, lv q2, sN, iv ((if (mo.toInt64) < ((2 : Int64) * ((2 : Int32).toInt64)) then (mo.toInt64) else ((2 : Int64) * ((2 : Int32).toInt64))).toInt32)]) rfl k) ?_
      show gM p e below _ T409 m 52 #[rv a1, lv q1, sN, lv q2, sN, iv ((if (mo.toInt64) < ((2 : Int64) * ((2 : Int32).toInt64)) then (mo.toInt64) else ((2 : Int64) * ((2 : Int32).toInt64))).toInt32)] []
      rcases own_l2 hc406 with hL2 | hL2
      · --
        rw [hL2]
        show gM p e below _ T409 m 52 #[rv a1, lv q1, sN, lv q2, sN, iv 3] []
        refine sT (fun t k => XS.aloadN X409.here hx rfl (hb hby d10_52) rfl rfl k) ?_
        show gM p e below _ T409 m 53 #[rv a1, lv q1, sN, lv q2, sN, iv 3] [(.ref a1)]
        refine sT (fun t k => XS.aloadN X409.here hx rfl (hb hby d10_53) rfl rfl k) ?_
        show gM p e below _ T409 m 54 #[rv a1, lv q1, sN, lv q2, sN, iv 3] [(.ref a1), (.ref a1)]
        obtain ⟨T410, X410, e410, st410⟩ := getF X409 hx hZ hown (host := "") (Or.inl w20) Via.refl eh409 F_blocks_a1 (g := (mkF m 54 #[rv a1, lv q1, sN, lv q2, sN, iv 3] [(.ref a1), (.ref a1)])) rfl rfl (hb hby d10_54)
        refine sT st410 ?_
        show gM p e below _ T410 m 57 #[rv a1, lv q1, sN, lv q2, sN, iv 3] [(.ref bb), (.ref a1)]
        refine sT (fun t k => XS.iload X410.here hx rfl (hb hby d10_57) rfl k) ?_
        show gM p e below _ T410 m 59 #[rv a1, lv q1, sN, lv q2, sN, iv 3] [(.int 3), (.ref bb), (.ref a1)]
        obtain ⟨_, _, ⟨T411, L411, k411, n411⟩, -, X411, ⟨Lc411, hQ411, l411, y411, z411⟩, st411⟩ := Jvm.LawKit.callS X410 hx (y := (⟨"java/util/Arrays", "copyOf", "([JI)[J"⟩ : MethodName)) hown (mvT hZ w94) (mvT hZ w95) (mvT hZ w53) (mvT hZ w96) (by decide) (backOf (W := 1) (own_co23 l Z a0 hw [] bb (kb) (x0) (x1) h0 n0 Z0 V_bb) hZ w96 w53 (by decide) (by decide)) (g := (mkF m 59 #[rv a1, lv q1, sN, lv q2, sN, iv 3] [(.int 3), (.ref bb), (.ref a1)])) rfl (by rw [hml]; rfl) (argsL := [(.ref bb), (.int 3)]) (rest := [(.ref a1)]) (lenOf own_pd4 rfl) rfl (by show 2 * 0 + _ ≤ _; exact Nat.le_of_eq rfl) (hb hby d10_59) (fun _ _ => ⟨rfl, e410, (by decide : 0 + 1 ≤ _), (by decide : 0 + 3 ≤ _)⟩)
        dsimp only [Pt.U, Pt.locs, Pt.cells, Pt.slots] at X411 l411 y411 z411 st411 hQ411
        subst y411 z411
        obtain ⟨bb_411, kb_411, rfl, N411q, K411c, f411_0, f411_1⟩ := hQ411
        have N411 : Fr n0 L411 := by rw [l411]; exact Fr.app N409 N411q
        refine sT st411 ?_
        have K412 : Keep h0 T411.heap [a1, bb, cc] := K0.trans K411c all0
        have sz_bb_411 : h0.size ≤ bb_411 := Nat.le_trans K0.1 f411_0
        have g_bb_411 : n0 ≤ bb_411 := Nat.le_trans Z0 sz_bb_411
        have ne_bb_bb_411 : bb ≠ bb_411 := Nat.ne_of_lt (Nat.lt_of_lt_of_le V_bb.lt f411_0)
        have ne_a1_bb_411 : a1 ≠ bb_411 := Nat.ne_of_lt (Nat.lt_of_lt_of_le E_a1.lt f411_0)
        have ne_cc_bb_411 : cc ≠ bb_411 := Nat.ne_of_lt (Nat.lt_of_lt_of_le V_cc.lt f411_0)
        show gM p e below _ T411 m 62 #[rv a1, lv q1, sN, lv q2, sN, iv 3] [(.ref bb_411), (.ref a1)]
        obtain ⟨T413, h413, X413, e413, W413, st413⟩ := putF X411 hx hZ hown (host := "") (Or.inl w20) Via.refl rfl (F_blocks_a1.keep K411c nin0) (E_a1.keep K411c) (Or.inl w21) w1 (ty := (.array .long)) (by decide) rfl rfl (g := (mkF m 62 #[rv a1, lv q1, sN, lv q2, sN, iv 3] [(.ref bb_411), (.ref a1)])) rfl rfl (hb hby d10_62)
        have Fw413 := (F_blocks_a1.keep K411c nin0).same W413
        have N413 := Fr.snoc X413 N411 g_a1
        have K414 : Keep h0 h413 [a1, bb, cc] := K412.wr W413 (Or.inl (List.mem_of_getElem? (i := 0) rfl))
        refine sT st413 ?_
        show gM p e below _ T413 m 65 #[rv a1, lv q1, sN, lv q2, sN, iv 3] []
        refine sT (fun t k => XS.aloadN X413.here hx rfl (hb hby d10_65) rfl rfl k) ?_
        show gM p e below _ T413 m 66 #[rv a1, lv q1, sN, lv q2, sN, iv 3] [(.ref a1)]
        refine sT (fun t k => XS.aloadN X413.here hx rfl (hb hby d10_66) rfl rfl k) ?_
        show gM p e below _ T413 m 67 #[rv a1, lv q1, sN, lv q2, sN, iv 3] [(.ref a1), (.ref a1)]
        obtain ⟨T415, X415, e415, st415⟩ := getF X413 hx hZ hown (host := "") (Or.inl w22) Via.refl e413 ((F_bits_a1.keep K411c nin0).other W413 (Or.inr (slot_ne (Or.inl w23) (Or.inl w21) (by decide) (t := (.array .long)) (t' := (.array .long)) (by decide) (by decide)))) (g := (mkF m 67 #[rv a1, lv q1, sN, lv q2, sN, iv 3] [(.ref a1), (.ref a1)])) rfl rfl (hb hby d10_67)
        refine sT st415 ?_
        show gM p e below _ T415 m 70 #[rv a1, lv q1, sN, lv q2, sN, iv 3] [(.ref cc), (.ref a1)]
        refine sT (fun t k => XS.iload X415.here hx rfl (hb hby d10_70) rfl k) ?_
        show gM p e below _ T415 m 72 #[rv a1, lv q1, sN, lv q2, sN, iv 3] [(.int 3), (.ref cc), (.ref a1)]
        obtain ⟨_, _, ⟨T416, L416, k416, n416⟩, -, X416, ⟨Lc416, hQ416, l416, y416, z416⟩, st416⟩ := Jvm.LawKit.callS X415 hx (y := (⟨"java/util/Arrays", "copyOf", "([JI)[J"⟩ : MethodName)) hown (mvT hZ w94) (mvT hZ w95) (mvT hZ w53) (mvT hZ w96) (by decide) (backOf (W := 1) (own_co23 l Z a0 hw [] cc (kc) (y0) (y1) h413 n0 (Nat.le_trans (Nat.le_trans Z0 K411c.1) (Keep.of_wr W413).1) ((V_cc.keep K411c nin0).other W413 (Ne.symm ne_a1_cc))) hZ w96 w53 (by decide) (by decide)) (g := (mkF m 72 #[rv a1, lv q1, sN, lv q2, sN, iv 3] [(.int 3), (.ref cc), (.ref a1)])) rfl (by rw [hml]; rfl) (argsL := [(.ref cc), (.int 3)]) (rest := [(.ref a1)]) (lenOf own_pd4 rfl) rfl (by show 2 * 0 + _ ≤ _; exact Nat.le_of_eq rfl) (hb hby d10_72) (fun _ _ => ⟨rfl, e415, (by decide : 1 + 1 ≤ _), (by decide : 3 + 3 ≤ _)⟩)
        dsimp only [Pt.U, Pt.locs, Pt.cells, Pt.slots] at X416 l416 y416 z416 st416 hQ416
        subst y416 z416
        obtain ⟨bb_416, kb_416, rfl, N416q, K416c, f416_0, f416_1⟩ := hQ416
        have N416 : Fr n0 L416 := by rw [l416]; exact Fr.app N413 N416q
        refine sT st416 ?_
        have K417 : Keep h0 T416.heap [a1, bb, cc] := K414.trans K416c all0
        have sz_bb_416 : h0.size ≤ bb_416 := Nat.le_trans K414.1 f416_0
        have g_bb_416 : n0 ≤ bb_416 := Nat.le_trans Z0 sz_bb_416
        have ne_bb_bb_416 : bb ≠ bb_416 := Nat.ne_of_lt (Nat.lt_of_lt_of_le ((V_bb.keep K411c nin0).other W413 (Ne.symm ne_a1_bb)).lt f416_0)
        have ne_a1_bb_416 : a1 ≠ bb_416 := Nat.ne_of_lt (Nat.lt_of_lt_of_le ((E_a1.keep K411c).wr W413).lt f416_0)
        have ne_cc_bb_416 : cc ≠ bb_416 := Nat.ne_of_lt (Nat.lt_of_lt_of_le ((V_cc.keep K411c nin0).other W413 (Ne.symm ne_a1_cc)).lt f416_0)
        have ne_bb_411_bb_416 : bb_411 ≠ bb_416 := Nat.ne_of_lt (Nat.lt_of_lt_of_le (f411_1.other W413 (Ne.symm ne_a1_bb_411)).lt f416_0)
        show gM p e below _ T416 m 75 #[rv a1, lv q1, sN, lv q2, sN, iv 3] [(.ref bb_416), (.ref a1)]
        obtain ⟨T418, h418, X418, e418, W418, st418⟩ := putF X416 hx hZ hown (host := "") (Or.inl w22) Via.refl rfl (((F_bits_a1.keep K411c nin0).other W413 (Or.inr (slot_ne (Or.inl w23) (Or.inl w21) (by decide) (t := (.array .long)) (t' := (.array .long)) (by decide) (by decide)))).keep K416c nin0) (((E_a1.keep K411c).wr W413).keep K416c) (Or.inl w23) w1 (ty := (.array .long)) (by decide) rfl rfl (g := (mkF m 75 #[rv a1, lv q1, sN, lv q2, sN, iv 3] [(.ref bb_416), (.ref a1)])) rfl rfl (hb hby d10_75)
        have Fw418 := (((F_bits_a1.keep K411c nin0).other W413 (Or.inr (slot_ne (Or.inl w23) (Or.inl w21) (by decide) (t := (.array .long)) (t' := (.array .long)) (by decide) (by decide)))).keep K416c nin0).same W418
        have N418 := Fr.snoc X418 N416 g_a1
        have K419 : Keep h0 h418 [a1, bb, cc] := K417.wr W418 (Or.inl (List.mem_of_getElem? (i := 0) rfl))
        refine sT st418 ?_
        show gM p e below _ T418 m 78 #[rv a1, lv q1, sN, lv q2, sN, iv 3] []
        refine sT (fun t k => XS.aloadN X418.here hx rfl (hb hby d10_78) rfl rfl k) ?_
        show gM p e below _ T418 m 79 #[rv a1, lv q1, sN, lv q2, sN, iv 3] [(.ref a1)]
        obtain ⟨T420, X420, e420, st420⟩ := getF X418 hx hZ hown (host := "") (Or.inl w20) Via.refl e418 ((Fw413.keep K416c nin0).other W418 (Or.inr (slot_ne (Or.inl w21) (Or.inl w23) (by decide) (t := (.array .long)) (t' := (.array .long)) (by decide) (by decide)))) (g := (mkF m 79 #[rv a1, lv q1, sN, lv q2, sN, iv 3] [(.ref a1)])) rfl rfl (hb hby d10_79)
        refine sT st420 ?_
        show gM p e below _ T420 m 82 #[rv a1, lv q1, sN, lv q2, sN, iv 3] [(.ref bb_411)]
        refine sT (fun t k => XS.aloadN X420.here hx rfl (hb hby d10_82) rfl rfl k) ?_
        show gM p e below _ T420 m 83 #[rv a1, lv q1, sN, lv q2, sN, iv 3] [(.ref a1), (.ref bb_411)]
        obtain ⟨T421, X421, e421, st421⟩ := getF X420 hx hZ hown (host := "") (Or.inl w42) Via.refl e420 ((((F_size_a1.keep K411c nin0).other W413 (Or.inr (slot_ne (Or.inl w43) (Or.inl w21) (by decide) (t := .int) (t' := (.array .long)) (by decide) (by decide)))).keep K416c nin0).other W418 (Or.inr (slot_ne (Or.inl w43) (Or.inl w23) (by decide) (t := .int) (t' := (.array .long)) (by decide) (by decide)))) (g := (mkF m 83 #[rv a1, lv q1, sN, lv q2, sN, iv 3] [(.ref a1), (.ref bb_411)])) rfl rfl (hb hby d10_83)
        refine sT st421 ?_
        show gM p e below _ T421 m 86 #[rv a1, lv q1, sN, lv q2, sN, iv 3] [(.int 2), (.ref bb_411)]
        refine sT (fun t k => XS.lloadN X421.here hx rfl (hb hby d10_86) rfl k) ?_
        show gM p e below _ T421 m 87 #[rv a1, lv q1, sN, lv q2, sN, iv 3] [(.long q1), (.int 2), (.ref bb_411)]
        obtain ⟨T422, h422, X422, e422, W422, V422, st422⟩ := own_lst X421 hx hZ e421 (((f411_1.other W413 (Ne.symm ne_a1_bb_411)).keep K416c nin0).other W418 (Ne.symm ne_a1_bb_411)) (j := (2 : Int32)) ⟨by decide, by decide⟩ (2) rfl (Nat.le_of_ble_eq_true rfl) (g := (mkF m 87 #[rv a1, lv q1, sN, lv q2, sN, iv 3] [(.long q1), (.int 2), (.ref bb_411)])) rfl rfl (hb hby d10_87)
        have V422 : Arv Z h422 bb_411 kb_411 .long 3 (([x0, x1, q1] : List Int64).map Value.long) (Value.long 0) := V422
        have N422 := Fr.snoc X422 N418 g_bb_411
        have K423 : Keep h0 h422 [a1, bb, cc] := K419.wr W422 (Or.inr sz_bb_411)
        refine sT st422 ?_
        show gM p e below _ T422 m 88 #[rv a1, lv q1, sN, lv q2, sN, iv 3] []
        refine sT (fun t k => XS.aloadN X422.here hx rfl (hb hby d10_88) rfl rfl k) ?_
        show gM p e below _ T422 m 89 #[rv a1, lv q1, sN, lv q2, sN, iv 3] [(.ref a1)]
        obtain ⟨T424, X424, e424, st424⟩ := getF X422 hx hZ hown (host := "") (Or.inl w22) Via.refl e422 (Fw418.other W422 (Or.inl ne_a1_bb_411)) (g := (mkF m 89 #[rv a1, lv q1, sN, lv q2, sN, iv 3] [(.ref a1)])) rfl rfl (hb hby d10_89)
        refine sT st424 ?_
        show gM p e below _ T424 m 92 #[rv a1, lv q1, sN, lv q2, sN, iv 3] [(.ref bb_416)]
        refine sT (fun t k => XS.aloadN X424.here hx rfl (hb hby d10_92) rfl rfl k) ?_
        show gM p e below _ T424 m 93 #[rv a1, lv q1, sN, lv q2, sN, iv 3] [(.ref a1), (.ref bb_416)]
        obtain ⟨T425, X425, e425, st425⟩ := getF X424 hx hZ hown (host := "") (Or.inl w42) Via.refl e424 (((((F_size_a1.keep K411c nin0).other W413 (Or.inr (slot_ne (Or.inl w43) (Or.inl w21) (by decide) (t := .int) (t' := (.array .long)) (by decide) (by decide)))).keep K416c nin0).other W418 (Or.inr (slot_ne (Or.inl w43) (Or.inl w23) (by decide) (t := .int) (t' := (.array .long)) (by decide) (by decide)))).other W422 (Or.inl ne_a1_bb_411)) (g := (mkF m 93 #[rv a1, lv q1, sN, lv q2, sN, iv 3] [(.ref a1), (.ref bb_416)])) rfl rfl (hb hby d10_93)
        refine sT st425 ?_
        show gM p e below _ T425 m 96 #[rv a1, lv q1, sN, lv q2, sN, iv 3] [(.int 2), (.ref bb_416)]
        refine sT (fun t k => XS.lloadN X425.here hx rfl (hb hby d10_96) rfl k) ?_
        show gM p e below _ T425 m 97 #[rv a1, lv q1, sN, lv q2, sN, iv 3] [(.long q2), (.int 2), (.ref bb_416)]
        obtain ⟨T426, h426, X426, e426, W426, V426, st426⟩ := own_lst X425 hx hZ e425 ((f416_1.other W418 (Ne.symm ne_a1_bb_416)).other W422 (Ne.symm ne_bb_411_bb_416)) (j := (2 : Int32)) ⟨by decide, by decide⟩ (2) rfl (Nat.le_of_ble_eq_true rfl) (g := (mkF m 97 #[rv a1, lv q1, sN, lv q2, sN, iv 3] [(.long q2), (.int 2), (.ref bb_416)])) rfl rfl (hb hby d10_97)
        have V426 : Arv Z h426 bb_416 kb_416 .long 3 (([y0, y1, q2] : List Int64).map Value.long) (Value.long 0) := V426
        have N426 := Fr.snoc X426 N422 g_bb_416
        have K427 : Keep h0 h426 [a1, bb, cc] := K423.wr W426 (Or.inr sz_bb_416)
        refine sT st426 ?_
        show gM p e below _ T426 m 98 #[rv a1, lv q1, sN, lv q2, sN, iv 3] []
        refine sT (fun t k => XS.aloadN X426.here hx rfl (hb hby d10_98) rfl rfl k) ?_
        show gM p e below _ T426 m 99 #[rv a1, lv q1, sN, lv q2, sN, iv 3] [(.ref a1)]
        refine sT (fun t k => XS.dup X426.here hx rfl (hb hby d10_99) rfl rfl k) ?_
        show gM p e below _ T426 m 100 #[rv a1, lv q1, sN, lv q2, sN, iv 3] [(.ref a1), (.ref a1)]
        obtain ⟨T428, X428, e428, st428⟩ := getF X426 hx hZ hown (host := "") (Or.inl w42) Via.refl e426 ((((((F_size_a1.keep K411c nin0).other W413 (Or.inr (slot_ne (Or.inl w43) (Or.inl w21) (by decide) (t := .int) (t' := (.array .long)) (by decide) (by decide)))).keep K416c nin0).other W418 (Or.inr (slot_ne (Or.inl w43) (Or.inl w23) (by decide) (t := .int) (t' := (.array .long)) (by decide) (by decide)))).other W422 (Or.inl ne_a1_bb_411)).other W426 (Or.inl ne_a1_bb_416)) (g := (mkF m 100 #[rv a1, lv q1, sN, lv q2, sN, iv 3] [(.ref a1), (.ref a1)])) rfl rfl (hb hby d10_100)
        refine sT st428 ?_
        show gM p e below _ T428 m 103 #[rv a1, lv q1, sN, lv q2, sN, iv 3] [(.int 2), (.ref a1)]
        refine sT (fun t k => XS.iconst X428.here hx rfl (hb hby d10_103) k) ?_
        show gM p e below _ T428 m 104 #[rv a1, lv q1, sN, lv q2, sN, iv 3] [(.int 1), (.int 2), (.ref a1)]
        refine sT (fun t k => XS.iadd X428.here hx rfl (hb hby d10_104) rfl k) ?_
        show gM p e below _ T428 m 105 #[rv a1, lv q1, sN, lv q2, sN, iv 3] [(.int 3), (.ref a1)]
        obtain ⟨T429, h429, X429, e429, W429, st429⟩ := putF X428 hx hZ hown (host := "") (Or.inl w42) Via.refl e428 ((((((F_size_a1.keep K411c nin0).other W413 (Or.inr (slot_ne (Or.inl w43) (Or.inl w21) (by decide) (t := .int) (t' := (.array .long)) (by decide) (by decide)))).keep K416c nin0).other W418 (Or.inr (slot_ne (Or.inl w43) (Or.inl w23) (by decide) (t := .int) (t' := (.array .long)) (by decide) (by decide)))).other W422 (Or.inl ne_a1_bb_411)).other W426 (Or.inl ne_a1_bb_416)) ((((((E_a1.keep K411c).wr W413).keep K416c).wr W418).wr W422).wr W426) (Or.inl w43) w1 (ty := .int) (by decide) rfl rfl (g := (mkF m 105 #[rv a1, lv q1, sN, lv q2, sN, iv 3] [(.int 3), (.ref a1)])) rfl rfl (hb hby d10_105)
        have Fw429 := ((((((F_size_a1.keep K411c nin0).other W413 (Or.inr (slot_ne (Or.inl w43) (Or.inl w21) (by decide) (t := .int) (t' := (.array .long)) (by decide) (by decide)))).keep K416c nin0).other W418 (Or.inr (slot_ne (Or.inl w43) (Or.inl w23) (by decide) (t := .int) (t' := (.array .long)) (by decide) (by decide)))).other W422 (Or.inl ne_a1_bb_411)).other W426 (Or.inl ne_a1_bb_416)).same W429
        have N429 := Fr.snoc X429 N426 g_a1
        have K430 : Keep h0 h429 [a1, bb, cc] := K427.wr W429 (Or.inl (List.mem_of_getElem? (i := 0) rfl))
        refine sT st429 ?_
        show gM p e below _ T429 m 108 #[rv a1, lv q1, sN, lv q2, sN, iv 3] []
        refine own_ret0 X429 hx hlk Bd.returns (hb hby d10_108) ?_ (by decide) (by decide)
        show own_ap2_Q Z a1 q1 q2 bb cc kb kc _ _ _ mo uo ut h0 n0 _ T429.heap _
        rw [e429]
        exact ⟨bb_411, bb_416, kb_411, kb_416, 3, ([x0, x1, q1] : List Int64), ([y0, y1, q2] : List Int64), rfl, N429, K430, (Or.inl sz_bb_411), (Or.inl sz_bb_416), ne_a1_bb_411, ne_a1_bb_416, ne_bb_411_bb_416, (((((((E_a1.keep K411c).wr W413).keep K416c).wr W418).wr W422).wr W426).wr W429), Fw429, (((((((F_most_a1.keep K411c nin0).other W413 (Or.inr (slot_ne (Or.inl w14) (Or.inl w21) (by decide) (t := .int) (t' := (.array .long)) (by decide) (by decide)))).keep K416c nin0).other W418 (Or.inr (slot_ne (Or.inl w14) (Or.inl w23) (by decide) (t := .int) (t' := (.array .long)) (by decide) (by decide)))).other W422 (Or.inl ne_a1_bb_411)).other W426 (Or.inl ne_a1_bb_416)).other W429 (Or.inr (slot_ne (Or.inl w14) (Or.inl w43) (by decide) (t := .int) (t' := .int) (by decide) (by decide)))), (((((Fw413.keep K416c nin0).other W418 (Or.inr (slot_ne (Or.inl w21) (Or.inl w23) (by decide) (t := (.array .long)) (t' := (.array .long)) (by decide) (by decide)))).other W422 (Or.inl ne_a1_bb_411)).other W426 (Or.inl ne_a1_bb_416)).other W429 (Or.inr (slot_ne (Or.inl w21) (Or.inl w43) (by decide) (t := (.array .long)) (t' := .int) (by decide) (by decide)))), (((Fw418.other W422 (Or.inl ne_a1_bb_411)).other W426 (Or.inl ne_a1_bb_416)).other W429 (Or.inr (slot_ne (Or.inl w23) (Or.inl w43) (by decide) (t := (.array .long)) (t' := .int) (by decide) (by decide)))), (((((((F_ordered_a1.keep K411c nin0).other W413 (Or.inr (slot_ne (Or.inl w49) (Or.inl w21) (by decide) (t := .int) (t' := (.array .long)) (by decide) (by decide)))).keep K416c nin0).other W418 (Or.inr (slot_ne (Or.inl w49) (Or.inl w23) (by decide) (t := .int) (t' := (.array .long)) (by decide) (by decide)))).other W422 (Or.inl ne_a1_bb_411)).other W426 (Or.inl ne_a1_bb_416)).other W429 (Or.inr (slot_ne (Or.inl w49) (Or.inl w43) (by decide) (t := .int) (t' := .int) (by decide) (by decide)))), (((((((F_table_a1.keep K411c nin0).other W413 (Or.inr (slot_ne (Or.inl w36) (Or.inl w21) (by decide) (t := (.array .int)) (t' := (.array .long)) (by decide) (by decide)))).keep K416c nin0).other W418 (Or.inr (slot_ne (Or.inl w36) (Or.inl w23) (by decide) (t := (.array .int)) (t' := (.array .long)) (by decide) (by decide)))).other W422 (Or.inl ne_a1_bb_411)).other W426 (Or.inl ne_a1_bb_416)).other W429 (Or.inr (slot_ne (Or.inl w36) (Or.inl w43) (by decide) (t := (.array .int)) (t' := .int) (by decide) (by decide)))), ((V422.other W426 ne_bb_411_bb_416).other W429 (Ne.symm ne_a1_bb_411)), (V426.other W429 (Ne.symm ne_a1_bb_416)), (by rw [own_nl, if_pos rfl, if_pos hc406, hL2]), rfl, rfl, rfl, rfl, rfl⟩
      · --
        rw [hL2]
        show gM p e below _ T409 m 52 #[rv a1, lv q1, sN, lv q2, sN, iv 4] []
        refine sT (fun t k => XS.aloadN X409.here hx rfl (hb hby d10_52) rfl rfl k) ?_
        show gM p e below _ T409 m 53 #[rv a1, lv q1, sN, lv q2, sN, iv 4] [(.ref a1)]
        refine sT (fun t k => XS.aloadN X409.here hx rfl (hb hby d10_53) rfl rfl k) ?_
        show gM p e below _ T409 m 54 #[rv a1, lv q1, sN, lv q2, sN, iv 4] [(.ref a1), (.ref a1)]
        obtain ⟨T431, X431, e431, st431⟩ := getF X409 hx hZ hown (host := "") (Or.inl w20) Via.refl eh409 F_blocks_a1 (g := (mkF m 54 #[rv a1, lv q1, sN, lv q2, sN, iv 4] [(.ref a1), (.ref a1)])) rfl rfl (hb hby d10_54)
        refine sT st431 ?_
        show gM p e below _ T431 m 57 #[rv a1, lv q1, sN, lv q2, sN, iv 4] [(.ref bb), (.ref a1)]
        refine sT (fun t k => XS.iload X431.here hx rfl (hb hby d10_57) rfl k) ?_
        show gM p e below _ T431 m 59 #[rv a1, lv q1, sN, lv q2, sN, iv 4] [(.int 4), (.ref bb), (.ref a1)]
        obtain ⟨_, _, ⟨T432, L432, k432, n432⟩, -, X432, ⟨Lc432, hQ432, l432, y432, z432⟩, st432⟩ := Jvm.LawKit.callS X431 hx (y := (⟨"java/util/Arrays", "copyOf", "([JI)[J"⟩ : MethodName)) hown (mvT hZ w94) (mvT hZ w95) (mvT hZ w53) (mvT hZ w96) (by decide) (backOf (W := 1) (own_co24 l Z a0 hw [] bb (kb) (x0) (x1) h0 n0 Z0 V_bb) hZ w96 w53 (by decide) (by decide)) (g := (mkF m 59 #[rv a1, lv q1, sN, lv q2, sN, iv 4] [(.int 4), (.ref bb), (.ref a1)])) rfl (by rw [hml]; rfl) (argsL := [(.ref bb), (.int 4)]) (rest := [(.ref a1)]) (lenOf own_pd4 rfl) rfl (by show 2 * 0 + _ ≤ _; exact Nat.le_of_eq rfl) (hb hby d10_59) (fun _ _ => ⟨rfl, e431, (by decide : 0 + 1 ≤ _), (by decide : 0 + 4 ≤ _)⟩)
        dsimp only [Pt.U, Pt.locs, Pt.cells, Pt.slots] at X432 l432 y432 z432 st432 hQ432
        subst y432 z432
        obtain ⟨bb_432, kb_432, rfl, N432q, K432c, f432_0, f432_1⟩ := hQ432
        have N432 : Fr n0 L432 := by rw [l432]; exact Fr.app N409 N432q
        refine sT st432 ?_
        have K433 : Keep h0 T432.heap [a1, bb, cc] := K0.trans K432c all0
        have sz_bb_432 : h0.size ≤ bb_432 := Nat.le_trans K0.1 f432_0
        have g_bb_432 : n0 ≤ bb_432 := Nat.le_trans Z0 sz_bb_432
        have ne_bb_bb_432 : bb ≠ bb_432 := Nat.ne_of_lt (Nat.lt_of_lt_of_le V_bb.lt f432_0)
        have ne_a1_bb_432 : a1 ≠ bb_432 := Nat.ne_of_lt (Nat.lt_of_lt_of_le E_a1.lt f432_0)
        have ne_cc_bb_432 : cc ≠ bb_432 := Nat.ne_of_lt (Nat.lt_of_lt_of_le V_cc.lt f432_0)
        show gM p e below _ T432 m 62 #[rv a1, lv q1, sN, lv q2, sN, iv 4] [(.ref bb_432), (.ref a1)]
        obtain ⟨T434, h434, X434, e434, W434, st434⟩ := putF X432 hx hZ hown (host := "") (Or.inl w20) Via.refl rfl (F_blocks_a1.keep K432c nin0) (E_a1.keep K432c) (Or.inl w21) w1 (ty := (.array .long)) (by decide) rfl rfl (g := (mkF m 62 #[rv a1, lv q1, sN, lv q2, sN, iv 4] [(.ref bb_432), (.ref a1)])) rfl rfl (hb hby d10_62)
        have Fw434 := (F_blocks_a1.keep K432c nin0).same W434
        have N434 := Fr.snoc X434 N432 g_a1
        have K435 : Keep h0 h434 [a1, bb, cc] := K433.wr W434 (Or.inl (List.mem_of_getElem? (i := 0) rfl))
        refine sT st434 ?_
        show gM p e below _ T434 m 65 #[rv a1, lv q1, sN, lv q2, sN, iv 4] []
        refine sT (fun t k => XS.aloadN X434.here hx rfl (hb hby d10_65) rfl rfl k) ?_
        show gM p e below _ T434 m 66 #[rv a1, lv q1, sN, lv q2, sN, iv 4] [(.ref a1)]
        refine sT (fun t k => XS.aloadN X434.here hx rfl (hb hby d10_66) rfl rfl k) ?_
        show gM p e below _ T434 m 67 #[rv a1, lv q1, sN, lv q2, sN, iv 4] [(.ref a1), (.ref a1)]
        obtain ⟨T436, X436, e436, st436⟩ := getF X434 hx hZ hown (host := "") (Or.inl w22) Via.refl e434 ((F_bits_a1.keep K432c nin0).other W434 (Or.inr (slot_ne (Or.inl w23) (Or.inl w21) (by decide) (t := (.array .long)) (t' := (.array .long)) (by decide) (by decide)))) (g := (mkF m 67 #[rv a1, lv q1, sN, lv q2, sN, iv 4] [(.ref a1), (.ref a1)])) rfl rfl (hb hby d10_67)
        refine sT st436 ?_
        show gM p e below _ T436 m 70 #[rv a1, lv q1, sN, lv q2, sN, iv 4] [(.ref cc), (.ref a1)]
        refine sT (fun t k => XS.iload X436.here hx rfl (hb hby d10_70) rfl k) ?_
        show gM p e below _ T436 m 72 #[rv a1, lv q1, sN, lv q2, sN, iv 4] [(.int 4), (.ref cc), (.ref a1)]
        obtain ⟨_, _, ⟨T437, L437, k437, n437⟩, -, X437, ⟨Lc437, hQ437, l437, y437, z437⟩, st437⟩ := Jvm.LawKit.callS X436 hx (y := (⟨"java/util/Arrays", "copyOf", "([JI)[J"⟩ : MethodName)) hown (mvT hZ w94) (mvT hZ w95) (mvT hZ w53) (mvT hZ w96) (by decide) (backOf (W := 1) (own_co24 l Z a0 hw [] cc (kc) (y0) (y1) h434 n0 (Nat.le_trans (Nat.le_trans Z0 K432c.1) (Keep.of_wr W434).1) ((V_cc.keep K432c nin0).other W434 (Ne.symm ne_a1_cc))) hZ w96 w53 (by decide) (by decide)) (g := (mkF m 72 #[rv a1, lv q1, sN, lv q2, sN, iv 4] [(.int 4), (.ref cc), (.ref a1)])) rfl (by rw [hml]; rfl) (argsL := [(.ref cc), (.int 4)]) (rest := [(.ref a1)]) (lenOf own_pd4 rfl) rfl (by show 2 * 0 + _ ≤ _; exact Nat.le_of_eq rfl) (hb hby d10_72) (fun _ _ => ⟨rfl, e436, (by decide : 1 + 1 ≤ _), (by decide : 4 + 4 ≤ _)⟩)
        dsimp only [Pt.U, Pt.locs, Pt.cells, Pt.slots] at X437 l437 y437 z437 st437 hQ437
        subst y437 z437
        obtain ⟨bb_437, kb_437, rfl, N437q, K437c, f437_0, f437_1⟩ := hQ437
        have N437 : Fr n0 L437 := by rw [l437]; exact Fr.app N434 N437q
        refine sT st437 ?_
        have K438 : Keep h0 T437.heap [a1, bb, cc] := K435.trans K437c all0
        have sz_bb_437 : h0.size ≤ bb_437 := Nat.le_trans K435.1 f437_0
        have g_bb_437 : n0 ≤ bb_437 := Nat.le_trans Z0 sz_bb_437
        have ne_bb_bb_437 : bb ≠ bb_437 := Nat.ne_of_lt (Nat.lt_of_lt_of_le ((V_bb.keep K432c nin0).other W434 (Ne.symm ne_a1_bb)).lt f437_0)
        have ne_a1_bb_437 : a1 ≠ bb_437 := Nat.ne_of_lt (Nat.lt_of_lt_of_le ((E_a1.keep K432c).wr W434).lt f437_0)
        have ne_bb_432_bb_437 : bb_432 ≠ bb_437 := Nat.ne_of_lt (Nat.lt_of_lt_of_le (f432_1.other W434 (Ne.symm ne_a1_bb_432)).lt f437_0)
        have ne_cc_bb_437 : cc ≠ bb_437 := Nat.ne_of_lt (Nat.lt_of_lt_of_le ((V_cc.keep K432c nin0).other W434 (Ne.symm ne_a1_cc)).lt f437_0)
        show gM p e below _ T437 m 75 #[rv a1, lv q1, sN, lv q2, sN, iv 4] [(.ref bb_437), (.ref a1)]
        obtain ⟨T439, h439, X439, e439, W439, st439⟩ := putF X437 hx hZ hown (host := "") (Or.inl w22) Via.refl rfl (((F_bits_a1.keep K432c nin0).other W434 (Or.inr (slot_ne (Or.inl w23) (Or.inl w21) (by decide) (t := (.array .long)) (t' := (.array .long)) (by decide) (by decide)))).keep K437c nin0) (((E_a1.keep K432c).wr W434).keep K437c) (Or.inl w23) w1 (ty := (.array .long)) (by decide) rfl rfl (g := (mkF m 75 #[rv a1, lv q1, sN, lv q2, sN, iv 4] [(.ref bb_437), (.ref a1)])) rfl rfl (hb hby d10_75)
        have Fw439 := (((F_bits_a1.keep K432c nin0).other W434 (Or.inr (slot_ne (Or.inl w23) (Or.inl w21) (by decide) (t := (.array .long)) (t' := (.array .long)) (by decide) (by decide)))).keep K437c nin0).same W439
        have N439 := Fr.snoc X439 N437 g_a1
        have K440 : Keep h0 h439 [a1, bb, cc] := K438.wr W439 (Or.inl (List.mem_of_getElem? (i := 0) rfl))
        refine sT st439 ?_
        show gM p e below _ T439 m 78 #[rv a1, lv q1, sN, lv q2, sN, iv 4] []
        refine sT (fun t k => XS.aloadN X439.here hx rfl (hb hby d10_78) rfl rfl k) ?_
        show gM p e below _ T439 m 79 #[rv a1, lv q1, sN, lv q2, sN, iv 4] [(.ref a1)]
        obtain ⟨T441, X441, e441, st441⟩ := getF X439 hx hZ hown (host := "") (Or.inl w20) Via.refl e439 ((Fw434.keep K437c nin0).other W439 (Or.inr (slot_ne (Or.inl w21) (Or.inl w23) (by decide) (t := (.array .long)) (t' := (.array .long)) (by decide) (by decide)))) (g := (mkF m 79 #[rv a1, lv q1, sN, lv q2, sN, iv 4] [(.ref a1)])) rfl rfl (hb hby d10_79)
        refine sT st441 ?_
        show gM p e below _ T441 m 82 #[rv a1, lv q1, sN, lv q2, sN, iv 4] [(.ref bb_432)]
        refine sT (fun t k => XS.aloadN X441.here hx rfl (hb hby d10_82) rfl rfl k) ?_
        show gM p e below _ T441 m 83 #[rv a1, lv q1, sN, lv q2, sN, iv 4] [(.ref a1), (.ref bb_432)]
        obtain ⟨T442, X442, e442, st442⟩ := getF X441 hx hZ hown (host := "") (Or.inl w42) Via.refl e441 ((((F_size_a1.keep K432c nin0).other W434 (Or.inr (slot_ne (Or.inl w43) (Or.inl w21) (by decide) (t := .int) (t' := (.array .long)) (by decide) (by decide)))).keep K437c nin0).other W439 (Or.inr (slot_ne (Or.inl w43) (Or.inl w23) (by decide) (t := .int) (t' := (.array .long)) (by decide) (by decide)))) (g := (mkF m 83 #[rv a1, lv q1, sN, lv q2, sN, iv 4] [(.ref a1), (.ref bb_432)])) rfl rfl (hb hby d10_83)
        refine sT st442 ?_
        show gM p e below _ T442 m 86 #[rv a1, lv q1, sN, lv q2, sN, iv 4] [(.int 2), (.ref bb_432)]
        refine sT (fun t k => XS.lloadN X442.here hx rfl (hb hby d10_86) rfl k) ?_
        show gM p e below _ T442 m 87 #[rv a1, lv q1, sN, lv q2, sN, iv 4] [(.long q1), (.int 2), (.ref bb_432)]
        obtain ⟨T443, h443, X443, e443, W443, V443, st443⟩ := own_lst X442 hx hZ e442 (((f432_1.other W434 (Ne.symm ne_a1_bb_432)).keep K437c nin0).other W439 (Ne.symm ne_a1_bb_432)) (j := (2 : Int32)) ⟨by decide, by decide⟩ (2) rfl (Nat.le_of_ble_eq_true rfl) (g := (mkF m 87 #[rv a1, lv q1, sN, lv q2, sN, iv 4] [(.long q1), (.int 2), (.ref bb_432)])) rfl rfl (hb hby d10_87)
        have V443 : Arv Z h443 bb_432 kb_432 .long 4 (([x0, x1, q1, 0] : List Int64).map Value.long) (Value.long 0) := V443
        have N443 := Fr.snoc X443 N439 g_bb_432
        have K444 : Keep h0 h443 [a1, bb, cc] := K440.wr W443 (Or.inr sz_bb_432)
        refine sT st443 ?_
        show gM p e below _ T443 m 88 #[rv a1, lv q1, sN, lv q2, sN, iv 4] []
        refine sT (fun t k => XS.aloadN X443.here hx rfl (hb hby d10_88) rfl rfl k) ?_
        show gM p e below _ T443 m 89 #[rv a1, lv q1, sN, lv q2, sN, iv 4] [(.ref a1)]
        obtain ⟨T445, X445, e445, st445⟩ := getF X443 hx hZ hown (host := "") (Or.inl w22) Via.refl e443 (Fw439.other W443 (Or.inl ne_a1_bb_432)) (g := (mkF m 89 #[rv a1, lv q1, sN, lv q2, sN, iv 4] [(.ref a1)])) rfl rfl (hb hby d10_89)
        refine sT st445 ?_
        show gM p e below _ T445 m 92 #[rv a1, lv q1, sN, lv q2, sN, iv 4] [(.ref bb_437)]
        refine sT (fun t k => XS.aloadN X445.here hx rfl (hb hby d10_92) rfl rfl k) ?_
        show gM p e below _ T445 m 93 #[rv a1, lv q1, sN, lv q2, sN, iv 4] [(.ref a1), (.ref bb_437)]
        obtain ⟨T446, X446, e446, st446⟩ := getF X445 hx hZ hown (host := "") (Or.inl w42) Via.refl e445 (((((F_size_a1.keep K432c nin0).other W434 (Or.inr (slot_ne (Or.inl w43) (Or.inl w21) (by decide) (t := .int) (t' := (.array .long)) (by decide) (by decide)))).keep K437c nin0).other W439 (Or.inr (slot_ne (Or.inl w43) (Or.inl w23) (by decide) (t := .int) (t' := (.array .long)) (by decide) (by decide)))).other W443 (Or.inl ne_a1_bb_432)) (g := (mkF m 93 #[rv a1, lv q1, sN, lv q2, sN, iv 4] [(.ref a1), (.ref bb_437)])) rfl rfl (hb hby d10_93)
        refine sT st446 ?_
        show gM p e below _ T446 m 96 #[rv a1, lv q1, sN, lv q2, sN, iv 4] [(.int 2), (.ref bb_437)]
        refine sT (fun t k => XS.lloadN X446.here hx rfl (hb hby d10_96) rfl k) ?_
        show gM p e below _ T446 m 97 #[rv a1, lv q1, sN, lv q2, sN, iv 4] [(.long q2), (.int 2), (.ref bb_437)]
        obtain ⟨T447, h447, X447, e447, W447, V447, st447⟩ := own_lst X446 hx hZ e446 ((f437_1.other W439 (Ne.symm ne_a1_bb_437)).other W443 (Ne.symm ne_bb_432_bb_437)) (j := (2 : Int32)) ⟨by decide, by decide⟩ (2) rfl (Nat.le_of_ble_eq_true rfl) (g := (mkF m 97 #[rv a1, lv q1, sN, lv q2, sN, iv 4] [(.long q2), (.int 2), (.ref bb_437)])) rfl rfl (hb hby d10_97)
        have V447 : Arv Z h447 bb_437 kb_437 .long 4 (([y0, y1, q2, 0] : List Int64).map Value.long) (Value.long 0) := V447
        have N447 := Fr.snoc X447 N443 g_bb_437
        have K448 : Keep h0 h447 [a1, bb, cc] := K444.wr W447 (Or.inr sz_bb_437)
        refine sT st447 ?_
        show gM p e below _ T447 m 98 #[rv a1, lv q1, sN, lv q2, sN, iv 4] []
        refine sT (fun t k => XS.aloadN X447.here hx rfl (hb hby d10_98) rfl rfl k) ?_
        show gM p e below _ T447 m 99 #[rv a1, lv q1, sN, lv q2, sN, iv 4] [(.ref a1)]
        refine sT (fun t k => XS.dup X447.here hx rfl (hb hby d10_99) rfl rfl k) ?_
        show gM p e below _ T447 m 100 #[rv a1, lv q1, sN, lv q2, sN, iv 4] [(.ref a1), (.ref a1)]
        obtain ⟨T449, X449, e449, st449⟩ := getF X447 hx hZ hown (host := "") (Or.inl w42) Via.refl e447 ((((((F_size_a1.keep K432c nin0).other W434 (Or.inr (slot_ne (Or.inl w43) (Or.inl w21) (by decide) (t := .int) (t' := (.array .long)) (by decide) (by decide)))).keep K437c nin0).other W439 (Or.inr (slot_ne (Or.inl w43) (Or.inl w23) (by decide) (t := .int) (t' := (.array .long)) (by decide) (by decide)))).other W443 (Or.inl ne_a1_bb_432)).other W447 (Or.inl ne_a1_bb_437)) (g := (mkF m 100 #[rv a1, lv q1, sN, lv q2, sN, iv 4] [(.ref a1), (.ref a1)])) rfl rfl (hb hby d10_100)
        refine sT st449 ?_
        show gM p e below _ T449 m 103 #[rv a1, lv q1, sN, lv q2, sN, iv 4] [(.int 2), (.ref a1)]
        refine sT (fun t k => XS.iconst X449.here hx rfl (hb hby d10_103) k) ?_
        show gM p e below _ T449 m 104 #[rv a1, lv q1, sN, lv q2, sN, iv 4] [(.int 1), (.int 2), (.ref a1)]
        refine sT (fun t k => XS.iadd X449.here hx rfl (hb hby d10_104) rfl k) ?_
        show gM p e below _ T449 m 105 #[rv a1, lv q1, sN, lv q2, sN, iv 4] [(.int 3), (.ref a1)]
        obtain ⟨T450, h450, X450, e450, W450, st450⟩ := putF X449 hx hZ hown (host := "") (Or.inl w42) Via.refl e449 ((((((F_size_a1.keep K432c nin0).other W434 (Or.inr (slot_ne (Or.inl w43) (Or.inl w21) (by decide) (t := .int) (t' := (.array .long)) (by decide) (by decide)))).keep K437c nin0).other W439 (Or.inr (slot_ne (Or.inl w43) (Or.inl w23) (by decide) (t := .int) (t' := (.array .long)) (by decide) (by decide)))).other W443 (Or.inl ne_a1_bb_432)).other W447 (Or.inl ne_a1_bb_437)) ((((((E_a1.keep K432c).wr W434).keep K437c).wr W439).wr W443).wr W447) (Or.inl w43) w1 (ty := .int) (by decide) rfl rfl (g := (mkF m 105 #[rv a1, lv q1, sN, lv q2, sN, iv 4] [(.int 3), (.ref a1)])) rfl rfl (hb hby d10_105)
        have Fw450 := ((((((F_size_a1.keep K432c nin0).other W434 (Or.inr (slot_ne (Or.inl w43) (Or.inl w21) (by decide) (t := .int) (t' := (.array .long)) (by decide) (by decide)))).keep K437c nin0).other W439 (Or.inr (slot_ne (Or.inl w43) (Or.inl w23) (by decide) (t := .int) (t' := (.array .long)) (by decide) (by decide)))).other W443 (Or.inl ne_a1_bb_432)).other W447 (Or.inl ne_a1_bb_437)).same W450
        have N450 := Fr.snoc X450 N447 g_a1
        have K451 : Keep h0 h450 [a1, bb, cc] := K448.wr W450 (Or.inl (List.mem_of_getElem? (i := 0) rfl))
        refine sT st450 ?_
        show gM p e below _ T450 m 108 #[rv a1, lv q1, sN, lv q2, sN, iv 4] []
        refine own_ret0 X450 hx hlk Bd.returns (hb hby d10_108) ?_ (by decide) (by decide)
        show own_ap2_Q Z a1 q1 q2 bb cc kb kc _ _ _ mo uo ut h0 n0 _ T450.heap _
        rw [e450]
        exact ⟨bb_432, bb_437, kb_432, kb_437, 4, ([x0, x1, q1, 0] : List Int64), ([y0, y1, q2, 0] : List Int64), rfl, N450, K451, (Or.inl sz_bb_432), (Or.inl sz_bb_437), ne_a1_bb_432, ne_a1_bb_437, ne_bb_432_bb_437, (((((((E_a1.keep K432c).wr W434).keep K437c).wr W439).wr W443).wr W447).wr W450), Fw450, (((((((F_most_a1.keep K432c nin0).other W434 (Or.inr (slot_ne (Or.inl w14) (Or.inl w21) (by decide) (t := .int) (t' := (.array .long)) (by decide) (by decide)))).keep K437c nin0).other W439 (Or.inr (slot_ne (Or.inl w14) (Or.inl w23) (by decide) (t := .int) (t' := (.array .long)) (by decide) (by decide)))).other W443 (Or.inl ne_a1_bb_432)).other W447 (Or.inl ne_a1_bb_437)).other W450 (Or.inr (slot_ne (Or.inl w14) (Or.inl w43) (by decide) (t := .int) (t' := .int) (by decide) (by decide)))), (((((Fw434.keep K437c nin0).other W439 (Or.inr (slot_ne (Or.inl w21) (Or.inl w23) (by decide) (t := (.array .long)) (t' := (.array .long)) (by decide) (by decide)))).other W443 (Or.inl ne_a1_bb_432)).other W447 (Or.inl ne_a1_bb_437)).other W450 (Or.inr (slot_ne (Or.inl w21) (Or.inl w43) (by decide) (t := (.array .long)) (t' := .int) (by decide) (by decide)))), (((Fw439.other W443 (Or.inl ne_a1_bb_432)).other W447 (Or.inl ne_a1_bb_437)).other W450 (Or.inr (slot_ne (Or.inl w23) (Or.inl w43) (by decide) (t := (.array .long)) (t' := .int) (by decide) (by decide)))), (((((((F_ordered_a1.keep K432c nin0).other W434 (Or.inr (slot_ne (Or.inl w49) (Or.inl w21) (by decide) (t := .int) (t' := (.array .long)) (by decide) (by decide)))).keep K437c nin0).other W439 (Or.inr (slot_ne (Or.inl w49) (Or.inl w23) (by decide) (t := .int) (t' := (.array .long)) (by decide) (by decide)))).other W443 (Or.inl ne_a1_bb_432)).other W447 (Or.inl ne_a1_bb_437)).other W450 (Or.inr (slot_ne (Or.inl w49) (Or.inl w43) (by decide) (t := .int) (t' := .int) (by decide) (by decide)))), (((((((F_table_a1.keep K432c nin0).other W434 (Or.inr (slot_ne (Or.inl w36) (Or.inl w21) (by decide) (t := (.array .int)) (t' := (.array .long)) (by decide) (by decide)))).keep K437c nin0).other W439 (Or.inr (slot_ne (Or.inl w36) (Or.inl w23) (by decide) (t := (.array .int)) (t' := (.array .long)) (by decide) (by decide)))).other W443 (Or.inl ne_a1_bb_432)).other W447 (Or.inl ne_a1_bb_437)).other W450 (Or.inr (slot_ne (Or.inl w36) (Or.inl w43) (by decide) (t := (.array .int)) (t' := .int) (by decide) (by decide)))), ((V443.other W447 ne_bb_432_bb_437).other W450 (Ne.symm ne_a1_bb_432)), (V447.other W450 (Ne.symm ne_a1_bb_437)), (by rw [own_nl, if_pos rfl, if_pos hc406, hL2]), rfl, rfl, rfl, rfl, rfl⟩
    · --
      refine sT (fun t k => XS.icmpYes X405.here hx rfl (pc0 := 20) (pc' := 44) rfl (hb hby d10_20) rfl (flt hc406).2.1 (by decide) (by decide) k) ?_
      show gM p e below _ T405 m 44 #[rv a1, lv q1, sN, lv q2, sN, uN] []
      refine sT (fun t k => XS.iconst X405.here hx rfl (hb hby d10_44) k) ?_
      show gM p e below _ T405 m 45 #[rv a1, lv q1, sN, lv q2, sN, uN] [(.int 2)]
      refine sT (fun t k => XS.aloadN X405.here hx rfl (hb hby d10_45) rfl rfl k) ?_
      show gM p e below _ T405 m 46 #[rv a1, lv q1, sN, lv q2, sN, uN] [(.ref a1), (.int 2)]
      obtain ⟨T452, X452, e452, st452⟩ := getF X405 hx hZ hown (host := "") (Or.inl w42) Via.refl e405 F_size_a1 (g := (mkF m 46 #[rv a1, lv q1, sN, lv q2, sN, uN] [(.ref a1), (.int 2)])) rfl rfl (hb hby d10_46)
      refine sT st452 ?_
      show gM p e below _ T452 m 49 #[rv a1, lv q1, sN, lv q2, sN, uN] [(.int 2), (.int 2)]
      refine sT (fun t k => XS.imul X452.here hx rfl (hb hby d10_49) rfl k) ?_
      show gM p e below _ T452 m 50 #[rv a1, lv q1, sN, lv q2, sN, uN] [(.int 4)]
      refine sT (fun t k => XS.istore X452.here hx rfl (hb hby d10_50) rfl (l' := #[rv a1, lv q1, sN, lv q2, sN, iv 4]) rfl k) ?_
      show gM p e below _ T452 m 52 #[rv a1, lv q1, sN, lv q2, sN, iv 4] []
      refine sT (fun t k => XS.aloadN X452.here hx rfl (hb hby d10_52) rfl rfl k) ?_
      show gM p e below _ T452 m 53 #[rv a1, lv q1, sN, lv q2, sN, iv 4] [(.ref a1)]
      refine sT (fun t k => XS.aloadN X452.here hx rfl (hb hby d10_53) rfl rfl k) ?_
      show gM p e below _ T452 m 54 #[rv a1, lv q1, sN, lv q2, sN, iv 4] [(.ref a1), (.ref a1)]
      obtain ⟨T453, X453, e453, st453⟩ := getF X452 hx hZ hown (host := "") (Or.inl w20) Via.refl e452 F_blocks_a1 (g := (mkF m 54 #[rv a1, lv q1, sN, lv q2, sN, iv 4] [(.ref a1), (.ref a1)])) rfl rfl (hb hby d10_54)
      refine sT st453 ?_
      show gM p e below _ T453 m 57 #[rv a1, lv q1, sN, lv q2, sN, iv 4] [(.ref bb), (.ref a1)]
      refine sT (fun t k => XS.iload X453.here hx rfl (hb hby d10_57) rfl k) ?_
      show gM p e below _ T453 m 59 #[rv a1, lv q1, sN, lv q2, sN, iv 4] [(.int 4), (.ref bb), (.ref a1)]
      obtain ⟨_, _, ⟨T454, L454, k454, n454⟩, -, X454, ⟨Lc454, hQ454, l454, y454, z454⟩, st454⟩ := Jvm.LawKit.callS X453 hx (y := (⟨"java/util/Arrays", "copyOf", "([JI)[J"⟩ : MethodName)) hown (mvT hZ w94) (mvT hZ w95) (mvT hZ w53) (mvT hZ w96) (by decide) (backOf (W := 1) (own_co24 l Z a0 hw [] bb (kb) (x0) (x1) h0 n0 Z0 V_bb) hZ w96 w53 (by decide) (by decide)) (g := (mkF m 59 #[rv a1, lv q1, sN, lv q2, sN, iv 4] [(.int 4), (.ref bb), (.ref a1)])) rfl (by rw [hml]; rfl) (argsL := [(.ref bb), (.int 4)]) (rest := [(.ref a1)]) (lenOf own_pd4 rfl) rfl (by show 2 * 0 + _ ≤ _; exact Nat.le_of_eq rfl) (hb hby d10_59) (fun _ _ => ⟨rfl, e453, (by decide : 0 + 1 ≤ _), (by decide : 0 + 4 ≤ _)⟩)
      dsimp only [Pt.U, Pt.locs, Pt.cells, Pt.slots] at X454 l454 y454 z454 st454 hQ454
      subst y454 z454
      obtain ⟨bb_454, kb_454, rfl, N454q, K454c, f454_0, f454_1⟩ := hQ454
      have N454 : Fr n0 L454 := by rw [l454]; exact Fr.app N0 N454q
      refine sT st454 ?_
      have K455 : Keep h0 T454.heap [a1, bb, cc] := K0.trans K454c all0
      have sz_bb_454 : h0.size ≤ bb_454 := Nat.le_trans K0.1 f454_0
      have g_bb_454 : n0 ≤ bb_454 := Nat.le_trans Z0 sz_bb_454
      have ne_bb_bb_454 : bb ≠ bb_454 := Nat.ne_of_lt (Nat.lt_of_lt_of_le V_bb.lt f454_0)
      have ne_a1_bb_454 : a1 ≠ bb_454 := Nat.ne_of_lt (Nat.lt_of_lt_of_le E_a1.lt f454_0)
      have ne_cc_bb_454 : cc ≠ bb_454 := Nat.ne_of_lt (Nat.lt_of_lt_of_le V_cc.lt f454_0)
      show gM p e below _ T454 m 62 #[rv a1, lv q1, sN, lv q2, sN, iv 4] [(.ref bb_454), (.ref a1)]
      obtain ⟨T456, h456, X456, e456, W456, st456⟩ := putF X454 hx hZ hown (host := "") (Or.inl w20) Via.refl rfl (F_blocks_a1.keep K454c nin0) (E_a1.keep K454c) (Or.inl w21) w1 (ty := (.array .long)) (by decide) rfl rfl (g := (mkF m 62 #[rv a1, lv q1, sN, lv q2, sN, iv 4] [(.ref bb_454), (.ref a1)])) rfl rfl (hb hby d10_62)
      have Fw456 := (F_blocks_a1.keep K454c nin0).same W456
      have N456 := Fr.snoc X456 N454 g_a1
      have K457 : Keep h0 h456 [a1, bb, cc] := K455.wr W456 (Or.inl (List.mem_of_getElem? (i := 0) rfl))
      refine sT st456 ?_
      show gM p e below _ T456 m 65 #[rv a1, lv q1, sN, lv q2, sN, iv 4] []
      refine sT (fun t k => XS.aloadN X456.here hx rfl (hb hby d10_65) rfl rfl k) ?_
      show gM p e below _ T456 m 66 #[rv a1, lv q1, sN, lv q2, sN, iv 4] [(.ref a1)]
      refine sT (fun t k => XS.aloadN X456.here hx rfl (hb hby d10_66) rfl rfl k) ?_
      show gM p e below _ T456 m 67 #[rv a1, lv q1, sN, lv q2, sN, iv 4] [(.ref a1), (.ref a1)]
      obtain ⟨T458, X458, e458, st458⟩ := getF X456 hx hZ hown (host := "") (Or.inl w22) Via.refl e456 ((F_bits_a1.keep K454c nin0).other W456 (Or.inr (slot_ne (Or.inl w23) (Or.inl w21) (by decide) (t := (.array .long)) (t' := (.array .long)) (by decide) (by decide)))) (g := (mkF m 67 #[rv a1, lv q1, sN, lv q2, sN, iv 4] [(.ref a1), (.ref a1)])) rfl rfl (hb hby d10_67)
      refine sT st458 ?_
      show gM p e below _ T458 m 70 #[rv a1, lv q1, sN, lv q2, sN, iv 4] [(.ref cc), (.ref a1)]
      refine sT (fun t k => XS.iload X458.here hx rfl (hb hby d10_70) rfl k) ?_
      show gM p e below _ T458 m 72 #[rv a1, lv q1, sN, lv q2, sN, iv 4] [(.int 4), (.ref cc), (.ref a1)]
      obtain ⟨_, _, ⟨T459, L459, k459, n459⟩, -, X459, ⟨Lc459, hQ459, l459, y459, z459⟩, st459⟩ := Jvm.LawKit.callS X458 hx (y := (⟨"java/util/Arrays", "copyOf", "([JI)[J"⟩ : MethodName)) hown (mvT hZ w94) (mvT hZ w95) (mvT hZ w53) (mvT hZ w96) (by decide) (backOf (W := 1) (own_co24 l Z a0 hw [] cc (kc) (y0) (y1) h456 n0 (Nat.le_trans (Nat.le_trans Z0 K454c.1) (Keep.of_wr W456).1) ((V_cc.keep K454c nin0).other W456 (Ne.symm ne_a1_cc))) hZ w96 w53 (by decide) (by decide)) (g := (mkF m 72 #[rv a1, lv q1, sN, lv q2, sN, iv 4] [(.int 4), (.ref cc), (.ref a1)])) rfl (by rw [hml]; rfl) (argsL := [(.ref cc), (.int 4)]) (rest := [(.ref a1)]) (lenOf own_pd4 rfl) rfl (by show 2 * 0 + _ ≤ _; exact Nat.le_of_eq rfl) (hb hby d10_72) (fun _ _ => ⟨rfl, e458, (by decide : 1 + 1 ≤ _), (by decide : 4 + 4 ≤ _)⟩)
      dsimp only [Pt.U, Pt.locs, Pt.cells, Pt.slots] at X459 l459 y459 z459 st459 hQ459
      subst y459 z459
      obtain ⟨bb_459, kb_459, rfl, N459q, K459c, f459_0, f459_1⟩ := hQ459
      have N459 : Fr n0 L459 := by rw [l459]; exact Fr.app N456 N459q
      refine sT st459 ?_
      have K460 : Keep h0 T459.heap [a1, bb, cc] := K457.trans K459c all0
      have sz_bb_459 : h0.size ≤ bb_459 := Nat.le_trans K457.1 f459_0
      have g_bb_459 : n0 ≤ bb_459 := Nat.le_trans Z0 sz_bb_459
      have ne_bb_bb_459 : bb ≠ bb_459 := Nat.ne_of_lt (Nat.lt_of_lt_of_le ((V_bb.keep K454c nin0).other W456 (Ne.symm ne_a1_bb)).lt f459_0)
      have ne_a1_bb_459 : a1 ≠ bb_459 := Nat.ne_of_lt (Nat.lt_of_lt_of_le ((E_a1.keep K454c).wr W456).lt f459_0)
      have ne_cc_bb_459 : cc ≠ bb_459 := Nat.ne_of_lt (Nat.lt_of_lt_of_le ((V_cc.keep K454c nin0).other W456 (Ne.symm ne_a1_cc)).lt f459_0)
      have ne_bb_454_bb_459 : bb_454 ≠ bb_459 := Nat.ne_of_lt (Nat.lt_of_lt_of_le (f454_1.other W456 (Ne.symm ne_a1_bb_454)).lt f459_0)
      show gM p e below _ T459 m 75 #[rv a1, lv q1, sN, lv q2, sN, iv 4] [(.ref bb_459), (.ref a1)]
      obtain ⟨T461, h461, X461, e461, W461, st461⟩ := putF X459 hx hZ hown (host := "") (Or.inl w22) Via.refl rfl (((F_bits_a1.keep K454c nin0).other W456 (Or.inr (slot_ne (Or.inl w23) (Or.inl w21) (by decide) (t := (.array .long)) (t' := (.array .long)) (by decide) (by decide)))).keep K459c nin0) (((E_a1.keep K454c).wr W456).keep K459c) (Or.inl w23) w1 (ty := (.array .long)) (by decide) rfl rfl (g := (mkF m 75 #[rv a1, lv q1, sN, lv q2, sN, iv 4] [(.ref bb_459), (.ref a1)])) rfl rfl (hb hby d10_75)
      have Fw461 := (((F_bits_a1.keep K454c nin0).other W456 (Or.inr (slot_ne (Or.inl w23) (Or.inl w21) (by decide) (t := (.array .long)) (t' := (.array .long)) (by decide) (by decide)))).keep K459c nin0).same W461
      have N461 := Fr.snoc X461 N459 g_a1
      have K462 : Keep h0 h461 [a1, bb, cc] := K460.wr W461 (Or.inl (List.mem_of_getElem? (i := 0) rfl))
      refine sT st461 ?_
      show gM p e below _ T461 m 78 #[rv a1, lv q1, sN, lv q2, sN, iv 4] []
      refine sT (fun t k => XS.aloadN X461.here hx rfl (hb hby d10_78) rfl rfl k) ?_
      show gM p e below _ T461 m 79 #[rv a1, lv q1, sN, lv q2, sN, iv 4] [(.ref a1)]
      obtain ⟨T463, X463, e463, st463⟩ := getF X461 hx hZ hown (host := "") (Or.inl w20) Via.refl e461 ((Fw456.keep K459c nin0).other W461 (Or.inr (slot_ne (Or.inl w21) (Or.inl w23) (by decide) (t := (.array .long)) (t' := (.array .long)) (by decide) (by decide)))) (g := (mkF m 79 #[rv a1, lv q1, sN, lv q2, sN, iv 4] [(.ref a1)])) rfl rfl (hb hby d10_79)
      refine sT st463 ?_
      show gM p e below _ T463 m 82 #[rv a1, lv q1, sN, lv q2, sN, iv 4] [(.ref bb_454)]
      refine sT (fun t k => XS.aloadN X463.here hx rfl (hb hby d10_82) rfl rfl k) ?_
      show gM p e below _ T463 m 83 #[rv a1, lv q1, sN, lv q2, sN, iv 4] [(.ref a1), (.ref bb_454)]
      obtain ⟨T464, X464, e464, st464⟩ := getF X463 hx hZ hown (host := "") (Or.inl w42) Via.refl e463 ((((F_size_a1.keep K454c nin0).other W456 (Or.inr (slot_ne (Or.inl w43) (Or.inl w21) (by decide) (t := .int) (t' := (.array .long)) (by decide) (by decide)))).keep K459c nin0).other W461 (Or.inr (slot_ne (Or.inl w43) (Or.inl w23) (by decide) (t := .int) (t' := (.array .long)) (by decide) (by decide)))) (g := (mkF m 83 #[rv a1, lv q1, sN, lv q2, sN, iv 4] [(.ref a1), (.ref bb_454)])) rfl rfl (hb hby d10_83)
      refine sT st464 ?_
      show gM p e below _ T464 m 86 #[rv a1, lv q1, sN, lv q2, sN, iv 4] [(.int 2), (.ref bb_454)]
      refine sT (fun t k => XS.lloadN X464.here hx rfl (hb hby d10_86) rfl k) ?_
      show gM p e below _ T464 m 87 #[rv a1, lv q1, sN, lv q2, sN, iv 4] [(.long q1), (.int 2), (.ref bb_454)]
      obtain ⟨T465, h465, X465, e465, W465, V465, st465⟩ := own_lst X464 hx hZ e464 (((f454_1.other W456 (Ne.symm ne_a1_bb_454)).keep K459c nin0).other W461 (Ne.symm ne_a1_bb_454)) (j := (2 : Int32)) ⟨by decide, by decide⟩ (2) rfl (Nat.le_of_ble_eq_true rfl) (g := (mkF m 87 #[rv a1, lv q1, sN, lv q2, sN, iv 4] [(.long q1), (.int 2), (.ref bb_454)])) rfl rfl (hb hby d10_87)
      have V465 : Arv Z h465 bb_454 kb_454 .long 4 (([x0, x1, q1, 0] : List Int64).map Value.long) (Value.long 0) := V465
      have N465 := Fr.snoc X465 N461 g_bb_454
      have K466 : Keep h0 h465 [a1, bb, cc] := K462.wr W465 (Or.inr sz_bb_454)
      refine sT st465 ?_
      show gM p e below _ T465 m 88 #[rv a1, lv q1, sN, lv q2, sN, iv 4] []
      refine sT (fun t k => XS.aloadN X465.here hx rfl (hb hby d10_88) rfl rfl k) ?_
      show gM p e below _ T465 m 89 #[rv a1, lv q1, sN, lv q2, sN, iv 4] [(.ref a1)]
      obtain ⟨T467, X467, e467, st467⟩ := getF X465 hx hZ hown (host := "") (Or.inl w22) Via.refl e465 (Fw461.other W465 (Or.inl ne_a1_bb_454)) (g := (mkF m 89 #[rv a1, lv q1, sN, lv q2, sN, iv 4] [(.ref a1)])) rfl rfl (hb hby d10_89)
      refine sT st467 ?_
      show gM p e below _ T467 m 92 #[rv a1, lv q1, sN, lv q2, sN, iv 4] [(.ref bb_459)]
      refine sT (fun t k => XS.aloadN X467.here hx rfl (hb hby d10_92) rfl rfl k) ?_
      show gM p e below _ T467 m 93 #[rv a1, lv q1, sN, lv q2, sN, iv 4] [(.ref a1), (.ref bb_459)]
      obtain ⟨T468, X468, e468, st468⟩ := getF X467 hx hZ hown (host := "") (Or.inl w42) Via.refl e467 (((((F_size_a1.keep K454c nin0).other W456 (Or.inr (slot_ne (Or.inl w43) (Or.inl w21) (by decide) (t := .int) (t' := (.array .long)) (by decide) (by decide)))).keep K459c nin0).other W461 (Or.inr (slot_ne (Or.inl w43) (Or.inl w23) (by decide) (t := .int) (t' := (.array .long)) (by decide) (by decide)))).other W465 (Or.inl ne_a1_bb_454)) (g := (mkF m 93 #[rv a1, lv q1, sN, lv q2, sN, iv 4] [(.ref a1), (.ref bb_459)])) rfl rfl (hb hby d10_93)
      refine sT st468 ?_
      show gM p e below _ T468 m 96 #[rv a1, lv q1, sN, lv q2, sN, iv 4] [(.int 2), (.ref bb_459)]
      refine sT (fun t k => XS.lloadN X468.here hx rfl (hb hby d10_96) rfl k) ?_
      show gM p e below _ T468 m 97 #[rv a1, lv q1, sN, lv q2, sN, iv 4] [(.long q2), (.int 2), (.ref bb_459)]
      obtain ⟨T469, h469, X469, e469, W469, V469, st469⟩ := own_lst X468 hx hZ e468 ((f459_1.other W461 (Ne.symm ne_a1_bb_459)).other W465 (Ne.symm ne_bb_454_bb_459)) (j := (2 : Int32)) ⟨by decide, by decide⟩ (2) rfl (Nat.le_of_ble_eq_true rfl) (g := (mkF m 97 #[rv a1, lv q1, sN, lv q2, sN, iv 4] [(.long q2), (.int 2), (.ref bb_459)])) rfl rfl (hb hby d10_97)
      have V469 : Arv Z h469 bb_459 kb_459 .long 4 (([y0, y1, q2, 0] : List Int64).map Value.long) (Value.long 0) := V469
      have N469 := Fr.snoc X469 N465 g_bb_459
      have K470 : Keep h0 h469 [a1, bb, cc] := K466.wr W469 (Or.inr sz_bb_459)
      refine sT st469 ?_
      show gM p e below _ T469 m 98 #[rv a1, lv q1, sN, lv q2, sN, iv 4] []
      refine sT (fun t k => XS.aloadN X469.here hx rfl (hb hby d10_98) rfl rfl k) ?_
      show gM p e below _ T469 m 99 #[rv a1, lv q1, sN, lv q2, sN, iv 4] [(.ref a1)]
      refine sT (fun t k => XS.dup X469.here hx rfl (hb hby d10_99) rfl rfl k) ?_
      show gM p e below _ T469 m 100 #[rv a1, lv q1, sN, lv q2, sN, iv 4] [(.ref a1), (.ref a1)]
      obtain ⟨T471, X471, e471, st471⟩ := getF X469 hx hZ hown (host := "") (Or.inl w42) Via.refl e469 ((((((F_size_a1.keep K454c nin0).other W456 (Or.inr (slot_ne (Or.inl w43) (Or.inl w21) (by decide) (t := .int) (t' := (.array .long)) (by decide) (by decide)))).keep K459c nin0).other W461 (Or.inr (slot_ne (Or.inl w43) (Or.inl w23) (by decide) (t := .int) (t' := (.array .long)) (by decide) (by decide)))).other W465 (Or.inl ne_a1_bb_454)).other W469 (Or.inl ne_a1_bb_459)) (g := (mkF m 100 #[rv a1, lv q1, sN, lv q2, sN, iv 4] [(.ref a1), (.ref a1)])) rfl rfl (hb hby d10_100)
      refine sT st471 ?_
      show gM p e below _ T471 m 103 #[rv a1, lv q1, sN, lv q2, sN, iv 4] [(.int 2), (.ref a1)]
      refine sT (fun t k => XS.iconst X471.here hx rfl (hb hby d10_103) k) ?_
      show gM p e below _ T471 m 104 #[rv a1, lv q1, sN, lv q2, sN, iv 4] [(.int 1), (.int 2), (.ref a1)]
      refine sT (fun t k => XS.iadd X471.here hx rfl (hb hby d10_104) rfl k) ?_
      show gM p e below _ T471 m 105 #[rv a1, lv q1, sN, lv q2, sN, iv 4] [(.int 3), (.ref a1)]
      obtain ⟨T472, h472, X472, e472, W472, st472⟩ := putF X471 hx hZ hown (host := "") (Or.inl w42) Via.refl e471 ((((((F_size_a1.keep K454c nin0).other W456 (Or.inr (slot_ne (Or.inl w43) (Or.inl w21) (by decide) (t := .int) (t' := (.array .long)) (by decide) (by decide)))).keep K459c nin0).other W461 (Or.inr (slot_ne (Or.inl w43) (Or.inl w23) (by decide) (t := .int) (t' := (.array .long)) (by decide) (by decide)))).other W465 (Or.inl ne_a1_bb_454)).other W469 (Or.inl ne_a1_bb_459)) ((((((E_a1.keep K454c).wr W456).keep K459c).wr W461).wr W465).wr W469) (Or.inl w43) w1 (ty := .int) (by decide) rfl rfl (g := (mkF m 105 #[rv a1, lv q1, sN, lv q2, sN, iv 4] [(.int 3), (.ref a1)])) rfl rfl (hb hby d10_105)
      have Fw472 := ((((((F_size_a1.keep K454c nin0).other W456 (Or.inr (slot_ne (Or.inl w43) (Or.inl w21) (by decide) (t := .int) (t' := (.array .long)) (by decide) (by decide)))).keep K459c nin0).other W461 (Or.inr (slot_ne (Or.inl w43) (Or.inl w23) (by decide) (t := .int) (t' := (.array .long)) (by decide) (by decide)))).other W465 (Or.inl ne_a1_bb_454)).other W469 (Or.inl ne_a1_bb_459)).same W472
      have N472 := Fr.snoc X472 N469 g_a1
      have K473 : Keep h0 h472 [a1, bb, cc] := K470.wr W472 (Or.inl (List.mem_of_getElem? (i := 0) rfl))
      refine sT st472 ?_
      show gM p e below _ T472 m 108 #[rv a1, lv q1, sN, lv q2, sN, iv 4] []
      refine own_ret0 X472 hx hlk Bd.returns (hb hby d10_108) ?_ (by decide) (by decide)
      show own_ap2_Q Z a1 q1 q2 bb cc kb kc _ _ _ mo uo ut h0 n0 _ T472.heap _
      rw [e472]
      exact ⟨bb_454, bb_459, kb_454, kb_459, 4, ([x0, x1, q1, 0] : List Int64), ([y0, y1, q2, 0] : List Int64), rfl, N472, K473, (Or.inl sz_bb_454), (Or.inl sz_bb_459), ne_a1_bb_454, ne_a1_bb_459, ne_bb_454_bb_459, (((((((E_a1.keep K454c).wr W456).keep K459c).wr W461).wr W465).wr W469).wr W472), Fw472, (((((((F_most_a1.keep K454c nin0).other W456 (Or.inr (slot_ne (Or.inl w14) (Or.inl w21) (by decide) (t := .int) (t' := (.array .long)) (by decide) (by decide)))).keep K459c nin0).other W461 (Or.inr (slot_ne (Or.inl w14) (Or.inl w23) (by decide) (t := .int) (t' := (.array .long)) (by decide) (by decide)))).other W465 (Or.inl ne_a1_bb_454)).other W469 (Or.inl ne_a1_bb_459)).other W472 (Or.inr (slot_ne (Or.inl w14) (Or.inl w43) (by decide) (t := .int) (t' := .int) (by decide) (by decide)))), (((((Fw456.keep K459c nin0).other W461 (Or.inr (slot_ne (Or.inl w21) (Or.inl w23) (by decide) (t := (.array .long)) (t' := (.array .long)) (by decide) (by decide)))).other W465 (Or.inl ne_a1_bb_454)).other W469 (Or.inl ne_a1_bb_459)).other W472 (Or.inr (slot_ne (Or.inl w21) (Or.inl w43) (by decide) (t := (.array .long)) (t' := .int) (by decide) (by decide)))), (((Fw461.other W465 (Or.inl ne_a1_bb_454)).other W469 (Or.inl ne_a1_bb_459)).other W472 (Or.inr (slot_ne (Or.inl w23) (Or.inl w43) (by decide) (t := (.array .long)) (t' := .int) (by decide) (by decide)))), (((((((F_ordered_a1.keep K454c nin0).other W456 (Or.inr (slot_ne (Or.inl w49) (Or.inl w21) (by decide) (t := .int) (t' := (.array .long)) (by decide) (by decide)))).keep K459c nin0).other W461 (Or.inr (slot_ne (Or.inl w49) (Or.inl w23) (by decide) (t := .int) (t' := (.array .long)) (by decide) (by decide)))).other W465 (Or.inl ne_a1_bb_454)).other W469 (Or.inl ne_a1_bb_459)).other W472 (Or.inr (slot_ne (Or.inl w49) (Or.inl w43) (by decide) (t := .int) (t' := .int) (by decide) (by decide)))), (((((((F_table_a1.keep K454c nin0).other W456 (Or.inr (slot_ne (Or.inl w36) (Or.inl w21) (by decide) (t := (.array .int)) (t' := (.array .long)) (by decide) (by decide)))).keep K459c nin0).other W461 (Or.inr (slot_ne (Or.inl w36) (Or.inl w23) (by decide) (t := (.array .int)) (t' := (.array .long)) (by decide) (by decide)))).other W465 (Or.inl ne_a1_bb_454)).other W469 (Or.inl ne_a1_bb_459)).other W472 (Or.inr (slot_ne (Or.inl w36) (Or.inl w43) (by decide) (t := (.array .int)) (t' := .int) (by decide) (by decide)))), ((V465.other W469 ne_bb_454_bb_459).other W472 (Ne.symm ne_a1_bb_454)), (V469.other W472 (Ne.symm ne_a1_bb_459)), (by rw [own_nl, if_pos rfl, if_neg hc406]; rfl), rfl, rfl, rfl, rfl, rfl⟩
  · --
    refine sT (fun t k => XS.icmpYes X402.here hx rfl (pc0 := 9) (pc' := 78) rfl (hb hby d10_9) rfl (feq hc403).2 (by decide) (by decide) k) ?_
    show gM p e below _ T402 m 78 #[rv a1, lv q1, sN, lv q2, sN, uN] []
    refine sT (fun t k => XS.aloadN X402.here hx rfl (hb hby d10_78) rfl rfl k) ?_
    show gM p e below _ T402 m 79 #[rv a1, lv q1, sN, lv q2, sN, uN] [(.ref a1)]
    obtain ⟨T474, X474, e474, st474⟩ := getF X402 hx hZ hown (host := "") (Or.inl w20) Via.refl e402 F_blocks_a1 (g := (mkF m 79 #[rv a1, lv q1, sN, lv q2, sN, uN] [(.ref a1)])) rfl rfl (hb hby d10_79)
    refine sT st474 ?_
    show gM p e below _ T474 m 82 #[rv a1, lv q1, sN, lv q2, sN, uN] [(.ref bb)]
    refine sT (fun t k => XS.aloadN X474.here hx rfl (hb hby d10_82) rfl rfl k) ?_
    show gM p e below _ T474 m 83 #[rv a1, lv q1, sN, lv q2, sN, uN] [(.ref a1), (.ref bb)]
    obtain ⟨T475, X475, e475, st475⟩ := getF X474 hx hZ hown (host := "") (Or.inl w42) Via.refl e474 F_size_a1 (g := (mkF m 83 #[rv a1, lv q1, sN, lv q2, sN, uN] [(.ref a1), (.ref bb)])) rfl rfl (hb hby d10_83)
    refine sT st475 ?_
    show gM p e below _ T475 m 86 #[rv a1, lv q1, sN, lv q2, sN, uN] [(.int 2), (.ref bb)]
    refine sT (fun t k => XS.lloadN X475.here hx rfl (hb hby d10_86) rfl k) ?_
    show gM p e below _ T475 m 87 #[rv a1, lv q1, sN, lv q2, sN, uN] [(.long q1), (.int 2), (.ref bb)]
    obtain ⟨T476, h476, X476, e476, W476, V476, st476⟩ := own_lst X475 hx hZ e475 V_bb (j := (2 : Int32)) (own_in (by decide) hz (by assumption)) (2) rfl (own_il (n := (2 : Int32)) (by decide) hz hxl (by assumption)) (g := (mkF m 87 #[rv a1, lv q1, sN, lv q2, sN, uN] [(.long q1), (.int 2), (.ref bb)])) rfl rfl (hb hby d10_87)
    have V476 : Arv Z h476 bb kb .long z1 ((xs1.set (2) q1).map Value.long) (Value.long 0) := V476
    have N476 := Fr.snoc X476 N0 g_bb
    have K477 : Keep h0 h476 [a1, bb, cc] := K0.wr W476 (Or.inl (List.mem_of_getElem? (i := 1) rfl))
    refine sT st476 ?_
    show gM p e below _ T476 m 88 #[rv a1, lv q1, sN, lv q2, sN, uN] []
    refine sT (fun t k => XS.aloadN X476.here hx rfl (hb hby d10_88) rfl rfl k) ?_
    show gM p e below _ T476 m 89 #[rv a1, lv q1, sN, lv q2, sN, uN] [(.ref a1)]
    obtain ⟨T478, X478, e478, st478⟩ := getF X476 hx hZ hown (host := "") (Or.inl w22) Via.refl e476 (F_bits_a1.other W476 (Or.inl ne_a1_bb)) (g := (mkF m 89 #[rv a1, lv q1, sN, lv q2, sN, uN] [(.ref a1)])) rfl rfl (hb hby d10_89)
    refine sT st478 ?_
    show gM p e below _ T478 m 92 #[rv a1, lv q1, sN, lv q2, sN, uN] [(.ref cc)]
    refine sT (fun t k => XS.aloadN X478.here hx rfl (hb hby d10_92) rfl rfl k) ?_
    show gM p e below _ T478 m 93 #[rv a1, lv q1, sN, lv q2, sN, uN] [(.ref a1), (.ref cc)]
    obtain ⟨T479, X479, e479, st479⟩ := getF X478 hx hZ hown (host := "") (Or.inl w42) Via.refl e478 (F_size_a1.other W476 (Or.inl ne_a1_bb)) (g := (mkF m 93 #[rv a1, lv q1, sN, lv q2, sN, uN] [(.ref a1), (.ref cc)])) rfl rfl (hb hby d10_93)
    refine sT st479 ?_
    show gM p e below _ T479 m 96 #[rv a1, lv q1, sN, lv q2, sN, uN] [(.int 2), (.ref cc)]
    refine sT (fun t k => XS.lloadN X479.here hx rfl (hb hby d10_96) rfl k) ?_
    show gM p e below _ T479 m 97 #[rv a1, lv q1, sN, lv q2, sN, uN] [(.long q2), (.int 2), (.ref cc)]
    obtain ⟨T480, h480, X480, e480, W480, V480, st480⟩ := own_lst X479 hx hZ e479 (V_cc.other W476 (Ne.symm ne_bb_cc)) (j := (2 : Int32)) (own_in (by decide) hz (by assumption)) (2) rfl (own_il (n := (2 : Int32)) (by decide) hz hyl (by assumption)) (g := (mkF m 97 #[rv a1, lv q1, sN, lv q2, sN, uN] [(.long q2), (.int 2), (.ref cc)])) rfl rfl (hb hby d10_97)
    have V480 : Arv Z h480 cc kc .long z1 ((ys1.set (2) q2).map Value.long) (Value.long 0) := V480
    have N480 := Fr.snoc X480 N476 g_cc
    have K481 : Keep h0 h480 [a1, bb, cc] := K477.wr W480 (Or.inl (List.mem_of_getElem? (i := 2) rfl))
    refine sT st480 ?_
    show gM p e below _ T480 m 98 #[rv a1, lv q1, sN, lv q2, sN, uN] []
    refine sT (fun t k => XS.aloadN X480.here hx rfl (hb hby d10_98) rfl rfl k) ?_
    show gM p e below _ T480 m 99 #[rv a1, lv q1, sN, lv q2, sN, uN] [(.ref a1)]
    refine sT (fun t k => XS.dup X480.here hx rfl (hb hby d10_99) rfl rfl k) ?_
    show gM p e below _ T480 m 100 #[rv a1, lv q1, sN, lv q2, sN, uN] [(.ref a1), (.ref a1)]
    obtain ⟨T482, X482, e482, st482⟩ := getF X480 hx hZ hown (host := "") (Or.inl w42) Via.refl e480 ((F_size_a1.other W476 (Or.inl ne_a1_bb)).other W480 (Or.inl ne_a1_cc)) (g := (mkF m 100 #[rv a1, lv q1, sN, lv q2, sN, uN] [(.ref a1), (.ref a1)])) rfl rfl (hb hby d10_100)
    refine sT st482 ?_
    show gM p e below _ T482 m 103 #[rv a1, lv q1, sN, lv q2, sN, uN] [(.int 2), (.ref a1)]
    refine sT (fun t k => XS.iconst X482.here hx rfl (hb hby d10_103) k) ?_
    show gM p e below _ T482 m 104 #[rv a1, lv q1, sN, lv q2, sN, uN] [(.int 1), (.int 2), (.ref a1)]
    refine sT (fun t k => XS.iadd X482.here hx rfl (hb hby d10_104) rfl k) ?_
    show gM p e below _ T482 m 105 #[rv a1, lv q1, sN, lv q2, sN, uN] [(.int 3), (.ref a1)]
    obtain ⟨T483, h483, X483, e483, W483, st483⟩ := putF X482 hx hZ hown (host := "") (Or.inl w42) Via.refl e482 ((F_size_a1.other W476 (Or.inl ne_a1_bb)).other W480 (Or.inl ne_a1_cc)) ((E_a1.wr W476).wr W480) (Or.inl w43) w1 (ty := .int) (by decide) rfl rfl (g := (mkF m 105 #[rv a1, lv q1, sN, lv q2, sN, uN] [(.int 3), (.ref a1)])) rfl rfl (hb hby d10_105)
    have Fw483 := ((F_size_a1.other W476 (Or.inl ne_a1_bb)).other W480 (Or.inl ne_a1_cc)).same W483
    have N483 := Fr.snoc X483 N480 g_a1
    have K484 : Keep h0 h483 [a1, bb, cc] := K481.wr W483 (Or.inl (List.mem_of_getElem? (i := 0) rfl))
    refine sT st483 ?_
    show gM p e below _ T483 m 108 #[rv a1, lv q1, sN, lv q2, sN, uN] []
    refine own_ret0 X483 hx hlk Bd.returns (hb hby d10_108) ?_ (by decide) (by decide)
    show own_ap2_Q Z a1 q1 q2 bb cc kb kc z1 xs1 ys1 mo uo ut h0 n0 _ T483.heap _
    rw [e483]
    exact ⟨bb, cc, kb, kc, z1, (xs1.set (2) q1), (ys1.set (2) q2), rfl, N483, K484, (Or.inr rfl), (Or.inr rfl), ne_a1_bb, ne_a1_cc, ne_bb_cc, (((E_a1.wr W476).wr W480).wr W483), Fw483, (((F_most_a1.other W476 (Or.inl ne_a1_bb)).other W480 (Or.inl ne_a1_cc)).other W483 (Or.inr (slot_ne (Or.inl w14) (Or.inl w43) (by decide) (t := .int) (t' := .int) (by decide) (by decide)))), (((F_blocks_a1.other W476 (Or.inl ne_a1_bb)).other W480 (Or.inl ne_a1_cc)).other W483 (Or.inr (slot_ne (Or.inl w21) (Or.inl w43) (by decide) (t := (.array .long)) (t' := .int) (by decide) (by decide)))), (((F_bits_a1.other W476 (Or.inl ne_a1_bb)).other W480 (Or.inl ne_a1_cc)).other W483 (Or.inr (slot_ne (Or.inl w23) (Or.inl w43) (by decide) (t := (.array .long)) (t' := .int) (by decide) (by decide)))), (((F_ordered_a1.other W476 (Or.inl ne_a1_bb)).other W480 (Or.inl ne_a1_cc)).other W483 (Or.inr (slot_ne (Or.inl w49) (Or.inl w43) (by decide) (t := .int) (t' := .int) (by decide) (by decide)))), (((F_table_a1.other W476 (Or.inl ne_a1_bb)).other W480 (Or.inl ne_a1_cc)).other W483 (Or.inr (slot_ne (Or.inl w36) (Or.inl w43) (by decide) (t := (.array .int)) (t' := .int) (by decide) (by decide)))), ((V476.other W480 ne_bb_cc).other W483 (Ne.symm ne_a1_bb)), (V480.other W483 (Ne.symm ne_a1_cc)), (by rw [own_nl, if_neg hc403]), (by rw [List.length_set]; exact hxl), (by rw [List.length_set]; exact hyl), (own_gs (by decide) _), (own_gs (by decide) _), (own_gh (own_il (n := (2 : Int32)) (by decide) hz hxl hc403))⟩
theorem d11_0 : decode jdk_65_method_30_code 0 = .ok (.iload_n 1, 1) := by decide +kernel
theorem d11_1 : decode jdk_65_method_30_code 1 = .ok (.iload_n 2, 1) := by decide +kernel
theorem d11_2 : decode jdk_65_method_30_code 2 = .ok (.if_icmp .le 44, 3) := by decide +kernel
theorem d11_46 : decode jdk_65_method_30_code 46 = .ok (.iload_n 1, 1) := by decide +kernel
theorem d11_47 : decode jdk_65_method_30_code 47 = .ok (.ifCond .ge 12, 3) := by decide +kernel
theorem d11_59 : decode jdk_65_method_30_code 59 = .ok (.iload_n 2, 1) := by decide +kernel
theorem d11_60 : decode jdk_65_method_30_code 60 = .ok (.iload_n 0, 1) := by decide +kernel
theorem d11_61 : decode jdk_65_method_30_code 61 = .ok (.if_icmp .le 12, 3) := by decide +kernel
theorem d11_73 : decode jdk_65_method_30_code 73 = .ok (.return_, 1) := by decide +kernel
theorem own_rk1_ef (m : MethodId) (z1 : Int32) : entryFrame m #[(.int z1), (.int 0), (.int 1)] 3 = mkF m 0 #[iv z1, iv 0, iv 1] [] := by first | (simp [entryFrame, mkF, argsToLocals, Value.category]; done) | rfl
def own_rk1_Q (Z : State) (z1 : Int32) (h0 : Heap) (n0 : Nat) (v : Option Value) (h : Heap) (L : List Loc) : Prop := v = none ∧ Fr n0 L ∧ h = h0
set_option maxRecDepth 65536 in
set_option maxHeartbeats 40000000 in
theorem own_rk1 (l : Launch) (Z : State) (a0 : Array Value) (hw : ∀ d ∈ tables_1, d.before a0 Z = true) (ws : List Jvm.Cond) (z1 : Int32) (h0 : Heap) (n0 : Nat) (Z0 : n0 ≤ h0.size) (hz : ¬ z1 < (1 : Int32)) :
    MetFree l (⟨"java/util/Arrays", "rangeCheck", "(III)V"⟩ : MethodName) (head1 (Jvm.Cond.code (⟨"java/util/Arrays", "rangeCheck", "(III)V"⟩ : MethodName) jdk_65_method_30_code 3 none :: ws) ({ frames := 0, cells := 0, slots := 0, locals := 0 } : Room)) (fun aa U => aa = #[(.int z1), (.int 0), (.int 1)] ∧ Z.Warmed39 U.vm ∧ U.heap = h0) (fun _ _ _ _ _ => True) (fun _ U o U' => ∃ v L, o = .returned v ∧ own_rk1_Q Z z1 h0 n0 v U'.heap L ∧ FrameEnd U o U' L ({ frames := 0, cells := 0, slots := 0, locals := 0 } : Room).cells ({ frames := 0, cells := 0, slots := 0, locals := 0 } : Room).slots) := by
  refine MetFree.of_bodySF (plainFor_of_name own_pn1) hisR ?_
  intro p e s m args below meth c s₁ Bd hml0 hP hK
  obtain ⟨rfl, hZ, hh⟩ := hP
  have hx := Bd.exec
  have hby := Bd.bytes
  have hlk := Bd.notSynchronized
  have hml : c.maxLocals = 3 := hml0
  have hown : s.vm.findClass "java/util/Arrays" = some m.cls := findClass_of_methodNamed Bd.named
  have hnm := (name_of_methodNamed Bd.named Bd.method).1
  have X0 : Stand p l e ({ frames := 0, cells := 0, slots := 0, locals := 0 } : Room) s m #[(.int z1), (.int 0), (.int 1)] below meth c s₁ [] 0 0 := Stand.of_body Bd
  have e0 : s₁.heap = h0 := by rw [← hh, Bd.state]; rfl
  have N0 := Fr.nil n0
  have K0 : Keep h0 h0 [] := Keep.refl h0 _
  show gS p e below (own_Fin s (own_rk1_Q Z z1 h0 n0) ({ frames := 0, cells := 0, slots := 0, locals := 0 } : Room).cells ({ frames := 0, cells := 0, slots := 0, locals := 0 } : Room).slots) _
  refine sT (fun t k => castTop (own_rk1_ef m z1) k) ?_
  show gM p e below _ s₁ m 0 #[iv z1, iv 0, iv 1] []
  refine sT (fun t k => XS.iloadN X0.here hx rfl (hb hby d11_0) rfl k) ?_
  show gM p e below _ s₁ m 1 #[iv z1, iv 0, iv 1] [(.int 0)]
  refine sT (fun t k => XS.iloadN X0.here hx rfl (hb hby d11_1) rfl k) ?_
  show gM p e below _ s₁ m 2 #[iv z1, iv 0, iv 1] [(.int 1), (.int 0)]
  have hc488 : ¬ ((1 : Int32) < (0 : Int32)) := by decide
  refine sT (fun t k => XS.icmpYes X0.here hx rfl (pc0 := 2) (pc' := 46) rfl (hb hby d11_2) rfl (flt hc488).2.2.2 (by decide) (by decide) k) ?_
  show gM p e below _ s₁ m 46 #[iv z1, iv 0, iv 1] []
  refine sT (fun t k => XS.iloadN X0.here hx rfl (hb hby d11_46) rfl k) ?_
  show gM p e below _ s₁ m 47 #[iv z1, iv 0, iv 1] [(.int 0)]
  have hc489 : ¬ ((0 : Int32) < (0 : Int32)) := by decide
  refine sT (fun t k => XS.ifYes X0.here hx rfl (pc0 := 47) (pc' := 59) rfl (hb hby d11_47) rfl ((if0 _ _).trans (flt hc489).2.1) (by decide) (by decide) k) ?_
  show gM p e below _ s₁ m 59 #[iv z1, iv 0, iv 1] []
  refine sT (fun t k => XS.iloadN X0.here hx rfl (hb hby d11_59) rfl k) ?_
  show gM p e below _ s₁ m 60 #[iv z1, iv 0, iv 1] [(.int 1)]
  refine sT (fun t k => XS.iloadN X0.here hx rfl (hb hby d11_60) rfl k) ?_
  show gM p e below _ s₁ m 61 #[iv z1, iv 0, iv 1] [(.int z1), (.int 1)]
  have hc490 : ¬ (z1 < (1 : Int32)) := hz
  refine sT (fun t k => XS.icmpYes X0.here hx rfl (pc0 := 61) (pc' := 73) rfl (hb hby d11_61) rfl (flt hc490).2.2.2 (by decide) (by decide) k) ?_
  show gM p e below _ s₁ m 73 #[iv z1, iv 0, iv 1] []
  refine own_ret0 X0 hx hlk Bd.returns (hb hby d11_73) ?_ (by decide) (by decide)
  show own_rk1_Q Z z1 h0 n0 _ s₁.heap _
  rw [e0]
  exact ⟨rfl, N0, rfl⟩
theorem d12_0 : decode jdk_65_method_56_code 0 = .ok (.iload_n 1, 1) := by decide +kernel
theorem d12_1 : decode jdk_65_method_56_code 1 = .ok (.istore 5, 2) := by decide +kernel
theorem d12_3 : decode jdk_65_method_56_code 3 = .ok (.iload_n 2, 1) := by decide +kernel
theorem d12_4 : decode jdk_65_method_56_code 4 = .ok (.iconst 1, 1) := by decide +kernel
theorem d12_5 : decode jdk_65_method_56_code 5 = .ok (.isub, 1) := by decide +kernel
theorem d12_6 : decode jdk_65_method_56_code 6 = .ok (.istore 6, 2) := by decide +kernel
theorem d12_8 : decode jdk_65_method_56_code 8 = .ok (.iload 5, 2) := by decide +kernel
theorem d12_10 : decode jdk_65_method_56_code 10 = .ok (.iload 6, 2) := by decide +kernel
theorem d12_12 : decode jdk_65_method_56_code 12 = .ok (.if_icmp .gt 56, 3) := by decide +kernel
theorem d12_15 : decode jdk_65_method_56_code 15 = .ok (.iload 5, 2) := by decide +kernel
theorem d12_17 : decode jdk_65_method_56_code 17 = .ok (.iload 6, 2) := by decide +kernel
theorem d12_19 : decode jdk_65_method_56_code 19 = .ok (.iadd, 1) := by decide +kernel
theorem d12_20 : decode jdk_65_method_56_code 20 = .ok (.iconst 1, 1) := by decide +kernel
theorem d12_21 : decode jdk_65_method_56_code 21 = .ok (.iushr, 1) := by decide +kernel
theorem d12_22 : decode jdk_65_method_56_code 22 = .ok (.istore 7, 2) := by decide +kernel
theorem d12_24 : decode jdk_65_method_56_code 24 = .ok (.aload_n 0, 1) := by decide +kernel
theorem d12_25 : decode jdk_65_method_56_code 25 = .ok (.iload 7, 2) := by decide +kernel
theorem d12_27 : decode jdk_65_method_56_code 27 = .ok (.laload, 1) := by decide +kernel
theorem d12_28 : decode jdk_65_method_56_code 28 = .ok (.lstore 8, 2) := by decide +kernel
theorem d12_30 : decode jdk_65_method_56_code 30 = .ok (.lload 8, 2) := by decide +kernel
theorem d12_32 : decode jdk_65_method_56_code 32 = .ok (.lload_n 3, 1) := by decide +kernel
theorem d12_33 : decode jdk_65_method_56_code 33 = .ok (.lcmp, 1) := by decide +kernel
theorem d12_34 : decode jdk_65_method_56_code 34 = .ok (.ifCond .ge 12, 3) := by decide +kernel
theorem d12_37 : decode jdk_65_method_56_code 37 = .ok (.iload 7, 2) := by decide +kernel
theorem d12_39 : decode jdk_65_method_56_code 39 = .ok (.iconst 1, 1) := by decide +kernel
theorem d12_40 : decode jdk_65_method_56_code 40 = .ok (.iadd, 1) := by decide +kernel
theorem d12_41 : decode jdk_65_method_56_code 41 = .ok (.istore 5, 2) := by decide +kernel
theorem d12_43 : decode jdk_65_method_56_code 43 = .ok (.goto 22, 3) := by decide +kernel
theorem d12_65 : decode jdk_65_method_56_code 65 = .ok (.goto (-57), 3) := by decide +kernel
theorem d12_68 : decode jdk_65_method_56_code 68 = .ok (.iload 5, 2) := by decide +kernel
theorem d12_70 : decode jdk_65_method_56_code 70 = .ok (.iconst 1, 1) := by decide +kernel
theorem d12_71 : decode jdk_65_method_56_code 71 = .ok (.iadd, 1) := by decide +kernel
theorem d12_72 : decode jdk_65_method_56_code 72 = .ok (.ineg, 1) := by decide +kernel
theorem d12_73 : decode jdk_65_method_56_code 73 = .ok (.ireturn, 1) := by decide +kernel
theorem d12_46 : decode jdk_65_method_56_code 46 = .ok (.lload 8, 2) := by decide +kernel
theorem d12_48 : decode jdk_65_method_56_code 48 = .ok (.lload_n 3, 1) := by decide +kernel
theorem d12_49 : decode jdk_65_method_56_code 49 = .ok (.lcmp, 1) := by decide +kernel
theorem d12_50 : decode jdk_65_method_56_code 50 = .ok (.ifCond .le 12, 3) := by decide +kernel
theorem d12_53 : decode jdk_65_method_56_code 53 = .ok (.iload 7, 2) := by decide +kernel
theorem d12_55 : decode jdk_65_method_56_code 55 = .ok (.iconst 1, 1) := by decide +kernel
theorem d12_56 : decode jdk_65_method_56_code 56 = .ok (.isub, 1) := by decide +kernel
theorem d12_57 : decode jdk_65_method_56_code 57 = .ok (.istore 6, 2) := by decide +kernel
theorem d12_59 : decode jdk_65_method_56_code 59 = .ok (.goto 6, 3) := by decide +kernel
theorem d12_62 : decode jdk_65_method_56_code 62 = .ok (.iload 7, 2) := by decide +kernel
theorem d12_64 : decode jdk_65_method_56_code 64 = .ok (.ireturn, 1) := by decide +kernel
theorem own_bz1_ef (m : MethodId) (r1 : Addr) (q1 : Int64) : entryFrame m #[(.ref r1), (.int 0), (.int 1), (.long q1)] 10 = mkF m 0 #[rv r1, iv 0, iv 1, lv q1, sN, uN, uN, uN, uN, uN] [] := by first | (simp [entryFrame, mkF, argsToLocals, Value.category]; done) | rfl
def own_bz1_Q (Z : State) (r1 : Addr) (q1 : Int64) (k1 : ClassId) (z1 : Int32) (xs1 : List Int64) (h0 : Heap) (n0 : Nat) (v : Option Value) (h : Heap) (L : List Loc) : Prop := v = some (.int (if (xs1.getD (0 : Int32).toNatClampNeg 0) < q1 then (-2 : Int32) else (if q1 < (xs1.getD (0 : Int32).toNatClampNeg 0) then (-1 : Int32) else (0 : Int32)))) ∧ Fr n0 L ∧ h = h0
set_option maxRecDepth 65536 in
set_option maxHeartbeats 40000000 in
theorem own_bz1 (l : Launch) (Z : State) (a0 : Array Value) (hw : ∀ d ∈ tables_1, d.before a0 Z = true) (ws : List Jvm.Cond) (r1 : Addr) (q1 : Int64) (k1 : ClassId) (z1 : Int32) (xs1 : List Int64) (h0 : Heap) (n0 : Nat) (Z0 : n0 ≤ h0.size) (V_r1 : Arv Z h0 r1 k1 .long z1 (xs1.map Value.long) (Value.long 0)) (hz : ¬ z1 < (1 : Int32)) :
    MetFree l (⟨"java/util/Arrays", "binarySearch0", "([JIIJ)I"⟩ : MethodName) (head1 (Jvm.Cond.code (⟨"java/util/Arrays", "binarySearch0", "([JIIJ)I"⟩ : MethodName) jdk_65_method_56_code 10 (some .int) :: ws) ({ frames := 0, cells := 0, slots := 0, locals := 0 } : Room)) (fun aa U => aa = #[(.ref r1), (.int 0), (.int 1), (.long q1)] ∧ Z.Warmed39 U.vm ∧ U.heap = h0) (fun _ _ _ _ _ => True) (fun _ U o U' => ∃ v L, o = .returned v ∧ own_bz1_Q Z r1 q1 k1 z1 xs1 h0 n0 v U'.heap L ∧ FrameEnd U o U' L ({ frames := 0, cells := 0, slots := 0, locals := 0 } : Room).cells ({ frames := 0, cells := 0, slots := 0, locals := 0 } : Room).slots) := by
  refine MetFree.of_bodySF (plainFor_of_name own_pn1) hisR ?_
  intro p e s m args below meth c s₁ Bd hml0 hP hK
  obtain ⟨rfl, hZ, hh⟩ := hP
  have hx := Bd.exec
  have hby := Bd.bytes
  have hlk := Bd.notSynchronized
  have hml : c.maxLocals = 10 := hml0
  have hown : s.vm.findClass "java/util/Arrays" = some m.cls := findClass_of_methodNamed Bd.named
  have hnm := (name_of_methodNamed Bd.named Bd.method).1
  have X0 : Stand p l e ({ frames := 0, cells := 0, slots := 0, locals := 0 } : Room) s m #[(.ref r1), (.int 0), (.int 1), (.long q1)] below meth c s₁ [] 0 0 := Stand.of_body Bd
  have e0 : s₁.heap = h0 := by rw [← hh, Bd.state]; rfl
  have N0 := Fr.nil n0
  have K0 : Keep h0 h0 [] := Keep.refl h0 _
  show gS p e below (own_Fin s (own_bz1_Q Z r1 q1 k1 z1 xs1 h0 n0) ({ frames := 0, cells := 0, slots := 0, locals := 0 } : Room).cells ({ frames := 0, cells := 0, slots := 0, locals := 0 } : Room).slots) _
  refine sT (fun t k => castTop (own_bz1_ef m r1 q1) k) ?_
  show gM p e below _ s₁ m 0 #[rv r1, iv 0, iv 1, lv q1, sN, uN, uN, uN, uN, uN] []
  refine sT (fun t k => XS.iloadN X0.here hx rfl (hb hby d12_0) rfl k) ?_
  show gM p e below _ s₁ m 1 #[rv r1, iv 0, iv 1, lv q1, sN, uN, uN, uN, uN, uN] [(.int 0)]
  refine sT (fun t k => XS.istore X0.here hx rfl (hb hby d12_1) rfl (l' := #[rv r1, iv 0, iv 1, lv q1, sN, iv 0, uN, uN, uN, uN]) rfl k) ?_
  show gM p e below _ s₁ m 3 #[rv r1, iv 0, iv 1, lv q1, sN, iv 0, uN, uN, uN, uN] []
  refine sT (fun t k => XS.iloadN X0.here hx rfl (hb hby d12_3) rfl k) ?_
  show gM p e below _ s₁ m 4 #[rv r1, iv 0, iv 1, lv q1, sN, iv 0, uN, uN, uN, uN] [(.int 1)]
  refine sT (fun t k => XS.iconst X0.here hx rfl (hb hby d12_4) k) ?_
  show gM p e below _ s₁ m 5 #[rv r1, iv 0, iv 1, lv q1, sN, iv 0, uN, uN, uN, uN] [(.int 1), (.int 1)]
  refine sT (fun t k => XS.isub X0.here hx rfl (hb hby d12_5) rfl k) ?_
  show gM p e below _ s₁ m 6 #[rv r1, iv 0, iv 1, lv q1, sN, iv 0, uN, uN, uN, uN] [(.int 0)]
  refine sT (fun t k => XS.istore X0.here hx rfl (hb hby d12_6) rfl (l' := #[rv r1, iv 0, iv 1, lv q1, sN, iv 0, iv 0, uN, uN, uN]) rfl k) ?_
  show gM p e below _ s₁ m 8 #[rv r1, iv 0, iv 1, lv q1, sN, iv 0, iv 0, uN, uN, uN] []
  refine sT (fun t k => XS.iload X0.here hx rfl (hb hby d12_8) rfl k) ?_
  show gM p e below _ s₁ m 10 #[rv r1, iv 0, iv 1, lv q1, sN, iv 0, iv 0, uN, uN, uN] [(.int 0)]
  refine sT (fun t k => XS.iload X0.here hx rfl (hb hby d12_10) rfl k) ?_
  show gM p e below _ s₁ m 12 #[rv r1, iv 0, iv 1, lv q1, sN, iv 0, iv 0, uN, uN, uN] [(.int 0), (.int 0)]
  have hc496 : ¬ ((0 : Int32) < (0 : Int32)) := by decide
  refine sT (fun t k => XS.icmpNo X0.here hx rfl (hb hby d12_12) rfl (flt hc496).2.2.1 k) ?_
  show gM p e below _ s₁ m 15 #[rv r1, iv 0, iv 1, lv q1, sN, iv 0, iv 0, uN, uN, uN] []
  refine sT (fun t k => XS.iload X0.here hx rfl (hb hby d12_15) rfl k) ?_
  show gM p e below _ s₁ m 17 #[rv r1, iv 0, iv 1, lv q1, sN, iv 0, iv 0, uN, uN, uN] [(.int 0)]
  refine sT (fun t k => XS.iload X0.here hx rfl (hb hby d12_17) rfl k) ?_
  show gM p e below _ s₁ m 19 #[rv r1, iv 0, iv 1, lv q1, sN, iv 0, iv 0, uN, uN, uN] [(.int 0), (.int 0)]
  refine sT (fun t k => XS.iadd X0.here hx rfl (hb hby d12_19) rfl k) ?_
  show gM p e below _ s₁ m 20 #[rv r1, iv 0, iv 1, lv q1, sN, iv 0, iv 0, uN, uN, uN] [(.int 0)]
  refine sT (fun t k => XS.iconst X0.here hx rfl (hb hby d12_20) k) ?_
  show gM p e below _ s₁ m 21 #[rv r1, iv 0, iv 1, lv q1, sN, iv 0, iv 0, uN, uN, uN] [(.int 1), (.int 0)]
  refine sT (fun t k => XS.iushr X0.here hx rfl (hb hby d12_21) rfl k) ?_
  show gM p e below _ s₁ m 22 #[rv r1, iv 0, iv 1, lv q1, sN, iv 0, iv 0, uN, uN, uN] [(.int 0)]
  refine sT (fun t k => XS.istore X0.here hx rfl (hb hby d12_22) rfl (l' := #[rv r1, iv 0, iv 1, lv q1, sN, iv 0, iv 0, iv 0, uN, uN]) rfl k) ?_
  show gM p e below _ s₁ m 24 #[rv r1, iv 0, iv 1, lv q1, sN, iv 0, iv 0, iv 0, uN, uN] []
  refine sT (fun t k => XS.aloadN X0.here hx rfl (hb hby d12_24) rfl rfl k) ?_
  show gM p e below _ s₁ m 25 #[rv r1, iv 0, iv 1, lv q1, sN, iv 0, iv 0, iv 0, uN, uN] [(.ref r1)]
  refine sT (fun t k => XS.iload X0.here hx rfl (hb hby d12_25) rfl k) ?_
  show gM p e below _ s₁ m 27 #[rv r1, iv 0, iv 1, lv q1, sN, iv 0, iv 0, iv 0, uN, uN] [(.int 0), (.ref r1)]
  refine sT (fun t k => own_lal X0 hx hZ e0 V_r1 (own_j (by decide) (by decide) hz) (g := (mkF m 27 #[rv r1, iv 0, iv 1, lv q1, sN, iv 0, iv 0, iv 0, uN, uN] [(.int 0), (.ref r1)])) rfl rfl (hb hby d12_27) _ k) ?_
  show gM p e below _ s₁ m 28 #[rv r1, iv 0, iv 1, lv q1, sN, iv 0, iv 0, iv 0, uN, uN] [(.long (xs1.getD (0 : Int32).toNatClampNeg 0))]
  refine sT (fun t k => XS.lstore X0.here hx rfl (hb hby d12_28) rfl (l' := #[rv r1, iv 0, iv 1, lv q1, sN, iv 0, iv 0, iv 0, lv (xs1.getD (0 : Int32).toNatClampNeg 0), sN]) rfl k) ?_
  show gM p e below _ s₁ m 30 #[rv r1, iv 0, iv 1, lv q1, sN, iv 0, iv 0, iv 0, lv (xs1.getD (0 : Int32).toNatClampNeg 0), sN] []
  refine sT (fun t k => XS.lload X0.here hx rfl (hb hby d12_30) rfl k) ?_
  show gM p e below _ s₁ m 32 #[rv r1, iv 0, iv 1, lv q1, sN, iv 0, iv 0, iv 0, lv (xs1.getD (0 : Int32).toNatClampNeg 0), sN] [(.long (xs1.getD (0 : Int32).toNatClampNeg 0))]
  refine sT (fun t k => XS.lloadN X0.here hx rfl (hb hby d12_32) rfl k) ?_
  show gM p e below _ s₁ m 33 #[rv r1, iv 0, iv 1, lv q1, sN, iv 0, iv 0, iv 0, lv (xs1.getD (0 : Int32).toNatClampNeg 0), sN] [(.long q1), (.long (xs1.getD (0 : Int32).toNatClampNeg 0))]
  refine sT (fun t k => XS.lcmp X0.here hx rfl (hb hby d12_33) rfl k) ?_
  show gM p e below _ s₁ m 34 #[rv r1, iv 0, iv 1, lv q1, sN, iv 0, iv 0, iv 0, lv (xs1.getD (0 : Int32).toNatClampNeg 0), sN] [(.int (lcmpW (xs1.getD (0 : Int32).toNatClampNeg 0) q1))]
  by_cases hc497 : (xs1.getD (0 : Int32).toNatClampNeg 0) < q1
  · --
    refine sT (fun t k => XS.ifNo X0.here hx rfl (hb hby d12_34) rfl ((if0 _ _).trans (tlt ((lw_lt (xs1.getD (0 : Int32).toNatClampNeg 0) q1).mpr hc497)).2.1) k) ?_
    show gM p e below _ s₁ m 37 #[rv r1, iv 0, iv 1, lv q1, sN, iv 0, iv 0, iv 0, lv (xs1.getD (0 : Int32).toNatClampNeg 0), sN] []
    refine sT (fun t k => XS.iload X0.here hx rfl (hb hby d12_37) rfl k) ?_
    show gM p e below _ s₁ m 39 #[rv r1, iv 0, iv 1, lv q1, sN, iv 0, iv 0, iv 0, lv (xs1.getD (0 : Int32).toNatClampNeg 0), sN] [(.int 0)]
    refine sT (fun t k => XS.iconst X0.here hx rfl (hb hby d12_39) k) ?_
    show gM p e below _ s₁ m 40 #[rv r1, iv 0, iv 1, lv q1, sN, iv 0, iv 0, iv 0, lv (xs1.getD (0 : Int32).toNatClampNeg 0), sN] [(.int 1), (.int 0)]
    refine sT (fun t k => XS.iadd X0.here hx rfl (hb hby d12_40) rfl k) ?_
    show gM p e below _ s₁ m 41 #[rv r1, iv 0, iv 1, lv q1, sN, iv 0, iv 0, iv 0, lv (xs1.getD (0 : Int32).toNatClampNeg 0), sN] [(.int 1)]
    refine sT (fun t k => XS.istore X0.here hx rfl (hb hby d12_41) rfl (l' := #[rv r1, iv 0, iv 1, lv q1, sN, iv 1, iv 0, iv 0, lv (xs1.getD (0 : Int32).toNatClampNeg 0), sN]) rfl k) ?_
    show gM p e below _ s₁ m 43 #[rv r1, iv 0, iv 1, lv q1, sN, iv 1, iv 0, iv 0, lv (xs1.getD (0 : Int32).toNatClampNeg 0), sN] []
    refine sT (fun t k => XS.goto X0.here hx rfl (pc0 := 43) (pc' := 65) rfl (hb hby d12_43) (by decide) (by decide) k) ?_
    show gM p e below _ s₁ m 65 #[rv r1, iv 0, iv 1, lv q1, sN, iv 1, iv 0, iv 0, lv (xs1.getD (0 : Int32).toNatClampNeg 0), sN] []
    refine sT (fun t k => XS.goto X0.here hx rfl (pc0 := 65) (pc' := 8) rfl (hb hby d12_65) (by decide) (by decide) k) ?_
    show gM p e below _ s₁ m 8 #[rv r1, iv 0, iv 1, lv q1, sN, iv 1, iv 0, iv 0, lv (xs1.getD (0 : Int32).toNatClampNeg 0), sN] []
    refine sT (fun t k => XS.iload X0.here hx rfl (hb hby d12_8) rfl k) ?_
    show gM p e below _ s₁ m 10 #[rv r1, iv 0, iv 1, lv q1, sN, iv 1, iv 0, iv 0, lv (xs1.getD (0 : Int32).toNatClampNeg 0), sN] [(.int 1)]
    refine sT (fun t k => XS.iload X0.here hx rfl (hb hby d12_10) rfl k) ?_
    show gM p e below _ s₁ m 12 #[rv r1, iv 0, iv 1, lv q1, sN, iv 1, iv 0, iv 0, lv (xs1.getD (0 : Int32).toNatClampNeg 0), sN] [(.int 0), (.int 1)]
    have hc498 : (0 : Int32) < (1 : Int32) := by decide
    refine sT (fun t k => XS.icmpYes X0.here hx rfl (pc0 := 12) (pc' := 68) rfl (hb hby d12_12) rfl (tlt hc498).2.2.1 (by decide) (by decide) k) ?_
    show gM p e below _ s₁ m 68 #[rv r1, iv 0, iv 1, lv q1, sN, iv 1, iv 0, iv 0, lv (xs1.getD (0 : Int32).toNatClampNeg 0), sN] []
    refine sT (fun t k => XS.iload X0.here hx rfl (hb hby d12_68) rfl k) ?_
    show gM p e below _ s₁ m 70 #[rv r1, iv 0, iv 1, lv q1, sN, iv 1, iv 0, iv 0, lv (xs1.getD (0 : Int32).toNatClampNeg 0), sN] [(.int 1)]
    refine sT (fun t k => XS.iconst X0.here hx rfl (hb hby d12_70) k) ?_
    show gM p e below _ s₁ m 71 #[rv r1, iv 0, iv 1, lv q1, sN, iv 1, iv 0, iv 0, lv (xs1.getD (0 : Int32).toNatClampNeg 0), sN] [(.int 1), (.int 1)]
    refine sT (fun t k => XS.iadd X0.here hx rfl (hb hby d12_71) rfl k) ?_
    show gM p e below _ s₁ m 72 #[rv r1, iv 0, iv 1, lv q1, sN, iv 1, iv 0, iv 0, lv (xs1.getD (0 : Int32).toNatClampNeg 0), sN] [(.int 2)]
    refine sT (fun t k => XS.ineg X0.here hx rfl (hb hby d12_72) rfl k) ?_
    show gM p e below _ s₁ m 73 #[rv r1, iv 0, iv 1, lv q1, sN, iv 1, iv 0, iv 0, lv (xs1.getD (0 : Int32).toNatClampNeg 0), sN] [(.int (-2))]
    refine own_retV X0 hx hlk Bd.returns (w := (.int (-2))) rfl (Or.inl ⟨rfl, Or.inl rfl, _, rfl⟩) (hb hby d12_73) ?_ (by decide) (by decide)
    show own_bz1_Q Z r1 q1 k1 z1 xs1 h0 n0 _ s₁.heap _
    rw [e0]
    exact ⟨(by simp only [if_pos hc497]), N0, rfl⟩
  · --
    refine sT (fun t k => XS.ifYes X0.here hx rfl (pc0 := 34) (pc' := 46) rfl (hb hby d12_34) rfl ((if0 _ _).trans (flt (fun zq => hc497 ((lw_lt (xs1.getD (0 : Int32).toNatClampNeg 0) q1).mp zq))).2.1) (by decide) (by decide) k) ?_
    show gM p e below _ s₁ m 46 #[rv r1, iv 0, iv 1, lv q1, sN, iv 0, iv 0, iv 0, lv (xs1.getD (0 : Int32).toNatClampNeg 0), sN] []
    refine sT (fun t k => XS.lload X0.here hx rfl (hb hby d12_46) rfl k) ?_
    show gM p e below _ s₁ m 48 #[rv r1, iv 0, iv 1, lv q1, sN, iv 0, iv 0, iv 0, lv (xs1.getD (0 : Int32).toNatClampNeg 0), sN] [(.long (xs1.getD (0 : Int32).toNatClampNeg 0))]
    refine sT (fun t k => XS.lloadN X0.here hx rfl (hb hby d12_48) rfl k) ?_
    show gM p e below _ s₁ m 49 #[rv r1, iv 0, iv 1, lv q1, sN, iv 0, iv 0, iv 0, lv (xs1.getD (0 : Int32).toNatClampNeg 0), sN] [(.long q1), (.long (xs1.getD (0 : Int32).toNatClampNeg 0))]
    refine sT (fun t k => XS.lcmp X0.here hx rfl (hb hby d12_49) rfl k) ?_
    show gM p e below _ s₁ m 50 #[rv r1, iv 0, iv 1, lv q1, sN, iv 0, iv 0, iv 0, lv (xs1.getD (0 : Int32).toNatClampNeg 0), sN] [(.int (lcmpW (xs1.getD (0 : Int32).toNatClampNeg 0) q1))]
    by_cases hc499 : q1 < (xs1.getD (0 : Int32).toNatClampNeg 0)
    · --
      refine sT (fun t k => XS.ifNo X0.here hx rfl (hb hby d12_50) rfl ((if0 _ _).trans (tlt ((lw_gt (xs1.getD (0 : Int32).toNatClampNeg 0) q1).mpr hc499)).2.2.2) k) ?_
      show gM p e below _ s₁ m 53 #[rv r1, iv 0, iv 1, lv q1, sN, iv 0, iv 0, iv 0, lv (xs1.getD (0 : Int32).toNatClampNeg 0), sN] []
      refine sT (fun t k => XS.iload X0.here hx rfl (hb hby d12_53) rfl k) ?_
      show gM p e below _ s₁ m 55 #[rv r1, iv 0, iv 1, lv q1, sN, iv 0, iv 0, iv 0, lv (xs1.getD (0 : Int32).toNatClampNeg 0), sN] [(.int 0)]
      refine sT (fun t k => XS.iconst X0.here hx rfl (hb hby d12_55) k) ?_
      show gM p e below _ s₁ m 56 #[rv r1, iv 0, iv 1, lv q1, sN, iv 0, iv 0, iv 0, lv (xs1.getD (0 : Int32).toNatClampNeg 0), sN] [(.int 1), (.int 0)]
      refine sT (fun t k => XS.isub X0.here hx rfl (hb hby d12_56) rfl k) ?_
      show gM p e below _ s₁ m 57 #[rv r1, iv 0, iv 1, lv q1, sN, iv 0, iv 0, iv 0, lv (xs1.getD (0 : Int32).toNatClampNeg 0), sN] [(.int (-1))]
      refine sT (fun t k => XS.istore X0.here hx rfl (hb hby d12_57) rfl (l' := #[rv r1, iv 0, iv 1, lv q1, sN, iv 0, iv (-1), iv 0, lv (xs1.getD (0 : Int32).toNatClampNeg 0), sN]) rfl k) ?_
      show gM p e below _ s₁ m 59 #[rv r1, iv 0, iv 1, lv q1, sN, iv 0, iv (-1), iv 0, lv (xs1.getD (0 : Int32).toNatClampNeg 0), sN] []
      refine sT (fun t k => XS.goto X0.here hx rfl (pc0 := 59) (pc' := 65) rfl (hb hby d12_59) (by decide) (by decide) k) ?_
      show gM p e below _ s₁ m 65 #[rv r1, iv 0, iv 1, lv q1, sN, iv 0, iv (-1), iv 0, lv (xs1.getD (0 : Int32).toNatClampNeg 0), sN] []
      refine sT (fun t k => XS.goto X0.here hx rfl (pc0 := 65) (pc' := 8) rfl (hb hby d12_65) (by decide) (by decide) k) ?_
      show gM p e below _ s₁ m 8 #[rv r1, iv 0, iv 1, lv q1, sN, iv 0, iv (-1), iv 0, lv (xs1.getD (0 : Int32).toNatClampNeg 0), sN] []
      refine sT (fun t k => XS.iload X0.here hx rfl (hb hby d12_8) rfl k) ?_
      show gM p e below _ s₁ m 10 #[rv r1, iv 0, iv 1, lv q1, sN, iv 0, iv (-1), iv 0, lv (xs1.getD (0 : Int32).toNatClampNeg 0), sN] [(.int 0)]
      refine sT (fun t k => XS.iload X0.here hx rfl (hb hby d12_10) rfl k) ?_
      show gM p e below _ s₁ m 12 #[rv r1, iv 0, iv 1, lv q1, sN, iv 0, iv (-1), iv 0, lv (xs1.getD (0 : Int32).toNatClampNeg 0), sN] [(.int (-1)), (.int 0)]
      have hc500 : (-1 : Int32) < (0 : Int32) := by decide
      refine sT (fun t k => XS.icmpYes X0.here hx rfl (pc0 := 12) (pc' := 68) rfl (hb hby d12_12) rfl (tlt hc500).2.2.1 (by decide) (by decide) k) ?_
      show gM p e below _ s₁ m 68 #[rv r1, iv 0, iv 1, lv q1, sN, iv 0, iv (-1), iv 0, lv (xs1.getD (0 : Int32).toNatClampNeg 0), sN] []
      refine sT (fun t k => XS.iload X0.here hx rfl (hb hby d12_68) rfl k) ?_
      show gM p e below _ s₁ m 70 #[rv r1, iv 0, iv 1, lv q1, sN, iv 0, iv (-1), iv 0, lv (xs1.getD (0 : Int32).toNatClampNeg 0), sN] [(.int 0)]
      refine sT (fun t k => XS.iconst X0.here hx rfl (hb hby d12_70) k) ?_
      show gM p e below _ s₁ m 71 #[rv r1, iv 0, iv 1, lv q1, sN, iv 0, iv (-1), iv 0, lv (xs1.getD (0 : Int32).toNatClampNeg 0), sN] [(.int 1), (.int 0)]
      refine sT (fun t k => XS.iadd X0.here hx rfl (hb hby d12_71) rfl k) ?_
      show gM p e below _ s₁ m 72 #[rv r1, iv 0, iv 1, lv q1, sN, iv 0, iv (-1), iv 0, lv (xs1.getD (0 : Int32).toNatClampNeg 0), sN] [(.int 1)]
      refine sT (fun t k => XS.ineg X0.here hx rfl (hb hby d12_72) rfl k) ?_
      show gM p e below _ s₁ m 73 #[rv r1, iv 0, iv 1, lv q1, sN, iv 0, iv (-1), iv 0, lv (xs1.getD (0 : Int32).toNatClampNeg 0), sN] [(.int (-1))]
      refine own_retV X0 hx hlk Bd.returns (w := (.int (-1))) rfl (Or.inl ⟨rfl, Or.inl rfl, _, rfl⟩) (hb hby d12_73) ?_ (by decide) (by decide)
      show own_bz1_Q Z r1 q1 k1 z1 xs1 h0 n0 _ s₁.heap _
      rw [e0]
      exact ⟨(by simp only [if_neg hc497, if_pos hc499]), N0, rfl⟩
    · --
      refine sT (fun t k => XS.ifYes X0.here hx rfl (pc0 := 50) (pc' := 62) rfl (hb hby d12_50) rfl ((if0 _ _).trans (flt (fun zq => hc499 ((lw_gt (xs1.getD (0 : Int32).toNatClampNeg 0) q1).mp zq))).2.2.2) (by decide) (by decide) k) ?_
      show gM p e below _ s₁ m 62 #[rv r1, iv 0, iv 1, lv q1, sN, iv 0, iv 0, iv 0, lv (xs1.getD (0 : Int32).toNatClampNeg 0), sN] []
      refine sT (fun t k => XS.iload X0.here hx rfl (hb hby d12_62) rfl k) ?_
      show gM p e below _ s₁ m 64 #[rv r1, iv 0, iv 1, lv q1, sN, iv 0, iv 0, iv 0, lv (xs1.getD (0 : Int32).toNatClampNeg 0), sN] [(.int 0)]
      refine own_retV X0 hx hlk Bd.returns (w := (.int 0)) rfl (Or.inl ⟨rfl, Or.inl rfl, _, rfl⟩) (hb hby d12_64) ?_ (by decide) (by decide)
      show own_bz1_Q Z r1 q1 k1 z1 xs1 h0 n0 _ s₁.heap _
      rw [e0]
      exact ⟨(by simp only [if_neg hc497, if_neg hc499]), N0, rfl⟩
theorem d13_0 : decode jdk_65_method_55_code 0 = .ok (.aload_n 0, 1) := by decide +kernel
theorem d13_1 : decode jdk_65_method_55_code 1 = .ok (.arraylength, 1) := by decide +kernel
theorem d13_2 : decode jdk_65_method_55_code 2 = .ok (.iload_n 1, 1) := by decide +kernel
theorem d13_3 : decode jdk_65_method_55_code 3 = .ok (.iload_n 2, 1) := by decide +kernel
theorem own_pd5 : parseMethodDescriptor "(III)V" = some ⟨[.int, .int, .int], none⟩ := by decide +kernel
theorem d13_4 : decode jdk_65_method_55_code 4 = .ok (.invokestatic 13, 3) := by decide +kernel
theorem d13_7 : decode jdk_65_method_55_code 7 = .ok (.aload_n 0, 1) := by decide +kernel
theorem d13_8 : decode jdk_65_method_55_code 8 = .ok (.iload_n 1, 1) := by decide +kernel
theorem d13_9 : decode jdk_65_method_55_code 9 = .ok (.iload_n 2, 1) := by decide +kernel
theorem d13_10 : decode jdk_65_method_55_code 10 = .ok (.lload_n 3, 1) := by decide +kernel
theorem own_pd6 : parseMethodDescriptor "([JIIJ)I" = some ⟨[(.array .long), .int, .int, .long], some .int⟩ := by decide +kernel
theorem d13_11 : decode jdk_65_method_55_code 11 = .ok (.invokestatic 205, 3) := by decide +kernel
theorem d13_14 : decode jdk_65_method_55_code 14 = .ok (.ireturn, 1) := by decide +kernel
theorem own_bs1_ef (m : MethodId) (r1 : Addr) (q1 : Int64) : entryFrame m #[(.ref r1), (.int 0), (.int 1), (.long q1)] 5 = mkF m 0 #[rv r1, iv 0, iv 1, lv q1, sN] [] := by first | (simp [entryFrame, mkF, argsToLocals, Value.category]; done) | rfl
def own_bs1_Q (Z : State) (r1 : Addr) (q1 : Int64) (k1 : ClassId) (z1 : Int32) (xs1 : List Int64) (r2 : Int32) (h0 : Heap) (n0 : Nat) (v : Option Value) (h : Heap) (L : List Loc) : Prop := v = some (.int r2) ∧ Fr n0 L ∧ h = h0
set_option maxRecDepth 65536 in
set_option maxHeartbeats 40000000 in
theorem own_bs1 (l : Launch) (Z : State) (a0 : Array Value) (hw : ∀ d ∈ tables_1, d.before a0 Z = true) (ws : List Jvm.Cond) (r1 : Addr) (q1 : Int64) (k1 : ClassId) (z1 : Int32) (xs1 : List Int64) (r2 : Int32) (h0 : Heap) (n0 : Nat) (Z0 : n0 ≤ h0.size) (V_r1 : Arv Z h0 r1 k1 .long z1 (xs1.map Value.long) (Value.long 0)) (hz : ¬ z1 < (1 : Int32)) (hr2 : (if (xs1.getD (0 : Int32).toNatClampNeg 0) < q1 then (-2 : Int32) else (if q1 < (xs1.getD (0 : Int32).toNatClampNeg 0) then (-1 : Int32) else (0 : Int32))) = r2) :
    MetFree l (⟨"java/util/Arrays", "binarySearch", "([JIIJ)I"⟩ : MethodName) (head1 (Jvm.Cond.code (⟨"java/util/Arrays", "binarySearch", "([JIIJ)I"⟩ : MethodName) jdk_65_method_55_code 5 (some .int) :: ws) ({ frames := 1, cells := 0, slots := 0, locals := 21 } : Room)) (fun aa U => aa = #[(.ref r1), (.int 0), (.int 1), (.long q1)] ∧ Z.Warmed39 U.vm ∧ U.heap = h0) (fun _ _ _ _ _ => True) (fun _ U o U' => ∃ v L, o = .returned v ∧ own_bs1_Q Z r1 q1 k1 z1 xs1 r2 h0 n0 v U'.heap L ∧ FrameEnd U o U' L ({ frames := 1, cells := 0, slots := 0, locals := 21 } : Room).cells ({ frames := 1, cells := 0, slots := 0, locals := 21 } : Room).slots) := by
  refine MetFree.of_bodySF (plainFor_of_name own_pn1) hisR ?_
  have w53 := hw _ (List.mem_of_getElem? (i := 53) rfl)
  have w55 := hw _ (List.mem_of_getElem? (i := 55) rfl)
  have w56 := hw _ (List.mem_of_getElem? (i := 56) rfl)
  have w57 := hw _ (List.mem_of_getElem? (i := 57) rfl)
  have w58 := hw _ (List.mem_of_getElem? (i := 58) rfl)
  have w59 := hw _ (List.mem_of_getElem? (i := 59) rfl)
  have w60 := hw _ (List.mem_of_getElem? (i := 60) rfl)
  intro p e s m args below meth c s₁ Bd hml0 hP hK
  obtain ⟨rfl, hZ, hh⟩ := hP
  have hx := Bd.exec
  have hby := Bd.bytes
  have hlk := Bd.notSynchronized
  have hml : c.maxLocals = 5 := hml0
  have hown : s.vm.findClass "java/util/Arrays" = some m.cls := findClass_of_methodNamed Bd.named
  have hnm := (name_of_methodNamed Bd.named Bd.method).1
  have X0 : Stand p l e ({ frames := 1, cells := 0, slots := 0, locals := 21 } : Room) s m #[(.ref r1), (.int 0), (.int 1), (.long q1)] below meth c s₁ [] 0 0 := Stand.of_body Bd
  have e0 : s₁.heap = h0 := by rw [← hh, Bd.state]; rfl
  have N0 := Fr.nil n0
  have K0 : Keep h0 h0 [] := Keep.refl h0 _
  show gS p e below (own_Fin s (own_bs1_Q Z r1 q1 k1 z1 xs1 r2 h0 n0) ({ frames := 1, cells := 0, slots := 0, locals := 21 } : Room).cells ({ frames := 1, cells := 0, slots := 0, locals := 21 } : Room).slots) _
  refine sT (fun t k => castTop (own_bs1_ef m r1 q1) k) ?_
  show gM p e below _ s₁ m 0 #[rv r1, iv 0, iv 1, lv q1, sN] []
  refine sT (fun t k => XS.aloadN X0.here hx rfl (hb hby d13_0) rfl rfl k) ?_
  show gM p e below _ s₁ m 1 #[rv r1, iv 0, iv 1, lv q1, sN] [(.ref r1)]
  refine sT (fun t k => own_len X0 hx hZ e0 V_r1 (g := (mkF m 1 #[rv r1, iv 0, iv 1, lv q1, sN] [(.ref r1)])) rfl rfl (hb hby d13_1) _ k) ?_
  show gM p e below _ s₁ m 2 #[rv r1, iv 0, iv 1, lv q1, sN] [(.int z1)]
  refine sT (fun t k => XS.iloadN X0.here hx rfl (hb hby d13_2) rfl k) ?_
  show gM p e below _ s₁ m 3 #[rv r1, iv 0, iv 1, lv q1, sN] [(.int 0), (.int z1)]
  refine sT (fun t k => XS.iloadN X0.here hx rfl (hb hby d13_3) rfl k) ?_
  show gM p e below _ s₁ m 4 #[rv r1, iv 0, iv 1, lv q1, sN] [(.int 1), (.int 0), (.int z1)]
  obtain ⟨_, _, ⟨T503, L503, k503, n503⟩, -, X503, ⟨Lc503, hQ503, l503, y503, z503⟩, st503⟩ := Jvm.LawKit.callS X0 hx (y := (⟨"java/util/Arrays", "rangeCheck", "(III)V"⟩ : MethodName)) hown (mvT hZ w55) (mvT hZ w56) (mvT hZ w53) (mvT hZ w57) (by decide) (backOf (W := 0) (own_rk1 l Z a0 hw [] z1  h0 n0 Z0 hz) hZ w57 w53 (by decide) (by decide)) (g := (mkF m 4 #[rv r1, iv 0, iv 1, lv q1, sN] [(.int 1), (.int 0), (.int z1)])) rfl (by rw [hml]; rfl) (argsL := [(.int z1), (.int 0), (.int 1)]) (rest := []) (lenOf own_pd5 rfl) rfl (by show 2 * 0 + _ ≤ _; exact Nat.le_of_eq rfl) (hb hby d13_4) (fun _ _ => ⟨rfl, e0, (by decide : 0 + 0 ≤ _), (by decide : 0 + 0 ≤ _)⟩)
  dsimp only [Pt.U, Pt.locs, Pt.cells, Pt.slots] at X503 l503 y503 z503 st503 hQ503
  subst y503 z503
  obtain ⟨rfl, N503q, eh503⟩ := hQ503
  have N503 : Fr n0 L503 := by rw [l503]; exact Fr.app N0 N503q
  refine sT st503 ?_
  show gM p e below _ T503 m 7 #[rv r1, iv 0, iv 1, lv q1, sN] []
  refine sT (fun t k => XS.aloadN X503.here hx rfl (hb hby d13_7) rfl rfl k) ?_
  show gM p e below _ T503 m 8 #[rv r1, iv 0, iv 1, lv q1, sN] [(.ref r1)]
  refine sT (fun t k => XS.iloadN X503.here hx rfl (hb hby d13_8) rfl k) ?_
  show gM p e below _ T503 m 9 #[rv r1, iv 0, iv 1, lv q1, sN] [(.int 0), (.ref r1)]
  refine sT (fun t k => XS.iloadN X503.here hx rfl (hb hby d13_9) rfl k) ?_
  show gM p e below _ T503 m 10 #[rv r1, iv 0, iv 1, lv q1, sN] [(.int 1), (.int 0), (.ref r1)]
  refine sT (fun t k => XS.lloadN X503.here hx rfl (hb hby d13_10) rfl k) ?_
  show gM p e below _ T503 m 11 #[rv r1, iv 0, iv 1, lv q1, sN] [(.long q1), (.int 1), (.int 0), (.ref r1)]
  obtain ⟨_, _, ⟨T504, L504, k504, n504⟩, -, X504, ⟨Lc504, hQ504, l504, y504, z504⟩, st504⟩ := Jvm.LawKit.callS X503 hx (y := (⟨"java/util/Arrays", "binarySearch0", "([JIIJ)I"⟩ : MethodName)) hown (mvT hZ w58) (mvT hZ w59) (mvT hZ w53) (mvT hZ w60) (by decide) (backOf (W := 0) (own_bz1 l Z a0 hw [] r1 q1 (k1) (z1) (xs1) h0 n0 Z0 V_r1 hz) hZ w60 w53 (by decide) (by decide)) (g := (mkF m 11 #[rv r1, iv 0, iv 1, lv q1, sN] [(.long q1), (.int 1), (.int 0), (.ref r1)])) rfl (by rw [hml]; rfl) (argsL := [(.ref r1), (.int 0), (.int 1), (.long q1)]) (rest := []) (lenOf own_pd6 rfl) rfl (by show 2 * 0 + _ ≤ _; exact Nat.le_of_eq rfl) (hb hby d13_11) (fun _ _ => ⟨rfl, eh503, (by decide : 0 + 0 ≤ _), (by decide : 0 + 0 ≤ _)⟩)
  dsimp only [Pt.U, Pt.locs, Pt.cells, Pt.slots] at X504 l504 y504 z504 st504 hQ504
  subst y504 z504
  obtain ⟨rfl, N504q, eh504⟩ := hQ504
  have N504 : Fr n0 L504 := by rw [l504]; exact Fr.app N503 N504q
  refine sT st504 ?_
  show gM p e below _ T504 m 14 #[rv r1, iv 0, iv 1, lv q1, sN] [(.int (if (xs1.getD (0 : Int32).toNatClampNeg 0) < q1 then (-2 : Int32) else (if q1 < (xs1.getD (0 : Int32).toNatClampNeg 0) then (-1 : Int32) else (0 : Int32))))]
  refine own_retV X504 hx hlk Bd.returns (w := (.int (if (xs1.getD (0 : Int32).toNatClampNeg 0) < q1 then (-2 : Int32) else (if q1 < (xs1.getD (0 : Int32).toNatClampNeg 0) then (-1 : Int32) else (0 : Int32))))) rfl (Or.inl ⟨rfl, Or.inl rfl, _, rfl⟩) (hb hby d13_14) ?_ (by decide) (by decide)
  show own_bs1_Q Z r1 q1 k1 z1 xs1 r2 h0 n0 _ T504.heap _
  rw [eh504]
  exact ⟨(by rw [hr2]), N504, rfl⟩
theorem own_rk2_ef (m : MethodId) (z1 : Int32) : entryFrame m #[(.int z1), (.int 0), (.int 2)] 3 = mkF m 0 #[iv z1, iv 0, iv 2] [] := by first | (simp [entryFrame, mkF, argsToLocals, Value.category]; done) | rfl
def own_rk2_Q (Z : State) (z1 : Int32) (h0 : Heap) (n0 : Nat) (v : Option Value) (h : Heap) (L : List Loc) : Prop := v = none ∧ Fr n0 L ∧ h = h0
set_option maxRecDepth 65536 in
set_option maxHeartbeats 40000000 in
theorem own_rk2 (l : Launch) (Z : State) (a0 : Array Value) (hw : ∀ d ∈ tables_1, d.before a0 Z = true) (ws : List Jvm.Cond) (z1 : Int32) (h0 : Heap) (n0 : Nat) (Z0 : n0 ≤ h0.size) (hz : ¬ z1 < (2 : Int32)) :
    MetFree l (⟨"java/util/Arrays", "rangeCheck", "(III)V"⟩ : MethodName) (head1 (Jvm.Cond.code (⟨"java/util/Arrays", "rangeCheck", "(III)V"⟩ : MethodName) jdk_65_method_30_code 3 none :: ws) ({ frames := 0, cells := 0, slots := 0, locals := 0 } : Room)) (fun aa U => aa = #[(.int z1), (.int 0), (.int 2)] ∧ Z.Warmed39 U.vm ∧ U.heap = h0) (fun _ _ _ _ _ => True) (fun _ U o U' => ∃ v L, o = .returned v ∧ own_rk2_Q Z z1 h0 n0 v U'.heap L ∧ FrameEnd U o U' L ({ frames := 0, cells := 0, slots := 0, locals := 0 } : Room).cells ({ frames := 0, cells := 0, slots := 0, locals := 0 } : Room).slots) := by
  refine MetFree.of_bodySF (plainFor_of_name own_pn1) hisR ?_
  intro p e s m args below meth c s₁ Bd hml0 hP hK
  obtain ⟨rfl, hZ, hh⟩ := hP
  have hx := Bd.exec
  have hby := Bd.bytes
  have hlk := Bd.notSynchronized
  have hml : c.maxLocals = 3 := hml0
  have hown : s.vm.findClass "java/util/Arrays" = some m.cls := findClass_of_methodNamed Bd.named
  have hnm := (name_of_methodNamed Bd.named Bd.method).1
  have X0 : Stand p l e ({ frames := 0, cells := 0, slots := 0, locals := 0 } : Room) s m #[(.int z1), (.int 0), (.int 2)] below meth c s₁ [] 0 0 := Stand.of_body Bd
  have e0 : s₁.heap = h0 := by rw [← hh, Bd.state]; rfl
  have N0 := Fr.nil n0
  have K0 : Keep h0 h0 [] := Keep.refl h0 _
  show gS p e below (own_Fin s (own_rk2_Q Z z1 h0 n0) ({ frames := 0, cells := 0, slots := 0, locals := 0 } : Room).cells ({ frames := 0, cells := 0, slots := 0, locals := 0 } : Room).slots) _
  refine sT (fun t k => castTop (own_rk2_ef m z1) k) ?_
  show gM p e below _ s₁ m 0 #[iv z1, iv 0, iv 2] []
  refine sT (fun t k => XS.iloadN X0.here hx rfl (hb hby d11_0) rfl k) ?_
  show gM p e below _ s₁ m 1 #[iv z1, iv 0, iv 2] [(.int 0)]
  refine sT (fun t k => XS.iloadN X0.here hx rfl (hb hby d11_1) rfl k) ?_
  show gM p e below _ s₁ m 2 #[iv z1, iv 0, iv 2] [(.int 2), (.int 0)]
  have hc508 : ¬ ((2 : Int32) < (0 : Int32)) := by decide
  refine sT (fun t k => XS.icmpYes X0.here hx rfl (pc0 := 2) (pc' := 46) rfl (hb hby d11_2) rfl (flt hc508).2.2.2 (by decide) (by decide) k) ?_
  show gM p e below _ s₁ m 46 #[iv z1, iv 0, iv 2] []
  refine sT (fun t k => XS.iloadN X0.here hx rfl (hb hby d11_46) rfl k) ?_
  show gM p e below _ s₁ m 47 #[iv z1, iv 0, iv 2] [(.int 0)]
  have hc509 : ¬ ((0 : Int32) < (0 : Int32)) := by decide
  refine sT (fun t k => XS.ifYes X0.here hx rfl (pc0 := 47) (pc' := 59) rfl (hb hby d11_47) rfl ((if0 _ _).trans (flt hc509).2.1) (by decide) (by decide) k) ?_
  show gM p e below _ s₁ m 59 #[iv z1, iv 0, iv 2] []
  refine sT (fun t k => XS.iloadN X0.here hx rfl (hb hby d11_59) rfl k) ?_
  show gM p e below _ s₁ m 60 #[iv z1, iv 0, iv 2] [(.int 2)]
  refine sT (fun t k => XS.iloadN X0.here hx rfl (hb hby d11_60) rfl k) ?_
  show gM p e below _ s₁ m 61 #[iv z1, iv 0, iv 2] [(.int z1), (.int 2)]
  have hc510 : ¬ (z1 < (2 : Int32)) := hz
  refine sT (fun t k => XS.icmpYes X0.here hx rfl (pc0 := 61) (pc' := 73) rfl (hb hby d11_61) rfl (flt hc510).2.2.2 (by decide) (by decide) k) ?_
  show gM p e below _ s₁ m 73 #[iv z1, iv 0, iv 2] []
  refine own_ret0 X0 hx hlk Bd.returns (hb hby d11_73) ?_ (by decide) (by decide)
  show own_rk2_Q Z z1 h0 n0 _ s₁.heap _
  rw [e0]
  exact ⟨rfl, N0, rfl⟩
theorem own_bz2_ef (m : MethodId) (r1 : Addr) (q1 : Int64) : entryFrame m #[(.ref r1), (.int 0), (.int 2), (.long q1)] 10 = mkF m 0 #[rv r1, iv 0, iv 2, lv q1, sN, uN, uN, uN, uN, uN] [] := by first | (simp [entryFrame, mkF, argsToLocals, Value.category]; done) | rfl
def own_bz2_Q (Z : State) (r1 : Addr) (q1 : Int64) (k1 : ClassId) (z1 : Int32) (xs1 : List Int64) (h0 : Heap) (n0 : Nat) (v : Option Value) (h : Heap) (L : List Loc) : Prop := v = some (.int (if (xs1.getD (0 : Int32).toNatClampNeg 0) < q1 then (if (xs1.getD (1 : Int32).toNatClampNeg 0) < q1 then (-3 : Int32) else (if q1 < (xs1.getD (1 : Int32).toNatClampNeg 0) then (-2 : Int32) else (1 : Int32))) else (if q1 < (xs1.getD (0 : Int32).toNatClampNeg 0) then (-1 : Int32) else (0 : Int32)))) ∧ Fr n0 L ∧ h = h0
set_option maxRecDepth 65536 in
set_option maxHeartbeats 40000000 in
theorem own_bz2 (l : Launch) (Z : State) (a0 : Array Value) (hw : ∀ d ∈ tables_1, d.before a0 Z = true) (ws : List Jvm.Cond) (r1 : Addr) (q1 : Int64) (k1 : ClassId) (z1 : Int32) (xs1 : List Int64) (h0 : Heap) (n0 : Nat) (Z0 : n0 ≤ h0.size) (V_r1 : Arv Z h0 r1 k1 .long z1 (xs1.map Value.long) (Value.long 0)) (hz : ¬ z1 < (2 : Int32)) :
    MetFree l (⟨"java/util/Arrays", "binarySearch0", "([JIIJ)I"⟩ : MethodName) (head1 (Jvm.Cond.code (⟨"java/util/Arrays", "binarySearch0", "([JIIJ)I"⟩ : MethodName) jdk_65_method_56_code 10 (some .int) :: ws) ({ frames := 0, cells := 0, slots := 0, locals := 0 } : Room)) (fun aa U => aa = #[(.ref r1), (.int 0), (.int 2), (.long q1)] ∧ Z.Warmed39 U.vm ∧ U.heap = h0) (fun _ _ _ _ _ => True) (fun _ U o U' => ∃ v L, o = .returned v ∧ own_bz2_Q Z r1 q1 k1 z1 xs1 h0 n0 v U'.heap L ∧ FrameEnd U o U' L ({ frames := 0, cells := 0, slots := 0, locals := 0 } : Room).cells ({ frames := 0, cells := 0, slots := 0, locals := 0 } : Room).slots) := by
  refine MetFree.of_bodySF (plainFor_of_name own_pn1) hisR ?_
  intro p e s m args below meth c s₁ Bd hml0 hP hK
  obtain ⟨rfl, hZ, hh⟩ := hP
  have hx := Bd.exec
  have hby := Bd.bytes
  have hlk := Bd.notSynchronized
  have hml : c.maxLocals = 10 := hml0
  have hown : s.vm.findClass "java/util/Arrays" = some m.cls := findClass_of_methodNamed Bd.named
  have hnm := (name_of_methodNamed Bd.named Bd.method).1
  have X0 : Stand p l e ({ frames := 0, cells := 0, slots := 0, locals := 0 } : Room) s m #[(.ref r1), (.int 0), (.int 2), (.long q1)] below meth c s₁ [] 0 0 := Stand.of_body Bd
  have e0 : s₁.heap = h0 := by rw [← hh, Bd.state]; rfl
  have N0 := Fr.nil n0
  have K0 : Keep h0 h0 [] := Keep.refl h0 _
  show gS p e below (own_Fin s (own_bz2_Q Z r1 q1 k1 z1 xs1 h0 n0) ({ frames := 0, cells := 0, slots := 0, locals := 0 } : Room).cells ({ frames := 0, cells := 0, slots := 0, locals := 0 } : Room).slots) _
  refine sT (fun t k => castTop (own_bz2_ef m r1 q1) k) ?_
  show gM p e below _ s₁ m 0 #[rv r1, iv 0, iv 2, lv q1, sN, uN, uN, uN, uN, uN] []
  refine sT (fun t k => XS.iloadN X0.here hx rfl (hb hby d12_0) rfl k) ?_
  show gM p e below _ s₁ m 1 #[rv r1, iv 0, iv 2, lv q1, sN, uN, uN, uN, uN, uN] [(.int 0)]
  refine sT (fun t k => XS.istore X0.here hx rfl (hb hby d12_1) rfl (l' := #[rv r1, iv 0, iv 2, lv q1, sN, iv 0, uN, uN, uN, uN]) rfl k) ?_
  show gM p e below _ s₁ m 3 #[rv r1, iv 0, iv 2, lv q1, sN, iv 0, uN, uN, uN, uN] []
  refine sT (fun t k => XS.iloadN X0.here hx rfl (hb hby d12_3) rfl k) ?_
  show gM p e below _ s₁ m 4 #[rv r1, iv 0, iv 2, lv q1, sN, iv 0, uN, uN, uN, uN] [(.int 2)]
  refine sT (fun t k => XS.iconst X0.here hx rfl (hb hby d12_4) k) ?_
  show gM p e below _ s₁ m 5 #[rv r1, iv 0, iv 2, lv q1, sN, iv 0, uN, uN, uN, uN] [(.int 1), (.int 2)]
  refine sT (fun t k => XS.isub X0.here hx rfl (hb hby d12_5) rfl k) ?_
  show gM p e below _ s₁ m 6 #[rv r1, iv 0, iv 2, lv q1, sN, iv 0, uN, uN, uN, uN] [(.int 1)]
  refine sT (fun t k => XS.istore X0.here hx rfl (hb hby d12_6) rfl (l' := #[rv r1, iv 0, iv 2, lv q1, sN, iv 0, iv 1, uN, uN, uN]) rfl k) ?_
  show gM p e below _ s₁ m 8 #[rv r1, iv 0, iv 2, lv q1, sN, iv 0, iv 1, uN, uN, uN] []
  refine sT (fun t k => XS.iload X0.here hx rfl (hb hby d12_8) rfl k) ?_
  show gM p e below _ s₁ m 10 #[rv r1, iv 0, iv 2, lv q1, sN, iv 0, iv 1, uN, uN, uN] [(.int 0)]
  refine sT (fun t k => XS.iload X0.here hx rfl (hb hby d12_10) rfl k) ?_
  show gM p e below _ s₁ m 12 #[rv r1, iv 0, iv 2, lv q1, sN, iv 0, iv 1, uN, uN, uN] [(.int 1), (.int 0)]
  have hc520 : ¬ ((1 : Int32) < (0 : Int32)) := by decide
  refine sT (fun t k => XS.icmpNo X0.here hx rfl (hb hby d12_12) rfl (flt hc520).2.2.1 k) ?_
  show gM p e below _ s₁ m 15 #[rv r1, iv 0, iv 2, lv q1, sN, iv 0, iv 1, uN, uN, uN] []
  refine sT (fun t k => XS.iload X0.here hx rfl (hb hby d12_15) rfl k) ?_
  show gM p e below _ s₁ m 17 #[rv r1, iv 0, iv 2, lv q1, sN, iv 0, iv 1, uN, uN, uN] [(.int 0)]
  refine sT (fun t k => XS.iload X0.here hx rfl (hb hby d12_17) rfl k) ?_
  show gM p e below _ s₁ m 19 #[rv r1, iv 0, iv 2, lv q1, sN, iv 0, iv 1, uN, uN, uN] [(.int 1), (.int 0)]
  refine sT (fun t k => XS.iadd X0.here hx rfl (hb hby d12_19) rfl k) ?_
  show gM p e below _ s₁ m 20 #[rv r1, iv 0, iv 2, lv q1, sN, iv 0, iv 1, uN, uN, uN] [(.int 1)]
  refine sT (fun t k => XS.iconst X0.here hx rfl (hb hby d12_20) k) ?_
  show gM p e below _ s₁ m 21 #[rv r1, iv 0, iv 2, lv q1, sN, iv 0, iv 1, uN, uN, uN] [(.int 1), (.int 1)]
  refine sT (fun t k => XS.iushr X0.here hx rfl (hb hby d12_21) rfl k) ?_
  show gM p e below _ s₁ m 22 #[rv r1, iv 0, iv 2, lv q1, sN, iv 0, iv 1, uN, uN, uN] [(.int 0)]
  refine sT (fun t k => XS.istore X0.here hx rfl (hb hby d12_22) rfl (l' := #[rv r1, iv 0, iv 2, lv q1, sN, iv 0, iv 1, iv 0, uN, uN]) rfl k) ?_
  show gM p e below _ s₁ m 24 #[rv r1, iv 0, iv 2, lv q1, sN, iv 0, iv 1, iv 0, uN, uN] []
  refine sT (fun t k => XS.aloadN X0.here hx rfl (hb hby d12_24) rfl rfl k) ?_
  show gM p e below _ s₁ m 25 #[rv r1, iv 0, iv 2, lv q1, sN, iv 0, iv 1, iv 0, uN, uN] [(.ref r1)]
  refine sT (fun t k => XS.iload X0.here hx rfl (hb hby d12_25) rfl k) ?_
  show gM p e below _ s₁ m 27 #[rv r1, iv 0, iv 2, lv q1, sN, iv 0, iv 1, iv 0, uN, uN] [(.int 0), (.ref r1)]
  refine sT (fun t k => own_lal X0 hx hZ e0 V_r1 (own_j (by decide) (by decide) hz) (g := (mkF m 27 #[rv r1, iv 0, iv 2, lv q1, sN, iv 0, iv 1, iv 0, uN, uN] [(.int 0), (.ref r1)])) rfl rfl (hb hby d12_27) _ k) ?_
  show gM p e below _ s₁ m 28 #[rv r1, iv 0, iv 2, lv q1, sN, iv 0, iv 1, iv 0, uN, uN] [(.long (xs1.getD (0 : Int32).toNatClampNeg 0))]
  refine sT (fun t k => XS.lstore X0.here hx rfl (hb hby d12_28) rfl (l' := #[rv r1, iv 0, iv 2, lv q1, sN, iv 0, iv 1, iv 0, lv (xs1.getD (0 : Int32).toNatClampNeg 0), sN]) rfl k) ?_
  show gM p e below _ s₁ m 30 #[rv r1, iv 0, iv 2, lv q1, sN, iv 0, iv 1, iv 0, lv (xs1.getD (0 : Int32).toNatClampNeg 0), sN] []
  refine sT (fun t k => XS.lload X0.here hx rfl (hb hby d12_30) rfl k) ?_
  show gM p e below _ s₁ m 32 #[rv r1, iv 0, iv 2, lv q1, sN, iv 0, iv 1, iv 0, lv (xs1.getD (0 : Int32).toNatClampNeg 0), sN] [(.long (xs1.getD (0 : Int32).toNatClampNeg 0))]
  refine sT (fun t k => XS.lloadN X0.here hx rfl (hb hby d12_32) rfl k) ?_
  show gM p e below _ s₁ m 33 #[rv r1, iv 0, iv 2, lv q1, sN, iv 0, iv 1, iv 0, lv (xs1.getD (0 : Int32).toNatClampNeg 0), sN] [(.long q1), (.long (xs1.getD (0 : Int32).toNatClampNeg 0))]
  refine sT (fun t k => XS.lcmp X0.here hx rfl (hb hby d12_33) rfl k) ?_
  show gM p e below _ s₁ m 34 #[rv r1, iv 0, iv 2, lv q1, sN, iv 0, iv 1, iv 0, lv (xs1.getD (0 : Int32).toNatClampNeg 0), sN] [(.int (lcmpW (xs1.getD (0 : Int32).toNatClampNeg 0) q1))]
  by_cases hc521 : (xs1.getD (0 : Int32).toNatClampNeg 0) < q1
  · --
    refine sT (fun t k => XS.ifNo X0.here hx rfl (hb hby d12_34) rfl ((if0 _ _).trans (tlt ((lw_lt (xs1.getD (0 : Int32).toNatClampNeg 0) q1).mpr hc521)).2.1) k) ?_
    show gM p e below _ s₁ m 37 #[rv r1, iv 0, iv 2, lv q1, sN, iv 0, iv 1, iv 0, lv (xs1.getD (0 : Int32).toNatClampNeg 0), sN] []
    refine sT (fun t k => XS.iload X0.here hx rfl (hb hby d12_37) rfl k) ?_
    show gM p e below _ s₁ m 39 #[rv r1, iv 0, iv 2, lv q1, sN, iv 0, iv 1, iv 0, lv (xs1.getD (0 : Int32).toNatClampNeg 0), sN] [(.int 0)]
    refine sT (fun t k => XS.iconst X0.here hx rfl (hb hby d12_39) k) ?_
    show gM p e below _ s₁ m 40 #[rv r1, iv 0, iv 2, lv q1, sN, iv 0, iv 1, iv 0, lv (xs1.getD (0 : Int32).toNatClampNeg 0), sN] [(.int 1), (.int 0)]
    refine sT (fun t k => XS.iadd X0.here hx rfl (hb hby d12_40) rfl k) ?_
    show gM p e below _ s₁ m 41 #[rv r1, iv 0, iv 2, lv q1, sN, iv 0, iv 1, iv 0, lv (xs1.getD (0 : Int32).toNatClampNeg 0), sN] [(.int 1)]
    refine sT (fun t k => XS.istore X0.here hx rfl (hb hby d12_41) rfl (l' := #[rv r1, iv 0, iv 2, lv q1, sN, iv 1, iv 1, iv 0, lv (xs1.getD (0 : Int32).toNatClampNeg 0), sN]) rfl k) ?_
    show gM p e below _ s₁ m 43 #[rv r1, iv 0, iv 2, lv q1, sN, iv 1, iv 1, iv 0, lv (xs1.getD (0 : Int32).toNatClampNeg 0), sN] []
    refine sT (fun t k => XS.goto X0.here hx rfl (pc0 := 43) (pc' := 65) rfl (hb hby d12_43) (by decide) (by decide) k) ?_
    show gM p e below _ s₁ m 65 #[rv r1, iv 0, iv 2, lv q1, sN, iv 1, iv 1, iv 0, lv (xs1.getD (0 : Int32).toNatClampNeg 0), sN] []
    refine sT (fun t k => XS.goto X0.here hx rfl (pc0 := 65) (pc' := 8) rfl (hb hby d12_65) (by decide) (by decide) k) ?_
    show gM p e below _ s₁ m 8 #[rv r1, iv 0, iv 2, lv q1, sN, iv 1, iv 1, iv 0, lv (xs1.getD (0 : Int32).toNatClampNeg 0), sN] []
    refine sT (fun t k => XS.iload X0.here hx rfl (hb hby d12_8) rfl k) ?_
    show gM p e below _ s₁ m 10 #[rv r1, iv 0, iv 2, lv q1, sN, iv 1, iv 1, iv 0, lv (xs1.getD (0 : Int32).toNatClampNeg 0), sN] [(.int 1)]
    refine sT (fun t k => XS.iload X0.here hx rfl (hb hby d12_10) rfl k) ?_
    show gM p e below _ s₁ m 12 #[rv r1, iv 0, iv 2, lv q1, sN, iv 1, iv 1, iv 0, lv (xs1.getD (0 : Int32).toNatClampNeg 0), sN] [(.int 1), (.int 1)]
    have hc522 : ¬ ((1 : Int32) < (1 : Int32)) := by decide
    refine sT (fun t k => XS.icmpNo X0.here hx rfl (hb hby d12_12) rfl (flt hc522).2.2.1 k) ?_
    show gM p e below _ s₁ m 15 #[rv r1, iv 0, iv 2, lv q1, sN, iv 1, iv 1, iv 0, lv (xs1.getD (0 : Int32).toNatClampNeg 0), sN] []
    refine sT (fun t k => XS.iload X0.here hx rfl (hb hby d12_15) rfl k) ?_
    show gM p e below _ s₁ m 17 #[rv r1, iv 0, iv 2, lv q1, sN, iv 1, iv 1, iv 0, lv (xs1.getD (0 : Int32).toNatClampNeg 0), sN] [(.int 1)]
    refine sT (fun t k => XS.iload X0.here hx rfl (hb hby d12_17) rfl k) ?_
    show gM p e below _ s₁ m 19 #[rv r1, iv 0, iv 2, lv q1, sN, iv 1, iv 1, iv 0, lv (xs1.getD (0 : Int32).toNatClampNeg 0), sN] [(.int 1), (.int 1)]
    refine sT (fun t k => XS.iadd X0.here hx rfl (hb hby d12_19) rfl k) ?_
    show gM p e below _ s₁ m 20 #[rv r1, iv 0, iv 2, lv q1, sN, iv 1, iv 1, iv 0, lv (xs1.getD (0 : Int32).toNatClampNeg 0), sN] [(.int 2)]
    refine sT (fun t k => XS.iconst X0.here hx rfl (hb hby d12_20) k) ?_
    show gM p e below _ s₁ m 21 #[rv r1, iv 0, iv 2, lv q1, sN, iv 1, iv 1, iv 0, lv (xs1.getD (0 : Int32).toNatClampNeg 0), sN] [(.int 1), (.int 2)]
    refine sT (fun t k => XS.iushr X0.here hx rfl (hb hby d12_21) rfl k) ?_
    show gM p e below _ s₁ m 22 #[rv r1, iv 0, iv 2, lv q1, sN, iv 1, iv 1, iv 0, lv (xs1.getD (0 : Int32).toNatClampNeg 0), sN] [(.int 1)]
    refine sT (fun t k => XS.istore X0.here hx rfl (hb hby d12_22) rfl (l' := #[rv r1, iv 0, iv 2, lv q1, sN, iv 1, iv 1, iv 1, lv (xs1.getD (0 : Int32).toNatClampNeg 0), sN]) rfl k) ?_
    show gM p e below _ s₁ m 24 #[rv r1, iv 0, iv 2, lv q1, sN, iv 1, iv 1, iv 1, lv (xs1.getD (0 : Int32).toNatClampNeg 0), sN] []
    refine sT (fun t k => XS.aloadN X0.here hx rfl (hb hby d12_24) rfl rfl k) ?_
    show gM p e below _ s₁ m 25 #[rv r1, iv 0, iv 2, lv q1, sN, iv 1, iv 1, iv 1, lv (xs1.getD (0 : Int32).toNatClampNeg 0), sN] [(.ref r1)]
    refine sT (fun t k => XS.iload X0.here hx rfl (hb hby d12_25) rfl k) ?_
    show gM p e below _ s₁ m 27 #[rv r1, iv 0, iv 2, lv q1, sN, iv 1, iv 1, iv 1, lv (xs1.getD (0 : Int32).toNatClampNeg 0), sN] [(.int 1), (.ref r1)]
    refine sT (fun t k => own_lal X0 hx hZ e0 V_r1 (own_j (by decide) (by decide) hz) (g := (mkF m 27 #[rv r1, iv 0, iv 2, lv q1, sN, iv 1, iv 1, iv 1, lv (xs1.getD (0 : Int32).toNatClampNeg 0), sN] [(.int 1), (.ref r1)])) rfl rfl (hb hby d12_27) _ k) ?_
    show gM p e below _ s₁ m 28 #[rv r1, iv 0, iv 2, lv q1, sN, iv 1, iv 1, iv 1, lv (xs1.getD (0 : Int32).toNatClampNeg 0), sN] [(.long (xs1.getD (1 : Int32).toNatClampNeg 0))]
    refine sT (fun t k => XS.lstore X0.here hx rfl (hb hby d12_28) rfl (l' := #[rv r1, iv 0, iv 2, lv q1, sN, iv 1, iv 1, iv 1, lv (xs1.getD (1 : Int32).toNatClampNeg 0), sN]) rfl k) ?_
    show gM p e below _ s₁ m 30 #[rv r1, iv 0, iv 2, lv q1, sN, iv 1, iv 1, iv 1, lv (xs1.getD (1 : Int32).toNatClampNeg 0), sN] []
    refine sT (fun t k => XS.lload X0.here hx rfl (hb hby d12_30) rfl k) ?_
    show gM p e below _ s₁ m 32 #[rv r1, iv 0, iv 2, lv q1, sN, iv 1, iv 1, iv 1, lv (xs1.getD (1 : Int32).toNatClampNeg 0), sN] [(.long (xs1.getD (1 : Int32).toNatClampNeg 0))]
    refine sT (fun t k => XS.lloadN X0.here hx rfl (hb hby d12_32) rfl k) ?_
    show gM p e below _ s₁ m 33 #[rv r1, iv 0, iv 2, lv q1, sN, iv 1, iv 1, iv 1, lv (xs1.getD (1 : Int32).toNatClampNeg 0), sN] [(.long q1), (.long (xs1.getD (1 : Int32).toNatClampNeg 0))]
    refine sT (fun t k => XS.lcmp X0.here hx rfl (hb hby d12_33) rfl k) ?_
    show gM p e below _ s₁ m 34 #[rv r1, iv 0, iv 2, lv q1, sN, iv 1, iv 1, iv 1, lv (xs1.getD (1 : Int32).toNatClampNeg 0), sN] [(.int (lcmpW (xs1.getD (1 : Int32).toNatClampNeg 0) q1))]
    by_cases hc523 : (xs1.getD (1 : Int32).toNatClampNeg 0) < q1
    · --
      refine sT (fun t k => XS.ifNo X0.here hx rfl (hb hby d12_34) rfl ((if0 _ _).trans (tlt ((lw_lt (xs1.getD (1 : Int32).toNatClampNeg 0) q1).mpr hc523)).2.1) k) ?_
      show gM p e below _ s₁ m 37 #[rv r1, iv 0, iv 2, lv q1, sN, iv 1, iv 1, iv 1, lv (xs1.getD (1 : Int32).toNatClampNeg 0), sN] []
      refine sT (fun t k => XS.iload X0.here hx rfl (hb hby d12_37) rfl k) ?_
      show gM p e below _ s₁ m 39 #[rv r1, iv 0, iv 2, lv q1, sN, iv 1, iv 1, iv 1, lv (xs1.getD (1 : Int32).toNatClampNeg 0), sN] [(.int 1)]
      refine sT (fun t k => XS.iconst X0.here hx rfl (hb hby d12_39) k) ?_
      show gM p e below _ s₁ m 40 #[rv r1, iv 0, iv 2, lv q1, sN, iv 1, iv 1, iv 1, lv (xs1.getD (1 : Int32).toNatClampNeg 0), sN] [(.int 1), (.int 1)]
      refine sT (fun t k => XS.iadd X0.here hx rfl (hb hby d12_40) rfl k) ?_
      show gM p e below _ s₁ m 41 #[rv r1, iv 0, iv 2, lv q1, sN, iv 1, iv 1, iv 1, lv (xs1.getD (1 : Int32).toNatClampNeg 0), sN] [(.int 2)]
      refine sT (fun t k => XS.istore X0.here hx rfl (hb hby d12_41) rfl (l' := #[rv r1, iv 0, iv 2, lv q1, sN, iv 2, iv 1, iv 1, lv (xs1.getD (1 : Int32).toNatClampNeg 0), sN]) rfl k) ?_
      show gM p e below _ s₁ m 43 #[rv r1, iv 0, iv 2, lv q1, sN, iv 2, iv 1, iv 1, lv (xs1.getD (1 : Int32).toNatClampNeg 0), sN] []
      refine sT (fun t k => XS.goto X0.here hx rfl (pc0 := 43) (pc' := 65) rfl (hb hby d12_43) (by decide) (by decide) k) ?_
      show gM p e below _ s₁ m 65 #[rv r1, iv 0, iv 2, lv q1, sN, iv 2, iv 1, iv 1, lv (xs1.getD (1 : Int32).toNatClampNeg 0), sN] []
      refine sT (fun t k => XS.goto X0.here hx rfl (pc0 := 65) (pc' := 8) rfl (hb hby d12_65) (by decide) (by decide) k) ?_
      show gM p e below _ s₁ m 8 #[rv r1, iv 0, iv 2, lv q1, sN, iv 2, iv 1, iv 1, lv (xs1.getD (1 : Int32).toNatClampNeg 0), sN] []
      refine sT (fun t k => XS.iload X0.here hx rfl (hb hby d12_8) rfl k) ?_
      show gM p e below _ s₁ m 10 #[rv r1, iv 0, iv 2, lv q1, sN, iv 2, iv 1, iv 1, lv (xs1.getD (1 : Int32).toNatClampNeg 0), sN] [(.int 2)]
      refine sT (fun t k => XS.iload X0.here hx rfl (hb hby d12_10) rfl k) ?_
      show gM p e below _ s₁ m 12 #[rv r1, iv 0, iv 2, lv q1, sN, iv 2, iv 1, iv 1, lv (xs1.getD (1 : Int32).toNatClampNeg 0), sN] [(.int 1), (.int 2)]
      have hc524 : (1 : Int32) < (2 : Int32) := by decide
      refine sT (fun t k => XS.icmpYes X0.here hx rfl (pc0 := 12) (pc' := 68) rfl (hb hby d12_12) rfl (tlt hc524).2.2.1 (by decide) (by decide) k) ?_
      show gM p e below _ s₁ m 68 #[rv r1, iv 0, iv 2, lv q1, sN, iv 2, iv 1, iv 1, lv (xs1.getD (1 : Int32).toNatClampNeg 0), sN] []
      refine sT (fun t k => XS.iload X0.here hx rfl (hb hby d12_68) rfl k) ?_
      show gM p e below _ s₁ m 70 #[rv r1, iv 0, iv 2, lv q1, sN, iv 2, iv 1, iv 1, lv (xs1.getD (1 : Int32).toNatClampNeg 0), sN] [(.int 2)]
      refine sT (fun t k => XS.iconst X0.here hx rfl (hb hby d12_70) k) ?_
      show gM p e below _ s₁ m 71 #[rv r1, iv 0, iv 2, lv q1, sN, iv 2, iv 1, iv 1, lv (xs1.getD (1 : Int32).toNatClampNeg 0), sN] [(.int 1), (.int 2)]
      refine sT (fun t k => XS.iadd X0.here hx rfl (hb hby d12_71) rfl k) ?_
      show gM p e below _ s₁ m 72 #[rv r1, iv 0, iv 2, lv q1, sN, iv 2, iv 1, iv 1, lv (xs1.getD (1 : Int32).toNatClampNeg 0), sN] [(.int 3)]
      refine sT (fun t k => XS.ineg X0.here hx rfl (hb hby d12_72) rfl k) ?_
      show gM p e below _ s₁ m 73 #[rv r1, iv 0, iv 2, lv q1, sN, iv 2, iv 1, iv 1, lv (xs1.getD (1 : Int32).toNatClampNeg 0), sN] [(.int (-3))]
      refine own_retV X0 hx hlk Bd.returns (w := (.int (-3))) rfl (Or.inl ⟨rfl, Or.inl rfl, _, rfl⟩) (hb hby d12_73) ?_ (by decide) (by decide)
      show own_bz2_Q Z r1 q1 k1 z1 xs1 h0 n0 _ s₁.heap _
      rw [e0]
      exact ⟨(by simp only [if_pos hc521, if_pos hc523]), N0, rfl⟩
    · --
      refine sT (fun t k => XS.ifYes X0.here hx rfl (pc0 := 34) (pc' := 46) rfl (hb hby d12_34) rfl ((if0 _ _).trans (flt (fun zq => hc523 ((lw_lt (xs1.getD (1 : Int32).toNatClampNeg 0) q1).mp zq))).2.1) (by decide) (by decide) k) ?_
      show gM p e below _ s₁ m 46 #[rv r1, iv 0, iv 2, lv q1, sN, iv 1, iv 1, iv 1, lv (xs1.getD (1 : Int32).toNatClampNeg 0), sN] []
      refine sT (fun t k => XS.lload X0.here hx rfl (hb hby d12_46) rfl k) ?_
      show gM p e below _ s₁ m 48 #[rv r1, iv 0, iv 2, lv q1, sN, iv 1, iv 1, iv 1, lv (xs1.getD (1 : Int32).toNatClampNeg 0), sN] [(.long (xs1.getD (1 : Int32).toNatClampNeg 0))]
      refine sT (fun t k => XS.lloadN X0.here hx rfl (hb hby d12_48) rfl k) ?_
      show gM p e below _ s₁ m 49 #[rv r1, iv 0, iv 2, lv q1, sN, iv 1, iv 1, iv 1, lv (xs1.getD (1 : Int32).toNatClampNeg 0), sN] [(.long q1), (.long (xs1.getD (1 : Int32).toNatClampNeg 0))]
      refine sT (fun t k => XS.lcmp X0.here hx rfl (hb hby d12_49) rfl k) ?_
      show gM p e below _ s₁ m 50 #[rv r1, iv 0, iv 2, lv q1, sN, iv 1, iv 1, iv 1, lv (xs1.getD (1 : Int32).toNatClampNeg 0), sN] [(.int (lcmpW (xs1.getD (1 : Int32).toNatClampNeg 0) q1))]
      by_cases hc525 : q1 < (xs1.getD (1 : Int32).toNatClampNeg 0)
      · --
        refine sT (fun t k => XS.ifNo X0.here hx rfl (hb hby d12_50) rfl ((if0 _ _).trans (tlt ((lw_gt (xs1.getD (1 : Int32).toNatClampNeg 0) q1).mpr hc525)).2.2.2) k) ?_
        show gM p e below _ s₁ m 53 #[rv r1, iv 0, iv 2, lv q1, sN, iv 1, iv 1, iv 1, lv (xs1.getD (1 : Int32).toNatClampNeg 0), sN] []
        refine sT (fun t k => XS.iload X0.here hx rfl (hb hby d12_53) rfl k) ?_
        show gM p e below _ s₁ m 55 #[rv r1, iv 0, iv 2, lv q1, sN, iv 1, iv 1, iv 1, lv (xs1.getD (1 : Int32).toNatClampNeg 0), sN] [(.int 1)]
        refine sT (fun t k => XS.iconst X0.here hx rfl (hb hby d12_55) k) ?_
        show gM p e below _ s₁ m 56 #[rv r1, iv 0, iv 2, lv q1, sN, iv 1, iv 1, iv 1, lv (xs1.getD (1 : Int32).toNatClampNeg 0), sN] [(.int 1), (.int 1)]
        refine sT (fun t k => XS.isub X0.here hx rfl (hb hby d12_56) rfl k) ?_
        show gM p e below _ s₁ m 57 #[rv r1, iv 0, iv 2, lv q1, sN, iv 1, iv 1, iv 1, lv (xs1.getD (1 : Int32).toNatClampNeg 0), sN] [(.int 0)]
        refine sT (fun t k => XS.istore X0.here hx rfl (hb hby d12_57) rfl (l' := #[rv r1, iv 0, iv 2, lv q1, sN, iv 1, iv 0, iv 1, lv (xs1.getD (1 : Int32).toNatClampNeg 0), sN]) rfl k) ?_
        show gM p e below _ s₁ m 59 #[rv r1, iv 0, iv 2, lv q1, sN, iv 1, iv 0, iv 1, lv (xs1.getD (1 : Int32).toNatClampNeg 0), sN] []
        refine sT (fun t k => XS.goto X0.here hx rfl (pc0 := 59) (pc' := 65) rfl (hb hby d12_59) (by decide) (by decide) k) ?_
        show gM p e below _ s₁ m 65 #[rv r1, iv 0, iv 2, lv q1, sN, iv 1, iv 0, iv 1, lv (xs1.getD (1 : Int32).toNatClampNeg 0), sN] []
        refine sT (fun t k => XS.goto X0.here hx rfl (pc0 := 65) (pc' := 8) rfl (hb hby d12_65) (by decide) (by decide) k) ?_
        show gM p e below _ s₁ m 8 #[rv r1, iv 0, iv 2, lv q1, sN, iv 1, iv 0, iv 1, lv (xs1.getD (1 : Int32).toNatClampNeg 0), sN] []
        refine sT (fun t k => XS.iload X0.here hx rfl (hb hby d12_8) rfl k) ?_
        show gM p e below _ s₁ m 10 #[rv r1, iv 0, iv 2, lv q1, sN, iv 1, iv 0, iv 1, lv (xs1.getD (1 : Int32).toNatClampNeg 0), sN] [(.int 1)]
        refine sT (fun t k => XS.iload X0.here hx rfl (hb hby d12_10) rfl k) ?_
        show gM p e below _ s₁ m 12 #[rv r1, iv 0, iv 2, lv q1, sN, iv 1, iv 0, iv 1, lv (xs1.getD (1 : Int32).toNatClampNeg 0), sN] [(.int 0), (.int 1)]
        have hc526 : (0 : Int32) < (1 : Int32) := by decide
        refine sT (fun t k => XS.icmpYes X0.here hx rfl (pc0 := 12) (pc' := 68) rfl (hb hby d12_12) rfl (tlt hc526).2.2.1 (by decide) (by decide) k) ?_
        show gM p e below _ s₁ m 68 #[rv r1, iv 0, iv 2, lv q1, sN, iv 1, iv 0, iv 1, lv (xs1.getD (1 : Int32).toNatClampNeg 0), sN] []
        refine sT (fun t k => XS.iload X0.here hx rfl (hb hby d12_68) rfl k) ?_
        show gM p e below _ s₁ m 70 #[rv r1, iv 0, iv 2, lv q1, sN, iv 1, iv 0, iv 1, lv (xs1.getD (1 : Int32).toNatClampNeg 0), sN] [(.int 1)]
        refine sT (fun t k => XS.iconst X0.here hx rfl (hb hby d12_70) k) ?_
        show gM p e below _ s₁ m 71 #[rv r1, iv 0, iv 2, lv q1, sN, iv 1, iv 0, iv 1, lv (xs1.getD (1 : Int32).toNatClampNeg 0), sN] [(.int 1), (.int 1)]
        refine sT (fun t k => XS.iadd X0.here hx rfl (hb hby d12_71) rfl k) ?_
        show gM p e below _ s₁ m 72 #[rv r1, iv 0, iv 2, lv q1, sN, iv 1, iv 0, iv 1, lv (xs1.getD (1 : Int32).toNatClampNeg 0), sN] [(.int 2)]
        refine sT (fun t k => XS.ineg X0.here hx rfl (hb hby d12_72) rfl k) ?_
        show gM p e below _ s₁ m 73 #[rv r1, iv 0, iv 2, lv q1, sN, iv 1, iv 0, iv 1, lv (xs1.getD (1 : Int32).toNatClampNeg 0), sN] [(.int (-2))]
        refine own_retV X0 hx hlk Bd.returns (w := (.int (-2))) rfl (Or.inl ⟨rfl, Or.inl rfl, _, rfl⟩) (hb hby d12_73) ?_ (by decide) (by decide)
        show own_bz2_Q Z r1 q1 k1 z1 xs1 h0 n0 _ s₁.heap _
        rw [e0]
        exact ⟨(by simp only [if_pos hc521, if_neg hc523, if_pos hc525]), N0, rfl⟩
      · --
        refine sT (fun t k => XS.ifYes X0.here hx rfl (pc0 := 50) (pc' := 62) rfl (hb hby d12_50) rfl ((if0 _ _).trans (flt (fun zq => hc525 ((lw_gt (xs1.getD (1 : Int32).toNatClampNeg 0) q1).mp zq))).2.2.2) (by decide) (by decide) k) ?_
        show gM p e below _ s₁ m 62 #[rv r1, iv 0, iv 2, lv q1, sN, iv 1, iv 1, iv 1, lv (xs1.getD (1 : Int32).toNatClampNeg 0), sN] []
        refine sT (fun t k => XS.iload X0.here hx rfl (hb hby d12_62) rfl k) ?_
        show gM p e below _ s₁ m 64 #[rv r1, iv 0, iv 2, lv q1, sN, iv 1, iv 1, iv 1, lv (xs1.getD (1 : Int32).toNatClampNeg 0), sN] [(.int 1)]
        refine own_retV X0 hx hlk Bd.returns (w := (.int 1)) rfl (Or.inl ⟨rfl, Or.inl rfl, _, rfl⟩) (hb hby d12_64) ?_ (by decide) (by decide)
        show own_bz2_Q Z r1 q1 k1 z1 xs1 h0 n0 _ s₁.heap _
        rw [e0]
        exact ⟨(by simp only [if_pos hc521, if_neg hc523, if_neg hc525]), N0, rfl⟩
  · --
    refine sT (fun t k => XS.ifYes X0.here hx rfl (pc0 := 34) (pc' := 46) rfl (hb hby d12_34) rfl ((if0 _ _).trans (flt (fun zq => hc521 ((lw_lt (xs1.getD (0 : Int32).toNatClampNeg 0) q1).mp zq))).2.1) (by decide) (by decide) k) ?_
    show gM p e below _ s₁ m 46 #[rv r1, iv 0, iv 2, lv q1, sN, iv 0, iv 1, iv 0, lv (xs1.getD (0 : Int32).toNatClampNeg 0), sN] []
    refine sT (fun t k => XS.lload X0.here hx rfl (hb hby d12_46) rfl k) ?_
    show gM p e below _ s₁ m 48 #[rv r1, iv 0, iv 2, lv q1, sN, iv 0, iv 1, iv 0, lv (xs1.getD (0 : Int32).toNatClampNeg 0), sN] [(.long (xs1.getD (0 : Int32).toNatClampNeg 0))]
    refine sT (fun t k => XS.lloadN X0.here hx rfl (hb hby d12_48) rfl k) ?_
    show gM p e below _ s₁ m 49 #[rv r1, iv 0, iv 2, lv q1, sN, iv 0, iv 1, iv 0, lv (xs1.getD (0 : Int32).toNatClampNeg 0), sN] [(.long q1), (.long (xs1.getD (0 : Int32).toNatClampNeg 0))]
    refine sT (fun t k => XS.lcmp X0.here hx rfl (hb hby d12_49) rfl k) ?_
    show gM p e below _ s₁ m 50 #[rv r1, iv 0, iv 2, lv q1, sN, iv 0, iv 1, iv 0, lv (xs1.getD (0 : Int32).toNatClampNeg 0), sN] [(.int (lcmpW (xs1.getD (0 : Int32).toNatClampNeg 0) q1))]
    by_cases hc527 : q1 < (xs1.getD (0 : Int32).toNatClampNeg 0)
    · --
      refine sT (fun t k => XS.ifNo X0.here hx rfl (hb hby d12_50) rfl ((if0 _ _).trans (tlt ((lw_gt (xs1.getD (0 : Int32).toNatClampNeg 0) q1).mpr hc527)).2.2.2) k) ?_
      show gM p e below _ s₁ m 53 #[rv r1, iv 0, iv 2, lv q1, sN, iv 0, iv 1, iv 0, lv (xs1.getD (0 : Int32).toNatClampNeg 0), sN] []
      refine sT (fun t k => XS.iload X0.here hx rfl (hb hby d12_53) rfl k) ?_
      show gM p e below _ s₁ m 55 #[rv r1, iv 0, iv 2, lv q1, sN, iv 0, iv 1, iv 0, lv (xs1.getD (0 : Int32).toNatClampNeg 0), sN] [(.int 0)]
      refine sT (fun t k => XS.iconst X0.here hx rfl (hb hby d12_55) k) ?_
      show gM p e below _ s₁ m 56 #[rv r1, iv 0, iv 2, lv q1, sN, iv 0, iv 1, iv 0, lv (xs1.getD (0 : Int32).toNatClampNeg 0), sN] [(.int 1), (.int 0)]
      refine sT (fun t k => XS.isub X0.here hx rfl (hb hby d12_56) rfl k) ?_
      show gM p e below _ s₁ m 57 #[rv r1, iv 0, iv 2, lv q1, sN, iv 0, iv 1, iv 0, lv (xs1.getD (0 : Int32).toNatClampNeg 0), sN] [(.int (-1))]
      refine sT (fun t k => XS.istore X0.here hx rfl (hb hby d12_57) rfl (l' := #[rv r1, iv 0, iv 2, lv q1, sN, iv 0, iv (-1), iv 0, lv (xs1.getD (0 : Int32).toNatClampNeg 0), sN]) rfl k) ?_
      show gM p e below _ s₁ m 59 #[rv r1, iv 0, iv 2, lv q1, sN, iv 0, iv (-1), iv 0, lv (xs1.getD (0 : Int32).toNatClampNeg 0), sN] []
      refine sT (fun t k => XS.goto X0.here hx rfl (pc0 := 59) (pc' := 65) rfl (hb hby d12_59) (by decide) (by decide) k) ?_
      show gM p e below _ s₁ m 65 #[rv r1, iv 0, iv 2, lv q1, sN, iv 0, iv (-1), iv 0, lv (xs1.getD (0 : Int32).toNatClampNeg 0), sN] []
      refine sT (fun t k => XS.goto X0.here hx rfl (pc0 := 65) (pc' := 8) rfl (hb hby d12_65) (by decide) (by decide) k) ?_
      show gM p e below _ s₁ m 8 #[rv r1, iv 0, iv 2, lv q1, sN, iv 0, iv (-1), iv 0, lv (xs1.getD (0 : Int32).toNatClampNeg 0), sN] []
      refine sT (fun t k => XS.iload X0.here hx rfl (hb hby d12_8) rfl k) ?_
      show gM p e below _ s₁ m 10 #[rv r1, iv 0, iv 2, lv q1, sN, iv 0, iv (-1), iv 0, lv (xs1.getD (0 : Int32).toNatClampNeg 0), sN] [(.int 0)]
      refine sT (fun t k => XS.iload X0.here hx rfl (hb hby d12_10) rfl k) ?_
      show gM p e below _ s₁ m 12 #[rv r1, iv 0, iv 2, lv q1, sN, iv 0, iv (-1), iv 0, lv (xs1.getD (0 : Int32).toNatClampNeg 0), sN] [(.int (-1)), (.int 0)]
      have hc528 : (-1 : Int32) < (0 : Int32) := by decide
      refine sT (fun t k => XS.icmpYes X0.here hx rfl (pc0 := 12) (pc' := 68) rfl (hb hby d12_12) rfl (tlt hc528).2.2.1 (by decide) (by decide) k) ?_
      show gM p e below _ s₁ m 68 #[rv r1, iv 0, iv 2, lv q1, sN, iv 0, iv (-1), iv 0, lv (xs1.getD (0 : Int32).toNatClampNeg 0), sN] []
      refine sT (fun t k => XS.iload X0.here hx rfl (hb hby d12_68) rfl k) ?_
      show gM p e below _ s₁ m 70 #[rv r1, iv 0, iv 2, lv q1, sN, iv 0, iv (-1), iv 0, lv (xs1.getD (0 : Int32).toNatClampNeg 0), sN] [(.int 0)]
      refine sT (fun t k => XS.iconst X0.here hx rfl (hb hby d12_70) k) ?_
      show gM p e below _ s₁ m 71 #[rv r1, iv 0, iv 2, lv q1, sN, iv 0, iv (-1), iv 0, lv (xs1.getD (0 : Int32).toNatClampNeg 0), sN] [(.int 1), (.int 0)]
      refine sT (fun t k => XS.iadd X0.here hx rfl (hb hby d12_71) rfl k) ?_
      show gM p e below _ s₁ m 72 #[rv r1, iv 0, iv 2, lv q1, sN, iv 0, iv (-1), iv 0, lv (xs1.getD (0 : Int32).toNatClampNeg 0), sN] [(.int 1)]
      refine sT (fun t k => XS.ineg X0.here hx rfl (hb hby d12_72) rfl k) ?_
      show gM p e below _ s₁ m 73 #[rv r1, iv 0, iv 2, lv q1, sN, iv 0, iv (-1), iv 0, lv (xs1.getD (0 : Int32).toNatClampNeg 0), sN] [(.int (-1))]
      refine own_retV X0 hx hlk Bd.returns (w := (.int (-1))) rfl (Or.inl ⟨rfl, Or.inl rfl, _, rfl⟩) (hb hby d12_73) ?_ (by decide) (by decide)
      show own_bz2_Q Z r1 q1 k1 z1 xs1 h0 n0 _ s₁.heap _
      rw [e0]
      exact ⟨(by simp only [if_neg hc521, if_pos hc527]), N0, rfl⟩
    · --
      refine sT (fun t k => XS.ifYes X0.here hx rfl (pc0 := 50) (pc' := 62) rfl (hb hby d12_50) rfl ((if0 _ _).trans (flt (fun zq => hc527 ((lw_gt (xs1.getD (0 : Int32).toNatClampNeg 0) q1).mp zq))).2.2.2) (by decide) (by decide) k) ?_
      show gM p e below _ s₁ m 62 #[rv r1, iv 0, iv 2, lv q1, sN, iv 0, iv 1, iv 0, lv (xs1.getD (0 : Int32).toNatClampNeg 0), sN] []
      refine sT (fun t k => XS.iload X0.here hx rfl (hb hby d12_62) rfl k) ?_
      show gM p e below _ s₁ m 64 #[rv r1, iv 0, iv 2, lv q1, sN, iv 0, iv 1, iv 0, lv (xs1.getD (0 : Int32).toNatClampNeg 0), sN] [(.int 0)]
      refine own_retV X0 hx hlk Bd.returns (w := (.int 0)) rfl (Or.inl ⟨rfl, Or.inl rfl, _, rfl⟩) (hb hby d12_64) ?_ (by decide) (by decide)
      show own_bz2_Q Z r1 q1 k1 z1 xs1 h0 n0 _ s₁.heap _
      rw [e0]
      exact ⟨(by simp only [if_neg hc521, if_neg hc527]), N0, rfl⟩
theorem own_bs2_ef (m : MethodId) (r1 : Addr) (q1 : Int64) : entryFrame m #[(.ref r1), (.int 0), (.int 2), (.long q1)] 5 = mkF m 0 #[rv r1, iv 0, iv 2, lv q1, sN] [] := by first | (simp [entryFrame, mkF, argsToLocals, Value.category]; done) | rfl
def own_bs2_Q (Z : State) (r1 : Addr) (q1 : Int64) (k1 : ClassId) (z1 : Int32) (xs1 : List Int64) (r2 : Int32) (h0 : Heap) (n0 : Nat) (v : Option Value) (h : Heap) (L : List Loc) : Prop := v = some (.int r2) ∧ Fr n0 L ∧ h = h0
set_option maxRecDepth 65536 in
set_option maxHeartbeats 40000000 in
theorem own_bs2 (l : Launch) (Z : State) (a0 : Array Value) (hw : ∀ d ∈ tables_1, d.before a0 Z = true) (ws : List Jvm.Cond) (r1 : Addr) (q1 : Int64) (k1 : ClassId) (z1 : Int32) (xs1 : List Int64) (r2 : Int32) (h0 : Heap) (n0 : Nat) (Z0 : n0 ≤ h0.size) (V_r1 : Arv Z h0 r1 k1 .long z1 (xs1.map Value.long) (Value.long 0)) (hz : ¬ z1 < (2 : Int32)) (hr2 : (if (xs1.getD (0 : Int32).toNatClampNeg 0) < q1 then (if (xs1.getD (1 : Int32).toNatClampNeg 0) < q1 then (-3 : Int32) else (if q1 < (xs1.getD (1 : Int32).toNatClampNeg 0) then (-2 : Int32) else (1 : Int32))) else (if q1 < (xs1.getD (0 : Int32).toNatClampNeg 0) then (-1 : Int32) else (0 : Int32))) = r2) :
    MetFree l (⟨"java/util/Arrays", "binarySearch", "([JIIJ)I"⟩ : MethodName) (head1 (Jvm.Cond.code (⟨"java/util/Arrays", "binarySearch", "([JIIJ)I"⟩ : MethodName) jdk_65_method_55_code 5 (some .int) :: ws) ({ frames := 1, cells := 0, slots := 0, locals := 21 } : Room)) (fun aa U => aa = #[(.ref r1), (.int 0), (.int 2), (.long q1)] ∧ Z.Warmed39 U.vm ∧ U.heap = h0) (fun _ _ _ _ _ => True) (fun _ U o U' => ∃ v L, o = .returned v ∧ own_bs2_Q Z r1 q1 k1 z1 xs1 r2 h0 n0 v U'.heap L ∧ FrameEnd U o U' L ({ frames := 1, cells := 0, slots := 0, locals := 21 } : Room).cells ({ frames := 1, cells := 0, slots := 0, locals := 21 } : Room).slots) := by
  refine MetFree.of_bodySF (plainFor_of_name own_pn1) hisR ?_
  have w53 := hw _ (List.mem_of_getElem? (i := 53) rfl)
  have w55 := hw _ (List.mem_of_getElem? (i := 55) rfl)
  have w56 := hw _ (List.mem_of_getElem? (i := 56) rfl)
  have w57 := hw _ (List.mem_of_getElem? (i := 57) rfl)
  have w58 := hw _ (List.mem_of_getElem? (i := 58) rfl)
  have w59 := hw _ (List.mem_of_getElem? (i := 59) rfl)
  have w60 := hw _ (List.mem_of_getElem? (i := 60) rfl)
  intro p e s m args below meth c s₁ Bd hml0 hP hK
  obtain ⟨rfl, hZ, hh⟩ := hP
  have hx := Bd.exec
  have hby := Bd.bytes
  have hlk := Bd.notSynchronized
  have hml : c.maxLocals = 5 := hml0
  have hown : s.vm.findClass "java/util/Arrays" = some m.cls := findClass_of_methodNamed Bd.named
  have hnm := (name_of_methodNamed Bd.named Bd.method).1
  have X0 : Stand p l e ({ frames := 1, cells := 0, slots := 0, locals := 21 } : Room) s m #[(.ref r1), (.int 0), (.int 2), (.long q1)] below meth c s₁ [] 0 0 := Stand.of_body Bd
  have e0 : s₁.heap = h0 := by rw [← hh, Bd.state]; rfl
  have N0 := Fr.nil n0
  have K0 : Keep h0 h0 [] := Keep.refl h0 _
  show gS p e below (own_Fin s (own_bs2_Q Z r1 q1 k1 z1 xs1 r2 h0 n0) ({ frames := 1, cells := 0, slots := 0, locals := 21 } : Room).cells ({ frames := 1, cells := 0, slots := 0, locals := 21 } : Room).slots) _
  refine sT (fun t k => castTop (own_bs2_ef m r1 q1) k) ?_
  show gM p e below _ s₁ m 0 #[rv r1, iv 0, iv 2, lv q1, sN] []
  refine sT (fun t k => XS.aloadN X0.here hx rfl (hb hby d13_0) rfl rfl k) ?_
  show gM p e below _ s₁ m 1 #[rv r1, iv 0, iv 2, lv q1, sN] [(.ref r1)]
  refine sT (fun t k => own_len X0 hx hZ e0 V_r1 (g := (mkF m 1 #[rv r1, iv 0, iv 2, lv q1, sN] [(.ref r1)])) rfl rfl (hb hby d13_1) _ k) ?_
  show gM p e below _ s₁ m 2 #[rv r1, iv 0, iv 2, lv q1, sN] [(.int z1)]
  refine sT (fun t k => XS.iloadN X0.here hx rfl (hb hby d13_2) rfl k) ?_
  show gM p e below _ s₁ m 3 #[rv r1, iv 0, iv 2, lv q1, sN] [(.int 0), (.int z1)]
  refine sT (fun t k => XS.iloadN X0.here hx rfl (hb hby d13_3) rfl k) ?_
  show gM p e below _ s₁ m 4 #[rv r1, iv 0, iv 2, lv q1, sN] [(.int 2), (.int 0), (.int z1)]
  obtain ⟨_, _, ⟨T531, L531, k531, n531⟩, -, X531, ⟨Lc531, hQ531, l531, y531, z531⟩, st531⟩ := Jvm.LawKit.callS X0 hx (y := (⟨"java/util/Arrays", "rangeCheck", "(III)V"⟩ : MethodName)) hown (mvT hZ w55) (mvT hZ w56) (mvT hZ w53) (mvT hZ w57) (by decide) (backOf (W := 0) (own_rk2 l Z a0 hw [] z1  h0 n0 Z0 hz) hZ w57 w53 (by decide) (by decide)) (g := (mkF m 4 #[rv r1, iv 0, iv 2, lv q1, sN] [(.int 2), (.int 0), (.int z1)])) rfl (by rw [hml]; rfl) (argsL := [(.int z1), (.int 0), (.int 2)]) (rest := []) (lenOf own_pd5 rfl) rfl (by show 2 * 0 + _ ≤ _; exact Nat.le_of_eq rfl) (hb hby d13_4) (fun _ _ => ⟨rfl, e0, (by decide : 0 + 0 ≤ _), (by decide : 0 + 0 ≤ _)⟩)
  dsimp only [Pt.U, Pt.locs, Pt.cells, Pt.slots] at X531 l531 y531 z531 st531 hQ531
  subst y531 z531
  obtain ⟨rfl, N531q, eh531⟩ := hQ531
  have N531 : Fr n0 L531 := by rw [l531]; exact Fr.app N0 N531q
  refine sT st531 ?_
  show gM p e below _ T531 m 7 #[rv r1, iv 0, iv 2, lv q1, sN] []
  refine sT (fun t k => XS.aloadN X531.here hx rfl (hb hby d13_7) rfl rfl k) ?_
  show gM p e below _ T531 m 8 #[rv r1, iv 0, iv 2, lv q1, sN] [(.ref r1)]
  refine sT (fun t k => XS.iloadN X531.here hx rfl (hb hby d13_8) rfl k) ?_
  show gM p e below _ T531 m 9 #[rv r1, iv 0, iv 2, lv q1, sN] [(.int 0), (.ref r1)]
  refine sT (fun t k => XS.iloadN X531.here hx rfl (hb hby d13_9) rfl k) ?_
  show gM p e below _ T531 m 10 #[rv r1, iv 0, iv 2, lv q1, sN] [(.int 2), (.int 0), (.ref r1)]
  refine sT (fun t k => XS.lloadN X531.here hx rfl (hb hby d13_10) rfl k) ?_
  show gM p e below _ T531 m 11 #[rv r1, iv 0, iv 2, lv q1, sN] [(.long q1), (.int 2), (.int 0), (.ref r1)]
  obtain ⟨_, _, ⟨T532, L532, k532, n532⟩, -, X532, ⟨Lc532, hQ532, l532, y532, z532⟩, st532⟩ := Jvm.LawKit.callS X531 hx (y := (⟨"java/util/Arrays", "binarySearch0", "([JIIJ)I"⟩ : MethodName)) hown (mvT hZ w58) (mvT hZ w59) (mvT hZ w53) (mvT hZ w60) (by decide) (backOf (W := 0) (own_bz2 l Z a0 hw [] r1 q1 (k1) (z1) (xs1) h0 n0 Z0 V_r1 hz) hZ w60 w53 (by decide) (by decide)) (g := (mkF m 11 #[rv r1, iv 0, iv 2, lv q1, sN] [(.long q1), (.int 2), (.int 0), (.ref r1)])) rfl (by rw [hml]; rfl) (argsL := [(.ref r1), (.int 0), (.int 2), (.long q1)]) (rest := []) (lenOf own_pd6 rfl) rfl (by show 2 * 0 + _ ≤ _; exact Nat.le_of_eq rfl) (hb hby d13_11) (fun _ _ => ⟨rfl, eh531, (by decide : 0 + 0 ≤ _), (by decide : 0 + 0 ≤ _)⟩)
  dsimp only [Pt.U, Pt.locs, Pt.cells, Pt.slots] at X532 l532 y532 z532 st532 hQ532
  subst y532 z532
  obtain ⟨rfl, N532q, eh532⟩ := hQ532
  have N532 : Fr n0 L532 := by rw [l532]; exact Fr.app N531 N532q
  refine sT st532 ?_
  show gM p e below _ T532 m 14 #[rv r1, iv 0, iv 2, lv q1, sN] [(.int (if (xs1.getD (0 : Int32).toNatClampNeg 0) < q1 then (if (xs1.getD (1 : Int32).toNatClampNeg 0) < q1 then (-3 : Int32) else (if q1 < (xs1.getD (1 : Int32).toNatClampNeg 0) then (-2 : Int32) else (1 : Int32))) else (if q1 < (xs1.getD (0 : Int32).toNatClampNeg 0) then (-1 : Int32) else (0 : Int32))))]
  refine own_retV X532 hx hlk Bd.returns (w := (.int (if (xs1.getD (0 : Int32).toNatClampNeg 0) < q1 then (if (xs1.getD (1 : Int32).toNatClampNeg 0) < q1 then (-3 : Int32) else (if q1 < (xs1.getD (1 : Int32).toNatClampNeg 0) then (-2 : Int32) else (1 : Int32))) else (if q1 < (xs1.getD (0 : Int32).toNatClampNeg 0) then (-1 : Int32) else (0 : Int32))))) rfl (Or.inl ⟨rfl, Or.inl rfl, _, rfl⟩) (hb hby d13_14) ?_ (by decide) (by decide)
  show own_bs2_Q Z r1 q1 k1 z1 xs1 r2 h0 n0 _ T532.heap _
  rw [eh532]
  exact ⟨(by rw [hr2]), N532, rfl⟩
theorem d14_0 : decode prog_128_method_12_code 0 = .ok (.iload_n 1, 1) := by decide +kernel
theorem d14_1 : decode prog_128_method_12_code 1 = .ok (.iconst 2, 1) := by decide +kernel
theorem d14_2 : decode prog_128_method_12_code 2 = .ok (.aload_n 0, 1) := by decide +kernel
theorem d14_3 : decode prog_128_method_12_code 3 = .ok (.getfield 44, 3) := by decide +kernel
theorem d14_6 : decode prog_128_method_12_code 6 = .ok (.aload_n 0, 1) := by decide +kernel
theorem d14_7 : decode prog_128_method_12_code 7 = .ok (.getfield 59, 3) := by decide +kernel
theorem d14_10 : decode prog_128_method_12_code 10 = .ok (.isub, 1) := by decide +kernel
theorem d14_11 : decode prog_128_method_12_code 11 = .ok (.imul, 1) := by decide +kernel
theorem d14_12 : decode prog_128_method_12_code 12 = .ok (.iconst 2, 1) := by decide +kernel
theorem d14_13 : decode prog_128_method_12_code 13 = .ok (.iadd, 1) := by decide +kernel
theorem d14_14 : decode prog_128_method_12_code 14 = .ok (.if_icmp .ge 10, 3) := by decide +kernel
theorem d14_24 : decode prog_128_method_12_code 24 = .ok (.aload_n 0, 1) := by decide +kernel
theorem d14_25 : decode prog_128_method_12_code 25 = .ok (.iload_n 1, 1) := by decide +kernel
theorem d14_26 : decode prog_128_method_12_code 26 = .ok (.newarray .int, 2) := by decide +kernel
theorem d14_28 : decode prog_128_method_12_code 28 = .ok (.putfield 49, 3) := by decide +kernel
theorem d14_31 : decode prog_128_method_12_code 31 = .ok (.aload_n 0, 1) := by decide +kernel
theorem d14_32 : decode prog_128_method_12_code 32 = .ok (.getfield 59, 3) := by decide +kernel
theorem d14_35 : decode prog_128_method_12_code 35 = .ok (.istore_n 2, 1) := by decide +kernel
theorem d14_36 : decode prog_128_method_12_code 36 = .ok (.iload_n 2, 1) := by decide +kernel
theorem d14_37 : decode prog_128_method_12_code 37 = .ok (.aload_n 0, 1) := by decide +kernel
theorem d14_38 : decode prog_128_method_12_code 38 = .ok (.getfield 44, 3) := by decide +kernel
theorem d14_41 : decode prog_128_method_12_code 41 = .ok (.if_icmp .ge 27, 3) := by decide +kernel
theorem d14_68 : decode prog_128_method_12_code 68 = .ok (.return_, 1) := by decide +kernel
theorem own_ix1_ef (m : MethodId) (a1 : Addr) : entryFrame m #[(.ref a1), (.int 32)] 3 = mkF m 0 #[rv a1, iv 32, uN] [] := by first | (simp [entryFrame, mkF, argsToLocals, Value.category]; done) | rfl
def own_ix1_Q (Z : State) (a1 : Addr) (ut : Value) (um : Value) (ub : Value) (uc : Value) (h0 : Heap) (n0 : Nat) (v : Option Value) (h : Heap) (L : List Loc) : Prop := ∃ tt : Addr, ∃ kt : ClassId, v = none ∧ Fr n0 L ∧ Keep h0 h [a1] ∧ h0.size ≤ tt ∧ Exa Z h a1 oS ∧ Fld Z h a1 oS "size" "I" (.int 1) ∧ Fld Z h a1 oS "ordered" "I" (.int 1) ∧ Fld Z h a1 oS "table" "[I" (.ref tt) ∧ Fld Z h a1 oS "most" "I" um ∧ Fld Z h a1 oS "blocks" "[J" ub ∧ Fld Z h a1 oS "bits" "[J" uc ∧ Arv Z h tt kt .int 32 ((List.replicate 32 (0 : Int32)).map Value.int) (Value.int 0)
set_option maxRecDepth 65536 in
set_option maxHeartbeats 40000000 in
theorem own_ix1 (l : Launch) (Z : State) (a0 : Array Value) (hw : ∀ d ∈ tables_1, d.before a0 Z = true) (ws : List Jvm.Cond) (a1 : Addr) (ut : Value) (um : Value) (ub : Value) (uc : Value) (h0 : Heap) (n0 : Nat) (Z0 : n0 ≤ h0.size) (E_a1 : Exa Z h0 a1 oS) (g_a1 : n0 ≤ a1) (F_size_a1 : Fld Z h0 a1 oS "size" "I" (.int 1)) (F_ordered_a1 : Fld Z h0 a1 oS "ordered" "I" (.int 1)) (F_table_a1 : Fld Z h0 a1 oS "table" "[I" ut) (F_most_a1 : Fld Z h0 a1 oS "most" "I" um) (F_blocks_a1 : Fld Z h0 a1 oS "blocks" "[J" ub) (F_bits_a1 : Fld Z h0 a1 oS "bits" "[J" uc) :
    MetFree l (⟨oS, "index", "(I)V"⟩ : MethodName) (head1 (Jvm.Cond.code (⟨oS, "index", "(I)V"⟩ : MethodName) prog_128_method_12_code 3 none :: ws) ({ frames := 0, cells := 1, slots := 32, locals := 0 } : Room)) (fun aa U => aa = #[(.ref a1), (.int 32)] ∧ Z.Warmed39 U.vm ∧ U.heap = h0) (fun _ _ _ _ _ => True) (fun _ U o U' => ∃ v L, o = .returned v ∧ own_ix1_Q Z a1 ut um ub uc h0 n0 v U'.heap L ∧ FrameEnd U o U' L ({ frames := 0, cells := 1, slots := 32, locals := 0 } : Room).cells ({ frames := 0, cells := 1, slots := 32, locals := 0 } : Room).slots) := by
  refine MetFree.of_bodySF (plainFor_of_name own_pn0) hisR ?_
  have w1 := hw _ (List.mem_of_getElem? (i := 1) rfl)
  have w14 := hw _ (List.mem_of_getElem? (i := 14) rfl)
  have w21 := hw _ (List.mem_of_getElem? (i := 21) rfl)
  have w23 := hw _ (List.mem_of_getElem? (i := 23) rfl)
  have w35 := hw _ (List.mem_of_getElem? (i := 35) rfl)
  have w36 := hw _ (List.mem_of_getElem? (i := 36) rfl)
  have w42 := hw _ (List.mem_of_getElem? (i := 42) rfl)
  have w43 := hw _ (List.mem_of_getElem? (i := 43) rfl)
  have w48 := hw _ (List.mem_of_getElem? (i := 48) rfl)
  have w49 := hw _ (List.mem_of_getElem? (i := 49) rfl)
  have w65 := hw _ (List.mem_of_getElem? (i := 65) rfl)
  intro p e s m args below meth c s₁ Bd hml0 hP hK
  obtain ⟨rfl, hZ, hh⟩ := hP
  have hx := Bd.exec
  have hby := Bd.bytes
  have hlk := Bd.notSynchronized
  have hml : c.maxLocals = 3 := hml0
  have hown : s.vm.findClass oS = some m.cls := findClass_of_methodNamed Bd.named
  have hnm := (name_of_methodNamed Bd.named Bd.method).1
  have X0 : Stand p l e ({ frames := 0, cells := 1, slots := 32, locals := 0 } : Room) s m #[(.ref a1), (.int 32)] below meth c s₁ [] 0 0 := Stand.of_body Bd
  have e0 : s₁.heap = h0 := by rw [← hh, Bd.state]; rfl
  have N0 := Fr.nil n0
  have K0 : Keep h0 h0 [a1] := Keep.refl h0 _
  show gS p e below (own_Fin s (own_ix1_Q Z a1 ut um ub uc h0 n0) ({ frames := 0, cells := 1, slots := 32, locals := 0 } : Room).cells ({ frames := 0, cells := 1, slots := 32, locals := 0 } : Room).slots) _
  refine sT (fun t k => castTop (own_ix1_ef m a1) k) ?_
  show gM p e below _ s₁ m 0 #[rv a1, iv 32, uN] []
  refine sT (fun t k => XS.iloadN X0.here hx rfl (hb hby d14_0) rfl k) ?_
  show gM p e below _ s₁ m 1 #[rv a1, iv 32, uN] [(.int 32)]
  refine sT (fun t k => XS.iconst X0.here hx rfl (hb hby d14_1) k) ?_
  show gM p e below _ s₁ m 2 #[rv a1, iv 32, uN] [(.int 2), (.int 32)]
  refine sT (fun t k => XS.aloadN X0.here hx rfl (hb hby d14_2) rfl rfl k) ?_
  show gM p e below _ s₁ m 3 #[rv a1, iv 32, uN] [(.ref a1), (.int 2), (.int 32)]
  obtain ⟨T543, X543, e543, st543⟩ := getF X0 hx hZ hown (host := "") (Or.inl w42) Via.refl e0 F_size_a1 (g := (mkF m 3 #[rv a1, iv 32, uN] [(.ref a1), (.int 2), (.int 32)])) rfl rfl (hb hby d14_3)
  refine sT st543 ?_
  show gM p e below _ T543 m 6 #[rv a1, iv 32, uN] [(.int 1), (.int 2), (.int 32)]
  refine sT (fun t k => XS.aloadN X543.here hx rfl (hb hby d14_6) rfl rfl k) ?_
  show gM p e below _ T543 m 7 #[rv a1, iv 32, uN] [(.ref a1), (.int 1), (.int 2), (.int 32)]
  obtain ⟨T544, X544, e544, st544⟩ := getF X543 hx hZ hown (host := "") (Or.inl w48) Via.refl e543 F_ordered_a1 (g := (mkF m 7 #[rv a1, iv 32, uN] [(.ref a1), (.int 1), (.int 2), (.int 32)])) rfl rfl (hb hby d14_7)
  refine sT st544 ?_
  show gM p e below _ T544 m 10 #[rv a1, iv 32, uN] [(.int 1), (.int 1), (.int 2), (.int 32)]
  refine sT (fun t k => XS.isub X544.here hx rfl (hb hby d14_10) rfl k) ?_
  show gM p e below _ T544 m 11 #[rv a1, iv 32, uN] [(.int 0), (.int 2), (.int 32)]
  refine sT (fun t k => XS.imul X544.here hx rfl (hb hby d14_11) rfl k) ?_
  show gM p e below _ T544 m 12 #[rv a1, iv 32, uN] [(.int 0), (.int 32)]
  refine sT (fun t k => XS.iconst X544.here hx rfl (hb hby d14_12) k) ?_
  show gM p e below _ T544 m 13 #[rv a1, iv 32, uN] [(.int 2), (.int 0), (.int 32)]
  refine sT (fun t k => XS.iadd X544.here hx rfl (hb hby d14_13) rfl k) ?_
  show gM p e below _ T544 m 14 #[rv a1, iv 32, uN] [(.int 2), (.int 32)]
  have hc545 : ¬ ((32 : Int32) < (2 : Int32)) := by decide
  refine sT (fun t k => XS.icmpYes X544.here hx rfl (pc0 := 14) (pc' := 24) rfl (hb hby d14_14) rfl (flt hc545).2.1 (by decide) (by decide) k) ?_
  show gM p e below _ T544 m 24 #[rv a1, iv 32, uN] []
  refine sT (fun t k => XS.aloadN X544.here hx rfl (hb hby d14_24) rfl rfl k) ?_
  show gM p e below _ T544 m 25 #[rv a1, iv 32, uN] [(.ref a1)]
  refine sT (fun t k => XS.iloadN X544.here hx rfl (hb hby d14_25) rfl k) ?_
  show gM p e below _ T544 m 26 #[rv a1, iv 32, uN] [(.int 32), (.ref a1)]
  obtain ⟨T546, h546, k546, X546, e546, E546, A546, st546⟩ := newP (aty := .int) X544 hx hZ w65 e544 (g := (mkF m 26 #[rv a1, iv 32, uN] [(.int 32), (.ref a1)])) rfl (hb hby d14_26) rfl (by decide) (cap := 32) (by decide) (by decide) (by decide) (by decide)
  obtain ⟨b546, g546⟩ : ∃ z, z = h0.size := ⟨_, rfl⟩
  rw [← g546] at A546 st546
  have ne_a1_b546 : a1 ≠ b546 := Nat.ne_of_lt (Nat.lt_of_lt_of_le E_a1.lt (Nat.le_of_eq g546.symm))
  have g_b546 : n0 ≤ b546 := Nat.le_trans Z0 (Nat.le_of_eq g546.symm)
  have sz_b546 : h0.size ≤ b546 := Nat.le_trans K0.1 (Nat.le_of_eq g546.symm)
  have V546 : Arv Z h546 b546 k546 .int 32 ((List.replicate 32 (0 : Int32)).map Value.int) (Value.int 0) := own_newI A546 (by decide) 32
  have K547 : Keep h0 h546 [a1] := K0.ext E546
  refine sT st546 ?_
  show gM p e below _ T546 m 28 #[rv a1, iv 32, uN] [(.ref b546), (.ref a1)]
  obtain ⟨T548, h548, X548, e548, W548, st548⟩ := putF X546 hx hZ hown (host := "") (Or.inl w35) Via.refl e546 (F_table_a1.ext E546) (E_a1.ext E546) (Or.inl w36) w1 (ty := (.array .int)) (by decide) rfl rfl (g := (mkF m 28 #[rv a1, iv 32, uN] [(.ref b546), (.ref a1)])) rfl rfl (hb hby d14_28)
  have Fw548 := (F_table_a1.ext E546).same W548
  have N548 := Fr.snoc X548 N0 g_a1
  have K549 : Keep h0 h548 [a1] := K547.wr W548 (Or.inl (List.mem_of_getElem? (i := 0) rfl))
  refine sT st548 ?_
  show gM p e below _ T548 m 31 #[rv a1, iv 32, uN] []
  refine sT (fun t k => XS.aloadN X548.here hx rfl (hb hby d14_31) rfl rfl k) ?_
  show gM p e below _ T548 m 32 #[rv a1, iv 32, uN] [(.ref a1)]
  obtain ⟨T550, X550, e550, st550⟩ := getF X548 hx hZ hown (host := "") (Or.inl w48) Via.refl e548 ((F_ordered_a1.ext E546).other W548 (Or.inr (slot_ne (Or.inl w49) (Or.inl w36) (by decide) (t := .int) (t' := (.array .int)) (by decide) (by decide)))) (g := (mkF m 32 #[rv a1, iv 32, uN] [(.ref a1)])) rfl rfl (hb hby d14_32)
  refine sT st550 ?_
  show gM p e below _ T550 m 35 #[rv a1, iv 32, uN] [(.int 1)]
  refine sT (fun t k => XS.istoreN X550.here hx rfl (hb hby d14_35) rfl (l' := #[rv a1, iv 32, iv 1]) rfl k) ?_
  show gM p e below _ T550 m 36 #[rv a1, iv 32, iv 1] []
  refine sT (fun t k => XS.iloadN X550.here hx rfl (hb hby d14_36) rfl k) ?_
  show gM p e below _ T550 m 37 #[rv a1, iv 32, iv 1] [(.int 1)]
  refine sT (fun t k => XS.aloadN X550.here hx rfl (hb hby d14_37) rfl rfl k) ?_
  show gM p e below _ T550 m 38 #[rv a1, iv 32, iv 1] [(.ref a1), (.int 1)]
  obtain ⟨T551, X551, e551, st551⟩ := getF X550 hx hZ hown (host := "") (Or.inl w42) Via.refl e550 ((F_size_a1.ext E546).other W548 (Or.inr (slot_ne (Or.inl w43) (Or.inl w36) (by decide) (t := .int) (t' := (.array .int)) (by decide) (by decide)))) (g := (mkF m 38 #[rv a1, iv 32, iv 1] [(.ref a1), (.int 1)])) rfl rfl (hb hby d14_38)
  refine sT st551 ?_
  show gM p e below _ T551 m 41 #[rv a1, iv 32, iv 1] [(.int 1), (.int 1)]
  have hc552 : ¬ ((1 : Int32) < (1 : Int32)) := by decide
  refine sT (fun t k => XS.icmpYes X551.here hx rfl (pc0 := 41) (pc' := 68) rfl (hb hby d14_41) rfl (flt hc552).2.1 (by decide) (by decide) k) ?_
  show gM p e below _ T551 m 68 #[rv a1, iv 32, iv 1] []
  refine own_ret0 X551 hx hlk Bd.returns (hb hby d14_68) ?_ (by decide) (by decide)
  show own_ix1_Q Z a1 ut um ub uc h0 n0 _ T551.heap _
  rw [e551]
  exact ⟨b546, k546, rfl, N548, K549, sz_b546, ((E_a1.ext E546).wr W548), ((F_size_a1.ext E546).other W548 (Or.inr (slot_ne (Or.inl w43) (Or.inl w36) (by decide) (t := .int) (t' := (.array .int)) (by decide) (by decide)))), ((F_ordered_a1.ext E546).other W548 (Or.inr (slot_ne (Or.inl w49) (Or.inl w36) (by decide) (t := .int) (t' := (.array .int)) (by decide) (by decide)))), Fw548, ((F_most_a1.ext E546).other W548 (Or.inr (slot_ne (Or.inl w14) (Or.inl w36) (by decide) (t := .int) (t' := (.array .int)) (by decide) (by decide)))), ((F_blocks_a1.ext E546).other W548 (Or.inr (slot_ne (Or.inl w21) (Or.inl w36) (by decide) (t := (.array .long)) (t' := (.array .int)) (by decide) (by decide)))), ((F_bits_a1.ext E546).other W548 (Or.inr (slot_ne (Or.inl w23) (Or.inl w36) (by decide) (t := (.array .long)) (t' := (.array .int)) (by decide) (by decide)))), (V546.other W548 (Ne.symm ne_a1_b546))⟩
theorem own_ix2_ef (m : MethodId) (a1 : Addr) : entryFrame m #[(.ref a1), (.int 32)] 3 = mkF m 0 #[rv a1, iv 32, uN] [] := by first | (simp [entryFrame, mkF, argsToLocals, Value.category]; done) | rfl
def own_ix2_Q (Z : State) (a1 : Addr) (ut : Value) (um : Value) (ub : Value) (uc : Value) (h0 : Heap) (n0 : Nat) (v : Option Value) (h : Heap) (L : List Loc) : Prop := ∃ tt : Addr, ∃ kt : ClassId, v = none ∧ Fr n0 L ∧ Keep h0 h [a1] ∧ h0.size ≤ tt ∧ Exa Z h a1 oS ∧ Fld Z h a1 oS "size" "I" (.int 2) ∧ Fld Z h a1 oS "ordered" "I" (.int 2) ∧ Fld Z h a1 oS "table" "[I" (.ref tt) ∧ Fld Z h a1 oS "most" "I" um ∧ Fld Z h a1 oS "blocks" "[J" ub ∧ Fld Z h a1 oS "bits" "[J" uc ∧ Arv Z h tt kt .int 32 ((List.replicate 32 (0 : Int32)).map Value.int) (Value.int 0)
set_option maxRecDepth 65536 in
set_option maxHeartbeats 40000000 in
theorem own_ix2 (l : Launch) (Z : State) (a0 : Array Value) (hw : ∀ d ∈ tables_1, d.before a0 Z = true) (ws : List Jvm.Cond) (a1 : Addr) (ut : Value) (um : Value) (ub : Value) (uc : Value) (h0 : Heap) (n0 : Nat) (Z0 : n0 ≤ h0.size) (E_a1 : Exa Z h0 a1 oS) (g_a1 : n0 ≤ a1) (F_size_a1 : Fld Z h0 a1 oS "size" "I" (.int 2)) (F_ordered_a1 : Fld Z h0 a1 oS "ordered" "I" (.int 2)) (F_table_a1 : Fld Z h0 a1 oS "table" "[I" ut) (F_most_a1 : Fld Z h0 a1 oS "most" "I" um) (F_blocks_a1 : Fld Z h0 a1 oS "blocks" "[J" ub) (F_bits_a1 : Fld Z h0 a1 oS "bits" "[J" uc) :
    MetFree l (⟨oS, "index", "(I)V"⟩ : MethodName) (head1 (Jvm.Cond.code (⟨oS, "index", "(I)V"⟩ : MethodName) prog_128_method_12_code 3 none :: ws) ({ frames := 0, cells := 1, slots := 32, locals := 0 } : Room)) (fun aa U => aa = #[(.ref a1), (.int 32)] ∧ Z.Warmed39 U.vm ∧ U.heap = h0) (fun _ _ _ _ _ => True) (fun _ U o U' => ∃ v L, o = .returned v ∧ own_ix2_Q Z a1 ut um ub uc h0 n0 v U'.heap L ∧ FrameEnd U o U' L ({ frames := 0, cells := 1, slots := 32, locals := 0 } : Room).cells ({ frames := 0, cells := 1, slots := 32, locals := 0 } : Room).slots) := by
  refine MetFree.of_bodySF (plainFor_of_name own_pn0) hisR ?_
  have w1 := hw _ (List.mem_of_getElem? (i := 1) rfl)
  have w14 := hw _ (List.mem_of_getElem? (i := 14) rfl)
  have w21 := hw _ (List.mem_of_getElem? (i := 21) rfl)
  have w23 := hw _ (List.mem_of_getElem? (i := 23) rfl)
  have w35 := hw _ (List.mem_of_getElem? (i := 35) rfl)
  have w36 := hw _ (List.mem_of_getElem? (i := 36) rfl)
  have w42 := hw _ (List.mem_of_getElem? (i := 42) rfl)
  have w43 := hw _ (List.mem_of_getElem? (i := 43) rfl)
  have w48 := hw _ (List.mem_of_getElem? (i := 48) rfl)
  have w49 := hw _ (List.mem_of_getElem? (i := 49) rfl)
  have w65 := hw _ (List.mem_of_getElem? (i := 65) rfl)
  intro p e s m args below meth c s₁ Bd hml0 hP hK
  obtain ⟨rfl, hZ, hh⟩ := hP
  have hx := Bd.exec
  have hby := Bd.bytes
  have hlk := Bd.notSynchronized
  have hml : c.maxLocals = 3 := hml0
  have hown : s.vm.findClass oS = some m.cls := findClass_of_methodNamed Bd.named
  have hnm := (name_of_methodNamed Bd.named Bd.method).1
  have X0 : Stand p l e ({ frames := 0, cells := 1, slots := 32, locals := 0 } : Room) s m #[(.ref a1), (.int 32)] below meth c s₁ [] 0 0 := Stand.of_body Bd
  have e0 : s₁.heap = h0 := by rw [← hh, Bd.state]; rfl
  have N0 := Fr.nil n0
  have K0 : Keep h0 h0 [a1] := Keep.refl h0 _
  show gS p e below (own_Fin s (own_ix2_Q Z a1 ut um ub uc h0 n0) ({ frames := 0, cells := 1, slots := 32, locals := 0 } : Room).cells ({ frames := 0, cells := 1, slots := 32, locals := 0 } : Room).slots) _
  refine sT (fun t k => castTop (own_ix2_ef m a1) k) ?_
  show gM p e below _ s₁ m 0 #[rv a1, iv 32, uN] []
  refine sT (fun t k => XS.iloadN X0.here hx rfl (hb hby d14_0) rfl k) ?_
  show gM p e below _ s₁ m 1 #[rv a1, iv 32, uN] [(.int 32)]
  refine sT (fun t k => XS.iconst X0.here hx rfl (hb hby d14_1) k) ?_
  show gM p e below _ s₁ m 2 #[rv a1, iv 32, uN] [(.int 2), (.int 32)]
  refine sT (fun t k => XS.aloadN X0.here hx rfl (hb hby d14_2) rfl rfl k) ?_
  show gM p e below _ s₁ m 3 #[rv a1, iv 32, uN] [(.ref a1), (.int 2), (.int 32)]
  obtain ⟨T563, X563, e563, st563⟩ := getF X0 hx hZ hown (host := "") (Or.inl w42) Via.refl e0 F_size_a1 (g := (mkF m 3 #[rv a1, iv 32, uN] [(.ref a1), (.int 2), (.int 32)])) rfl rfl (hb hby d14_3)
  refine sT st563 ?_
  show gM p e below _ T563 m 6 #[rv a1, iv 32, uN] [(.int 2), (.int 2), (.int 32)]
  refine sT (fun t k => XS.aloadN X563.here hx rfl (hb hby d14_6) rfl rfl k) ?_
  show gM p e below _ T563 m 7 #[rv a1, iv 32, uN] [(.ref a1), (.int 2), (.int 2), (.int 32)]
  obtain ⟨T564, X564, e564, st564⟩ := getF X563 hx hZ hown (host := "") (Or.inl w48) Via.refl e563 F_ordered_a1 (g := (mkF m 7 #[rv a1, iv 32, uN] [(.ref a1), (.int 2), (.int 2), (.int 32)])) rfl rfl (hb hby d14_7)
  refine sT st564 ?_
  show gM p e below _ T564 m 10 #[rv a1, iv 32, uN] [(.int 2), (.int 2), (.int 2), (.int 32)]
  refine sT (fun t k => XS.isub X564.here hx rfl (hb hby d14_10) rfl k) ?_
  show gM p e below _ T564 m 11 #[rv a1, iv 32, uN] [(.int 0), (.int 2), (.int 32)]
  refine sT (fun t k => XS.imul X564.here hx rfl (hb hby d14_11) rfl k) ?_
  show gM p e below _ T564 m 12 #[rv a1, iv 32, uN] [(.int 0), (.int 32)]
  refine sT (fun t k => XS.iconst X564.here hx rfl (hb hby d14_12) k) ?_
  show gM p e below _ T564 m 13 #[rv a1, iv 32, uN] [(.int 2), (.int 0), (.int 32)]
  refine sT (fun t k => XS.iadd X564.here hx rfl (hb hby d14_13) rfl k) ?_
  show gM p e below _ T564 m 14 #[rv a1, iv 32, uN] [(.int 2), (.int 32)]
  have hc565 : ¬ ((32 : Int32) < (2 : Int32)) := by decide
  refine sT (fun t k => XS.icmpYes X564.here hx rfl (pc0 := 14) (pc' := 24) rfl (hb hby d14_14) rfl (flt hc565).2.1 (by decide) (by decide) k) ?_
  show gM p e below _ T564 m 24 #[rv a1, iv 32, uN] []
  refine sT (fun t k => XS.aloadN X564.here hx rfl (hb hby d14_24) rfl rfl k) ?_
  show gM p e below _ T564 m 25 #[rv a1, iv 32, uN] [(.ref a1)]
  refine sT (fun t k => XS.iloadN X564.here hx rfl (hb hby d14_25) rfl k) ?_
  show gM p e below _ T564 m 26 #[rv a1, iv 32, uN] [(.int 32), (.ref a1)]
  obtain ⟨T566, h566, k566, X566, e566, E566, A566, st566⟩ := newP (aty := .int) X564 hx hZ w65 e564 (g := (mkF m 26 #[rv a1, iv 32, uN] [(.int 32), (.ref a1)])) rfl (hb hby d14_26) rfl (by decide) (cap := 32) (by decide) (by decide) (by decide) (by decide)
  obtain ⟨b566, g566⟩ : ∃ z, z = h0.size := ⟨_, rfl⟩
  rw [← g566] at A566 st566
  have ne_a1_b566 : a1 ≠ b566 := Nat.ne_of_lt (Nat.lt_of_lt_of_le E_a1.lt (Nat.le_of_eq g566.symm))
  have g_b566 : n0 ≤ b566 := Nat.le_trans Z0 (Nat.le_of_eq g566.symm)
  have sz_b566 : h0.size ≤ b566 := Nat.le_trans K0.1 (Nat.le_of_eq g566.symm)
  have V566 : Arv Z h566 b566 k566 .int 32 ((List.replicate 32 (0 : Int32)).map Value.int) (Value.int 0) := own_newI A566 (by decide) 32
  have K567 : Keep h0 h566 [a1] := K0.ext E566
  refine sT st566 ?_
  show gM p e below _ T566 m 28 #[rv a1, iv 32, uN] [(.ref b566), (.ref a1)]
  obtain ⟨T568, h568, X568, e568, W568, st568⟩ := putF X566 hx hZ hown (host := "") (Or.inl w35) Via.refl e566 (F_table_a1.ext E566) (E_a1.ext E566) (Or.inl w36) w1 (ty := (.array .int)) (by decide) rfl rfl (g := (mkF m 28 #[rv a1, iv 32, uN] [(.ref b566), (.ref a1)])) rfl rfl (hb hby d14_28)
  have Fw568 := (F_table_a1.ext E566).same W568
  have N568 := Fr.snoc X568 N0 g_a1
  have K569 : Keep h0 h568 [a1] := K567.wr W568 (Or.inl (List.mem_of_getElem? (i := 0) rfl))
  refine sT st568 ?_
  show gM p e below _ T568 m 31 #[rv a1, iv 32, uN] []
  refine sT (fun t k => XS.aloadN X568.here hx rfl (hb hby d14_31) rfl rfl k) ?_
  show gM p e below _ T568 m 32 #[rv a1, iv 32, uN] [(.ref a1)]
  obtain ⟨T570, X570, e570, st570⟩ := getF X568 hx hZ hown (host := "") (Or.inl w48) Via.refl e568 ((F_ordered_a1.ext E566).other W568 (Or.inr (slot_ne (Or.inl w49) (Or.inl w36) (by decide) (t := .int) (t' := (.array .int)) (by decide) (by decide)))) (g := (mkF m 32 #[rv a1, iv 32, uN] [(.ref a1)])) rfl rfl (hb hby d14_32)
  refine sT st570 ?_
  show gM p e below _ T570 m 35 #[rv a1, iv 32, uN] [(.int 2)]
  refine sT (fun t k => XS.istoreN X570.here hx rfl (hb hby d14_35) rfl (l' := #[rv a1, iv 32, iv 2]) rfl k) ?_
  show gM p e below _ T570 m 36 #[rv a1, iv 32, iv 2] []
  refine sT (fun t k => XS.iloadN X570.here hx rfl (hb hby d14_36) rfl k) ?_
  show gM p e below _ T570 m 37 #[rv a1, iv 32, iv 2] [(.int 2)]
  refine sT (fun t k => XS.aloadN X570.here hx rfl (hb hby d14_37) rfl rfl k) ?_
  show gM p e below _ T570 m 38 #[rv a1, iv 32, iv 2] [(.ref a1), (.int 2)]
  obtain ⟨T571, X571, e571, st571⟩ := getF X570 hx hZ hown (host := "") (Or.inl w42) Via.refl e570 ((F_size_a1.ext E566).other W568 (Or.inr (slot_ne (Or.inl w43) (Or.inl w36) (by decide) (t := .int) (t' := (.array .int)) (by decide) (by decide)))) (g := (mkF m 38 #[rv a1, iv 32, iv 2] [(.ref a1), (.int 2)])) rfl rfl (hb hby d14_38)
  refine sT st571 ?_
  show gM p e below _ T571 m 41 #[rv a1, iv 32, iv 2] [(.int 2), (.int 2)]
  have hc572 : ¬ ((2 : Int32) < (2 : Int32)) := by decide
  refine sT (fun t k => XS.icmpYes X571.here hx rfl (pc0 := 41) (pc' := 68) rfl (hb hby d14_41) rfl (flt hc572).2.1 (by decide) (by decide) k) ?_
  show gM p e below _ T571 m 68 #[rv a1, iv 32, iv 2] []
  refine own_ret0 X571 hx hlk Bd.returns (hb hby d14_68) ?_ (by decide) (by decide)
  show own_ix2_Q Z a1 ut um ub uc h0 n0 _ T571.heap _
  rw [e571]
  exact ⟨b566, k566, rfl, N568, K569, sz_b566, ((E_a1.ext E566).wr W568), ((F_size_a1.ext E566).other W568 (Or.inr (slot_ne (Or.inl w43) (Or.inl w36) (by decide) (t := .int) (t' := (.array .int)) (by decide) (by decide)))), ((F_ordered_a1.ext E566).other W568 (Or.inr (slot_ne (Or.inl w49) (Or.inl w36) (by decide) (t := .int) (t' := (.array .int)) (by decide) (by decide)))), Fw568, ((F_most_a1.ext E566).other W568 (Or.inr (slot_ne (Or.inl w14) (Or.inl w36) (by decide) (t := .int) (t' := (.array .int)) (by decide) (by decide)))), ((F_blocks_a1.ext E566).other W568 (Or.inr (slot_ne (Or.inl w21) (Or.inl w36) (by decide) (t := (.array .long)) (t' := (.array .int)) (by decide) (by decide)))), ((F_bits_a1.ext E566).other W568 (Or.inr (slot_ne (Or.inl w23) (Or.inl w36) (by decide) (t := (.array .long)) (t' := (.array .int)) (by decide) (by decide)))), (V566.other W568 (Ne.symm ne_a1_b566))⟩
theorem d15_0 : decode prog_128_method_13_code 0 = .ok (.aload_n 0, 1) := by decide +kernel
theorem d15_1 : decode prog_128_method_13_code 1 = .ok (.getfield 49, 3) := by decide +kernel
theorem d15_4 : decode prog_128_method_13_code 4 = .ok (.arraylength, 1) := by decide +kernel
theorem d15_5 : decode prog_128_method_13_code 5 = .ok (.iconst 1, 1) := by decide +kernel
theorem d15_6 : decode prog_128_method_13_code 6 = .ok (.isub, 1) := by decide +kernel
theorem d15_7 : decode prog_128_method_13_code 7 = .ok (.istore_n 3, 1) := by decide +kernel
theorem d15_8 : decode prog_128_method_13_code 8 = .ok (.lload_n 1, 1) := by decide +kernel
theorem d15_9 : decode prog_128_method_13_code 9 = .ok (.ldc2_w 88, 3) := by decide +kernel
theorem d15_12 : decode prog_128_method_13_code 12 = .ok (.lmul, 1) := by decide +kernel
theorem d15_13 : decode prog_128_method_13_code 13 = .ok (.bipush 40, 2) := by decide +kernel
theorem d15_15 : decode prog_128_method_13_code 15 = .ok (.lushr, 1) := by decide +kernel
theorem d15_16 : decode prog_128_method_13_code 16 = .ok (.l2i, 1) := by decide +kernel
theorem d15_17 : decode prog_128_method_13_code 17 = .ok (.iload_n 3, 1) := by decide +kernel
theorem d15_18 : decode prog_128_method_13_code 18 = .ok (.iand, 1) := by decide +kernel
theorem d15_19 : decode prog_128_method_13_code 19 = .ok (.istore 4, 2) := by decide +kernel
theorem d15_21 : decode prog_128_method_13_code 21 = .ok (.aload_n 0, 1) := by decide +kernel
theorem d15_22 : decode prog_128_method_13_code 22 = .ok (.getfield 49, 3) := by decide +kernel
theorem d15_25 : decode prog_128_method_13_code 25 = .ok (.iload 4, 2) := by decide +kernel
theorem d15_27 : decode prog_128_method_13_code 27 = .ok (.iaload, 1) := by decide +kernel
theorem d15_28 : decode prog_128_method_13_code 28 = .ok (.ifCond .eq 33, 3) := by decide +kernel
theorem d15_61 : decode prog_128_method_13_code 61 = .ok (.iload 4, 2) := by decide +kernel
theorem d15_63 : decode prog_128_method_13_code 63 = .ok (.ireturn, 1) := by decide +kernel
theorem own_sA_ef (m : MethodId) (a1 : Addr) (q1 : Int64) : entryFrame m #[(.ref a1), (.long q1)] 5 = mkF m 0 #[rv a1, lv q1, sN, uN, uN] [] := by first | (simp [entryFrame, mkF, argsToLocals, Value.category]; done) | rfl
def own_sA_Q (Z : State) (a1 : Addr) (q1 : Int64) (tt : Addr) (kt : ClassId) (h0 : Heap) (n0 : Nat) (v : Option Value) (h : Heap) (L : List Loc) : Prop := v = some (.int (own_h q1)) ∧ Fr n0 L ∧ h = h0
set_option maxRecDepth 65536 in
set_option maxHeartbeats 40000000 in
theorem own_sA (l : Launch) (Z : State) (a0 : Array Value) (hw : ∀ d ∈ tables_1, d.before a0 Z = true) (ws : List Jvm.Cond) (a1 : Addr) (q1 : Int64) (tt : Addr) (kt : ClassId) (h0 : Heap) (n0 : Nat) (Z0 : n0 ≤ h0.size) (F_table_a1 : Fld Z h0 a1 oS "table" "[I" (.ref tt)) (V_tt : Arv Z h0 tt kt .int 32 ((List.replicate 32 (0 : Int32)).map Value.int) (Value.int 0)) :
    MetFree l (⟨oS, "slot", "(J)I"⟩ : MethodName) (head1 (Jvm.Cond.code (⟨oS, "slot", "(J)I"⟩ : MethodName) prog_128_method_13_code 5 (some .int) :: ws) ({ frames := 0, cells := 0, slots := 0, locals := 0 } : Room)) (fun aa U => aa = #[(.ref a1), (.long q1)] ∧ Z.Warmed39 U.vm ∧ U.heap = h0) (fun _ _ _ _ _ => True) (fun _ U o U' => ∃ v L, o = .returned v ∧ own_sA_Q Z a1 q1 tt kt h0 n0 v U'.heap L ∧ FrameEnd U o U' L ({ frames := 0, cells := 0, slots := 0, locals := 0 } : Room).cells ({ frames := 0, cells := 0, slots := 0, locals := 0 } : Room).slots) := by
  refine MetFree.of_bodySF (plainFor_of_name own_pn0) hisR ?_
  have w35 := hw _ (List.mem_of_getElem? (i := 35) rfl)
  have w70 := hw _ (List.mem_of_getElem? (i := 70) rfl)
  intro p e s m args below meth c s₁ Bd hml0 hP hK
  obtain ⟨rfl, hZ, hh⟩ := hP
  have hx := Bd.exec
  have hby := Bd.bytes
  have hlk := Bd.notSynchronized
  have hml : c.maxLocals = 5 := hml0
  have hown : s.vm.findClass oS = some m.cls := findClass_of_methodNamed Bd.named
  have hnm := (name_of_methodNamed Bd.named Bd.method).1
  have X0 : Stand p l e ({ frames := 0, cells := 0, slots := 0, locals := 0 } : Room) s m #[(.ref a1), (.long q1)] below meth c s₁ [] 0 0 := Stand.of_body Bd
  have e0 : s₁.heap = h0 := by rw [← hh, Bd.state]; rfl
  have N0 := Fr.nil n0
  have K0 : Keep h0 h0 [] := Keep.refl h0 _
  show gS p e below (own_Fin s (own_sA_Q Z a1 q1 tt kt h0 n0) ({ frames := 0, cells := 0, slots := 0, locals := 0 } : Room).cells ({ frames := 0, cells := 0, slots := 0, locals := 0 } : Room).slots) _
  refine sT (fun t k => castTop (own_sA_ef m a1 q1) k) ?_
  show gM p e below _ s₁ m 0 #[rv a1, lv q1, sN, uN, uN] []
  refine sT (fun t k => XS.aloadN X0.here hx rfl (hb hby d15_0) rfl rfl k) ?_
  show gM p e below _ s₁ m 1 #[rv a1, lv q1, sN, uN, uN] [(.ref a1)]
  obtain ⟨T576, X576, e576, st576⟩ := getF X0 hx hZ hown (host := "") (Or.inl w35) Via.refl e0 F_table_a1 (g := (mkF m 1 #[rv a1, lv q1, sN, uN, uN] [(.ref a1)])) rfl rfl (hb hby d15_1)
  refine sT st576 ?_
  show gM p e below _ T576 m 4 #[rv a1, lv q1, sN, uN, uN] [(.ref tt)]
  refine sT (fun t k => own_len X576 hx hZ e576 V_tt (g := (mkF m 4 #[rv a1, lv q1, sN, uN, uN] [(.ref tt)])) rfl rfl (hb hby d15_4) _ k) ?_
  show gM p e below _ T576 m 5 #[rv a1, lv q1, sN, uN, uN] [(.int 32)]
  refine sT (fun t k => XS.iconst X576.here hx rfl (hb hby d15_5) k) ?_
  show gM p e below _ T576 m 6 #[rv a1, lv q1, sN, uN, uN] [(.int 1), (.int 32)]
  refine sT (fun t k => XS.isub X576.here hx rfl (hb hby d15_6) rfl k) ?_
  show gM p e below _ T576 m 7 #[rv a1, lv q1, sN, uN, uN] [(.int 31)]
  refine sT (fun t k => XS.istoreN X576.here hx rfl (hb hby d15_7) rfl (l' := #[rv a1, lv q1, sN, iv 31, uN]) rfl k) ?_
  show gM p e below _ T576 m 8 #[rv a1, lv q1, sN, iv 31, uN] []
  refine sT (fun t k => XS.lloadN X576.here hx rfl (hb hby d15_8) rfl k) ?_
  show gM p e below _ T576 m 9 #[rv a1, lv q1, sN, iv 31, uN] [(.long q1)]
  refine sT (fun t k => X576.ldc2Long hx hown (mvT hZ w70) (g := (mkF m 9 #[rv a1, lv q1, sN, iv 31, uN] [(.long q1)])) rfl (hb hby d15_9) _ k) ?_
  show gM p e below _ T576 m 12 #[rv a1, lv q1, sN, iv 31, uN] [(.long (-7046029254386353131)), (.long q1)]
  refine sT (fun t k => XS.lmul X576.here hx rfl (hb hby d15_12) rfl k) ?_
  show gM p e below _ T576 m 13 #[rv a1, lv q1, sN, iv 31, uN] [(.long (q1 * (-7046029254386353131 : Int64)))]
  refine sT (fun t k => XS.bipush X576.here hx rfl (hb hby d15_13) k) ?_
  show gM p e below _ T576 m 15 #[rv a1, lv q1, sN, iv 31, uN] [(.int 40), (.long (q1 * (-7046029254386353131 : Int64)))]
  refine sT (fun t k => XS.lushr X576.here hx rfl (hb hby d15_15) rfl k) ?_
  show gM p e below _ T576 m 16 #[rv a1, lv q1, sN, iv 31, uN] [(.long (((q1 * (-7046029254386353131 : Int64)).toUInt64 >>> ((40 : Int32) &&& 0x3f).toInt64.toUInt64).toInt64))]
  refine sT (fun t k => XS.l2i X576.here hx rfl (hb hby d15_16) rfl k) ?_
  show gM p e below _ T576 m 17 #[rv a1, lv q1, sN, iv 31, uN] [(.int ((((q1 * (-7046029254386353131 : Int64)).toUInt64 >>> ((40 : Int32) &&& 0x3f).toInt64.toUInt64).toInt64).toInt32))]
  refine sT (fun t k => XS.iloadN X576.here hx rfl (hb hby d15_17) rfl k) ?_
  show gM p e below _ T576 m 18 #[rv a1, lv q1, sN, iv 31, uN] [(.int 31), (.int ((((q1 * (-7046029254386353131 : Int64)).toUInt64 >>> ((40 : Int32) &&& 0x3f).toInt64.toUInt64).toInt64).toInt32))]
  refine sT (fun t k => XS.iand X576.here hx rfl (hb hby d15_18) rfl k) ?_
  show gM p e below _ T576 m 19 #[rv a1, lv q1, sN, iv 31, uN] [(.int (((((q1 * (-7046029254386353131 : Int64)).toUInt64 >>> ((40 : Int32) &&& 0x3f).toInt64.toUInt64).toInt64).toInt32) &&& (31 : Int32)))]
  refine sT (fun t k => XS.istore X576.here hx rfl (hb hby d15_19) rfl (l' := #[rv a1, lv q1, sN, iv 31, iv (((((q1 * (-7046029254386353131 : Int64)).toUInt64 >>> ((40 : Int32) &&& 0x3f).toInt64.toUInt64).toInt64).toInt32) &&& (31 : Int32))]) rfl k) ?_
  show gM p e below _ T576 m 21 #[rv a1, lv q1, sN, iv 31, iv (((((q1 * (-7046029254386353131 : Int64)).toUInt64 >>> ((40 : Int32) &&& 0x3f).toInt64.toUInt64).toInt64).toInt32) &&& (31 : Int32))] []
  generalize hv_vs : (((((q1 * (-7046029254386353131 : Int64)).toUInt64 >>> ((40 : Int32) &&& 0x3f).toInt64.toUInt64).toInt64).toInt32) &&& (31 : Int32)) = vs
  refine sT (fun t k => XS.aloadN X576.here hx rfl (hb hby d15_21) rfl rfl k) ?_
  show gM p e below _ T576 m 22 #[rv a1, lv q1, sN, iv 31, iv vs] [(.ref a1)]
  obtain ⟨T577, X577, e577, st577⟩ := getF X576 hx hZ hown (host := "") (Or.inl w35) Via.refl e576 F_table_a1 (g := (mkF m 22 #[rv a1, lv q1, sN, iv 31, iv vs] [(.ref a1)])) rfl rfl (hb hby d15_22)
  refine sT st577 ?_
  show gM p e below _ T577 m 25 #[rv a1, lv q1, sN, iv 31, iv vs] [(.ref tt)]
  refine sT (fun t k => XS.iload X577.here hx rfl (hb hby d15_25) rfl k) ?_
  show gM p e below _ T577 m 27 #[rv a1, lv q1, sN, iv 31, iv vs] [(.int vs), (.ref tt)]
  refine sT (fun t k => own_ial X577 hx hZ e577 V_tt (own_hr hv_vs) (g := (mkF m 27 #[rv a1, lv q1, sN, iv 31, iv vs] [(.int vs), (.ref tt)])) rfl rfl (hb hby d15_27) _ k) ?_
  show gM p e below _ T577 m 28 #[rv a1, lv q1, sN, iv 31, iv vs] [(.int ((List.replicate 32 (0 : Int32)).getD vs.toNatClampNeg 0))]
  have hc578 : ((List.replicate 32 (0 : Int32)).getD vs.toNatClampNeg 0) = (0 : Int32) := own_z _
  refine sT (fun t k => XS.ifYes X577.here hx rfl (pc0 := 28) (pc' := 61) rfl (hb hby d15_28) rfl ((if0 _ _).trans (teq hc578).1) (by decide) (by decide) k) ?_
  show gM p e below _ T577 m 61 #[rv a1, lv q1, sN, iv 31, iv vs] []
  refine sT (fun t k => XS.iload X577.here hx rfl (hb hby d15_61) rfl k) ?_
  show gM p e below _ T577 m 63 #[rv a1, lv q1, sN, iv 31, iv vs] [(.int vs)]
  refine own_retV X577 hx hlk Bd.returns (w := (.int vs)) rfl (Or.inl ⟨rfl, Or.inl rfl, _, rfl⟩) (hb hby d15_63) ?_ (by decide) (by decide)
  show own_sA_Q Z a1 q1 tt kt h0 n0 _ T577.heap _
  rw [e577]
  exact ⟨(by rw [← hv_vs]; rfl), N0, rfl⟩
theorem d15_31 : decode prog_128_method_13_code 31 = .ok (.aload_n 0, 1) := by decide +kernel
theorem d15_32 : decode prog_128_method_13_code 32 = .ok (.getfield 25, 3) := by decide +kernel
theorem d15_35 : decode prog_128_method_13_code 35 = .ok (.aload_n 0, 1) := by decide +kernel
theorem d15_36 : decode prog_128_method_13_code 36 = .ok (.getfield 49, 3) := by decide +kernel
theorem d15_39 : decode prog_128_method_13_code 39 = .ok (.iload 4, 2) := by decide +kernel
theorem d15_41 : decode prog_128_method_13_code 41 = .ok (.iaload, 1) := by decide +kernel
theorem d15_42 : decode prog_128_method_13_code 42 = .ok (.iconst 1, 1) := by decide +kernel
theorem d15_43 : decode prog_128_method_13_code 43 = .ok (.isub, 1) := by decide +kernel
theorem d15_44 : decode prog_128_method_13_code 44 = .ok (.laload, 1) := by decide +kernel
theorem d15_45 : decode prog_128_method_13_code 45 = .ok (.lload_n 1, 1) := by decide +kernel
theorem d15_46 : decode prog_128_method_13_code 46 = .ok (.lcmp, 1) := by decide +kernel
theorem d15_47 : decode prog_128_method_13_code 47 = .ok (.ifCond .eq 14, 3) := by decide +kernel
theorem d15_50 : decode prog_128_method_13_code 50 = .ok (.iload 4, 2) := by decide +kernel
theorem d15_52 : decode prog_128_method_13_code 52 = .ok (.iconst 1, 1) := by decide +kernel
theorem d15_53 : decode prog_128_method_13_code 53 = .ok (.iadd, 1) := by decide +kernel
theorem d15_54 : decode prog_128_method_13_code 54 = .ok (.iload_n 3, 1) := by decide +kernel
theorem d15_55 : decode prog_128_method_13_code 55 = .ok (.iand, 1) := by decide +kernel
theorem d15_56 : decode prog_128_method_13_code 56 = .ok (.istore 4, 2) := by decide +kernel
theorem d15_58 : decode prog_128_method_13_code 58 = .ok (.goto (-37), 3) := by decide +kernel
theorem own_sB_ef (m : MethodId) (a1 : Addr) (q1 : Int64) : entryFrame m #[(.ref a1), (.long q1)] 5 = mkF m 0 #[rv a1, lv q1, sN, uN, uN] [] := by first | (simp [entryFrame, mkF, argsToLocals, Value.category]; done) | rfl
def own_sB_Q (Z : State) (a1 : Addr) (q1 : Int64) (bb : Addr) (kb : ClassId) (z1 : Int32) (xs1 : List Int64) (tt : Addr) (kt : ClassId) (s1 : Int32) (h0 : Heap) (n0 : Nat) (v : Option Value) (h : Heap) (L : List Loc) : Prop := v = some (.int (if (own_h q1) = s1 then ((s1 + (1 : Int32)) &&& (31 : Int32)) else (own_h q1))) ∧ Fr n0 L ∧ h = h0
set_option maxRecDepth 65536 in
set_option maxHeartbeats 40000000 in
theorem own_sB (l : Launch) (Z : State) (a0 : Array Value) (hw : ∀ d ∈ tables_1, d.before a0 Z = true) (ws : List Jvm.Cond) (a1 : Addr) (q1 : Int64) (bb : Addr) (kb : ClassId) (z1 : Int32) (xs1 : List Int64) (tt : Addr) (kt : ClassId) (s1 : Int32) (h0 : Heap) (n0 : Nat) (Z0 : n0 ≤ h0.size) (F_blocks_a1 : Fld Z h0 a1 oS "blocks" "[J" (.ref bb)) (V_bb : Arv Z h0 bb kb .long z1 (xs1.map Value.long) (Value.long 0)) (F_table_a1 : Fld Z h0 a1 oS "table" "[I" (.ref tt)) (V_tt : Arv Z h0 tt kt .int 32 (((List.replicate 32 (0 : Int32)).set (s1.toNatClampNeg) (2 : Int32)).map Value.int) (Value.int 0)) (hz : ¬ z1 < (2 : Int32)) (hne : ¬ (xs1.getD (1 : Int32).toNatClampNeg 0) = q1) (hs1 : ¬ s1 < 0 ∧ s1 < (32 : Int32)) :
    MetFree l (⟨oS, "slot", "(J)I"⟩ : MethodName) (head1 (Jvm.Cond.code (⟨oS, "slot", "(J)I"⟩ : MethodName) prog_128_method_13_code 5 (some .int) :: ws) ({ frames := 0, cells := 0, slots := 0, locals := 0 } : Room)) (fun aa U => aa = #[(.ref a1), (.long q1)] ∧ Z.Warmed39 U.vm ∧ U.heap = h0) (fun _ _ _ _ _ => True) (fun _ U o U' => ∃ v L, o = .returned v ∧ own_sB_Q Z a1 q1 bb kb z1 xs1 tt kt s1 h0 n0 v U'.heap L ∧ FrameEnd U o U' L ({ frames := 0, cells := 0, slots := 0, locals := 0 } : Room).cells ({ frames := 0, cells := 0, slots := 0, locals := 0 } : Room).slots) := by
  refine MetFree.of_bodySF (plainFor_of_name own_pn0) hisR ?_
  have w20 := hw _ (List.mem_of_getElem? (i := 20) rfl)
  have w35 := hw _ (List.mem_of_getElem? (i := 35) rfl)
  have w70 := hw _ (List.mem_of_getElem? (i := 70) rfl)
  intro p e s m args below meth c s₁ Bd hml0 hP hK
  obtain ⟨rfl, hZ, hh⟩ := hP
  have hx := Bd.exec
  have hby := Bd.bytes
  have hlk := Bd.notSynchronized
  have hml : c.maxLocals = 5 := hml0
  have hown : s.vm.findClass oS = some m.cls := findClass_of_methodNamed Bd.named
  have hnm := (name_of_methodNamed Bd.named Bd.method).1
  have X0 : Stand p l e ({ frames := 0, cells := 0, slots := 0, locals := 0 } : Room) s m #[(.ref a1), (.long q1)] below meth c s₁ [] 0 0 := Stand.of_body Bd
  have e0 : s₁.heap = h0 := by rw [← hh, Bd.state]; rfl
  have N0 := Fr.nil n0
  have K0 : Keep h0 h0 [] := Keep.refl h0 _
  show gS p e below (own_Fin s (own_sB_Q Z a1 q1 bb kb z1 xs1 tt kt s1 h0 n0) ({ frames := 0, cells := 0, slots := 0, locals := 0 } : Room).cells ({ frames := 0, cells := 0, slots := 0, locals := 0 } : Room).slots) _
  refine sT (fun t k => castTop (own_sB_ef m a1 q1) k) ?_
  show gM p e below _ s₁ m 0 #[rv a1, lv q1, sN, uN, uN] []
  refine sT (fun t k => XS.aloadN X0.here hx rfl (hb hby d15_0) rfl rfl k) ?_
  show gM p e below _ s₁ m 1 #[rv a1, lv q1, sN, uN, uN] [(.ref a1)]
  obtain ⟨T589, X589, e589, st589⟩ := getF X0 hx hZ hown (host := "") (Or.inl w35) Via.refl e0 F_table_a1 (g := (mkF m 1 #[rv a1, lv q1, sN, uN, uN] [(.ref a1)])) rfl rfl (hb hby d15_1)
  refine sT st589 ?_
  show gM p e below _ T589 m 4 #[rv a1, lv q1, sN, uN, uN] [(.ref tt)]
  refine sT (fun t k => own_len X589 hx hZ e589 V_tt (g := (mkF m 4 #[rv a1, lv q1, sN, uN, uN] [(.ref tt)])) rfl rfl (hb hby d15_4) _ k) ?_
  show gM p e below _ T589 m 5 #[rv a1, lv q1, sN, uN, uN] [(.int 32)]
  refine sT (fun t k => XS.iconst X589.here hx rfl (hb hby d15_5) k) ?_
  show gM p e below _ T589 m 6 #[rv a1, lv q1, sN, uN, uN] [(.int 1), (.int 32)]
  refine sT (fun t k => XS.isub X589.here hx rfl (hb hby d15_6) rfl k) ?_
  show gM p e below _ T589 m 7 #[rv a1, lv q1, sN, uN, uN] [(.int 31)]
  refine sT (fun t k => XS.istoreN X589.here hx rfl (hb hby d15_7) rfl (l' := #[rv a1, lv q1, sN, iv 31, uN]) rfl k) ?_
  show gM p e below _ T589 m 8 #[rv a1, lv q1, sN, iv 31, uN] []
  refine sT (fun t k => XS.lloadN X589.here hx rfl (hb hby d15_8) rfl k) ?_
  show gM p e below _ T589 m 9 #[rv a1, lv q1, sN, iv 31, uN] [(.long q1)]
  refine sT (fun t k => X589.ldc2Long hx hown (mvT hZ w70) (g := (mkF m 9 #[rv a1, lv q1, sN, iv 31, uN] [(.long q1)])) rfl (hb hby d15_9) _ k) ?_
  show gM p e below _ T589 m 12 #[rv a1, lv q1, sN, iv 31, uN] [(.long (-7046029254386353131)), (.long q1)]
  refine sT (fun t k => XS.lmul X589.here hx rfl (hb hby d15_12) rfl k) ?_
  show gM p e below _ T589 m 13 #[rv a1, lv q1, sN, iv 31, uN] [(.long (q1 * (-7046029254386353131 : Int64)))]
  refine sT (fun t k => XS.bipush X589.here hx rfl (hb hby d15_13) k) ?_
  show gM p e below _ T589 m 15 #[rv a1, lv q1, sN, iv 31, uN] [(.int 40), (.long (q1 * (-7046029254386353131 : Int64)))]
  refine sT (fun t k => XS.lushr X589.here hx rfl (hb hby d15_15) rfl k) ?_
  show gM p e below _ T589 m 16 #[rv a1, lv q1, sN, iv 31, uN] [(.long (((q1 * (-7046029254386353131 : Int64)).toUInt64 >>> ((40 : Int32) &&& 0x3f).toInt64.toUInt64).toInt64))]
  refine sT (fun t k => XS.l2i X589.here hx rfl (hb hby d15_16) rfl k) ?_
  show gM p e below _ T589 m 17 #[rv a1, lv q1, sN, iv 31, uN] [(.int ((((q1 * (-7046029254386353131 : Int64)).toUInt64 >>> ((40 : Int32) &&& 0x3f).toInt64.toUInt64).toInt64).toInt32))]
  refine sT (fun t k => XS.iloadN X589.here hx rfl (hb hby d15_17) rfl k) ?_
  show gM p e below _ T589 m 18 #[rv a1, lv q1, sN, iv 31, uN] [(.int 31), (.int ((((q1 * (-7046029254386353131 : Int64)).toUInt64 >>> ((40 : Int32) &&& 0x3f).toInt64.toUInt64).toInt64).toInt32))]
  refine sT (fun t k => XS.iand X589.here hx rfl (hb hby d15_18) rfl k) ?_
  show gM p e below _ T589 m 19 #[rv a1, lv q1, sN, iv 31, uN] [(.int (((((q1 * (-7046029254386353131 : Int64)).toUInt64 >>> ((40 : Int32) &&& 0x3f).toInt64.toUInt64).toInt64).toInt32) &&& (31 : Int32)))]
  refine sT (fun t k => XS.istore X589.here hx rfl (hb hby d15_19) rfl (l' := #[rv a1, lv q1, sN, iv 31, iv (((((q1 * (-7046029254386353131 : Int64)).toUInt64 >>> ((40 : Int32) &&& 0x3f).toInt64.toUInt64).toInt64).toInt32) &&& (31 : Int32))]) rfl k) ?_
  show gM p e below _ T589 m 21 #[rv a1, lv q1, sN, iv 31, iv (((((q1 * (-7046029254386353131 : Int64)).toUInt64 >>> ((40 : Int32) &&& 0x3f).toInt64.toUInt64).toInt64).toInt32) &&& (31 : Int32))] []
  generalize hv_vs : (((((q1 * (-7046029254386353131 : Int64)).toUInt64 >>> ((40 : Int32) &&& 0x3f).toInt64.toUInt64).toInt64).toInt32) &&& (31 : Int32)) = vs
  by_cases hvs : vs = s1
  · --
    rw [hvs]
    show gM p e below _ T589 m 21 #[rv a1, lv q1, sN, iv 31, iv s1] []
    refine sT (fun t k => XS.aloadN X589.here hx rfl (hb hby d15_21) rfl rfl k) ?_
    show gM p e below _ T589 m 22 #[rv a1, lv q1, sN, iv 31, iv s1] [(.ref a1)]
    obtain ⟨T590, X590, e590, st590⟩ := getF X589 hx hZ hown (host := "") (Or.inl w35) Via.refl e589 F_table_a1 (g := (mkF m 22 #[rv a1, lv q1, sN, iv 31, iv s1] [(.ref a1)])) rfl rfl (hb hby d15_22)
    refine sT st590 ?_
    show gM p e below _ T590 m 25 #[rv a1, lv q1, sN, iv 31, iv s1] [(.ref tt)]
    refine sT (fun t k => XS.iload X590.here hx rfl (hb hby d15_25) rfl k) ?_
    show gM p e below _ T590 m 27 #[rv a1, lv q1, sN, iv 31, iv s1] [(.int s1), (.ref tt)]
    refine sT (fun t k => own_ial X590 hx hZ e590 V_tt (by first | exact hs1 | exact own_hr hv_vs | exact own_a31 _) (g := (mkF m 27 #[rv a1, lv q1, sN, iv 31, iv s1] [(.int s1), (.ref tt)])) rfl rfl (hb hby d15_27) _ k) ?_
    show gM p e below _ T590 m 28 #[rv a1, lv q1, sN, iv 31, iv s1] [(.int (((List.replicate 32 (0 : Int32)).set (s1.toNatClampNeg) (2 : Int32)).getD s1.toNatClampNeg 0))]
    have hc591 : ¬ ((((List.replicate 32 (0 : Int32)).set (s1.toNatClampNeg) (2 : Int32)).getD s1.toNatClampNeg 0) = (0 : Int32)) := own_znz hs1
    refine sT (fun t k => XS.ifNo X590.here hx rfl (hb hby d15_28) rfl ((if0 _ _).trans (feq hc591).1) k) ?_
    show gM p e below _ T590 m 31 #[rv a1, lv q1, sN, iv 31, iv s1] []
    refine sT (fun t k => XS.aloadN X590.here hx rfl (hb hby d15_31) rfl rfl k) ?_
    show gM p e below _ T590 m 32 #[rv a1, lv q1, sN, iv 31, iv s1] [(.ref a1)]
    obtain ⟨T592, X592, e592, st592⟩ := getF X590 hx hZ hown (host := "") (Or.inl w20) Via.refl e590 F_blocks_a1 (g := (mkF m 32 #[rv a1, lv q1, sN, iv 31, iv s1] [(.ref a1)])) rfl rfl (hb hby d15_32)
    refine sT st592 ?_
    show gM p e below _ T592 m 35 #[rv a1, lv q1, sN, iv 31, iv s1] [(.ref bb)]
    refine sT (fun t k => XS.aloadN X592.here hx rfl (hb hby d15_35) rfl rfl k) ?_
    show gM p e below _ T592 m 36 #[rv a1, lv q1, sN, iv 31, iv s1] [(.ref a1), (.ref bb)]
    obtain ⟨T593, X593, e593, st593⟩ := getF X592 hx hZ hown (host := "") (Or.inl w35) Via.refl e592 F_table_a1 (g := (mkF m 36 #[rv a1, lv q1, sN, iv 31, iv s1] [(.ref a1), (.ref bb)])) rfl rfl (hb hby d15_36)
    refine sT st593 ?_
    show gM p e below _ T593 m 39 #[rv a1, lv q1, sN, iv 31, iv s1] [(.ref tt), (.ref bb)]
    refine sT (fun t k => XS.iload X593.here hx rfl (hb hby d15_39) rfl k) ?_
    show gM p e below _ T593 m 41 #[rv a1, lv q1, sN, iv 31, iv s1] [(.int s1), (.ref tt), (.ref bb)]
    refine sT (fun t k => own_ial X593 hx hZ e593 V_tt (hs1) (g := (mkF m 41 #[rv a1, lv q1, sN, iv 31, iv s1] [(.int s1), (.ref tt), (.ref bb)])) rfl rfl (hb hby d15_41) _ k) ?_
    show gM p e below _ T593 m 42 #[rv a1, lv q1, sN, iv 31, iv s1] [(.int (((List.replicate 32 (0 : Int32)).set (s1.toNatClampNeg) (2 : Int32)).getD s1.toNatClampNeg 0)), (.ref bb)]
    rw [own_zt hs1]
    show gM p e below _ T593 m 42 #[rv a1, lv q1, sN, iv 31, iv s1] [(.int 2), (.ref bb)]
    refine sT (fun t k => XS.iconst X593.here hx rfl (hb hby d15_42) k) ?_
    show gM p e below _ T593 m 43 #[rv a1, lv q1, sN, iv 31, iv s1] [(.int 1), (.int 2), (.ref bb)]
    refine sT (fun t k => XS.isub X593.here hx rfl (hb hby d15_43) rfl k) ?_
    show gM p e below _ T593 m 44 #[rv a1, lv q1, sN, iv 31, iv s1] [(.int 1), (.ref bb)]
    refine sT (fun t k => own_lal X593 hx hZ e593 V_bb (own_j (by decide) (by decide) hz) (g := (mkF m 44 #[rv a1, lv q1, sN, iv 31, iv s1] [(.int 1), (.ref bb)])) rfl rfl (hb hby d15_44) _ k) ?_
    show gM p e below _ T593 m 45 #[rv a1, lv q1, sN, iv 31, iv s1] [(.long (xs1.getD (1 : Int32).toNatClampNeg 0))]
    refine sT (fun t k => XS.lloadN X593.here hx rfl (hb hby d15_45) rfl k) ?_
    show gM p e below _ T593 m 46 #[rv a1, lv q1, sN, iv 31, iv s1] [(.long q1), (.long (xs1.getD (1 : Int32).toNatClampNeg 0))]
    refine sT (fun t k => XS.lcmp X593.here hx rfl (hb hby d15_46) rfl k) ?_
    show gM p e below _ T593 m 47 #[rv a1, lv q1, sN, iv 31, iv s1] [(.int (lcmpW (xs1.getD (1 : Int32).toNatClampNeg 0) q1))]
    have hc594 : ¬ ((xs1.getD (1 : Int32).toNatClampNeg 0) = q1) := hne
    refine sT (fun t k => XS.ifNo X593.here hx rfl (hb hby d15_47) rfl ((if0 _ _).trans (feq (fun zq => hc594 ((lw_eq (xs1.getD (1 : Int32).toNatClampNeg 0) q1).mp zq))).1) k) ?_
    show gM p e below _ T593 m 50 #[rv a1, lv q1, sN, iv 31, iv s1] []
    refine sT (fun t k => XS.iload X593.here hx rfl (hb hby d15_50) rfl k) ?_
    show gM p e below _ T593 m 52 #[rv a1, lv q1, sN, iv 31, iv s1] [(.int s1)]
    refine sT (fun t k => XS.iconst X593.here hx rfl (hb hby d15_52) k) ?_
    show gM p e below _ T593 m 53 #[rv a1, lv q1, sN, iv 31, iv s1] [(.int 1), (.int s1)]
    refine sT (fun t k => XS.iadd X593.here hx rfl (hb hby d15_53) rfl k) ?_
    show gM p e below _ T593 m 54 #[rv a1, lv q1, sN, iv 31, iv s1] [(.int (s1 + (1 : Int32)))]
    refine sT (fun t k => XS.iloadN X593.here hx rfl (hb hby d15_54) rfl k) ?_
    show gM p e below _ T593 m 55 #[rv a1, lv q1, sN, iv 31, iv s1] [(.int 31), (.int (s1 + (1 : Int32)))]
    refine sT (fun t k => XS.iand X593.here hx rfl (hb hby d15_55) rfl k) ?_
    show gM p e below _ T593 m 56 #[rv a1, lv q1, sN, iv 31, iv s1] [(.int ((s1 + (1 : Int32)) &&& (31 : Int32)))]
    refine sT (fun t k => XS.istore X593.here hx rfl (hb hby d15_56) rfl (l' := #[rv a1, lv q1, sN, iv 31, iv ((s1 + (1 : Int32)) &&& (31 : Int32))]) rfl k) ?_
    show gM p e below _ T593 m 58 #[rv a1, lv q1, sN, iv 31, iv ((s1 + (1 : Int32)) &&& (31 : Int32))] []
    refine sT (fun t k => XS.goto X593.here hx rfl (pc0 := 58) (pc' := 21) rfl (hb hby d15_58) (by decide) (by decide) k) ?_
    show gM p e below _ T593 m 21 #[rv a1, lv q1, sN, iv 31, iv ((s1 + (1 : Int32)) &&& (31 : Int32))] []
    refine sT (fun t k => XS.aloadN X593.here hx rfl (hb hby d15_21) rfl rfl k) ?_
    show gM p e below _ T593 m 22 #[rv a1, lv q1, sN, iv 31, iv ((s1 + (1 : Int32)) &&& (31 : Int32))] [(.ref a1)]
    obtain ⟨T595, X595, e595, st595⟩ := getF X593 hx hZ hown (host := "") (Or.inl w35) Via.refl e593 F_table_a1 (g := (mkF m 22 #[rv a1, lv q1, sN, iv 31, iv ((s1 + (1 : Int32)) &&& (31 : Int32))] [(.ref a1)])) rfl rfl (hb hby d15_22)
    refine sT st595 ?_
    show gM p e below _ T595 m 25 #[rv a1, lv q1, sN, iv 31, iv ((s1 + (1 : Int32)) &&& (31 : Int32))] [(.ref tt)]
    refine sT (fun t k => XS.iload X595.here hx rfl (hb hby d15_25) rfl k) ?_
    show gM p e below _ T595 m 27 #[rv a1, lv q1, sN, iv 31, iv ((s1 + (1 : Int32)) &&& (31 : Int32))] [(.int ((s1 + (1 : Int32)) &&& (31 : Int32))), (.ref tt)]
    refine sT (fun t k => own_ial X595 hx hZ e595 V_tt (by first | exact hs1 | exact own_hr hv_vs | exact own_a31 _) (g := (mkF m 27 #[rv a1, lv q1, sN, iv 31, iv ((s1 + (1 : Int32)) &&& (31 : Int32))] [(.int ((s1 + (1 : Int32)) &&& (31 : Int32))), (.ref tt)])) rfl rfl (hb hby d15_27) _ k) ?_
    show gM p e below _ T595 m 28 #[rv a1, lv q1, sN, iv 31, iv ((s1 + (1 : Int32)) &&& (31 : Int32))] [(.int (((List.replicate 32 (0 : Int32)).set (s1.toNatClampNeg) (2 : Int32)).getD ((s1 + (1 : Int32)) &&& (31 : Int32)).toNatClampNeg 0))]
    have hc596 : (((List.replicate 32 (0 : Int32)).set (s1.toNatClampNeg) (2 : Int32)).getD ((s1 + (1 : Int32)) &&& (31 : Int32)).toNatClampNeg 0) = (0 : Int32) := own_zn hs1
    refine sT (fun t k => XS.ifYes X595.here hx rfl (pc0 := 28) (pc' := 61) rfl (hb hby d15_28) rfl ((if0 _ _).trans (teq hc596).1) (by decide) (by decide) k) ?_
    show gM p e below _ T595 m 61 #[rv a1, lv q1, sN, iv 31, iv ((s1 + (1 : Int32)) &&& (31 : Int32))] []
    refine sT (fun t k => XS.iload X595.here hx rfl (hb hby d15_61) rfl k) ?_
    show gM p e below _ T595 m 63 #[rv a1, lv q1, sN, iv 31, iv ((s1 + (1 : Int32)) &&& (31 : Int32))] [(.int ((s1 + (1 : Int32)) &&& (31 : Int32)))]
    refine own_retV X595 hx hlk Bd.returns (w := (.int ((s1 + (1 : Int32)) &&& (31 : Int32)))) rfl (Or.inl ⟨rfl, Or.inl rfl, _, rfl⟩) (hb hby d15_63) ?_ (by decide) (by decide)
    show own_sB_Q Z a1 q1 bb kb z1 xs1 tt kt s1 h0 n0 _ T595.heap _
    rw [e595]
    exact ⟨(own_sbE hvs hv_vs), N0, rfl⟩
  · --
    refine sT (fun t k => XS.aloadN X589.here hx rfl (hb hby d15_21) rfl rfl k) ?_
    show gM p e below _ T589 m 22 #[rv a1, lv q1, sN, iv 31, iv vs] [(.ref a1)]
    obtain ⟨T597, X597, e597, st597⟩ := getF X589 hx hZ hown (host := "") (Or.inl w35) Via.refl e589 F_table_a1 (g := (mkF m 22 #[rv a1, lv q1, sN, iv 31, iv vs] [(.ref a1)])) rfl rfl (hb hby d15_22)
    refine sT st597 ?_
    show gM p e below _ T597 m 25 #[rv a1, lv q1, sN, iv 31, iv vs] [(.ref tt)]
    refine sT (fun t k => XS.iload X597.here hx rfl (hb hby d15_25) rfl k) ?_
    show gM p e below _ T597 m 27 #[rv a1, lv q1, sN, iv 31, iv vs] [(.int vs), (.ref tt)]
    refine sT (fun t k => own_ial X597 hx hZ e597 V_tt (by first | exact hs1 | exact own_hr hv_vs | exact own_a31 _) (g := (mkF m 27 #[rv a1, lv q1, sN, iv 31, iv vs] [(.int vs), (.ref tt)])) rfl rfl (hb hby d15_27) _ k) ?_
    show gM p e below _ T597 m 28 #[rv a1, lv q1, sN, iv 31, iv vs] [(.int (((List.replicate 32 (0 : Int32)).set (s1.toNatClampNeg) (2 : Int32)).getD vs.toNatClampNeg 0))]
    have hc598 : (((List.replicate 32 (0 : Int32)).set (s1.toNatClampNeg) (2 : Int32)).getD vs.toNatClampNeg 0) = (0 : Int32) := own_zo hvs hv_vs hs1
    refine sT (fun t k => XS.ifYes X597.here hx rfl (pc0 := 28) (pc' := 61) rfl (hb hby d15_28) rfl ((if0 _ _).trans (teq hc598).1) (by decide) (by decide) k) ?_
    show gM p e below _ T597 m 61 #[rv a1, lv q1, sN, iv 31, iv vs] []
    refine sT (fun t k => XS.iload X597.here hx rfl (hb hby d15_61) rfl k) ?_
    show gM p e below _ T597 m 63 #[rv a1, lv q1, sN, iv 31, iv vs] [(.int vs)]
    refine own_retV X597 hx hlk Bd.returns (w := (.int vs)) rfl (Or.inl ⟨rfl, Or.inl rfl, _, rfl⟩) (hb hby d15_63) ?_ (by decide) (by decide)
    show own_sB_Q Z a1 q1 bb kb z1 xs1 tt kt s1 h0 n0 _ T597.heap _
    rw [e597]
    exact ⟨(own_sbN hvs hv_vs), N0, rfl⟩
theorem d16_0 : decode prog_128_method_8_code 0 = .ok (.aload_n 0, 1) := by decide +kernel
theorem d16_1 : decode prog_128_method_8_code 1 = .ok (.getfield 44, 3) := by decide +kernel
theorem d16_4 : decode prog_128_method_8_code 4 = .ok (.ifCond .le 36, 3) := by decide +kernel
theorem d16_40 : decode prog_128_method_8_code 40 = .ok (.aload_n 0, 1) := by decide +kernel
theorem d16_41 : decode prog_128_method_8_code 41 = .ok (.getfield 49, 3) := by decide +kernel
theorem d16_44 : decode prog_128_method_8_code 44 = .ok (.ifnonnull 42, 3) := by decide +kernel
theorem d16_47 : decode prog_128_method_8_code 47 = .ok (.aload_n 0, 1) := by decide +kernel
theorem d16_48 : decode prog_128_method_8_code 48 = .ok (.getfield 44, 3) := by decide +kernel
theorem d16_51 : decode prog_128_method_8_code 51 = .ok (.ifCond .eq 19, 3) := by decide +kernel
theorem d16_70 : decode prog_128_method_8_code 70 = .ok (.aload_n 0, 1) := by decide +kernel
theorem d16_71 : decode prog_128_method_8_code 71 = .ok (.lload_n 1, 1) := by decide +kernel
theorem d16_72 : decode prog_128_method_8_code 72 = .ok (.lload_n 3, 1) := by decide +kernel
theorem own_pd7 : parseMethodDescriptor "(JJ)V" = some ⟨[.long, .long], none⟩ := by decide +kernel
theorem d16_73 : decode prog_128_method_8_code 73 = .ok (.invokevirtual 55, 3) := by decide +kernel
theorem d16_76 : decode prog_128_method_8_code 76 = .ok (.aload_n 0, 1) := by decide +kernel
theorem d16_77 : decode prog_128_method_8_code 77 = .ok (.aload_n 0, 1) := by decide +kernel
theorem d16_78 : decode prog_128_method_8_code 78 = .ok (.getfield 44, 3) := by decide +kernel
theorem d16_81 : decode prog_128_method_8_code 81 = .ok (.putfield 59, 3) := by decide +kernel
theorem d16_84 : decode prog_128_method_8_code 84 = .ok (.iconst 1, 1) := by decide +kernel
theorem d16_85 : decode prog_128_method_8_code 85 = .ok (.ireturn, 1) := by decide +kernel
theorem own_a0_ef (m : MethodId) (a1 : Addr) (q1 : Int64) (q2 : Int64) : entryFrame m #[(.ref a1), (.long q1), (.long q2)] 7 = mkF m 0 #[rv a1, lv q1, sN, lv q2, sN, uN, uN] [] := by first | (simp [entryFrame, mkF, argsToLocals, Value.category]; done) | rfl
def own_a0_Q (Z : State) (a1 : Addr) (q1 : Int64) (q2 : Int64) (bb : Addr) (cc : Addr) (kb : ClassId) (kc : ClassId) (z1 : Int32) (xs1 : List Int64) (ys1 : List Int64) (mo : Int32) (h0 : Heap) (n0 : Nat) (v : Option Value) (h : Heap) (L : List Loc) : Prop := ∃ b2 : Addr, ∃ c2 : Addr, ∃ k2 : ClassId, ∃ k3 : ClassId, ∃ z2 : Int32, ∃ xs2 : List Int64, ∃ ys2 : List Int64, v = some (.int 1) ∧ Fr n0 L ∧ Keep h0 h [a1, bb, cc] ∧ (h0.size ≤ b2 ∨ b2 = bb) ∧ (h0.size ≤ c2 ∨ c2 = cc) ∧ a1 ≠ b2 ∧ a1 ≠ c2 ∧ b2 ≠ c2 ∧ Exa Z h a1 oS ∧ Fld Z h a1 oS "size" "I" (.int 1) ∧ Fld Z h a1 oS "most" "I" (.int mo) ∧ Fld Z h a1 oS "blocks" "[J" (.ref b2) ∧ Fld Z h a1 oS "bits" "[J" (.ref c2) ∧ Fld Z h a1 oS "ordered" "I" (.int 1) ∧ Arv Z h b2 k2 .long z2 (xs2.map Value.long) (Value.long 0) ∧ Arv Z h c2 k3 .long z2 (ys2.map Value.long) (Value.long 0) ∧ z2 = own_nl (0 : Int32) z1 mo ∧ xs2.length = z2.toNatClampNeg ∧ ys2.length = z2.toNatClampNeg ∧ xs2.getD (0 : Int32).toNatClampNeg 0 = q1 ∧ Fld Z h a1 oS "table" "[I" .null
set_option maxRecDepth 65536 in
set_option maxHeartbeats 40000000 in
theorem own_a0 (l : Launch) (Z : State) (a0 : Array Value) (hw : ∀ d ∈ tables_1, d.before a0 Z = true) (ws : List Jvm.Cond) (a1 : Addr) (q1 : Int64) (q2 : Int64) (bb : Addr) (cc : Addr) (kb : ClassId) (kc : ClassId) (z1 : Int32) (xs1 : List Int64) (ys1 : List Int64) (mo : Int32) (h0 : Heap) (n0 : Nat) (Z0 : n0 ≤ h0.size) (E_a1 : Exa Z h0 a1 oS) (g_a1 : n0 ≤ a1) (F_size_a1 : Fld Z h0 a1 oS "size" "I" (.int 0)) (F_most_a1 : Fld Z h0 a1 oS "most" "I" (.int mo)) (F_blocks_a1 : Fld Z h0 a1 oS "blocks" "[J" (.ref bb)) (F_bits_a1 : Fld Z h0 a1 oS "bits" "[J" (.ref cc)) (V_bb : Arv Z h0 bb kb .long z1 (xs1.map Value.long) (Value.long 0)) (V_cc : Arv Z h0 cc kc .long z1 (ys1.map Value.long) (Value.long 0)) (g_bb : n0 ≤ bb) (g_cc : n0 ≤ cc) (ne_a1_bb : a1 ≠ bb) (ne_a1_cc : a1 ≠ cc) (ne_bb_cc : bb ≠ cc) (hz : ¬ z1 < (1 : Int32)) (hxl : xs1.length = z1.toNatClampNeg) (hyl : ys1.length = z1.toNatClampNeg) (F_ordered_a1 : Fld Z h0 a1 oS "ordered" "I" (.int 0)) (F_table_a1 : Fld Z h0 a1 oS "table" "[I" .null) :
    MetFree l (⟨oS, "add", "(JJ)Z"⟩ : MethodName) (head1 (Jvm.Cond.code (⟨oS, "add", "(JJ)Z"⟩ : MethodName) prog_128_method_8_code 7 (some .boolean) :: ws) ({ frames := 1, cells := 0, slots := 0, locals := 17 } : Room)) (fun aa U => aa = #[(.ref a1), (.long q1), (.long q2)] ∧ Z.Warmed39 U.vm ∧ U.heap = h0) (fun _ _ _ _ _ => True) (fun _ U o U' => ∃ v L, o = .returned v ∧ own_a0_Q Z a1 q1 q2 bb cc kb kc z1 xs1 ys1 mo h0 n0 v U'.heap L ∧ FrameEnd U o U' L ({ frames := 1, cells := 0, slots := 0, locals := 17 } : Room).cells ({ frames := 1, cells := 0, slots := 0, locals := 17 } : Room).slots) := by
  refine MetFree.of_bodySF (plainFor_of_name own_pn0) hisR ?_
  have w1 := hw _ (List.mem_of_getElem? (i := 1) rfl)
  have w2 := hw _ (List.mem_of_getElem? (i := 2) rfl)
  have w14 := hw _ (List.mem_of_getElem? (i := 14) rfl)
  have w21 := hw _ (List.mem_of_getElem? (i := 21) rfl)
  have w23 := hw _ (List.mem_of_getElem? (i := 23) rfl)
  have w35 := hw _ (List.mem_of_getElem? (i := 35) rfl)
  have w36 := hw _ (List.mem_of_getElem? (i := 36) rfl)
  have w42 := hw _ (List.mem_of_getElem? (i := 42) rfl)
  have w43 := hw _ (List.mem_of_getElem? (i := 43) rfl)
  have w44 := hw _ (List.mem_of_getElem? (i := 44) rfl)
  have w45 := hw _ (List.mem_of_getElem? (i := 45) rfl)
  have w46 := hw _ (List.mem_of_getElem? (i := 46) rfl)
  have w47 := hw _ (List.mem_of_getElem? (i := 47) rfl)
  have w48 := hw _ (List.mem_of_getElem? (i := 48) rfl)
  have w49 := hw _ (List.mem_of_getElem? (i := 49) rfl)
  intro p e s m args below meth c s₁ Bd hml0 hP hK
  obtain ⟨rfl, hZ, hh⟩ := hP
  have hx := Bd.exec
  have hby := Bd.bytes
  have hlk := Bd.notSynchronized
  have hml : c.maxLocals = 7 := hml0
  have hown : s.vm.findClass oS = some m.cls := findClass_of_methodNamed Bd.named
  have hnm := (name_of_methodNamed Bd.named Bd.method).1
  have X0 : Stand p l e ({ frames := 1, cells := 0, slots := 0, locals := 17 } : Room) s m #[(.ref a1), (.long q1), (.long q2)] below meth c s₁ [] 0 0 := Stand.of_body Bd
  have e0 : s₁.heap = h0 := by rw [← hh, Bd.state]; rfl
  have N0 := Fr.nil n0
  have K0 : Keep h0 h0 [a1, bb, cc] := Keep.refl h0 _
  show gS p e below (own_Fin s (own_a0_Q Z a1 q1 q2 bb cc kb kc z1 xs1 ys1 mo h0 n0) ({ frames := 1, cells := 0, slots := 0, locals := 17 } : Room).cells ({ frames := 1, cells := 0, slots := 0, locals := 17 } : Room).slots) _
  refine sT (fun t k => castTop (own_a0_ef m a1 q1 q2) k) ?_
  show gM p e below _ s₁ m 0 #[rv a1, lv q1, sN, lv q2, sN, uN, uN] []
  refine sT (fun t k => XS.aloadN X0.here hx rfl (hb hby d16_0) rfl rfl k) ?_
  show gM p e below _ s₁ m 1 #[rv a1, lv q1, sN, lv q2, sN, uN, uN] [(.ref a1)]
  obtain ⟨T609, X609, e609, st609⟩ := getF X0 hx hZ hown (host := "") (Or.inl w42) Via.refl e0 F_size_a1 (g := (mkF m 1 #[rv a1, lv q1, sN, lv q2, sN, uN, uN] [(.ref a1)])) rfl rfl (hb hby d16_1)
  refine sT st609 ?_
  show gM p e below _ T609 m 4 #[rv a1, lv q1, sN, lv q2, sN, uN, uN] [(.int 0)]
  have hc610 : ¬ ((0 : Int32) < (0 : Int32)) := by decide
  refine sT (fun t k => XS.ifYes X609.here hx rfl (pc0 := 4) (pc' := 40) rfl (hb hby d16_4) rfl ((if0 _ _).trans (flt hc610).2.2.2) (by decide) (by decide) k) ?_
  show gM p e below _ T609 m 40 #[rv a1, lv q1, sN, lv q2, sN, uN, uN] []
  refine sT (fun t k => XS.aloadN X609.here hx rfl (hb hby d16_40) rfl rfl k) ?_
  show gM p e below _ T609 m 41 #[rv a1, lv q1, sN, lv q2, sN, uN, uN] [(.ref a1)]
  obtain ⟨T611, X611, e611, st611⟩ := getF X609 hx hZ hown (host := "") (Or.inl w35) Via.refl e609 F_table_a1 (g := (mkF m 41 #[rv a1, lv q1, sN, lv q2, sN, uN, uN] [(.ref a1)])) rfl rfl (hb hby d16_41)
  refine sT st611 ?_
  show gM p e below _ T611 m 44 #[rv a1, lv q1, sN, lv q2, sN, uN, uN] [.null]
  refine sT (fun t k => XS.ifnonnullNo X611.here hx rfl (hb hby d16_44) rfl k) ?_
  show gM p e below _ T611 m 47 #[rv a1, lv q1, sN, lv q2, sN, uN, uN] []
  refine sT (fun t k => XS.aloadN X611.here hx rfl (hb hby d16_47) rfl rfl k) ?_
  show gM p e below _ T611 m 48 #[rv a1, lv q1, sN, lv q2, sN, uN, uN] [(.ref a1)]
  obtain ⟨T612, X612, e612, st612⟩ := getF X611 hx hZ hown (host := "") (Or.inl w42) Via.refl e611 F_size_a1 (g := (mkF m 48 #[rv a1, lv q1, sN, lv q2, sN, uN, uN] [(.ref a1)])) rfl rfl (hb hby d16_48)
  refine sT st612 ?_
  show gM p e below _ T612 m 51 #[rv a1, lv q1, sN, lv q2, sN, uN, uN] [(.int 0)]
  have hc613 : (0 : Int32) = (0 : Int32) := rfl
  refine sT (fun t k => XS.ifYes X612.here hx rfl (pc0 := 51) (pc' := 70) rfl (hb hby d16_51) rfl ((if0 _ _).trans (teq hc613).1) (by decide) (by decide) k) ?_
  show gM p e below _ T612 m 70 #[rv a1, lv q1, sN, lv q2, sN, uN, uN] []
  refine sT (fun t k => XS.aloadN X612.here hx rfl (hb hby d16_70) rfl rfl k) ?_
  show gM p e below _ T612 m 71 #[rv a1, lv q1, sN, lv q2, sN, uN, uN] [(.ref a1)]
  refine sT (fun t k => XS.lloadN X612.here hx rfl (hb hby d16_71) rfl k) ?_
  show gM p e below _ T612 m 72 #[rv a1, lv q1, sN, lv q2, sN, uN, uN] [(.long q1), (.ref a1)]
  refine sT (fun t k => XS.lloadN X612.here hx rfl (hb hby d16_72) rfl k) ?_
  show gM p e below _ T612 m 73 #[rv a1, lv q1, sN, lv q2, sN, uN, uN] [(.long q2), (.long q1), (.ref a1)]
  obtain ⟨cq614, q614, q614'⟩ := E_a1.cell
  obtain ⟨_, _, ⟨T614, L614, k614, n614⟩, -, X614, ⟨Lc614, hQ614, l614, y614, z614⟩, st614⟩ := X612.privateBack hx (y := (⟨oS, "append", "(JJ)V"⟩ : MethodName)) hown (mvT hZ w44) (mvT hZ w45) (own_selp hZ w1 w46 w45 (by decide)) (Cond.privateMethod_at (mvP hZ w46 (args := #[]))) (mvT hZ w47) (by decide) (backOf (W := 0) (own_ap0 l Z a0 hw [] a1 q1 q2 (bb) (cc) (kb) (kc) (z1) (xs1) (ys1) (mo) ((.int 0)) (.null) h0 n0 Z0 E_a1 g_a1 F_size_a1 F_most_a1 F_blocks_a1 F_bits_a1 V_bb V_cc g_bb g_cc ne_a1_bb ne_a1_cc ne_bb_cc hz hxl hyl F_ordered_a1 F_table_a1) hZ w47 w2 (by decide) (by decide)) (g := (mkF m 73 #[rv a1, lv q1, sN, lv q2, sN, uN, uN] [(.long q2), (.long q1), (.ref a1)])) rfl (by rw [hml]; rfl) (Steps.refl _) (a := a1) (by rw [e612]; exact q614) q614' (argsL := [(.long q1), (.long q2)]) (rest := []) (lenOf own_pd7 rfl) rfl (by show 2 * 0 + _ ≤ _; exact Nat.le_of_eq rfl) (hb hby d16_73) (fun _ _ => ⟨rfl, e612, (by decide : 0 + 0 ≤ _), (by decide : 0 + 0 ≤ _)⟩)
  dsimp only [Pt.U, Pt.locs, Pt.cells, Pt.slots] at X614 l614 y614 z614 st614 hQ614
  subst y614 z614
  obtain ⟨b2_614, c2_614, k2_614, k3_614, z2_614, xs2_614, ys2_614, rfl, N614q, K614c, f614_0, f614_1, f614_2, f614_3, f614_4, f614_5, f614_6, f614_7, f614_8, f614_9, f614_10, f614_11, f614_12, f614_13, f614_14, f614_15, f614_16, f614_17⟩ := hQ614
  have N614 : Fr n0 L614 := by rw [l614]; exact Fr.app N0 N614q
  refine own_jump st614 ?_
  have K615 : Keep h0 T614.heap [a1, bb, cc] := K0.trans K614c (allS (Or.inl (List.mem_of_getElem? (i := 0) rfl)) (allS (Or.inl (List.mem_of_getElem? (i := 1) rfl)) (allS (Or.inl (List.mem_of_getElem? (i := 2) rfl)) all0)))
  show gM p e below _ T614 m 76 #[rv a1, lv q1, sN, lv q2, sN, uN, uN] []
  have sz_b2_614 : h0.size ≤ b2_614 ∨ b2_614 = bb := f614_0.imp (Nat.le_trans K0.1) id
  have sz_c2_614 : h0.size ≤ c2_614 ∨ c2_614 = cc := f614_1.imp (Nat.le_trans K0.1) id
  refine sT (fun t k => XS.aloadN X614.here hx rfl (hb hby d16_76) rfl rfl k) ?_
  show gM p e below _ T614 m 77 #[rv a1, lv q1, sN, lv q2, sN, uN, uN] [(.ref a1)]
  refine sT (fun t k => XS.aloadN X614.here hx rfl (hb hby d16_77) rfl rfl k) ?_
  show gM p e below _ T614 m 78 #[rv a1, lv q1, sN, lv q2, sN, uN, uN] [(.ref a1), (.ref a1)]
  obtain ⟨T616, X616, e616, st616⟩ := getF X614 hx hZ hown (host := "") (Or.inl w42) Via.refl rfl f614_6 (g := (mkF m 78 #[rv a1, lv q1, sN, lv q2, sN, uN, uN] [(.ref a1), (.ref a1)])) rfl rfl (hb hby d16_78)
  refine sT st616 ?_
  show gM p e below _ T616 m 81 #[rv a1, lv q1, sN, lv q2, sN, uN, uN] [(.int 1), (.ref a1)]
  obtain ⟨T617, h617, X617, e617, W617, st617⟩ := putF X616 hx hZ hown (host := "") (Or.inl w48) Via.refl e616 f614_10 f614_5 (Or.inl w49) w1 (ty := .int) (by decide) rfl rfl (g := (mkF m 81 #[rv a1, lv q1, sN, lv q2, sN, uN, uN] [(.int 1), (.ref a1)])) rfl rfl (hb hby d16_81)
  have Fw617 := f614_10.same W617
  have N617 := Fr.snoc X617 N614 g_a1
  have K618 : Keep h0 h617 [a1, bb, cc] := K615.wr W617 (Or.inl (List.mem_of_getElem? (i := 0) rfl))
  refine sT st617 ?_
  show gM p e below _ T617 m 84 #[rv a1, lv q1, sN, lv q2, sN, uN, uN] []
  refine sT (fun t k => XS.iconst X617.here hx rfl (hb hby d16_84) k) ?_
  show gM p e below _ T617 m 85 #[rv a1, lv q1, sN, lv q2, sN, uN, uN] [(.int 1)]
  refine own_retV X617 hx hlk Bd.returns (w := (.int 1)) (own_nb (Or.inr rfl)) (Or.inl ⟨rfl, Or.inr (Or.inl rfl), _, rfl⟩) (hb hby d16_85) ?_ (by decide) (by decide)
  show own_a0_Q Z a1 q1 q2 bb cc kb kc z1 xs1 ys1 mo h0 n0 _ T617.heap _
  rw [e617]
  exact ⟨b2_614, c2_614, k2_614, k3_614, z2_614, xs2_614, ys2_614, rfl, N617, K618, (f614_0.imp (Nat.le_trans K0.1) id), (f614_1.imp (Nat.le_trans K0.1) id), f614_2, f614_3, f614_4, (f614_5.wr W617), (f614_6.other W617 (Or.inr (slot_ne (Or.inl w43) (Or.inl w49) (by decide) (t := .int) (t' := .int) (by decide) (by decide)))), (f614_7.other W617 (Or.inr (slot_ne (Or.inl w14) (Or.inl w49) (by decide) (t := .int) (t' := .int) (by decide) (by decide)))), (f614_8.other W617 (Or.inr (slot_ne (Or.inl w21) (Or.inl w49) (by decide) (t := (.array .long)) (t' := .int) (by decide) (by decide)))), (f614_9.other W617 (Or.inr (slot_ne (Or.inl w23) (Or.inl w49) (by decide) (t := (.array .long)) (t' := .int) (by decide) (by decide)))), Fw617, (f614_12.other W617 (Ne.symm f614_2)), (f614_13.other W617 (Ne.symm f614_3)), f614_14, f614_15, f614_16, f614_17, (f614_11.other W617 (Or.inr (slot_ne (Or.inl w36) (Or.inl w49) (by decide) (t := (.array .int)) (t' := .int) (by decide) (by decide))))⟩
theorem d16_7 : decode prog_128_method_8_code 7 = .ok (.aload_n 0, 1) := by decide +kernel
theorem d16_8 : decode prog_128_method_8_code 8 = .ok (.getfield 25, 3) := by decide +kernel
theorem d16_11 : decode prog_128_method_8_code 11 = .ok (.aload_n 0, 1) := by decide +kernel
theorem d16_12 : decode prog_128_method_8_code 12 = .ok (.getfield 44, 3) := by decide +kernel
theorem d16_15 : decode prog_128_method_8_code 15 = .ok (.iconst 1, 1) := by decide +kernel
theorem d16_16 : decode prog_128_method_8_code 16 = .ok (.isub, 1) := by decide +kernel
theorem d16_17 : decode prog_128_method_8_code 17 = .ok (.laload, 1) := by decide +kernel
theorem d16_18 : decode prog_128_method_8_code 18 = .ok (.lload_n 1, 1) := by decide +kernel
theorem d16_19 : decode prog_128_method_8_code 19 = .ok (.lcmp, 1) := by decide +kernel
theorem d16_20 : decode prog_128_method_8_code 20 = .ok (.ifCond .ne 20, 3) := by decide +kernel
theorem d16_23 : decode prog_128_method_8_code 23 = .ok (.aload_n 0, 1) := by decide +kernel
theorem d16_24 : decode prog_128_method_8_code 24 = .ok (.getfield 29, 3) := by decide +kernel
theorem d16_27 : decode prog_128_method_8_code 27 = .ok (.aload_n 0, 1) := by decide +kernel
theorem d16_28 : decode prog_128_method_8_code 28 = .ok (.getfield 44, 3) := by decide +kernel
theorem d16_31 : decode prog_128_method_8_code 31 = .ok (.iconst 1, 1) := by decide +kernel
theorem d16_32 : decode prog_128_method_8_code 32 = .ok (.isub, 1) := by decide +kernel
theorem d16_33 : decode prog_128_method_8_code 33 = .ok (.dup2, 1) := by decide +kernel
theorem d16_34 : decode prog_128_method_8_code 34 = .ok (.laload, 1) := by decide +kernel
theorem d16_35 : decode prog_128_method_8_code 35 = .ok (.lload_n 3, 1) := by decide +kernel
theorem d16_36 : decode prog_128_method_8_code 36 = .ok (.lor, 1) := by decide +kernel
theorem d16_37 : decode prog_128_method_8_code 37 = .ok (.lastore, 1) := by decide +kernel
theorem d16_38 : decode prog_128_method_8_code 38 = .ok (.iconst 0, 1) := by decide +kernel
theorem d16_39 : decode prog_128_method_8_code 39 = .ok (.ireturn, 1) := by decide +kernel
theorem own_ae1_ef (m : MethodId) (a1 : Addr) (q1 : Int64) (q2 : Int64) : entryFrame m #[(.ref a1), (.long q1), (.long q2)] 7 = mkF m 0 #[rv a1, lv q1, sN, lv q2, sN, uN, uN] [] := by first | (simp [entryFrame, mkF, argsToLocals, Value.category]; done) | rfl
def own_ae1_Q (Z : State) (a1 : Addr) (q1 : Int64) (q2 : Int64) (bb : Addr) (cc : Addr) (kb : ClassId) (kc : ClassId) (z1 : Int32) (xs1 : List Int64) (ys1 : List Int64) (mo : Int32) (h0 : Heap) (n0 : Nat) (v : Option Value) (h : Heap) (L : List Loc) : Prop := ∃ ys2 : List Int64, v = some (.int 0) ∧ Fr n0 L ∧ Keep h0 h [cc] ∧ Arv Z h cc kc .long z1 (ys2.map Value.long) (Value.long 0) ∧ ys2.length = z1.toNatClampNeg
set_option maxRecDepth 65536 in
set_option maxHeartbeats 40000000 in
theorem own_ae1 (l : Launch) (Z : State) (a0 : Array Value) (hw : ∀ d ∈ tables_1, d.before a0 Z = true) (ws : List Jvm.Cond) (a1 : Addr) (q1 : Int64) (q2 : Int64) (bb : Addr) (cc : Addr) (kb : ClassId) (kc : ClassId) (z1 : Int32) (xs1 : List Int64) (ys1 : List Int64) (mo : Int32) (h0 : Heap) (n0 : Nat) (Z0 : n0 ≤ h0.size) (E_a1 : Exa Z h0 a1 oS) (g_a1 : n0 ≤ a1) (F_size_a1 : Fld Z h0 a1 oS "size" "I" (.int 1)) (F_most_a1 : Fld Z h0 a1 oS "most" "I" (.int mo)) (F_blocks_a1 : Fld Z h0 a1 oS "blocks" "[J" (.ref bb)) (F_bits_a1 : Fld Z h0 a1 oS "bits" "[J" (.ref cc)) (V_bb : Arv Z h0 bb kb .long z1 (xs1.map Value.long) (Value.long 0)) (V_cc : Arv Z h0 cc kc .long z1 (ys1.map Value.long) (Value.long 0)) (g_bb : n0 ≤ bb) (g_cc : n0 ≤ cc) (ne_a1_bb : a1 ≠ bb) (ne_a1_cc : a1 ≠ cc) (ne_bb_cc : bb ≠ cc) (hz : ¬ z1 < (1 : Int32)) (hxl : xs1.length = z1.toNatClampNeg) (hyl : ys1.length = z1.toNatClampNeg) (hq : (xs1.getD (0 : Int32).toNatClampNeg 0) = q1) :
    MetFree l (⟨oS, "add", "(JJ)Z"⟩ : MethodName) (head1 (Jvm.Cond.code (⟨oS, "add", "(JJ)Z"⟩ : MethodName) prog_128_method_8_code 7 (some .boolean) :: ws) ({ frames := 0, cells := 0, slots := 0, locals := 0 } : Room)) (fun aa U => aa = #[(.ref a1), (.long q1), (.long q2)] ∧ Z.Warmed39 U.vm ∧ U.heap = h0) (fun _ _ _ _ _ => True) (fun _ U o U' => ∃ v L, o = .returned v ∧ own_ae1_Q Z a1 q1 q2 bb cc kb kc z1 xs1 ys1 mo h0 n0 v U'.heap L ∧ FrameEnd U o U' L ({ frames := 0, cells := 0, slots := 0, locals := 0 } : Room).cells ({ frames := 0, cells := 0, slots := 0, locals := 0 } : Room).slots) := by
  refine MetFree.of_bodySF (plainFor_of_name own_pn0) hisR ?_
  have w20 := hw _ (List.mem_of_getElem? (i := 20) rfl)
  have w22 := hw _ (List.mem_of_getElem? (i := 22) rfl)
  have w42 := hw _ (List.mem_of_getElem? (i := 42) rfl)
  intro p e s m args below meth c s₁ Bd hml0 hP hK
  obtain ⟨rfl, hZ, hh⟩ := hP
  have hx := Bd.exec
  have hby := Bd.bytes
  have hlk := Bd.notSynchronized
  have hml : c.maxLocals = 7 := hml0
  have hown : s.vm.findClass oS = some m.cls := findClass_of_methodNamed Bd.named
  have hnm := (name_of_methodNamed Bd.named Bd.method).1
  have X0 : Stand p l e ({ frames := 0, cells := 0, slots := 0, locals := 0 } : Room) s m #[(.ref a1), (.long q1), (.long q2)] below meth c s₁ [] 0 0 := Stand.of_body Bd
  have e0 : s₁.heap = h0 := by rw [← hh, Bd.state]; rfl
  have N0 := Fr.nil n0
  have K0 : Keep h0 h0 [cc] := Keep.refl h0 _
  show gS p e below (own_Fin s (own_ae1_Q Z a1 q1 q2 bb cc kb kc z1 xs1 ys1 mo h0 n0) ({ frames := 0, cells := 0, slots := 0, locals := 0 } : Room).cells ({ frames := 0, cells := 0, slots := 0, locals := 0 } : Room).slots) _
  refine sT (fun t k => castTop (own_ae1_ef m a1 q1 q2) k) ?_
  show gM p e below _ s₁ m 0 #[rv a1, lv q1, sN, lv q2, sN, uN, uN] []
  refine sT (fun t k => XS.aloadN X0.here hx rfl (hb hby d16_0) rfl rfl k) ?_
  show gM p e below _ s₁ m 1 #[rv a1, lv q1, sN, lv q2, sN, uN, uN] [(.ref a1)]
  obtain ⟨T628, X628, e628, st628⟩ := getF X0 hx hZ hown (host := "") (Or.inl w42) Via.refl e0 F_size_a1 (g := (mkF m 1 #[rv a1, lv q1, sN, lv q2, sN, uN, uN] [(.ref a1)])) rfl rfl (hb hby d16_1)
  refine sT st628 ?_
  show gM p e below _ T628 m 4 #[rv a1, lv q1, sN, lv q2, sN, uN, uN] [(.int 1)]
  have hc629 : (0 : Int32) < (1 : Int32) := by decide
  refine sT (fun t k => XS.ifNo X628.here hx rfl (hb hby d16_4) rfl ((if0 _ _).trans (tlt hc629).2.2.2) k) ?_
  show gM p e below _ T628 m 7 #[rv a1, lv q1, sN, lv q2, sN, uN, uN] []
  refine sT (fun t k => XS.aloadN X628.here hx rfl (hb hby d16_7) rfl rfl k) ?_
  show gM p e below _ T628 m 8 #[rv a1, lv q1, sN, lv q2, sN, uN, uN] [(.ref a1)]
  obtain ⟨T630, X630, e630, st630⟩ := getF X628 hx hZ hown (host := "") (Or.inl w20) Via.refl e628 F_blocks_a1 (g := (mkF m 8 #[rv a1, lv q1, sN, lv q2, sN, uN, uN] [(.ref a1)])) rfl rfl (hb hby d16_8)
  refine sT st630 ?_
  show gM p e below _ T630 m 11 #[rv a1, lv q1, sN, lv q2, sN, uN, uN] [(.ref bb)]
  refine sT (fun t k => XS.aloadN X630.here hx rfl (hb hby d16_11) rfl rfl k) ?_
  show gM p e below _ T630 m 12 #[rv a1, lv q1, sN, lv q2, sN, uN, uN] [(.ref a1), (.ref bb)]
  obtain ⟨T631, X631, e631, st631⟩ := getF X630 hx hZ hown (host := "") (Or.inl w42) Via.refl e630 F_size_a1 (g := (mkF m 12 #[rv a1, lv q1, sN, lv q2, sN, uN, uN] [(.ref a1), (.ref bb)])) rfl rfl (hb hby d16_12)
  refine sT st631 ?_
  show gM p e below _ T631 m 15 #[rv a1, lv q1, sN, lv q2, sN, uN, uN] [(.int 1), (.ref bb)]
  refine sT (fun t k => XS.iconst X631.here hx rfl (hb hby d16_15) k) ?_
  show gM p e below _ T631 m 16 #[rv a1, lv q1, sN, lv q2, sN, uN, uN] [(.int 1), (.int 1), (.ref bb)]
  refine sT (fun t k => XS.isub X631.here hx rfl (hb hby d16_16) rfl k) ?_
  show gM p e below _ T631 m 17 #[rv a1, lv q1, sN, lv q2, sN, uN, uN] [(.int 0), (.ref bb)]
  refine sT (fun t k => own_lal X631 hx hZ e631 V_bb (own_j (by decide) (by decide) hz) (g := (mkF m 17 #[rv a1, lv q1, sN, lv q2, sN, uN, uN] [(.int 0), (.ref bb)])) rfl rfl (hb hby d16_17) _ k) ?_
  show gM p e below _ T631 m 18 #[rv a1, lv q1, sN, lv q2, sN, uN, uN] [(.long (xs1.getD (0 : Int32).toNatClampNeg 0))]
  refine sT (fun t k => XS.lloadN X631.here hx rfl (hb hby d16_18) rfl k) ?_
  show gM p e below _ T631 m 19 #[rv a1, lv q1, sN, lv q2, sN, uN, uN] [(.long q1), (.long (xs1.getD (0 : Int32).toNatClampNeg 0))]
  refine sT (fun t k => XS.lcmp X631.here hx rfl (hb hby d16_19) rfl k) ?_
  show gM p e below _ T631 m 20 #[rv a1, lv q1, sN, lv q2, sN, uN, uN] [(.int (lcmpW (xs1.getD (0 : Int32).toNatClampNeg 0) q1))]
  have hc632 : (xs1.getD (0 : Int32).toNatClampNeg 0) = q1 := hq
  refine sT (fun t k => XS.ifNo X631.here hx rfl (hb hby d16_20) rfl ((if0 _ _).trans (teq ((lw_eq (xs1.getD (0 : Int32).toNatClampNeg 0) q1).mpr hc632)).2) k) ?_
  show gM p e below _ T631 m 23 #[rv a1, lv q1, sN, lv q2, sN, uN, uN] []
  refine sT (fun t k => XS.aloadN X631.here hx rfl (hb hby d16_23) rfl rfl k) ?_
  show gM p e below _ T631 m 24 #[rv a1, lv q1, sN, lv q2, sN, uN, uN] [(.ref a1)]
  obtain ⟨T633, X633, e633, st633⟩ := getF X631 hx hZ hown (host := "") (Or.inl w22) Via.refl e631 F_bits_a1 (g := (mkF m 24 #[rv a1, lv q1, sN, lv q2, sN, uN, uN] [(.ref a1)])) rfl rfl (hb hby d16_24)
  refine sT st633 ?_
  show gM p e below _ T633 m 27 #[rv a1, lv q1, sN, lv q2, sN, uN, uN] [(.ref cc)]
  refine sT (fun t k => XS.aloadN X633.here hx rfl (hb hby d16_27) rfl rfl k) ?_
  show gM p e below _ T633 m 28 #[rv a1, lv q1, sN, lv q2, sN, uN, uN] [(.ref a1), (.ref cc)]
  obtain ⟨T634, X634, e634, st634⟩ := getF X633 hx hZ hown (host := "") (Or.inl w42) Via.refl e633 F_size_a1 (g := (mkF m 28 #[rv a1, lv q1, sN, lv q2, sN, uN, uN] [(.ref a1), (.ref cc)])) rfl rfl (hb hby d16_28)
  refine sT st634 ?_
  show gM p e below _ T634 m 31 #[rv a1, lv q1, sN, lv q2, sN, uN, uN] [(.int 1), (.ref cc)]
  refine sT (fun t k => XS.iconst X634.here hx rfl (hb hby d16_31) k) ?_
  show gM p e below _ T634 m 32 #[rv a1, lv q1, sN, lv q2, sN, uN, uN] [(.int 1), (.int 1), (.ref cc)]
  refine sT (fun t k => XS.isub X634.here hx rfl (hb hby d16_32) rfl k) ?_
  show gM p e below _ T634 m 33 #[rv a1, lv q1, sN, lv q2, sN, uN, uN] [(.int 0), (.ref cc)]
  refine sT (fun t k => XT.dup2 X634.here hx rfl (hb hby d16_33) rfl rfl rfl k) ?_
  show gM p e below _ T634 m 34 #[rv a1, lv q1, sN, lv q2, sN, uN, uN] [(.int 0), (.ref cc), (.int 0), (.ref cc)]
  refine sT (fun t k => own_lal X634 hx hZ e634 V_cc (own_j (by decide) (by decide) hz) (g := (mkF m 34 #[rv a1, lv q1, sN, lv q2, sN, uN, uN] [(.int 0), (.ref cc), (.int 0), (.ref cc)])) rfl rfl (hb hby d16_34) _ k) ?_
  show gM p e below _ T634 m 35 #[rv a1, lv q1, sN, lv q2, sN, uN, uN] [(.long (ys1.getD (0 : Int32).toNatClampNeg 0)), (.int 0), (.ref cc)]
  refine sT (fun t k => XS.lloadN X634.here hx rfl (hb hby d16_35) rfl k) ?_
  show gM p e below _ T634 m 36 #[rv a1, lv q1, sN, lv q2, sN, uN, uN] [(.long q2), (.long (ys1.getD (0 : Int32).toNatClampNeg 0)), (.int 0), (.ref cc)]
  refine sT (fun t k => XS.lor X634.here hx rfl (hb hby d16_36) rfl k) ?_
  show gM p e below _ T634 m 37 #[rv a1, lv q1, sN, lv q2, sN, uN, uN] [(.long ((ys1.getD (0 : Int32).toNatClampNeg 0) ||| q2)), (.int 0), (.ref cc)]
  obtain ⟨T635, h635, X635, e635, W635, V635, st635⟩ := own_lst X634 hx hZ e634 V_cc (j := (0 : Int32)) (own_j (by decide) (by decide) hz) (0) rfl (own_jl (j := (0 : Int32)) (by decide) (by decide) hz hyl) (g := (mkF m 37 #[rv a1, lv q1, sN, lv q2, sN, uN, uN] [(.long ((ys1.getD (0 : Int32).toNatClampNeg 0) ||| q2)), (.int 0), (.ref cc)])) rfl rfl (hb hby d16_37)
  have V635 : Arv Z h635 cc kc .long z1 ((ys1.set (0) ((ys1.getD (0 : Int32).toNatClampNeg 0) ||| q2)).map Value.long) (Value.long 0) := V635
  have N635 := Fr.snoc X635 N0 g_cc
  have K636 : Keep h0 h635 [cc] := K0.wr W635 (Or.inl (List.mem_of_getElem? (i := 0) rfl))
  refine sT st635 ?_
  show gM p e below _ T635 m 38 #[rv a1, lv q1, sN, lv q2, sN, uN, uN] []
  refine sT (fun t k => XS.iconst X635.here hx rfl (hb hby d16_38) k) ?_
  show gM p e below _ T635 m 39 #[rv a1, lv q1, sN, lv q2, sN, uN, uN] [(.int 0)]
  refine own_retV X635 hx hlk Bd.returns (w := (.int 0)) (own_nb (Or.inl rfl)) (Or.inl ⟨rfl, Or.inr (Or.inl rfl), _, rfl⟩) (hb hby d16_39) ?_ (by decide) (by decide)
  show own_ae1_Q Z a1 q1 q2 bb cc kb kc z1 xs1 ys1 mo h0 n0 _ T635.heap _
  rw [e635]
  exact ⟨(ys1.set (0) ((ys1.getD (0 : Int32).toNatClampNeg 0) ||| q2)), rfl, N635, K636, V635, (by rw [List.length_set]; exact hyl)⟩
theorem own_ae2_ef (m : MethodId) (a1 : Addr) (q1 : Int64) (q2 : Int64) : entryFrame m #[(.ref a1), (.long q1), (.long q2)] 7 = mkF m 0 #[rv a1, lv q1, sN, lv q2, sN, uN, uN] [] := by first | (simp [entryFrame, mkF, argsToLocals, Value.category]; done) | rfl
def own_ae2_Q (Z : State) (a1 : Addr) (q1 : Int64) (q2 : Int64) (bb : Addr) (cc : Addr) (kb : ClassId) (kc : ClassId) (z1 : Int32) (xs1 : List Int64) (ys1 : List Int64) (mo : Int32) (h0 : Heap) (n0 : Nat) (v : Option Value) (h : Heap) (L : List Loc) : Prop := ∃ ys2 : List Int64, v = some (.int 0) ∧ Fr n0 L ∧ Keep h0 h [cc] ∧ Arv Z h cc kc .long z1 (ys2.map Value.long) (Value.long 0) ∧ ys2.length = z1.toNatClampNeg
set_option maxRecDepth 65536 in
set_option maxHeartbeats 40000000 in
theorem own_ae2 (l : Launch) (Z : State) (a0 : Array Value) (hw : ∀ d ∈ tables_1, d.before a0 Z = true) (ws : List Jvm.Cond) (a1 : Addr) (q1 : Int64) (q2 : Int64) (bb : Addr) (cc : Addr) (kb : ClassId) (kc : ClassId) (z1 : Int32) (xs1 : List Int64) (ys1 : List Int64) (mo : Int32) (h0 : Heap) (n0 : Nat) (Z0 : n0 ≤ h0.size) (E_a1 : Exa Z h0 a1 oS) (g_a1 : n0 ≤ a1) (F_size_a1 : Fld Z h0 a1 oS "size" "I" (.int 2)) (F_most_a1 : Fld Z h0 a1 oS "most" "I" (.int mo)) (F_blocks_a1 : Fld Z h0 a1 oS "blocks" "[J" (.ref bb)) (F_bits_a1 : Fld Z h0 a1 oS "bits" "[J" (.ref cc)) (V_bb : Arv Z h0 bb kb .long z1 (xs1.map Value.long) (Value.long 0)) (V_cc : Arv Z h0 cc kc .long z1 (ys1.map Value.long) (Value.long 0)) (g_bb : n0 ≤ bb) (g_cc : n0 ≤ cc) (ne_a1_bb : a1 ≠ bb) (ne_a1_cc : a1 ≠ cc) (ne_bb_cc : bb ≠ cc) (hz : ¬ z1 < (2 : Int32)) (hxl : xs1.length = z1.toNatClampNeg) (hyl : ys1.length = z1.toNatClampNeg) (hq : (xs1.getD (1 : Int32).toNatClampNeg 0) = q1) :
    MetFree l (⟨oS, "add", "(JJ)Z"⟩ : MethodName) (head1 (Jvm.Cond.code (⟨oS, "add", "(JJ)Z"⟩ : MethodName) prog_128_method_8_code 7 (some .boolean) :: ws) ({ frames := 0, cells := 0, slots := 0, locals := 0 } : Room)) (fun aa U => aa = #[(.ref a1), (.long q1), (.long q2)] ∧ Z.Warmed39 U.vm ∧ U.heap = h0) (fun _ _ _ _ _ => True) (fun _ U o U' => ∃ v L, o = .returned v ∧ own_ae2_Q Z a1 q1 q2 bb cc kb kc z1 xs1 ys1 mo h0 n0 v U'.heap L ∧ FrameEnd U o U' L ({ frames := 0, cells := 0, slots := 0, locals := 0 } : Room).cells ({ frames := 0, cells := 0, slots := 0, locals := 0 } : Room).slots) := by
  refine MetFree.of_bodySF (plainFor_of_name own_pn0) hisR ?_
  have w20 := hw _ (List.mem_of_getElem? (i := 20) rfl)
  have w22 := hw _ (List.mem_of_getElem? (i := 22) rfl)
  have w42 := hw _ (List.mem_of_getElem? (i := 42) rfl)
  intro p e s m args below meth c s₁ Bd hml0 hP hK
  obtain ⟨rfl, hZ, hh⟩ := hP
  have hx := Bd.exec
  have hby := Bd.bytes
  have hlk := Bd.notSynchronized
  have hml : c.maxLocals = 7 := hml0
  have hown : s.vm.findClass oS = some m.cls := findClass_of_methodNamed Bd.named
  have hnm := (name_of_methodNamed Bd.named Bd.method).1
  have X0 : Stand p l e ({ frames := 0, cells := 0, slots := 0, locals := 0 } : Room) s m #[(.ref a1), (.long q1), (.long q2)] below meth c s₁ [] 0 0 := Stand.of_body Bd
  have e0 : s₁.heap = h0 := by rw [← hh, Bd.state]; rfl
  have N0 := Fr.nil n0
  have K0 : Keep h0 h0 [cc] := Keep.refl h0 _
  show gS p e below (own_Fin s (own_ae2_Q Z a1 q1 q2 bb cc kb kc z1 xs1 ys1 mo h0 n0) ({ frames := 0, cells := 0, slots := 0, locals := 0 } : Room).cells ({ frames := 0, cells := 0, slots := 0, locals := 0 } : Room).slots) _
  refine sT (fun t k => castTop (own_ae2_ef m a1 q1 q2) k) ?_
  show gM p e below _ s₁ m 0 #[rv a1, lv q1, sN, lv q2, sN, uN, uN] []
  refine sT (fun t k => XS.aloadN X0.here hx rfl (hb hby d16_0) rfl rfl k) ?_
  show gM p e below _ s₁ m 1 #[rv a1, lv q1, sN, lv q2, sN, uN, uN] [(.ref a1)]
  obtain ⟨T646, X646, e646, st646⟩ := getF X0 hx hZ hown (host := "") (Or.inl w42) Via.refl e0 F_size_a1 (g := (mkF m 1 #[rv a1, lv q1, sN, lv q2, sN, uN, uN] [(.ref a1)])) rfl rfl (hb hby d16_1)
  refine sT st646 ?_
  show gM p e below _ T646 m 4 #[rv a1, lv q1, sN, lv q2, sN, uN, uN] [(.int 2)]
  have hc647 : (0 : Int32) < (2 : Int32) := by decide
  refine sT (fun t k => XS.ifNo X646.here hx rfl (hb hby d16_4) rfl ((if0 _ _).trans (tlt hc647).2.2.2) k) ?_
  show gM p e below _ T646 m 7 #[rv a1, lv q1, sN, lv q2, sN, uN, uN] []
  refine sT (fun t k => XS.aloadN X646.here hx rfl (hb hby d16_7) rfl rfl k) ?_
  show gM p e below _ T646 m 8 #[rv a1, lv q1, sN, lv q2, sN, uN, uN] [(.ref a1)]
  obtain ⟨T648, X648, e648, st648⟩ := getF X646 hx hZ hown (host := "") (Or.inl w20) Via.refl e646 F_blocks_a1 (g := (mkF m 8 #[rv a1, lv q1, sN, lv q2, sN, uN, uN] [(.ref a1)])) rfl rfl (hb hby d16_8)
  refine sT st648 ?_
  show gM p e below _ T648 m 11 #[rv a1, lv q1, sN, lv q2, sN, uN, uN] [(.ref bb)]
  refine sT (fun t k => XS.aloadN X648.here hx rfl (hb hby d16_11) rfl rfl k) ?_
  show gM p e below _ T648 m 12 #[rv a1, lv q1, sN, lv q2, sN, uN, uN] [(.ref a1), (.ref bb)]
  obtain ⟨T649, X649, e649, st649⟩ := getF X648 hx hZ hown (host := "") (Or.inl w42) Via.refl e648 F_size_a1 (g := (mkF m 12 #[rv a1, lv q1, sN, lv q2, sN, uN, uN] [(.ref a1), (.ref bb)])) rfl rfl (hb hby d16_12)
  refine sT st649 ?_
  show gM p e below _ T649 m 15 #[rv a1, lv q1, sN, lv q2, sN, uN, uN] [(.int 2), (.ref bb)]
  refine sT (fun t k => XS.iconst X649.here hx rfl (hb hby d16_15) k) ?_
  show gM p e below _ T649 m 16 #[rv a1, lv q1, sN, lv q2, sN, uN, uN] [(.int 1), (.int 2), (.ref bb)]
  refine sT (fun t k => XS.isub X649.here hx rfl (hb hby d16_16) rfl k) ?_
  show gM p e below _ T649 m 17 #[rv a1, lv q1, sN, lv q2, sN, uN, uN] [(.int 1), (.ref bb)]
  refine sT (fun t k => own_lal X649 hx hZ e649 V_bb (own_j (by decide) (by decide) hz) (g := (mkF m 17 #[rv a1, lv q1, sN, lv q2, sN, uN, uN] [(.int 1), (.ref bb)])) rfl rfl (hb hby d16_17) _ k) ?_
  show gM p e below _ T649 m 18 #[rv a1, lv q1, sN, lv q2, sN, uN, uN] [(.long (xs1.getD (1 : Int32).toNatClampNeg 0))]
  refine sT (fun t k => XS.lloadN X649.here hx rfl (hb hby d16_18) rfl k) ?_
  show gM p e below _ T649 m 19 #[rv a1, lv q1, sN, lv q2, sN, uN, uN] [(.long q1), (.long (xs1.getD (1 : Int32).toNatClampNeg 0))]
  refine sT (fun t k => XS.lcmp X649.here hx rfl (hb hby d16_19) rfl k) ?_
  show gM p e below _ T649 m 20 #[rv a1, lv q1, sN, lv q2, sN, uN, uN] [(.int (lcmpW (xs1.getD (1 : Int32).toNatClampNeg 0) q1))]
  have hc650 : (xs1.getD (1 : Int32).toNatClampNeg 0) = q1 := hq
  refine sT (fun t k => XS.ifNo X649.here hx rfl (hb hby d16_20) rfl ((if0 _ _).trans (teq ((lw_eq (xs1.getD (1 : Int32).toNatClampNeg 0) q1).mpr hc650)).2) k) ?_
  show gM p e below _ T649 m 23 #[rv a1, lv q1, sN, lv q2, sN, uN, uN] []
  refine sT (fun t k => XS.aloadN X649.here hx rfl (hb hby d16_23) rfl rfl k) ?_
  show gM p e below _ T649 m 24 #[rv a1, lv q1, sN, lv q2, sN, uN, uN] [(.ref a1)]
  obtain ⟨T651, X651, e651, st651⟩ := getF X649 hx hZ hown (host := "") (Or.inl w22) Via.refl e649 F_bits_a1 (g := (mkF m 24 #[rv a1, lv q1, sN, lv q2, sN, uN, uN] [(.ref a1)])) rfl rfl (hb hby d16_24)
  refine sT st651 ?_
  show gM p e below _ T651 m 27 #[rv a1, lv q1, sN, lv q2, sN, uN, uN] [(.ref cc)]
  refine sT (fun t k => XS.aloadN X651.here hx rfl (hb hby d16_27) rfl rfl k) ?_
  show gM p e below _ T651 m 28 #[rv a1, lv q1, sN, lv q2, sN, uN, uN] [(.ref a1), (.ref cc)]
  obtain ⟨T652, X652, e652, st652⟩ := getF X651 hx hZ hown (host := "") (Or.inl w42) Via.refl e651 F_size_a1 (g := (mkF m 28 #[rv a1, lv q1, sN, lv q2, sN, uN, uN] [(.ref a1), (.ref cc)])) rfl rfl (hb hby d16_28)
  refine sT st652 ?_
  show gM p e below _ T652 m 31 #[rv a1, lv q1, sN, lv q2, sN, uN, uN] [(.int 2), (.ref cc)]
  refine sT (fun t k => XS.iconst X652.here hx rfl (hb hby d16_31) k) ?_
  show gM p e below _ T652 m 32 #[rv a1, lv q1, sN, lv q2, sN, uN, uN] [(.int 1), (.int 2), (.ref cc)]
  refine sT (fun t k => XS.isub X652.here hx rfl (hb hby d16_32) rfl k) ?_
  show gM p e below _ T652 m 33 #[rv a1, lv q1, sN, lv q2, sN, uN, uN] [(.int 1), (.ref cc)]
  refine sT (fun t k => XT.dup2 X652.here hx rfl (hb hby d16_33) rfl rfl rfl k) ?_
  show gM p e below _ T652 m 34 #[rv a1, lv q1, sN, lv q2, sN, uN, uN] [(.int 1), (.ref cc), (.int 1), (.ref cc)]
  refine sT (fun t k => own_lal X652 hx hZ e652 V_cc (own_j (by decide) (by decide) hz) (g := (mkF m 34 #[rv a1, lv q1, sN, lv q2, sN, uN, uN] [(.int 1), (.ref cc), (.int 1), (.ref cc)])) rfl rfl (hb hby d16_34) _ k) ?_
  show gM p e below _ T652 m 35 #[rv a1, lv q1, sN, lv q2, sN, uN, uN] [(.long (ys1.getD (1 : Int32).toNatClampNeg 0)), (.int 1), (.ref cc)]
  refine sT (fun t k => XS.lloadN X652.here hx rfl (hb hby d16_35) rfl k) ?_
  show gM p e below _ T652 m 36 #[rv a1, lv q1, sN, lv q2, sN, uN, uN] [(.long q2), (.long (ys1.getD (1 : Int32).toNatClampNeg 0)), (.int 1), (.ref cc)]
  refine sT (fun t k => XS.lor X652.here hx rfl (hb hby d16_36) rfl k) ?_
  show gM p e below _ T652 m 37 #[rv a1, lv q1, sN, lv q2, sN, uN, uN] [(.long ((ys1.getD (1 : Int32).toNatClampNeg 0) ||| q2)), (.int 1), (.ref cc)]
  obtain ⟨T653, h653, X653, e653, W653, V653, st653⟩ := own_lst X652 hx hZ e652 V_cc (j := (1 : Int32)) (own_j (by decide) (by decide) hz) (1) rfl (own_jl (j := (1 : Int32)) (by decide) (by decide) hz hyl) (g := (mkF m 37 #[rv a1, lv q1, sN, lv q2, sN, uN, uN] [(.long ((ys1.getD (1 : Int32).toNatClampNeg 0) ||| q2)), (.int 1), (.ref cc)])) rfl rfl (hb hby d16_37)
  have V653 : Arv Z h653 cc kc .long z1 ((ys1.set (1) ((ys1.getD (1 : Int32).toNatClampNeg 0) ||| q2)).map Value.long) (Value.long 0) := V653
  have N653 := Fr.snoc X653 N0 g_cc
  have K654 : Keep h0 h653 [cc] := K0.wr W653 (Or.inl (List.mem_of_getElem? (i := 0) rfl))
  refine sT st653 ?_
  show gM p e below _ T653 m 38 #[rv a1, lv q1, sN, lv q2, sN, uN, uN] []
  refine sT (fun t k => XS.iconst X653.here hx rfl (hb hby d16_38) k) ?_
  show gM p e below _ T653 m 39 #[rv a1, lv q1, sN, lv q2, sN, uN, uN] [(.int 0)]
  refine own_retV X653 hx hlk Bd.returns (w := (.int 0)) (own_nb (Or.inl rfl)) (Or.inl ⟨rfl, Or.inr (Or.inl rfl), _, rfl⟩) (hb hby d16_39) ?_ (by decide) (by decide)
  show own_ae2_Q Z a1 q1 q2 bb cc kb kc z1 xs1 ys1 mo h0 n0 _ T653.heap _
  rw [e653]
  exact ⟨(ys1.set (1) ((ys1.getD (1 : Int32).toNatClampNeg 0) ||| q2)), rfl, N653, K654, V653, (by rw [List.length_set]; exact hyl)⟩
theorem d16_54 : decode prog_128_method_8_code 54 = .ok (.lload_n 1, 1) := by decide +kernel
theorem d16_55 : decode prog_128_method_8_code 55 = .ok (.aload_n 0, 1) := by decide +kernel
theorem d16_56 : decode prog_128_method_8_code 56 = .ok (.getfield 25, 3) := by decide +kernel
theorem d16_59 : decode prog_128_method_8_code 59 = .ok (.aload_n 0, 1) := by decide +kernel
theorem d16_60 : decode prog_128_method_8_code 60 = .ok (.getfield 44, 3) := by decide +kernel
theorem d16_63 : decode prog_128_method_8_code 63 = .ok (.iconst 1, 1) := by decide +kernel
theorem d16_64 : decode prog_128_method_8_code 64 = .ok (.isub, 1) := by decide +kernel
theorem d16_65 : decode prog_128_method_8_code 65 = .ok (.laload, 1) := by decide +kernel
theorem d16_66 : decode prog_128_method_8_code 66 = .ok (.lcmp, 1) := by decide +kernel
theorem d16_67 : decode prog_128_method_8_code 67 = .ok (.ifCond .le 19, 3) := by decide +kernel
theorem own_ag1_ef (m : MethodId) (a1 : Addr) (q1 : Int64) (q2 : Int64) : entryFrame m #[(.ref a1), (.long q1), (.long q2)] 7 = mkF m 0 #[rv a1, lv q1, sN, lv q2, sN, uN, uN] [] := by first | (simp [entryFrame, mkF, argsToLocals, Value.category]; done) | rfl
def own_ag1_Q (Z : State) (a1 : Addr) (q1 : Int64) (q2 : Int64) (bb : Addr) (cc : Addr) (kb : ClassId) (kc : ClassId) (z1 : Int32) (xs1 : List Int64) (ys1 : List Int64) (mo : Int32) (h0 : Heap) (n0 : Nat) (v : Option Value) (h : Heap) (L : List Loc) : Prop := ∃ b2 : Addr, ∃ c2 : Addr, ∃ k2 : ClassId, ∃ k3 : ClassId, ∃ z2 : Int32, ∃ xs2 : List Int64, ∃ ys2 : List Int64, v = some (.int 1) ∧ Fr n0 L ∧ Keep h0 h [a1, bb, cc] ∧ (h0.size ≤ b2 ∨ b2 = bb) ∧ (h0.size ≤ c2 ∨ c2 = cc) ∧ a1 ≠ b2 ∧ a1 ≠ c2 ∧ b2 ≠ c2 ∧ Exa Z h a1 oS ∧ Fld Z h a1 oS "size" "I" (.int 2) ∧ Fld Z h a1 oS "most" "I" (.int mo) ∧ Fld Z h a1 oS "blocks" "[J" (.ref b2) ∧ Fld Z h a1 oS "bits" "[J" (.ref c2) ∧ Fld Z h a1 oS "ordered" "I" (.int 2) ∧ Arv Z h b2 k2 .long z2 (xs2.map Value.long) (Value.long 0) ∧ Arv Z h c2 k3 .long z2 (ys2.map Value.long) (Value.long 0) ∧ z2 = own_nl (1 : Int32) z1 mo ∧ xs2.length = z2.toNatClampNeg ∧ ys2.length = z2.toNatClampNeg ∧ xs2.getD (0 : Int32).toNatClampNeg 0 = xs1.getD (0 : Int32).toNatClampNeg 0 ∧ xs2.getD (1 : Int32).toNatClampNeg 0 = q1 ∧ Fld Z h a1 oS "table" "[I" .null
set_option maxRecDepth 65536 in
set_option maxHeartbeats 40000000 in
theorem own_ag1 (l : Launch) (Z : State) (a0 : Array Value) (hw : ∀ d ∈ tables_1, d.before a0 Z = true) (ws : List Jvm.Cond) (a1 : Addr) (q1 : Int64) (q2 : Int64) (bb : Addr) (cc : Addr) (kb : ClassId) (kc : ClassId) (z1 : Int32) (xs1 : List Int64) (ys1 : List Int64) (mo : Int32) (h0 : Heap) (n0 : Nat) (Z0 : n0 ≤ h0.size) (E_a1 : Exa Z h0 a1 oS) (g_a1 : n0 ≤ a1) (F_size_a1 : Fld Z h0 a1 oS "size" "I" (.int 1)) (F_most_a1 : Fld Z h0 a1 oS "most" "I" (.int mo)) (F_blocks_a1 : Fld Z h0 a1 oS "blocks" "[J" (.ref bb)) (F_bits_a1 : Fld Z h0 a1 oS "bits" "[J" (.ref cc)) (V_bb : Arv Z h0 bb kb .long z1 (xs1.map Value.long) (Value.long 0)) (V_cc : Arv Z h0 cc kc .long z1 (ys1.map Value.long) (Value.long 0)) (g_bb : n0 ≤ bb) (g_cc : n0 ≤ cc) (ne_a1_bb : a1 ≠ bb) (ne_a1_cc : a1 ≠ cc) (ne_bb_cc : bb ≠ cc) (hz : ¬ z1 < (1 : Int32)) (hxl : xs1.length = z1.toNatClampNeg) (hyl : ys1.length = z1.toNatClampNeg) (F_ordered_a1 : Fld Z h0 a1 oS "ordered" "I" (.int 1)) (F_table_a1 : Fld Z h0 a1 oS "table" "[I" .null) (hnq : ¬ (xs1.getD (0 : Int32).toNatClampNeg 0) = q1) (hgt : (xs1.getD (0 : Int32).toNatClampNeg 0) < q1) :
    MetFree l (⟨oS, "add", "(JJ)Z"⟩ : MethodName) (head1 (Jvm.Cond.code (⟨oS, "add", "(JJ)Z"⟩ : MethodName) prog_128_method_8_code 7 (some .boolean) :: ws) ({ frames := 3, cells := 2, slots := 4, locals := 50 } : Room)) (fun aa U => aa = #[(.ref a1), (.long q1), (.long q2)] ∧ Z.Warmed39 U.vm ∧ U.heap = h0) (fun _ _ _ _ _ => True) (fun _ U o U' => ∃ v L, o = .returned v ∧ own_ag1_Q Z a1 q1 q2 bb cc kb kc z1 xs1 ys1 mo h0 n0 v U'.heap L ∧ FrameEnd U o U' L ({ frames := 3, cells := 2, slots := 4, locals := 50 } : Room).cells ({ frames := 3, cells := 2, slots := 4, locals := 50 } : Room).slots) := by
  refine MetFree.of_bodySF (plainFor_of_name own_pn0) hisR ?_
  have w1 := hw _ (List.mem_of_getElem? (i := 1) rfl)
  have w2 := hw _ (List.mem_of_getElem? (i := 2) rfl)
  have w14 := hw _ (List.mem_of_getElem? (i := 14) rfl)
  have w20 := hw _ (List.mem_of_getElem? (i := 20) rfl)
  have w21 := hw _ (List.mem_of_getElem? (i := 21) rfl)
  have w23 := hw _ (List.mem_of_getElem? (i := 23) rfl)
  have w35 := hw _ (List.mem_of_getElem? (i := 35) rfl)
  have w36 := hw _ (List.mem_of_getElem? (i := 36) rfl)
  have w42 := hw _ (List.mem_of_getElem? (i := 42) rfl)
  have w43 := hw _ (List.mem_of_getElem? (i := 43) rfl)
  have w44 := hw _ (List.mem_of_getElem? (i := 44) rfl)
  have w45 := hw _ (List.mem_of_getElem? (i := 45) rfl)
  have w46 := hw _ (List.mem_of_getElem? (i := 46) rfl)
  have w47 := hw _ (List.mem_of_getElem? (i := 47) rfl)
  have w48 := hw _ (List.mem_of_getElem? (i := 48) rfl)
  have w49 := hw _ (List.mem_of_getElem? (i := 49) rfl)
  intro p e s m args below meth c s₁ Bd hml0 hP hK
  obtain ⟨rfl, hZ, hh⟩ := hP
  have hx := Bd.exec
  have hby := Bd.bytes
  have hlk := Bd.notSynchronized
  have hml : c.maxLocals = 7 := hml0
  have hown : s.vm.findClass oS = some m.cls := findClass_of_methodNamed Bd.named
  have hnm := (name_of_methodNamed Bd.named Bd.method).1
  have X0 : Stand p l e ({ frames := 3, cells := 2, slots := 4, locals := 50 } : Room) s m #[(.ref a1), (.long q1), (.long q2)] below meth c s₁ [] 0 0 := Stand.of_body Bd
  have e0 : s₁.heap = h0 := by rw [← hh, Bd.state]; rfl
  have N0 := Fr.nil n0
  have K0 : Keep h0 h0 [a1, bb, cc] := Keep.refl h0 _
  show gS p e below (own_Fin s (own_ag1_Q Z a1 q1 q2 bb cc kb kc z1 xs1 ys1 mo h0 n0) ({ frames := 3, cells := 2, slots := 4, locals := 50 } : Room).cells ({ frames := 3, cells := 2, slots := 4, locals := 50 } : Room).slots) _
  refine sT (fun t k => castTop (own_ag1_ef m a1 q1 q2) k) ?_
  show gM p e below _ s₁ m 0 #[rv a1, lv q1, sN, lv q2, sN, uN, uN] []
  refine sT (fun t k => XS.aloadN X0.here hx rfl (hb hby d16_0) rfl rfl k) ?_
  show gM p e below _ s₁ m 1 #[rv a1, lv q1, sN, lv q2, sN, uN, uN] [(.ref a1)]
  obtain ⟨T671, X671, e671, st671⟩ := getF X0 hx hZ hown (host := "") (Or.inl w42) Via.refl e0 F_size_a1 (g := (mkF m 1 #[rv a1, lv q1, sN, lv q2, sN, uN, uN] [(.ref a1)])) rfl rfl (hb hby d16_1)
  refine sT st671 ?_
  show gM p e below _ T671 m 4 #[rv a1, lv q1, sN, lv q2, sN, uN, uN] [(.int 1)]
  have hc672 : (0 : Int32) < (1 : Int32) := by decide
  refine sT (fun t k => XS.ifNo X671.here hx rfl (hb hby d16_4) rfl ((if0 _ _).trans (tlt hc672).2.2.2) k) ?_
  show gM p e below _ T671 m 7 #[rv a1, lv q1, sN, lv q2, sN, uN, uN] []
  refine sT (fun t k => XS.aloadN X671.here hx rfl (hb hby d16_7) rfl rfl k) ?_
  show gM p e below _ T671 m 8 #[rv a1, lv q1, sN, lv q2, sN, uN, uN] [(.ref a1)]
  obtain ⟨T673, X673, e673, st673⟩ := getF X671 hx hZ hown (host := "") (Or.inl w20) Via.refl e671 F_blocks_a1 (g := (mkF m 8 #[rv a1, lv q1, sN, lv q2, sN, uN, uN] [(.ref a1)])) rfl rfl (hb hby d16_8)
  refine sT st673 ?_
  show gM p e below _ T673 m 11 #[rv a1, lv q1, sN, lv q2, sN, uN, uN] [(.ref bb)]
  refine sT (fun t k => XS.aloadN X673.here hx rfl (hb hby d16_11) rfl rfl k) ?_
  show gM p e below _ T673 m 12 #[rv a1, lv q1, sN, lv q2, sN, uN, uN] [(.ref a1), (.ref bb)]
  obtain ⟨T674, X674, e674, st674⟩ := getF X673 hx hZ hown (host := "") (Or.inl w42) Via.refl e673 F_size_a1 (g := (mkF m 12 #[rv a1, lv q1, sN, lv q2, sN, uN, uN] [(.ref a1), (.ref bb)])) rfl rfl (hb hby d16_12)
  refine sT st674 ?_
  show gM p e below _ T674 m 15 #[rv a1, lv q1, sN, lv q2, sN, uN, uN] [(.int 1), (.ref bb)]
  refine sT (fun t k => XS.iconst X674.here hx rfl (hb hby d16_15) k) ?_
  show gM p e below _ T674 m 16 #[rv a1, lv q1, sN, lv q2, sN, uN, uN] [(.int 1), (.int 1), (.ref bb)]
  refine sT (fun t k => XS.isub X674.here hx rfl (hb hby d16_16) rfl k) ?_
  show gM p e below _ T674 m 17 #[rv a1, lv q1, sN, lv q2, sN, uN, uN] [(.int 0), (.ref bb)]
  refine sT (fun t k => own_lal X674 hx hZ e674 V_bb (own_j (by decide) (by decide) hz) (g := (mkF m 17 #[rv a1, lv q1, sN, lv q2, sN, uN, uN] [(.int 0), (.ref bb)])) rfl rfl (hb hby d16_17) _ k) ?_
  show gM p e below _ T674 m 18 #[rv a1, lv q1, sN, lv q2, sN, uN, uN] [(.long (xs1.getD (0 : Int32).toNatClampNeg 0))]
  refine sT (fun t k => XS.lloadN X674.here hx rfl (hb hby d16_18) rfl k) ?_
  show gM p e below _ T674 m 19 #[rv a1, lv q1, sN, lv q2, sN, uN, uN] [(.long q1), (.long (xs1.getD (0 : Int32).toNatClampNeg 0))]
  refine sT (fun t k => XS.lcmp X674.here hx rfl (hb hby d16_19) rfl k) ?_
  show gM p e below _ T674 m 20 #[rv a1, lv q1, sN, lv q2, sN, uN, uN] [(.int (lcmpW (xs1.getD (0 : Int32).toNatClampNeg 0) q1))]
  have hc675 : ¬ ((xs1.getD (0 : Int32).toNatClampNeg 0) = q1) := hnq
  refine sT (fun t k => XS.ifYes X674.here hx rfl (pc0 := 20) (pc' := 40) rfl (hb hby d16_20) rfl ((if0 _ _).trans (feq (fun zq => hc675 ((lw_eq (xs1.getD (0 : Int32).toNatClampNeg 0) q1).mp zq))).2) (by decide) (by decide) k) ?_
  show gM p e below _ T674 m 40 #[rv a1, lv q1, sN, lv q2, sN, uN, uN] []
  refine sT (fun t k => XS.aloadN X674.here hx rfl (hb hby d16_40) rfl rfl k) ?_
  show gM p e below _ T674 m 41 #[rv a1, lv q1, sN, lv q2, sN, uN, uN] [(.ref a1)]
  obtain ⟨T676, X676, e676, st676⟩ := getF X674 hx hZ hown (host := "") (Or.inl w35) Via.refl e674 F_table_a1 (g := (mkF m 41 #[rv a1, lv q1, sN, lv q2, sN, uN, uN] [(.ref a1)])) rfl rfl (hb hby d16_41)
  refine sT st676 ?_
  show gM p e below _ T676 m 44 #[rv a1, lv q1, sN, lv q2, sN, uN, uN] [.null]
  refine sT (fun t k => XS.ifnonnullNo X676.here hx rfl (hb hby d16_44) rfl k) ?_
  show gM p e below _ T676 m 47 #[rv a1, lv q1, sN, lv q2, sN, uN, uN] []
  refine sT (fun t k => XS.aloadN X676.here hx rfl (hb hby d16_47) rfl rfl k) ?_
  show gM p e below _ T676 m 48 #[rv a1, lv q1, sN, lv q2, sN, uN, uN] [(.ref a1)]
  obtain ⟨T677, X677, e677, st677⟩ := getF X676 hx hZ hown (host := "") (Or.inl w42) Via.refl e676 F_size_a1 (g := (mkF m 48 #[rv a1, lv q1, sN, lv q2, sN, uN, uN] [(.ref a1)])) rfl rfl (hb hby d16_48)
  refine sT st677 ?_
  show gM p e below _ T677 m 51 #[rv a1, lv q1, sN, lv q2, sN, uN, uN] [(.int 1)]
  have hc678 : ¬ ((1 : Int32) = (0 : Int32)) := by decide
  refine sT (fun t k => XS.ifNo X677.here hx rfl (hb hby d16_51) rfl ((if0 _ _).trans (feq hc678).1) k) ?_
  show gM p e below _ T677 m 54 #[rv a1, lv q1, sN, lv q2, sN, uN, uN] []
  refine sT (fun t k => XS.lloadN X677.here hx rfl (hb hby d16_54) rfl k) ?_
  show gM p e below _ T677 m 55 #[rv a1, lv q1, sN, lv q2, sN, uN, uN] [(.long q1)]
  refine sT (fun t k => XS.aloadN X677.here hx rfl (hb hby d16_55) rfl rfl k) ?_
  show gM p e below _ T677 m 56 #[rv a1, lv q1, sN, lv q2, sN, uN, uN] [(.ref a1), (.long q1)]
  obtain ⟨T679, X679, e679, st679⟩ := getF X677 hx hZ hown (host := "") (Or.inl w20) Via.refl e677 F_blocks_a1 (g := (mkF m 56 #[rv a1, lv q1, sN, lv q2, sN, uN, uN] [(.ref a1), (.long q1)])) rfl rfl (hb hby d16_56)
  refine sT st679 ?_
  show gM p e below _ T679 m 59 #[rv a1, lv q1, sN, lv q2, sN, uN, uN] [(.ref bb), (.long q1)]
  refine sT (fun t k => XS.aloadN X679.here hx rfl (hb hby d16_59) rfl rfl k) ?_
  show gM p e below _ T679 m 60 #[rv a1, lv q1, sN, lv q2, sN, uN, uN] [(.ref a1), (.ref bb), (.long q1)]
  obtain ⟨T680, X680, e680, st680⟩ := getF X679 hx hZ hown (host := "") (Or.inl w42) Via.refl e679 F_size_a1 (g := (mkF m 60 #[rv a1, lv q1, sN, lv q2, sN, uN, uN] [(.ref a1), (.ref bb), (.long q1)])) rfl rfl (hb hby d16_60)
  refine sT st680 ?_
  show gM p e below _ T680 m 63 #[rv a1, lv q1, sN, lv q2, sN, uN, uN] [(.int 1), (.ref bb), (.long q1)]
  refine sT (fun t k => XS.iconst X680.here hx rfl (hb hby d16_63) k) ?_
  show gM p e below _ T680 m 64 #[rv a1, lv q1, sN, lv q2, sN, uN, uN] [(.int 1), (.int 1), (.ref bb), (.long q1)]
  refine sT (fun t k => XS.isub X680.here hx rfl (hb hby d16_64) rfl k) ?_
  show gM p e below _ T680 m 65 #[rv a1, lv q1, sN, lv q2, sN, uN, uN] [(.int 0), (.ref bb), (.long q1)]
  refine sT (fun t k => own_lal X680 hx hZ e680 V_bb (own_j (by decide) (by decide) hz) (g := (mkF m 65 #[rv a1, lv q1, sN, lv q2, sN, uN, uN] [(.int 0), (.ref bb), (.long q1)])) rfl rfl (hb hby d16_65) _ k) ?_
  show gM p e below _ T680 m 66 #[rv a1, lv q1, sN, lv q2, sN, uN, uN] [(.long (xs1.getD (0 : Int32).toNatClampNeg 0)), (.long q1)]
  refine sT (fun t k => XS.lcmp X680.here hx rfl (hb hby d16_66) rfl k) ?_
  show gM p e below _ T680 m 67 #[rv a1, lv q1, sN, lv q2, sN, uN, uN] [(.int (lcmpW q1 (xs1.getD (0 : Int32).toNatClampNeg 0)))]
  have hc681 : (xs1.getD (0 : Int32).toNatClampNeg 0) < q1 := hgt
  refine sT (fun t k => XS.ifNo X680.here hx rfl (hb hby d16_67) rfl ((if0 _ _).trans (tlt ((lw_gt q1 (xs1.getD (0 : Int32).toNatClampNeg 0)).mpr hc681)).2.2.2) k) ?_
  show gM p e below _ T680 m 70 #[rv a1, lv q1, sN, lv q2, sN, uN, uN] []
  refine sT (fun t k => XS.aloadN X680.here hx rfl (hb hby d16_70) rfl rfl k) ?_
  show gM p e below _ T680 m 71 #[rv a1, lv q1, sN, lv q2, sN, uN, uN] [(.ref a1)]
  refine sT (fun t k => XS.lloadN X680.here hx rfl (hb hby d16_71) rfl k) ?_
  show gM p e below _ T680 m 72 #[rv a1, lv q1, sN, lv q2, sN, uN, uN] [(.long q1), (.ref a1)]
  refine sT (fun t k => XS.lloadN X680.here hx rfl (hb hby d16_72) rfl k) ?_
  show gM p e below _ T680 m 73 #[rv a1, lv q1, sN, lv q2, sN, uN, uN] [(.long q2), (.long q1), (.ref a1)]
  obtain ⟨cq682, q682, q682'⟩ := E_a1.cell
  obtain ⟨_, _, ⟨T682, L682, k682, n682⟩, -, X682, ⟨Lc682, hQ682, l682, y682, z682⟩, st682⟩ := X680.privateBack hx (y := (⟨oS, "append", "(JJ)V"⟩ : MethodName)) hown (mvT hZ w44) (mvT hZ w45) (own_selp hZ w1 w46 w45 (by decide)) (Cond.privateMethod_at (mvP hZ w46 (args := #[]))) (mvT hZ w47) (by decide) (backOf (W := 0) (own_ap1 l Z a0 hw [] a1 q1 q2 (bb) (cc) (kb) (kc) (z1) (xs1) (ys1) (mo) ((.int 1)) (.null) h0 n0 Z0 E_a1 g_a1 F_size_a1 F_most_a1 F_blocks_a1 F_bits_a1 V_bb V_cc g_bb g_cc ne_a1_bb ne_a1_cc ne_bb_cc hz hxl hyl F_ordered_a1 F_table_a1) hZ w47 w2 (by decide) (by decide)) (g := (mkF m 73 #[rv a1, lv q1, sN, lv q2, sN, uN, uN] [(.long q2), (.long q1), (.ref a1)])) rfl (by rw [hml]; rfl) (Steps.refl _) (a := a1) (by rw [e680]; exact q682) q682' (argsL := [(.long q1), (.long q2)]) (rest := []) (lenOf own_pd7 rfl) rfl (by show 2 * 0 + _ ≤ _; exact Nat.le_of_eq rfl) (hb hby d16_73) (fun _ _ => ⟨rfl, e680, (by decide : 0 + 2 ≤ _), (by decide : 0 + 4 ≤ _)⟩)
  dsimp only [Pt.U, Pt.locs, Pt.cells, Pt.slots] at X682 l682 y682 z682 st682 hQ682
  subst y682 z682
  obtain ⟨b2_682, c2_682, k2_682, k3_682, z2_682, xs2_682, ys2_682, rfl, N682q, K682c, f682_0, f682_1, f682_2, f682_3, f682_4, f682_5, f682_6, f682_7, f682_8, f682_9, f682_10, f682_11, f682_12, f682_13, f682_14, f682_15, f682_16, f682_17, f682_18⟩ := hQ682
  have N682 : Fr n0 L682 := by rw [l682]; exact Fr.app N0 N682q
  refine own_jump st682 ?_
  have K683 : Keep h0 T682.heap [a1, bb, cc] := K0.trans K682c (allS (Or.inl (List.mem_of_getElem? (i := 0) rfl)) (allS (Or.inl (List.mem_of_getElem? (i := 1) rfl)) (allS (Or.inl (List.mem_of_getElem? (i := 2) rfl)) all0)))
  show gM p e below _ T682 m 76 #[rv a1, lv q1, sN, lv q2, sN, uN, uN] []
  have sz_b2_682 : h0.size ≤ b2_682 ∨ b2_682 = bb := f682_0.imp (Nat.le_trans K0.1) id
  have sz_c2_682 : h0.size ≤ c2_682 ∨ c2_682 = cc := f682_1.imp (Nat.le_trans K0.1) id
  refine sT (fun t k => XS.aloadN X682.here hx rfl (hb hby d16_76) rfl rfl k) ?_
  show gM p e below _ T682 m 77 #[rv a1, lv q1, sN, lv q2, sN, uN, uN] [(.ref a1)]
  refine sT (fun t k => XS.aloadN X682.here hx rfl (hb hby d16_77) rfl rfl k) ?_
  show gM p e below _ T682 m 78 #[rv a1, lv q1, sN, lv q2, sN, uN, uN] [(.ref a1), (.ref a1)]
  obtain ⟨T684, X684, e684, st684⟩ := getF X682 hx hZ hown (host := "") (Or.inl w42) Via.refl rfl f682_6 (g := (mkF m 78 #[rv a1, lv q1, sN, lv q2, sN, uN, uN] [(.ref a1), (.ref a1)])) rfl rfl (hb hby d16_78)
  refine sT st684 ?_
  show gM p e below _ T684 m 81 #[rv a1, lv q1, sN, lv q2, sN, uN, uN] [(.int 2), (.ref a1)]
  obtain ⟨T685, h685, X685, e685, W685, st685⟩ := putF X684 hx hZ hown (host := "") (Or.inl w48) Via.refl e684 f682_10 f682_5 (Or.inl w49) w1 (ty := .int) (by decide) rfl rfl (g := (mkF m 81 #[rv a1, lv q1, sN, lv q2, sN, uN, uN] [(.int 2), (.ref a1)])) rfl rfl (hb hby d16_81)
  have Fw685 := f682_10.same W685
  have N685 := Fr.snoc X685 N682 g_a1
  have K686 : Keep h0 h685 [a1, bb, cc] := K683.wr W685 (Or.inl (List.mem_of_getElem? (i := 0) rfl))
  refine sT st685 ?_
  show gM p e below _ T685 m 84 #[rv a1, lv q1, sN, lv q2, sN, uN, uN] []
  refine sT (fun t k => XS.iconst X685.here hx rfl (hb hby d16_84) k) ?_
  show gM p e below _ T685 m 85 #[rv a1, lv q1, sN, lv q2, sN, uN, uN] [(.int 1)]
  refine own_retV X685 hx hlk Bd.returns (w := (.int 1)) (own_nb (Or.inr rfl)) (Or.inl ⟨rfl, Or.inr (Or.inl rfl), _, rfl⟩) (hb hby d16_85) ?_ (by decide) (by decide)
  show own_ag1_Q Z a1 q1 q2 bb cc kb kc z1 xs1 ys1 mo h0 n0 _ T685.heap _
  rw [e685]
  exact ⟨b2_682, c2_682, k2_682, k3_682, z2_682, xs2_682, ys2_682, rfl, N685, K686, (f682_0.imp (Nat.le_trans K0.1) id), (f682_1.imp (Nat.le_trans K0.1) id), f682_2, f682_3, f682_4, (f682_5.wr W685), (f682_6.other W685 (Or.inr (slot_ne (Or.inl w43) (Or.inl w49) (by decide) (t := .int) (t' := .int) (by decide) (by decide)))), (f682_7.other W685 (Or.inr (slot_ne (Or.inl w14) (Or.inl w49) (by decide) (t := .int) (t' := .int) (by decide) (by decide)))), (f682_8.other W685 (Or.inr (slot_ne (Or.inl w21) (Or.inl w49) (by decide) (t := (.array .long)) (t' := .int) (by decide) (by decide)))), (f682_9.other W685 (Or.inr (slot_ne (Or.inl w23) (Or.inl w49) (by decide) (t := (.array .long)) (t' := .int) (by decide) (by decide)))), Fw685, (f682_12.other W685 (Ne.symm f682_2)), (f682_13.other W685 (Ne.symm f682_3)), f682_14, f682_15, f682_16, f682_17, f682_18, (f682_11.other W685 (Or.inr (slot_ne (Or.inl w36) (Or.inl w49) (by decide) (t := (.array .int)) (t' := .int) (by decide) (by decide))))⟩
theorem own_ag2_ef (m : MethodId) (a1 : Addr) (q1 : Int64) (q2 : Int64) : entryFrame m #[(.ref a1), (.long q1), (.long q2)] 7 = mkF m 0 #[rv a1, lv q1, sN, lv q2, sN, uN, uN] [] := by first | (simp [entryFrame, mkF, argsToLocals, Value.category]; done) | rfl
def own_ag2_Q (Z : State) (a1 : Addr) (q1 : Int64) (q2 : Int64) (bb : Addr) (cc : Addr) (kb : ClassId) (kc : ClassId) (z1 : Int32) (xs1 : List Int64) (ys1 : List Int64) (mo : Int32) (h0 : Heap) (n0 : Nat) (v : Option Value) (h : Heap) (L : List Loc) : Prop := ∃ b2 : Addr, ∃ c2 : Addr, ∃ k2 : ClassId, ∃ k3 : ClassId, ∃ z2 : Int32, ∃ xs2 : List Int64, ∃ ys2 : List Int64, v = some (.int 1) ∧ Fr n0 L ∧ Keep h0 h [a1, bb, cc] ∧ (h0.size ≤ b2 ∨ b2 = bb) ∧ (h0.size ≤ c2 ∨ c2 = cc) ∧ a1 ≠ b2 ∧ a1 ≠ c2 ∧ b2 ≠ c2 ∧ Exa Z h a1 oS ∧ Fld Z h a1 oS "size" "I" (.int 3) ∧ Fld Z h a1 oS "most" "I" (.int mo) ∧ Fld Z h a1 oS "blocks" "[J" (.ref b2) ∧ Fld Z h a1 oS "bits" "[J" (.ref c2) ∧ Fld Z h a1 oS "ordered" "I" (.int 3) ∧ Arv Z h b2 k2 .long z2 (xs2.map Value.long) (Value.long 0) ∧ Arv Z h c2 k3 .long z2 (ys2.map Value.long) (Value.long 0) ∧ z2 = own_nl (2 : Int32) z1 mo ∧ xs2.length = z2.toNatClampNeg ∧ ys2.length = z2.toNatClampNeg ∧ xs2.getD (0 : Int32).toNatClampNeg 0 = xs1.getD (0 : Int32).toNatClampNeg 0 ∧ xs2.getD (1 : Int32).toNatClampNeg 0 = xs1.getD (1 : Int32).toNatClampNeg 0 ∧ xs2.getD (2 : Int32).toNatClampNeg 0 = q1 ∧ Fld Z h a1 oS "table" "[I" .null
set_option maxRecDepth 65536 in
set_option maxHeartbeats 40000000 in
theorem own_ag2 (l : Launch) (Z : State) (a0 : Array Value) (hw : ∀ d ∈ tables_1, d.before a0 Z = true) (ws : List Jvm.Cond) (a1 : Addr) (q1 : Int64) (q2 : Int64) (bb : Addr) (cc : Addr) (kb : ClassId) (kc : ClassId) (z1 : Int32) (xs1 : List Int64) (ys1 : List Int64) (mo : Int32) (h0 : Heap) (n0 : Nat) (Z0 : n0 ≤ h0.size) (E_a1 : Exa Z h0 a1 oS) (g_a1 : n0 ≤ a1) (F_size_a1 : Fld Z h0 a1 oS "size" "I" (.int 2)) (F_most_a1 : Fld Z h0 a1 oS "most" "I" (.int mo)) (F_blocks_a1 : Fld Z h0 a1 oS "blocks" "[J" (.ref bb)) (F_bits_a1 : Fld Z h0 a1 oS "bits" "[J" (.ref cc)) (V_bb : Arv Z h0 bb kb .long z1 (xs1.map Value.long) (Value.long 0)) (V_cc : Arv Z h0 cc kc .long z1 (ys1.map Value.long) (Value.long 0)) (g_bb : n0 ≤ bb) (g_cc : n0 ≤ cc) (ne_a1_bb : a1 ≠ bb) (ne_a1_cc : a1 ≠ cc) (ne_bb_cc : bb ≠ cc) (hz : ¬ z1 < (2 : Int32)) (hxl : xs1.length = z1.toNatClampNeg) (hyl : ys1.length = z1.toNatClampNeg) (F_ordered_a1 : Fld Z h0 a1 oS "ordered" "I" (.int 2)) (F_table_a1 : Fld Z h0 a1 oS "table" "[I" .null) (hnq : ¬ (xs1.getD (1 : Int32).toNatClampNeg 0) = q1) (hgt : (xs1.getD (1 : Int32).toNatClampNeg 0) < q1) :
    MetFree l (⟨oS, "add", "(JJ)Z"⟩ : MethodName) (head1 (Jvm.Cond.code (⟨oS, "add", "(JJ)Z"⟩ : MethodName) prog_128_method_8_code 7 (some .boolean) :: ws) ({ frames := 3, cells := 2, slots := 8, locals := 50 } : Room)) (fun aa U => aa = #[(.ref a1), (.long q1), (.long q2)] ∧ Z.Warmed39 U.vm ∧ U.heap = h0) (fun _ _ _ _ _ => True) (fun _ U o U' => ∃ v L, o = .returned v ∧ own_ag2_Q Z a1 q1 q2 bb cc kb kc z1 xs1 ys1 mo h0 n0 v U'.heap L ∧ FrameEnd U o U' L ({ frames := 3, cells := 2, slots := 8, locals := 50 } : Room).cells ({ frames := 3, cells := 2, slots := 8, locals := 50 } : Room).slots) := by
  refine MetFree.of_bodySF (plainFor_of_name own_pn0) hisR ?_
  have w1 := hw _ (List.mem_of_getElem? (i := 1) rfl)
  have w2 := hw _ (List.mem_of_getElem? (i := 2) rfl)
  have w14 := hw _ (List.mem_of_getElem? (i := 14) rfl)
  have w20 := hw _ (List.mem_of_getElem? (i := 20) rfl)
  have w21 := hw _ (List.mem_of_getElem? (i := 21) rfl)
  have w23 := hw _ (List.mem_of_getElem? (i := 23) rfl)
  have w35 := hw _ (List.mem_of_getElem? (i := 35) rfl)
  have w36 := hw _ (List.mem_of_getElem? (i := 36) rfl)
  have w42 := hw _ (List.mem_of_getElem? (i := 42) rfl)
  have w43 := hw _ (List.mem_of_getElem? (i := 43) rfl)
  have w44 := hw _ (List.mem_of_getElem? (i := 44) rfl)
  have w45 := hw _ (List.mem_of_getElem? (i := 45) rfl)
  have w46 := hw _ (List.mem_of_getElem? (i := 46) rfl)
  have w47 := hw _ (List.mem_of_getElem? (i := 47) rfl)
  have w48 := hw _ (List.mem_of_getElem? (i := 48) rfl)
  have w49 := hw _ (List.mem_of_getElem? (i := 49) rfl)
  intro p e s m args below meth c s₁ Bd hml0 hP hK
  obtain ⟨rfl, hZ, hh⟩ := hP
  have hx := Bd.exec
  have hby := Bd.bytes
  have hlk := Bd.notSynchronized
  have hml : c.maxLocals = 7 := hml0
  have hown : s.vm.findClass oS = some m.cls := findClass_of_methodNamed Bd.named
  have hnm := (name_of_methodNamed Bd.named Bd.method).1
  have X0 : Stand p l e ({ frames := 3, cells := 2, slots := 8, locals := 50 } : Room) s m #[(.ref a1), (.long q1), (.long q2)] below meth c s₁ [] 0 0 := Stand.of_body Bd
  have e0 : s₁.heap = h0 := by rw [← hh, Bd.state]; rfl
  have N0 := Fr.nil n0
  have K0 : Keep h0 h0 [a1, bb, cc] := Keep.refl h0 _
  show gS p e below (own_Fin s (own_ag2_Q Z a1 q1 q2 bb cc kb kc z1 xs1 ys1 mo h0 n0) ({ frames := 3, cells := 2, slots := 8, locals := 50 } : Room).cells ({ frames := 3, cells := 2, slots := 8, locals := 50 } : Room).slots) _
  refine sT (fun t k => castTop (own_ag2_ef m a1 q1 q2) k) ?_
  show gM p e below _ s₁ m 0 #[rv a1, lv q1, sN, lv q2, sN, uN, uN] []
  refine sT (fun t k => XS.aloadN X0.here hx rfl (hb hby d16_0) rfl rfl k) ?_
  show gM p e below _ s₁ m 1 #[rv a1, lv q1, sN, lv q2, sN, uN, uN] [(.ref a1)]
  obtain ⟨T703, X703, e703, st703⟩ := getF X0 hx hZ hown (host := "") (Or.inl w42) Via.refl e0 F_size_a1 (g := (mkF m 1 #[rv a1, lv q1, sN, lv q2, sN, uN, uN] [(.ref a1)])) rfl rfl (hb hby d16_1)
  refine sT st703 ?_
  show gM p e below _ T703 m 4 #[rv a1, lv q1, sN, lv q2, sN, uN, uN] [(.int 2)]
  have hc704 : (0 : Int32) < (2 : Int32) := by decide
  refine sT (fun t k => XS.ifNo X703.here hx rfl (hb hby d16_4) rfl ((if0 _ _).trans (tlt hc704).2.2.2) k) ?_
  show gM p e below _ T703 m 7 #[rv a1, lv q1, sN, lv q2, sN, uN, uN] []
  refine sT (fun t k => XS.aloadN X703.here hx rfl (hb hby d16_7) rfl rfl k) ?_
  show gM p e below _ T703 m 8 #[rv a1, lv q1, sN, lv q2, sN, uN, uN] [(.ref a1)]
  obtain ⟨T705, X705, e705, st705⟩ := getF X703 hx hZ hown (host := "") (Or.inl w20) Via.refl e703 F_blocks_a1 (g := (mkF m 8 #[rv a1, lv q1, sN, lv q2, sN, uN, uN] [(.ref a1)])) rfl rfl (hb hby d16_8)
  refine sT st705 ?_
  show gM p e below _ T705 m 11 #[rv a1, lv q1, sN, lv q2, sN, uN, uN] [(.ref bb)]
  refine sT (fun t k => XS.aloadN X705.here hx rfl (hb hby d16_11) rfl rfl k) ?_
  show gM p e below _ T705 m 12 #[rv a1, lv q1, sN, lv q2, sN, uN, uN] [(.ref a1), (.ref bb)]
  obtain ⟨T706, X706, e706, st706⟩ := getF X705 hx hZ hown (host := "") (Or.inl w42) Via.refl e705 F_size_a1 (g := (mkF m 12 #[rv a1, lv q1, sN, lv q2, sN, uN, uN] [(.ref a1), (.ref bb)])) rfl rfl (hb hby d16_12)
  refine sT st706 ?_
  show gM p e below _ T706 m 15 #[rv a1, lv q1, sN, lv q2, sN, uN, uN] [(.int 2), (.ref bb)]
  refine sT (fun t k => XS.iconst X706.here hx rfl (hb hby d16_15) k) ?_
  show gM p e below _ T706 m 16 #[rv a1, lv q1, sN, lv q2, sN, uN, uN] [(.int 1), (.int 2), (.ref bb)]
  refine sT (fun t k => XS.isub X706.here hx rfl (hb hby d16_16) rfl k) ?_
  show gM p e below _ T706 m 17 #[rv a1, lv q1, sN, lv q2, sN, uN, uN] [(.int 1), (.ref bb)]
  refine sT (fun t k => own_lal X706 hx hZ e706 V_bb (own_j (by decide) (by decide) hz) (g := (mkF m 17 #[rv a1, lv q1, sN, lv q2, sN, uN, uN] [(.int 1), (.ref bb)])) rfl rfl (hb hby d16_17) _ k) ?_
  show gM p e below _ T706 m 18 #[rv a1, lv q1, sN, lv q2, sN, uN, uN] [(.long (xs1.getD (1 : Int32).toNatClampNeg 0))]
  refine sT (fun t k => XS.lloadN X706.here hx rfl (hb hby d16_18) rfl k) ?_
  show gM p e below _ T706 m 19 #[rv a1, lv q1, sN, lv q2, sN, uN, uN] [(.long q1), (.long (xs1.getD (1 : Int32).toNatClampNeg 0))]
  refine sT (fun t k => XS.lcmp X706.here hx rfl (hb hby d16_19) rfl k) ?_
  show gM p e below _ T706 m 20 #[rv a1, lv q1, sN, lv q2, sN, uN, uN] [(.int (lcmpW (xs1.getD (1 : Int32).toNatClampNeg 0) q1))]
  have hc707 : ¬ ((xs1.getD (1 : Int32).toNatClampNeg 0) = q1) := hnq
  refine sT (fun t k => XS.ifYes X706.here hx rfl (pc0 := 20) (pc' := 40) rfl (hb hby d16_20) rfl ((if0 _ _).trans (feq (fun zq => hc707 ((lw_eq (xs1.getD (1 : Int32).toNatClampNeg 0) q1).mp zq))).2) (by decide) (by decide) k) ?_
  show gM p e below _ T706 m 40 #[rv a1, lv q1, sN, lv q2, sN, uN, uN] []
  refine sT (fun t k => XS.aloadN X706.here hx rfl (hb hby d16_40) rfl rfl k) ?_
  show gM p e below _ T706 m 41 #[rv a1, lv q1, sN, lv q2, sN, uN, uN] [(.ref a1)]
  obtain ⟨T708, X708, e708, st708⟩ := getF X706 hx hZ hown (host := "") (Or.inl w35) Via.refl e706 F_table_a1 (g := (mkF m 41 #[rv a1, lv q1, sN, lv q2, sN, uN, uN] [(.ref a1)])) rfl rfl (hb hby d16_41)
  refine sT st708 ?_
  show gM p e below _ T708 m 44 #[rv a1, lv q1, sN, lv q2, sN, uN, uN] [.null]
  refine sT (fun t k => XS.ifnonnullNo X708.here hx rfl (hb hby d16_44) rfl k) ?_
  show gM p e below _ T708 m 47 #[rv a1, lv q1, sN, lv q2, sN, uN, uN] []
  refine sT (fun t k => XS.aloadN X708.here hx rfl (hb hby d16_47) rfl rfl k) ?_
  show gM p e below _ T708 m 48 #[rv a1, lv q1, sN, lv q2, sN, uN, uN] [(.ref a1)]
  obtain ⟨T709, X709, e709, st709⟩ := getF X708 hx hZ hown (host := "") (Or.inl w42) Via.refl e708 F_size_a1 (g := (mkF m 48 #[rv a1, lv q1, sN, lv q2, sN, uN, uN] [(.ref a1)])) rfl rfl (hb hby d16_48)
  refine sT st709 ?_
  show gM p e below _ T709 m 51 #[rv a1, lv q1, sN, lv q2, sN, uN, uN] [(.int 2)]
  have hc710 : ¬ ((2 : Int32) = (0 : Int32)) := by decide
  refine sT (fun t k => XS.ifNo X709.here hx rfl (hb hby d16_51) rfl ((if0 _ _).trans (feq hc710).1) k) ?_
  show gM p e below _ T709 m 54 #[rv a1, lv q1, sN, lv q2, sN, uN, uN] []
  refine sT (fun t k => XS.lloadN X709.here hx rfl (hb hby d16_54) rfl k) ?_
  show gM p e below _ T709 m 55 #[rv a1, lv q1, sN, lv q2, sN, uN, uN] [(.long q1)]
  refine sT (fun t k => XS.aloadN X709.here hx rfl (hb hby d16_55) rfl rfl k) ?_
  show gM p e below _ T709 m 56 #[rv a1, lv q1, sN, lv q2, sN, uN, uN] [(.ref a1), (.long q1)]
  obtain ⟨T711, X711, e711, st711⟩ := getF X709 hx hZ hown (host := "") (Or.inl w20) Via.refl e709 F_blocks_a1 (g := (mkF m 56 #[rv a1, lv q1, sN, lv q2, sN, uN, uN] [(.ref a1), (.long q1)])) rfl rfl (hb hby d16_56)
  refine sT st711 ?_
  show gM p e below _ T711 m 59 #[rv a1, lv q1, sN, lv q2, sN, uN, uN] [(.ref bb), (.long q1)]
  refine sT (fun t k => XS.aloadN X711.here hx rfl (hb hby d16_59) rfl rfl k) ?_
  show gM p e below _ T711 m 60 #[rv a1, lv q1, sN, lv q2, sN, uN, uN] [(.ref a1), (.ref bb), (.long q1)]
  obtain ⟨T712, X712, e712, st712⟩ := getF X711 hx hZ hown (host := "") (Or.inl w42) Via.refl e711 F_size_a1 (g := (mkF m 60 #[rv a1, lv q1, sN, lv q2, sN, uN, uN] [(.ref a1), (.ref bb), (.long q1)])) rfl rfl (hb hby d16_60)
  refine sT st712 ?_
  show gM p e below _ T712 m 63 #[rv a1, lv q1, sN, lv q2, sN, uN, uN] [(.int 2), (.ref bb), (.long q1)]
  refine sT (fun t k => XS.iconst X712.here hx rfl (hb hby d16_63) k) ?_
  show gM p e below _ T712 m 64 #[rv a1, lv q1, sN, lv q2, sN, uN, uN] [(.int 1), (.int 2), (.ref bb), (.long q1)]
  refine sT (fun t k => XS.isub X712.here hx rfl (hb hby d16_64) rfl k) ?_
  show gM p e below _ T712 m 65 #[rv a1, lv q1, sN, lv q2, sN, uN, uN] [(.int 1), (.ref bb), (.long q1)]
  refine sT (fun t k => own_lal X712 hx hZ e712 V_bb (own_j (by decide) (by decide) hz) (g := (mkF m 65 #[rv a1, lv q1, sN, lv q2, sN, uN, uN] [(.int 1), (.ref bb), (.long q1)])) rfl rfl (hb hby d16_65) _ k) ?_
  show gM p e below _ T712 m 66 #[rv a1, lv q1, sN, lv q2, sN, uN, uN] [(.long (xs1.getD (1 : Int32).toNatClampNeg 0)), (.long q1)]
  refine sT (fun t k => XS.lcmp X712.here hx rfl (hb hby d16_66) rfl k) ?_
  show gM p e below _ T712 m 67 #[rv a1, lv q1, sN, lv q2, sN, uN, uN] [(.int (lcmpW q1 (xs1.getD (1 : Int32).toNatClampNeg 0)))]
  have hc713 : (xs1.getD (1 : Int32).toNatClampNeg 0) < q1 := hgt
  refine sT (fun t k => XS.ifNo X712.here hx rfl (hb hby d16_67) rfl ((if0 _ _).trans (tlt ((lw_gt q1 (xs1.getD (1 : Int32).toNatClampNeg 0)).mpr hc713)).2.2.2) k) ?_
  show gM p e below _ T712 m 70 #[rv a1, lv q1, sN, lv q2, sN, uN, uN] []
  refine sT (fun t k => XS.aloadN X712.here hx rfl (hb hby d16_70) rfl rfl k) ?_
  show gM p e below _ T712 m 71 #[rv a1, lv q1, sN, lv q2, sN, uN, uN] [(.ref a1)]
  refine sT (fun t k => XS.lloadN X712.here hx rfl (hb hby d16_71) rfl k) ?_
  show gM p e below _ T712 m 72 #[rv a1, lv q1, sN, lv q2, sN, uN, uN] [(.long q1), (.ref a1)]
  refine sT (fun t k => XS.lloadN X712.here hx rfl (hb hby d16_72) rfl k) ?_
  show gM p e below _ T712 m 73 #[rv a1, lv q1, sN, lv q2, sN, uN, uN] [(.long q2), (.long q1), (.ref a1)]
  obtain ⟨cq714, q714, q714'⟩ := E_a1.cell
  obtain ⟨_, _, ⟨T714, L714, k714, n714⟩, -, X714, ⟨Lc714, hQ714, l714, y714, z714⟩, st714⟩ := X712.privateBack hx (y := (⟨oS, "append", "(JJ)V"⟩ : MethodName)) hown (mvT hZ w44) (mvT hZ w45) (own_selp hZ w1 w46 w45 (by decide)) (Cond.privateMethod_at (mvP hZ w46 (args := #[]))) (mvT hZ w47) (by decide) (backOf (W := 0) (own_ap2 l Z a0 hw [] a1 q1 q2 (bb) (cc) (kb) (kc) (z1) (xs1) (ys1) (mo) ((.int 2)) (.null) h0 n0 Z0 E_a1 g_a1 F_size_a1 F_most_a1 F_blocks_a1 F_bits_a1 V_bb V_cc g_bb g_cc ne_a1_bb ne_a1_cc ne_bb_cc hz hxl hyl F_ordered_a1 F_table_a1) hZ w47 w2 (by decide) (by decide)) (g := (mkF m 73 #[rv a1, lv q1, sN, lv q2, sN, uN, uN] [(.long q2), (.long q1), (.ref a1)])) rfl (by rw [hml]; rfl) (Steps.refl _) (a := a1) (by rw [e712]; exact q714) q714' (argsL := [(.long q1), (.long q2)]) (rest := []) (lenOf own_pd7 rfl) rfl (by show 2 * 0 + _ ≤ _; exact Nat.le_of_eq rfl) (hb hby d16_73) (fun _ _ => ⟨rfl, e712, (by decide : 0 + 2 ≤ _), (by decide : 0 + 8 ≤ _)⟩)
  dsimp only [Pt.U, Pt.locs, Pt.cells, Pt.slots] at X714 l714 y714 z714 st714 hQ714
  subst y714 z714
  obtain ⟨b2_714, c2_714, k2_714, k3_714, z2_714, xs2_714, ys2_714, rfl, N714q, K714c, f714_0, f714_1, f714_2, f714_3, f714_4, f714_5, f714_6, f714_7, f714_8, f714_9, f714_10, f714_11, f714_12, f714_13, f714_14, f714_15, f714_16, f714_17, f714_18, f714_19⟩ := hQ714
  have N714 : Fr n0 L714 := by rw [l714]; exact Fr.app N0 N714q
  refine own_jump st714 ?_
  have K715 : Keep h0 T714.heap [a1, bb, cc] := K0.trans K714c (allS (Or.inl (List.mem_of_getElem? (i := 0) rfl)) (allS (Or.inl (List.mem_of_getElem? (i := 1) rfl)) (allS (Or.inl (List.mem_of_getElem? (i := 2) rfl)) all0)))
  show gM p e below _ T714 m 76 #[rv a1, lv q1, sN, lv q2, sN, uN, uN] []
  have sz_b2_714 : h0.size ≤ b2_714 ∨ b2_714 = bb := f714_0.imp (Nat.le_trans K0.1) id
  have sz_c2_714 : h0.size ≤ c2_714 ∨ c2_714 = cc := f714_1.imp (Nat.le_trans K0.1) id
  refine sT (fun t k => XS.aloadN X714.here hx rfl (hb hby d16_76) rfl rfl k) ?_
  show gM p e below _ T714 m 77 #[rv a1, lv q1, sN, lv q2, sN, uN, uN] [(.ref a1)]
  refine sT (fun t k => XS.aloadN X714.here hx rfl (hb hby d16_77) rfl rfl k) ?_
  show gM p e below _ T714 m 78 #[rv a1, lv q1, sN, lv q2, sN, uN, uN] [(.ref a1), (.ref a1)]
  obtain ⟨T716, X716, e716, st716⟩ := getF X714 hx hZ hown (host := "") (Or.inl w42) Via.refl rfl f714_6 (g := (mkF m 78 #[rv a1, lv q1, sN, lv q2, sN, uN, uN] [(.ref a1), (.ref a1)])) rfl rfl (hb hby d16_78)
  refine sT st716 ?_
  show gM p e below _ T716 m 81 #[rv a1, lv q1, sN, lv q2, sN, uN, uN] [(.int 3), (.ref a1)]
  obtain ⟨T717, h717, X717, e717, W717, st717⟩ := putF X716 hx hZ hown (host := "") (Or.inl w48) Via.refl e716 f714_10 f714_5 (Or.inl w49) w1 (ty := .int) (by decide) rfl rfl (g := (mkF m 81 #[rv a1, lv q1, sN, lv q2, sN, uN, uN] [(.int 3), (.ref a1)])) rfl rfl (hb hby d16_81)
  have Fw717 := f714_10.same W717
  have N717 := Fr.snoc X717 N714 g_a1
  have K718 : Keep h0 h717 [a1, bb, cc] := K715.wr W717 (Or.inl (List.mem_of_getElem? (i := 0) rfl))
  refine sT st717 ?_
  show gM p e below _ T717 m 84 #[rv a1, lv q1, sN, lv q2, sN, uN, uN] []
  refine sT (fun t k => XS.iconst X717.here hx rfl (hb hby d16_84) k) ?_
  show gM p e below _ T717 m 85 #[rv a1, lv q1, sN, lv q2, sN, uN, uN] [(.int 1)]
  refine own_retV X717 hx hlk Bd.returns (w := (.int 1)) (own_nb (Or.inr rfl)) (Or.inl ⟨rfl, Or.inr (Or.inl rfl), _, rfl⟩) (hb hby d16_85) ?_ (by decide) (by decide)
  show own_ag2_Q Z a1 q1 q2 bb cc kb kc z1 xs1 ys1 mo h0 n0 _ T717.heap _
  rw [e717]
  exact ⟨b2_714, c2_714, k2_714, k3_714, z2_714, xs2_714, ys2_714, rfl, N717, K718, (f714_0.imp (Nat.le_trans K0.1) id), (f714_1.imp (Nat.le_trans K0.1) id), f714_2, f714_3, f714_4, (f714_5.wr W717), (f714_6.other W717 (Or.inr (slot_ne (Or.inl w43) (Or.inl w49) (by decide) (t := .int) (t' := .int) (by decide) (by decide)))), (f714_7.other W717 (Or.inr (slot_ne (Or.inl w14) (Or.inl w49) (by decide) (t := .int) (t' := .int) (by decide) (by decide)))), (f714_8.other W717 (Or.inr (slot_ne (Or.inl w21) (Or.inl w49) (by decide) (t := (.array .long)) (t' := .int) (by decide) (by decide)))), (f714_9.other W717 (Or.inr (slot_ne (Or.inl w23) (Or.inl w49) (by decide) (t := (.array .long)) (t' := .int) (by decide) (by decide)))), Fw717, (f714_12.other W717 (Ne.symm f714_2)), (f714_13.other W717 (Ne.symm f714_3)), f714_14, f714_15, f714_16, f714_17, f714_18, f714_19, (f714_11.other W717 (Or.inr (slot_ne (Or.inl w36) (Or.inl w49) (by decide) (t := (.array .int)) (t' := .int) (by decide) (by decide))))⟩
theorem d16_86 : decode prog_128_method_8_code 86 = .ok (.aload_n 0, 1) := by decide +kernel
theorem d16_87 : decode prog_128_method_8_code 87 = .ok (.getfield 25, 3) := by decide +kernel
theorem d16_90 : decode prog_128_method_8_code 90 = .ok (.iconst 0, 1) := by decide +kernel
theorem d16_91 : decode prog_128_method_8_code 91 = .ok (.aload_n 0, 1) := by decide +kernel
theorem d16_92 : decode prog_128_method_8_code 92 = .ok (.getfield 59, 3) := by decide +kernel
theorem d16_95 : decode prog_128_method_8_code 95 = .ok (.lload_n 1, 1) := by decide +kernel
theorem d16_96 : decode prog_128_method_8_code 96 = .ok (.invokestatic 62, 3) := by decide +kernel
theorem d16_99 : decode prog_128_method_8_code 99 = .ok (.istore 5, 2) := by decide +kernel
theorem d16_101 : decode prog_128_method_8_code 101 = .ok (.iload 5, 2) := by decide +kernel
theorem d16_103 : decode prog_128_method_8_code 103 = .ok (.ifCond .lt 16, 3) := by decide +kernel
theorem d16_119 : decode prog_128_method_8_code 119 = .ok (.aload_n 0, 1) := by decide +kernel
theorem d16_120 : decode prog_128_method_8_code 120 = .ok (.getfield 49, 3) := by decide +kernel
theorem d16_123 : decode prog_128_method_8_code 123 = .ok (.ifnonnull 9, 3) := by decide +kernel
theorem d16_126 : decode prog_128_method_8_code 126 = .ok (.aload_n 0, 1) := by decide +kernel
theorem d16_127 : decode prog_128_method_8_code 127 = .ok (.bipush 32, 2) := by decide +kernel
theorem d16_129 : decode prog_128_method_8_code 129 = .ok (.invokevirtual 68, 3) := by decide +kernel
theorem d16_132 : decode prog_128_method_8_code 132 = .ok (.aload_n 0, 1) := by decide +kernel
theorem d16_133 : decode prog_128_method_8_code 133 = .ok (.lload_n 1, 1) := by decide +kernel
theorem own_pd8 : parseMethodDescriptor "(J)I" = some ⟨[.long], some .int⟩ := by decide +kernel
theorem d16_134 : decode prog_128_method_8_code 134 = .ok (.invokevirtual 71, 3) := by decide +kernel
theorem d16_137 : decode prog_128_method_8_code 137 = .ok (.istore 6, 2) := by decide +kernel
theorem d16_139 : decode prog_128_method_8_code 139 = .ok (.aload_n 0, 1) := by decide +kernel
theorem d16_140 : decode prog_128_method_8_code 140 = .ok (.getfield 49, 3) := by decide +kernel
theorem d16_143 : decode prog_128_method_8_code 143 = .ok (.iload 6, 2) := by decide +kernel
theorem d16_145 : decode prog_128_method_8_code 145 = .ok (.iaload, 1) := by decide +kernel
theorem d16_146 : decode prog_128_method_8_code 146 = .ok (.ifCond .eq 23, 3) := by decide +kernel
theorem d16_169 : decode prog_128_method_8_code 169 = .ok (.aload_n 0, 1) := by decide +kernel
theorem d16_170 : decode prog_128_method_8_code 170 = .ok (.lload_n 1, 1) := by decide +kernel
theorem d16_171 : decode prog_128_method_8_code 171 = .ok (.lload_n 3, 1) := by decide +kernel
theorem d16_172 : decode prog_128_method_8_code 172 = .ok (.invokevirtual 55, 3) := by decide +kernel
theorem d16_175 : decode prog_128_method_8_code 175 = .ok (.aload_n 0, 1) := by decide +kernel
theorem d16_176 : decode prog_128_method_8_code 176 = .ok (.getfield 49, 3) := by decide +kernel
theorem d16_179 : decode prog_128_method_8_code 179 = .ok (.iload 6, 2) := by decide +kernel
theorem d16_181 : decode prog_128_method_8_code 181 = .ok (.aload_n 0, 1) := by decide +kernel
theorem d16_182 : decode prog_128_method_8_code 182 = .ok (.getfield 44, 3) := by decide +kernel
theorem d16_185 : decode prog_128_method_8_code 185 = .ok (.iastore, 1) := by decide +kernel
theorem d16_186 : decode prog_128_method_8_code 186 = .ok (.iconst 2, 1) := by decide +kernel
theorem d16_187 : decode prog_128_method_8_code 187 = .ok (.aload_n 0, 1) := by decide +kernel
theorem d16_188 : decode prog_128_method_8_code 188 = .ok (.getfield 44, 3) := by decide +kernel
theorem d16_191 : decode prog_128_method_8_code 191 = .ok (.aload_n 0, 1) := by decide +kernel
theorem d16_192 : decode prog_128_method_8_code 192 = .ok (.getfield 59, 3) := by decide +kernel
theorem d16_195 : decode prog_128_method_8_code 195 = .ok (.isub, 1) := by decide +kernel
theorem d16_196 : decode prog_128_method_8_code 196 = .ok (.imul, 1) := by decide +kernel
theorem d16_197 : decode prog_128_method_8_code 197 = .ok (.aload_n 0, 1) := by decide +kernel
theorem d16_198 : decode prog_128_method_8_code 198 = .ok (.getfield 49, 3) := by decide +kernel
theorem d16_201 : decode prog_128_method_8_code 201 = .ok (.arraylength, 1) := by decide +kernel
theorem d16_202 : decode prog_128_method_8_code 202 = .ok (.if_icmp .le 14, 3) := by decide +kernel
theorem d16_216 : decode prog_128_method_8_code 216 = .ok (.iconst 1, 1) := by decide +kernel
theorem d16_217 : decode prog_128_method_8_code 217 = .ok (.ireturn, 1) := by decide +kernel
theorem own_al1_ef (m : MethodId) (a1 : Addr) (q1 : Int64) (q2 : Int64) : entryFrame m #[(.ref a1), (.long q1), (.long q2)] 7 = mkF m 0 #[rv a1, lv q1, sN, lv q2, sN, uN, uN] [] := by first | (simp [entryFrame, mkF, argsToLocals, Value.category]; done) | rfl
def own_al1_Q (Z : State) (a1 : Addr) (q1 : Int64) (q2 : Int64) (bb : Addr) (cc : Addr) (kb : ClassId) (kc : ClassId) (z1 : Int32) (xs1 : List Int64) (ys1 : List Int64) (mo : Int32) (h0 : Heap) (n0 : Nat) (v : Option Value) (h : Heap) (L : List Loc) : Prop := ∃ b2 : Addr, ∃ c2 : Addr, ∃ k2 : ClassId, ∃ k3 : ClassId, ∃ z2 : Int32, ∃ xs2 : List Int64, ∃ ys2 : List Int64, ∃ tt : Addr, ∃ kt : ClassId, v = some (.int 1) ∧ Fr n0 L ∧ Keep h0 h [a1, bb, cc] ∧ (h0.size ≤ b2 ∨ b2 = bb) ∧ (h0.size ≤ c2 ∨ c2 = cc) ∧ a1 ≠ b2 ∧ a1 ≠ c2 ∧ b2 ≠ c2 ∧ Exa Z h a1 oS ∧ Fld Z h a1 oS "size" "I" (.int 2) ∧ Fld Z h a1 oS "most" "I" (.int mo) ∧ Fld Z h a1 oS "blocks" "[J" (.ref b2) ∧ Fld Z h a1 oS "bits" "[J" (.ref c2) ∧ Fld Z h a1 oS "ordered" "I" (.int 1) ∧ Arv Z h b2 k2 .long z2 (xs2.map Value.long) (Value.long 0) ∧ Arv Z h c2 k3 .long z2 (ys2.map Value.long) (Value.long 0) ∧ z2 = own_nl (1 : Int32) z1 mo ∧ xs2.length = z2.toNatClampNeg ∧ ys2.length = z2.toNatClampNeg ∧ xs2.getD (0 : Int32).toNatClampNeg 0 = xs1.getD (0 : Int32).toNatClampNeg 0 ∧ xs2.getD (1 : Int32).toNatClampNeg 0 = q1 ∧ h0.size ≤ tt ∧ a1 ≠ tt ∧ b2 ≠ tt ∧ c2 ≠ tt ∧ Fld Z h a1 oS "table" "[I" (.ref tt) ∧ Arv Z h tt kt .int 32 (((List.replicate 32 (0 : Int32)).set ((own_h q1).toNatClampNeg) (2 : Int32)).map Value.int) (Value.int 0)
set_option maxRecDepth 65536 in
set_option maxHeartbeats 40000000 in
theorem own_al1 (l : Launch) (Z : State) (a0 : Array Value) (hw : ∀ d ∈ tables_1, d.before a0 Z = true) (ws : List Jvm.Cond) (a1 : Addr) (q1 : Int64) (q2 : Int64) (bb : Addr) (cc : Addr) (kb : ClassId) (kc : ClassId) (z1 : Int32) (xs1 : List Int64) (ys1 : List Int64) (mo : Int32) (h0 : Heap) (n0 : Nat) (Z0 : n0 ≤ h0.size) (E_a1 : Exa Z h0 a1 oS) (g_a1 : n0 ≤ a1) (F_size_a1 : Fld Z h0 a1 oS "size" "I" (.int 1)) (F_most_a1 : Fld Z h0 a1 oS "most" "I" (.int mo)) (F_blocks_a1 : Fld Z h0 a1 oS "blocks" "[J" (.ref bb)) (F_bits_a1 : Fld Z h0 a1 oS "bits" "[J" (.ref cc)) (V_bb : Arv Z h0 bb kb .long z1 (xs1.map Value.long) (Value.long 0)) (V_cc : Arv Z h0 cc kc .long z1 (ys1.map Value.long) (Value.long 0)) (g_bb : n0 ≤ bb) (g_cc : n0 ≤ cc) (ne_a1_bb : a1 ≠ bb) (ne_a1_cc : a1 ≠ cc) (ne_bb_cc : bb ≠ cc) (hz : ¬ z1 < (1 : Int32)) (hxl : xs1.length = z1.toNatClampNeg) (hyl : ys1.length = z1.toNatClampNeg) (F_ordered_a1 : Fld Z h0 a1 oS "ordered" "I" (.int 1)) (F_table_a1 : Fld Z h0 a1 oS "table" "[I" .null) (hnq : ¬ (xs1.getD (0 : Int32).toNatClampNeg 0) = q1) (hlt : ¬ (xs1.getD (0 : Int32).toNatClampNeg 0) < q1) (hbs : (if (xs1.getD (0 : Int32).toNatClampNeg 0) < q1 then (-2 : Int32) else (if q1 < (xs1.getD (0 : Int32).toNatClampNeg 0) then (-1 : Int32) else (0 : Int32))) < (0 : Int32)) :
    MetFree l (⟨oS, "add", "(JJ)Z"⟩ : MethodName) (head1 (Jvm.Cond.code (⟨oS, "add", "(JJ)Z"⟩ : MethodName) prog_128_method_8_code 7 (some .boolean) :: ws) ({ frames := 3, cells := 3, slots := 36, locals := 50 } : Room)) (fun aa U => aa = #[(.ref a1), (.long q1), (.long q2)] ∧ Z.Warmed39 U.vm ∧ U.heap = h0) (fun _ _ _ _ _ => True) (fun _ U o U' => ∃ v L, o = .returned v ∧ own_al1_Q Z a1 q1 q2 bb cc kb kc z1 xs1 ys1 mo h0 n0 v U'.heap L ∧ FrameEnd U o U' L ({ frames := 3, cells := 3, slots := 36, locals := 50 } : Room).cells ({ frames := 3, cells := 3, slots := 36, locals := 50 } : Room).slots) := by
  refine MetFree.of_bodySF (plainFor_of_name own_pn0) hisR ?_
  have w1 := hw _ (List.mem_of_getElem? (i := 1) rfl)
  have w2 := hw _ (List.mem_of_getElem? (i := 2) rfl)
  have w20 := hw _ (List.mem_of_getElem? (i := 20) rfl)
  have w35 := hw _ (List.mem_of_getElem? (i := 35) rfl)
  have w42 := hw _ (List.mem_of_getElem? (i := 42) rfl)
  have w44 := hw _ (List.mem_of_getElem? (i := 44) rfl)
  have w45 := hw _ (List.mem_of_getElem? (i := 45) rfl)
  have w46 := hw _ (List.mem_of_getElem? (i := 46) rfl)
  have w47 := hw _ (List.mem_of_getElem? (i := 47) rfl)
  have w48 := hw _ (List.mem_of_getElem? (i := 48) rfl)
  have w51 := hw _ (List.mem_of_getElem? (i := 51) rfl)
  have w52 := hw _ (List.mem_of_getElem? (i := 52) rfl)
  have w53 := hw _ (List.mem_of_getElem? (i := 53) rfl)
  have w54 := hw _ (List.mem_of_getElem? (i := 54) rfl)
  have w61 := hw _ (List.mem_of_getElem? (i := 61) rfl)
  have w62 := hw _ (List.mem_of_getElem? (i := 62) rfl)
  have w63 := hw _ (List.mem_of_getElem? (i := 63) rfl)
  have w64 := hw _ (List.mem_of_getElem? (i := 64) rfl)
  have w66 := hw _ (List.mem_of_getElem? (i := 66) rfl)
  have w67 := hw _ (List.mem_of_getElem? (i := 67) rfl)
  have w68 := hw _ (List.mem_of_getElem? (i := 68) rfl)
  have w69 := hw _ (List.mem_of_getElem? (i := 69) rfl)
  intro p e s m args below meth c s₁ Bd hml0 hP hK
  obtain ⟨rfl, hZ, hh⟩ := hP
  have hx := Bd.exec
  have hby := Bd.bytes
  have hlk := Bd.notSynchronized
  have hml : c.maxLocals = 7 := hml0
  have hown : s.vm.findClass oS = some m.cls := findClass_of_methodNamed Bd.named
  have hnm := (name_of_methodNamed Bd.named Bd.method).1
  have X0 : Stand p l e ({ frames := 3, cells := 3, slots := 36, locals := 50 } : Room) s m #[(.ref a1), (.long q1), (.long q2)] below meth c s₁ [] 0 0 := Stand.of_body Bd
  have e0 : s₁.heap = h0 := by rw [← hh, Bd.state]; rfl
  have N0 := Fr.nil n0
  have K0 : Keep h0 h0 [a1, bb, cc] := Keep.refl h0 _
  show gS p e below (own_Fin s (own_al1_Q Z a1 q1 q2 bb cc kb kc z1 xs1 ys1 mo h0 n0) ({ frames := 3, cells := 3, slots := 36, locals := 50 } : Room).cells ({ frames := 3, cells := 3, slots := 36, locals := 50 } : Room).slots) _
  refine sT (fun t k => castTop (own_al1_ef m a1 q1 q2) k) ?_
  show gM p e below _ s₁ m 0 #[rv a1, lv q1, sN, lv q2, sN, uN, uN] []
  refine sT (fun t k => XS.aloadN X0.here hx rfl (hb hby d16_0) rfl rfl k) ?_
  show gM p e below _ s₁ m 1 #[rv a1, lv q1, sN, lv q2, sN, uN, uN] [(.ref a1)]
  obtain ⟨T750, X750, e750, st750⟩ := getF X0 hx hZ hown (host := "") (Or.inl w42) Via.refl e0 F_size_a1 (g := (mkF m 1 #[rv a1, lv q1, sN, lv q2, sN, uN, uN] [(.ref a1)])) rfl rfl (hb hby d16_1)
  refine sT st750 ?_
  show gM p e below _ T750 m 4 #[rv a1, lv q1, sN, lv q2, sN, uN, uN] [(.int 1)]
  have hc751 : (0 : Int32) < (1 : Int32) := by decide
  refine sT (fun t k => XS.ifNo X750.here hx rfl (hb hby d16_4) rfl ((if0 _ _).trans (tlt hc751).2.2.2) k) ?_
  show gM p e below _ T750 m 7 #[rv a1, lv q1, sN, lv q2, sN, uN, uN] []
  refine sT (fun t k => XS.aloadN X750.here hx rfl (hb hby d16_7) rfl rfl k) ?_
  show gM p e below _ T750 m 8 #[rv a1, lv q1, sN, lv q2, sN, uN, uN] [(.ref a1)]
  obtain ⟨T752, X752, e752, st752⟩ := getF X750 hx hZ hown (host := "") (Or.inl w20) Via.refl e750 F_blocks_a1 (g := (mkF m 8 #[rv a1, lv q1, sN, lv q2, sN, uN, uN] [(.ref a1)])) rfl rfl (hb hby d16_8)
  refine sT st752 ?_
  show gM p e below _ T752 m 11 #[rv a1, lv q1, sN, lv q2, sN, uN, uN] [(.ref bb)]
  refine sT (fun t k => XS.aloadN X752.here hx rfl (hb hby d16_11) rfl rfl k) ?_
  show gM p e below _ T752 m 12 #[rv a1, lv q1, sN, lv q2, sN, uN, uN] [(.ref a1), (.ref bb)]
  obtain ⟨T753, X753, e753, st753⟩ := getF X752 hx hZ hown (host := "") (Or.inl w42) Via.refl e752 F_size_a1 (g := (mkF m 12 #[rv a1, lv q1, sN, lv q2, sN, uN, uN] [(.ref a1), (.ref bb)])) rfl rfl (hb hby d16_12)
  refine sT st753 ?_
  show gM p e below _ T753 m 15 #[rv a1, lv q1, sN, lv q2, sN, uN, uN] [(.int 1), (.ref bb)]
  refine sT (fun t k => XS.iconst X753.here hx rfl (hb hby d16_15) k) ?_
  show gM p e below _ T753 m 16 #[rv a1, lv q1, sN, lv q2, sN, uN, uN] [(.int 1), (.int 1), (.ref bb)]
  refine sT (fun t k => XS.isub X753.here hx rfl (hb hby d16_16) rfl k) ?_
  show gM p e below _ T753 m 17 #[rv a1, lv q1, sN, lv q2, sN, uN, uN] [(.int 0), (.ref bb)]
  refine sT (fun t k => own_lal X753 hx hZ e753 V_bb (own_j (by decide) (by decide) hz) (g := (mkF m 17 #[rv a1, lv q1, sN, lv q2, sN, uN, uN] [(.int 0), (.ref bb)])) rfl rfl (hb hby d16_17) _ k) ?_
  show gM p e below _ T753 m 18 #[rv a1, lv q1, sN, lv q2, sN, uN, uN] [(.long (xs1.getD (0 : Int32).toNatClampNeg 0))]
  refine sT (fun t k => XS.lloadN X753.here hx rfl (hb hby d16_18) rfl k) ?_
  show gM p e below _ T753 m 19 #[rv a1, lv q1, sN, lv q2, sN, uN, uN] [(.long q1), (.long (xs1.getD (0 : Int32).toNatClampNeg 0))]
  refine sT (fun t k => XS.lcmp X753.here hx rfl (hb hby d16_19) rfl k) ?_
  show gM p e below _ T753 m 20 #[rv a1, lv q1, sN, lv q2, sN, uN, uN] [(.int (lcmpW (xs1.getD (0 : Int32).toNatClampNeg 0) q1))]
  have hc754 : ¬ ((xs1.getD (0 : Int32).toNatClampNeg 0) = q1) := hnq
  refine sT (fun t k => XS.ifYes X753.here hx rfl (pc0 := 20) (pc' := 40) rfl (hb hby d16_20) rfl ((if0 _ _).trans (feq (fun zq => hc754 ((lw_eq (xs1.getD (0 : Int32).toNatClampNeg 0) q1).mp zq))).2) (by decide) (by decide) k) ?_
  show gM p e below _ T753 m 40 #[rv a1, lv q1, sN, lv q2, sN, uN, uN] []
  refine sT (fun t k => XS.aloadN X753.here hx rfl (hb hby d16_40) rfl rfl k) ?_
  show gM p e below _ T753 m 41 #[rv a1, lv q1, sN, lv q2, sN, uN, uN] [(.ref a1)]
  obtain ⟨T755, X755, e755, st755⟩ := getF X753 hx hZ hown (host := "") (Or.inl w35) Via.refl e753 F_table_a1 (g := (mkF m 41 #[rv a1, lv q1, sN, lv q2, sN, uN, uN] [(.ref a1)])) rfl rfl (hb hby d16_41)
  refine sT st755 ?_
  show gM p e below _ T755 m 44 #[rv a1, lv q1, sN, lv q2, sN, uN, uN] [.null]
  refine sT (fun t k => XS.ifnonnullNo X755.here hx rfl (hb hby d16_44) rfl k) ?_
  show gM p e below _ T755 m 47 #[rv a1, lv q1, sN, lv q2, sN, uN, uN] []
  refine sT (fun t k => XS.aloadN X755.here hx rfl (hb hby d16_47) rfl rfl k) ?_
  show gM p e below _ T755 m 48 #[rv a1, lv q1, sN, lv q2, sN, uN, uN] [(.ref a1)]
  obtain ⟨T756, X756, e756, st756⟩ := getF X755 hx hZ hown (host := "") (Or.inl w42) Via.refl e755 F_size_a1 (g := (mkF m 48 #[rv a1, lv q1, sN, lv q2, sN, uN, uN] [(.ref a1)])) rfl rfl (hb hby d16_48)
  refine sT st756 ?_
  show gM p e below _ T756 m 51 #[rv a1, lv q1, sN, lv q2, sN, uN, uN] [(.int 1)]
  have hc757 : ¬ ((1 : Int32) = (0 : Int32)) := by decide
  refine sT (fun t k => XS.ifNo X756.here hx rfl (hb hby d16_51) rfl ((if0 _ _).trans (feq hc757).1) k) ?_
  show gM p e below _ T756 m 54 #[rv a1, lv q1, sN, lv q2, sN, uN, uN] []
  refine sT (fun t k => XS.lloadN X756.here hx rfl (hb hby d16_54) rfl k) ?_
  show gM p e below _ T756 m 55 #[rv a1, lv q1, sN, lv q2, sN, uN, uN] [(.long q1)]
  refine sT (fun t k => XS.aloadN X756.here hx rfl (hb hby d16_55) rfl rfl k) ?_
  show gM p e below _ T756 m 56 #[rv a1, lv q1, sN, lv q2, sN, uN, uN] [(.ref a1), (.long q1)]
  obtain ⟨T758, X758, e758, st758⟩ := getF X756 hx hZ hown (host := "") (Or.inl w20) Via.refl e756 F_blocks_a1 (g := (mkF m 56 #[rv a1, lv q1, sN, lv q2, sN, uN, uN] [(.ref a1), (.long q1)])) rfl rfl (hb hby d16_56)
  refine sT st758 ?_
  show gM p e below _ T758 m 59 #[rv a1, lv q1, sN, lv q2, sN, uN, uN] [(.ref bb), (.long q1)]
  refine sT (fun t k => XS.aloadN X758.here hx rfl (hb hby d16_59) rfl rfl k) ?_
  show gM p e below _ T758 m 60 #[rv a1, lv q1, sN, lv q2, sN, uN, uN] [(.ref a1), (.ref bb), (.long q1)]
  obtain ⟨T759, X759, e759, st759⟩ := getF X758 hx hZ hown (host := "") (Or.inl w42) Via.refl e758 F_size_a1 (g := (mkF m 60 #[rv a1, lv q1, sN, lv q2, sN, uN, uN] [(.ref a1), (.ref bb), (.long q1)])) rfl rfl (hb hby d16_60)
  refine sT st759 ?_
  show gM p e below _ T759 m 63 #[rv a1, lv q1, sN, lv q2, sN, uN, uN] [(.int 1), (.ref bb), (.long q1)]
  refine sT (fun t k => XS.iconst X759.here hx rfl (hb hby d16_63) k) ?_
  show gM p e below _ T759 m 64 #[rv a1, lv q1, sN, lv q2, sN, uN, uN] [(.int 1), (.int 1), (.ref bb), (.long q1)]
  refine sT (fun t k => XS.isub X759.here hx rfl (hb hby d16_64) rfl k) ?_
  show gM p e below _ T759 m 65 #[rv a1, lv q1, sN, lv q2, sN, uN, uN] [(.int 0), (.ref bb), (.long q1)]
  refine sT (fun t k => own_lal X759 hx hZ e759 V_bb (own_j (by decide) (by decide) hz) (g := (mkF m 65 #[rv a1, lv q1, sN, lv q2, sN, uN, uN] [(.int 0), (.ref bb), (.long q1)])) rfl rfl (hb hby d16_65) _ k) ?_
  show gM p e below _ T759 m 66 #[rv a1, lv q1, sN, lv q2, sN, uN, uN] [(.long (xs1.getD (0 : Int32).toNatClampNeg 0)), (.long q1)]
  refine sT (fun t k => XS.lcmp X759.here hx rfl (hb hby d16_66) rfl k) ?_
  show gM p e below _ T759 m 67 #[rv a1, lv q1, sN, lv q2, sN, uN, uN] [(.int (lcmpW q1 (xs1.getD (0 : Int32).toNatClampNeg 0)))]
  have hc760 : ¬ ((xs1.getD (0 : Int32).toNatClampNeg 0) < q1) := hlt
  refine sT (fun t k => XS.ifYes X759.here hx rfl (pc0 := 67) (pc' := 86) rfl (hb hby d16_67) rfl ((if0 _ _).trans (flt (fun zq => hc760 ((lw_gt q1 (xs1.getD (0 : Int32).toNatClampNeg 0)).mp zq))).2.2.2) (by decide) (by decide) k) ?_
  show gM p e below _ T759 m 86 #[rv a1, lv q1, sN, lv q2, sN, uN, uN] []
  refine sT (fun t k => XS.aloadN X759.here hx rfl (hb hby d16_86) rfl rfl k) ?_
  show gM p e below _ T759 m 87 #[rv a1, lv q1, sN, lv q2, sN, uN, uN] [(.ref a1)]
  obtain ⟨T761, X761, e761, st761⟩ := getF X759 hx hZ hown (host := "") (Or.inl w20) Via.refl e759 F_blocks_a1 (g := (mkF m 87 #[rv a1, lv q1, sN, lv q2, sN, uN, uN] [(.ref a1)])) rfl rfl (hb hby d16_87)
  refine sT st761 ?_
  show gM p e below _ T761 m 90 #[rv a1, lv q1, sN, lv q2, sN, uN, uN] [(.ref bb)]
  refine sT (fun t k => XS.iconst X761.here hx rfl (hb hby d16_90) k) ?_
  show gM p e below _ T761 m 91 #[rv a1, lv q1, sN, lv q2, sN, uN, uN] [(.int 0), (.ref bb)]
  refine sT (fun t k => XS.aloadN X761.here hx rfl (hb hby d16_91) rfl rfl k) ?_
  show gM p e below _ T761 m 92 #[rv a1, lv q1, sN, lv q2, sN, uN, uN] [(.ref a1), (.int 0), (.ref bb)]
  obtain ⟨T762, X762, e762, st762⟩ := getF X761 hx hZ hown (host := "") (Or.inl w48) Via.refl e761 F_ordered_a1 (g := (mkF m 92 #[rv a1, lv q1, sN, lv q2, sN, uN, uN] [(.ref a1), (.int 0), (.ref bb)])) rfl rfl (hb hby d16_92)
  refine sT st762 ?_
  show gM p e below _ T762 m 95 #[rv a1, lv q1, sN, lv q2, sN, uN, uN] [(.int 1), (.int 0), (.ref bb)]
  refine sT (fun t k => XS.lloadN X762.here hx rfl (hb hby d16_95) rfl k) ?_
  show gM p e below _ T762 m 96 #[rv a1, lv q1, sN, lv q2, sN, uN, uN] [(.long q1), (.int 1), (.int 0), (.ref bb)]
  obtain ⟨_, _, ⟨T763, L763, k763, n763⟩, -, X763, ⟨Lc763, hQ763, l763, y763, z763⟩, st763⟩ := Jvm.LawKit.callS X762 hx (y := (⟨"java/util/Arrays", "binarySearch", "([JIIJ)I"⟩ : MethodName)) hown (mvT hZ w51) (mvT hZ w52) (mvT hZ w53) (mvT hZ w54) (by decide) (backOf (W := 0) (own_bs1 l Z a0 hw [] bb q1 (kb) (z1) (xs1) ((if (xs1.getD (0 : Int32).toNatClampNeg 0) < q1 then (-2 : Int32) else (if q1 < (xs1.getD (0 : Int32).toNatClampNeg 0) then (-1 : Int32) else (0 : Int32)))) h0 n0 Z0 V_bb hz rfl) hZ w54 w53 (by decide) (by decide)) (g := (mkF m 96 #[rv a1, lv q1, sN, lv q2, sN, uN, uN] [(.long q1), (.int 1), (.int 0), (.ref bb)])) rfl (by rw [hml]; rfl) (argsL := [(.ref bb), (.int 0), (.int 1), (.long q1)]) (rest := []) (lenOf own_pd6 rfl) rfl (by show 2 * 0 + _ ≤ _; exact Nat.le_of_eq rfl) (hb hby d16_96) (fun _ _ => ⟨rfl, e762, (by decide : 0 + 0 ≤ _), (by decide : 0 + 0 ≤ _)⟩)
  dsimp only [Pt.U, Pt.locs, Pt.cells, Pt.slots] at X763 l763 y763 z763 st763 hQ763
  subst y763 z763
  obtain ⟨rfl, N763q, eh763⟩ := hQ763
  have N763 : Fr n0 L763 := by rw [l763]; exact Fr.app N0 N763q
  refine sT st763 ?_
  show gM p e below _ T763 m 99 #[rv a1, lv q1, sN, lv q2, sN, uN, uN] [(.int (if (xs1.getD (0 : Int32).toNatClampNeg 0) < q1 then (-2 : Int32) else (if q1 < (xs1.getD (0 : Int32).toNatClampNeg 0) then (-1 : Int32) else (0 : Int32))))]
  refine sT (fun t k => XS.istore X763.here hx rfl (hb hby d16_99) rfl (l' := #[rv a1, lv q1, sN, lv q2, sN, iv (if (xs1.getD (0 : Int32).toNatClampNeg 0) < q1 then (-2 : Int32) else (if q1 < (xs1.getD (0 : Int32).toNatClampNeg 0) then (-1 : Int32) else (0 : Int32))), uN]) rfl k) ?_
  show gM p e below _ T763 m 101 #[rv a1, lv q1, sN, lv q2, sN, iv (if (xs1.getD (0 : Int32).toNatClampNeg 0) < q1 then (-2 : Int32) else (if q1 < (xs1.getD (0 : Int32).toNatClampNeg 0) then (-1 : Int32) else (0 : Int32))), uN] []
  refine sT (fun t k => XS.iload X763.here hx rfl (hb hby d16_101) rfl k) ?_
  show gM p e below _ T763 m 103 #[rv a1, lv q1, sN, lv q2, sN, iv (if (xs1.getD (0 : Int32).toNatClampNeg 0) < q1 then (-2 : Int32) else (if q1 < (xs1.getD (0 : Int32).toNatClampNeg 0) then (-1 : Int32) else (0 : Int32))), uN] [(.int (if (xs1.getD (0 : Int32).toNatClampNeg 0) < q1 then (-2 : Int32) else (if q1 < (xs1.getD (0 : Int32).toNatClampNeg 0) then (-1 : Int32) else (0 : Int32))))]
  have hc764 : (if (xs1.getD (0 : Int32).toNatClampNeg 0) < q1 then (-2 : Int32) else (if q1 < (xs1.getD (0 : Int32).toNatClampNeg 0) then (-1 : Int32) else (0 : Int32))) < (0 : Int32) := hbs
  refine sT (fun t k => XS.ifYes X763.here hx rfl (pc0 := 103) (pc' := 119) rfl (hb hby d16_103) rfl ((if0 _ _).trans (tlt hc764).1) (by decide) (by decide) k) ?_
  show gM p e below _ T763 m 119 #[rv a1, lv q1, sN, lv q2, sN, iv (if (xs1.getD (0 : Int32).toNatClampNeg 0) < q1 then (-2 : Int32) else (if q1 < (xs1.getD (0 : Int32).toNatClampNeg 0) then (-1 : Int32) else (0 : Int32))), uN] []
  refine sT (fun t k => XS.aloadN X763.here hx rfl (hb hby d16_119) rfl rfl k) ?_
  show gM p e below _ T763 m 120 #[rv a1, lv q1, sN, lv q2, sN, iv (if (xs1.getD (0 : Int32).toNatClampNeg 0) < q1 then (-2 : Int32) else (if q1 < (xs1.getD (0 : Int32).toNatClampNeg 0) then (-1 : Int32) else (0 : Int32))), uN] [(.ref a1)]
  obtain ⟨T765, X765, e765, st765⟩ := getF X763 hx hZ hown (host := "") (Or.inl w35) Via.refl eh763 F_table_a1 (g := (mkF m 120 #[rv a1, lv q1, sN, lv q2, sN, iv (if (xs1.getD (0 : Int32).toNatClampNeg 0) < q1 then (-2 : Int32) else (if q1 < (xs1.getD (0 : Int32).toNatClampNeg 0) then (-1 : Int32) else (0 : Int32))), uN] [(.ref a1)])) rfl rfl (hb hby d16_120)
  refine sT st765 ?_
  show gM p e below _ T765 m 123 #[rv a1, lv q1, sN, lv q2, sN, iv (if (xs1.getD (0 : Int32).toNatClampNeg 0) < q1 then (-2 : Int32) else (if q1 < (xs1.getD (0 : Int32).toNatClampNeg 0) then (-1 : Int32) else (0 : Int32))), uN] [.null]
  refine sT (fun t k => XS.ifnonnullNo X765.here hx rfl (hb hby d16_123) rfl k) ?_
  show gM p e below _ T765 m 126 #[rv a1, lv q1, sN, lv q2, sN, iv (if (xs1.getD (0 : Int32).toNatClampNeg 0) < q1 then (-2 : Int32) else (if q1 < (xs1.getD (0 : Int32).toNatClampNeg 0) then (-1 : Int32) else (0 : Int32))), uN] []
  refine sT (fun t k => XS.aloadN X765.here hx rfl (hb hby d16_126) rfl rfl k) ?_
  show gM p e below _ T765 m 127 #[rv a1, lv q1, sN, lv q2, sN, iv (if (xs1.getD (0 : Int32).toNatClampNeg 0) < q1 then (-2 : Int32) else (if q1 < (xs1.getD (0 : Int32).toNatClampNeg 0) then (-1 : Int32) else (0 : Int32))), uN] [(.ref a1)]
  refine sT (fun t k => XS.bipush X765.here hx rfl (hb hby d16_127) k) ?_
  show gM p e below _ T765 m 129 #[rv a1, lv q1, sN, lv q2, sN, iv (if (xs1.getD (0 : Int32).toNatClampNeg 0) < q1 then (-2 : Int32) else (if q1 < (xs1.getD (0 : Int32).toNatClampNeg 0) then (-1 : Int32) else (0 : Int32))), uN] [(.int 32), (.ref a1)]
  obtain ⟨cq766, q766, q766'⟩ := E_a1.cell
  obtain ⟨_, _, ⟨T766, L766, k766, n766⟩, -, X766, ⟨Lc766, hQ766, l766, y766, z766⟩, st766⟩ := X765.privateBack hx (y := (⟨oS, "index", "(I)V"⟩ : MethodName)) hown (mvT hZ w61) (mvT hZ w62) (own_selp hZ w1 w63 w62 (by decide)) (Cond.privateMethod_at (mvP hZ w63 (args := #[]))) (mvT hZ w64) (by decide) (backOf (W := 0) (own_ix1 l Z a0 hw [] a1 (.null) ((.int mo)) ((.ref bb)) ((.ref cc)) h0 n0 Z0 E_a1 g_a1 F_size_a1 F_ordered_a1 F_table_a1 F_most_a1 F_blocks_a1 F_bits_a1) hZ w64 w2 (by decide) (by decide)) (g := (mkF m 129 #[rv a1, lv q1, sN, lv q2, sN, iv (if (xs1.getD (0 : Int32).toNatClampNeg 0) < q1 then (-2 : Int32) else (if q1 < (xs1.getD (0 : Int32).toNatClampNeg 0) then (-1 : Int32) else (0 : Int32))), uN] [(.int 32), (.ref a1)])) rfl (by rw [hml]; rfl) (Steps.refl _) (a := a1) (by rw [e765]; exact q766) q766' (argsL := [(.int 32)]) (rest := []) (lenOf own_pd1 rfl) rfl (by show 2 * 0 + _ ≤ _; exact Nat.le_of_eq rfl) (hb hby d16_129) (fun _ _ => ⟨rfl, e765, (by decide : 0 + 1 ≤ _), (by decide : 0 + 32 ≤ _)⟩)
  dsimp only [Pt.U, Pt.locs, Pt.cells, Pt.slots] at X766 l766 y766 z766 st766 hQ766
  subst y766 z766
  obtain ⟨tt_766, kt_766, rfl, N766q, K766c, f766_0, f766_1, f766_2, f766_3, f766_4, f766_5, f766_6, f766_7, f766_8⟩ := hQ766
  have N766 : Fr n0 L766 := by rw [l766]; exact Fr.app N763 N766q
  refine own_jump st766 ?_
  have K767 : Keep h0 T766.heap [a1, bb, cc] := K0.trans K766c (allS (Or.inl (List.mem_of_getElem? (i := 0) rfl)) all0)
  have sz_tt_766 : h0.size ≤ tt_766 := Nat.le_trans K0.1 f766_0
  have g_tt_766 : n0 ≤ tt_766 := Nat.le_trans Z0 sz_tt_766
  have ne_bb_tt_766 : bb ≠ tt_766 := Nat.ne_of_lt (Nat.lt_of_lt_of_le V_bb.lt f766_0)
  have ne_a1_tt_766 : a1 ≠ tt_766 := Nat.ne_of_lt (Nat.lt_of_lt_of_le E_a1.lt f766_0)
  have ne_cc_tt_766 : cc ≠ tt_766 := Nat.ne_of_lt (Nat.lt_of_lt_of_le V_cc.lt f766_0)
  show gM p e below _ T766 m 132 #[rv a1, lv q1, sN, lv q2, sN, iv (if (xs1.getD (0 : Int32).toNatClampNeg 0) < q1 then (-2 : Int32) else (if q1 < (xs1.getD (0 : Int32).toNatClampNeg 0) then (-1 : Int32) else (0 : Int32))), uN] []
  refine sT (fun t k => XS.aloadN X766.here hx rfl (hb hby d16_132) rfl rfl k) ?_
  show gM p e below _ T766 m 133 #[rv a1, lv q1, sN, lv q2, sN, iv (if (xs1.getD (0 : Int32).toNatClampNeg 0) < q1 then (-2 : Int32) else (if q1 < (xs1.getD (0 : Int32).toNatClampNeg 0) then (-1 : Int32) else (0 : Int32))), uN] [(.ref a1)]
  refine sT (fun t k => XS.lloadN X766.here hx rfl (hb hby d16_133) rfl k) ?_
  show gM p e below _ T766 m 134 #[rv a1, lv q1, sN, lv q2, sN, iv (if (xs1.getD (0 : Int32).toNatClampNeg 0) < q1 then (-2 : Int32) else (if q1 < (xs1.getD (0 : Int32).toNatClampNeg 0) then (-1 : Int32) else (0 : Int32))), uN] [(.long q1), (.ref a1)]
  obtain ⟨cq768, q768, q768'⟩ := f766_1.cell
  obtain ⟨_, _, ⟨T768, L768, k768, n768⟩, -, X768, ⟨Lc768, hQ768, l768, y768, z768⟩, st768⟩ := X766.privateBack hx (y := (⟨oS, "slot", "(J)I"⟩ : MethodName)) hown (mvT hZ w66) (mvT hZ w67) (own_selp hZ w1 w68 w67 (by decide)) (Cond.privateMethod_at (mvP hZ w68 (args := #[]))) (mvT hZ w69) (by decide) (backOf (W := 0) (own_sA l Z a0 hw [] a1 q1 (tt_766) (kt_766) T766.heap n0 (Nat.le_trans Z0 K766c.1) f766_4 f766_8) hZ w69 w2 (by decide) (by decide)) (g := (mkF m 134 #[rv a1, lv q1, sN, lv q2, sN, iv (if (xs1.getD (0 : Int32).toNatClampNeg 0) < q1 then (-2 : Int32) else (if q1 < (xs1.getD (0 : Int32).toNatClampNeg 0) then (-1 : Int32) else (0 : Int32))), uN] [(.long q1), (.ref a1)])) rfl (by rw [hml]; rfl) (Steps.refl _) (a := a1) q768 q768' (argsL := [(.long q1)]) (rest := []) (lenOf own_pd8 rfl) rfl (by show 2 * 0 + _ ≤ _; exact Nat.le_of_eq rfl) (hb hby d16_134) (fun _ _ => ⟨rfl, rfl, (by decide : 1 + 0 ≤ _), (by decide : 32 + 0 ≤ _)⟩)
  dsimp only [Pt.U, Pt.locs, Pt.cells, Pt.slots] at X768 l768 y768 z768 st768 hQ768
  subst y768 z768
  obtain ⟨rfl, N768q, eh768⟩ := hQ768
  have N768 : Fr n0 L768 := by rw [l768]; exact Fr.app N766 N768q
  refine own_jump st768 ?_
  show gM p e below _ T768 m 137 #[rv a1, lv q1, sN, lv q2, sN, iv (if (xs1.getD (0 : Int32).toNatClampNeg 0) < q1 then (-2 : Int32) else (if q1 < (xs1.getD (0 : Int32).toNatClampNeg 0) then (-1 : Int32) else (0 : Int32))), uN] [(.int (own_h q1))]
  refine sT (fun t k => XS.istore X768.here hx rfl (hb hby d16_137) rfl (l' := #[rv a1, lv q1, sN, lv q2, sN, iv (if (xs1.getD (0 : Int32).toNatClampNeg 0) < q1 then (-2 : Int32) else (if q1 < (xs1.getD (0 : Int32).toNatClampNeg 0) then (-1 : Int32) else (0 : Int32))), iv (own_h q1)]) rfl k) ?_
  show gM p e below _ T768 m 139 #[rv a1, lv q1, sN, lv q2, sN, iv (if (xs1.getD (0 : Int32).toNatClampNeg 0) < q1 then (-2 : Int32) else (if q1 < (xs1.getD (0 : Int32).toNatClampNeg 0) then (-1 : Int32) else (0 : Int32))), iv (own_h q1)] []
  refine sT (fun t k => XS.aloadN X768.here hx rfl (hb hby d16_139) rfl rfl k) ?_
  show gM p e below _ T768 m 140 #[rv a1, lv q1, sN, lv q2, sN, iv (if (xs1.getD (0 : Int32).toNatClampNeg 0) < q1 then (-2 : Int32) else (if q1 < (xs1.getD (0 : Int32).toNatClampNeg 0) then (-1 : Int32) else (0 : Int32))), iv (own_h q1)] [(.ref a1)]
  obtain ⟨T769, X769, e769, st769⟩ := getF X768 hx hZ hown (host := "") (Or.inl w35) Via.refl eh768 f766_4 (g := (mkF m 140 #[rv a1, lv q1, sN, lv q2, sN, iv (if (xs1.getD (0 : Int32).toNatClampNeg 0) < q1 then (-2 : Int32) else (if q1 < (xs1.getD (0 : Int32).toNatClampNeg 0) then (-1 : Int32) else (0 : Int32))), iv (own_h q1)] [(.ref a1)])) rfl rfl (hb hby d16_140)
  refine sT st769 ?_
  show gM p e below _ T769 m 143 #[rv a1, lv q1, sN, lv q2, sN, iv (if (xs1.getD (0 : Int32).toNatClampNeg 0) < q1 then (-2 : Int32) else (if q1 < (xs1.getD (0 : Int32).toNatClampNeg 0) then (-1 : Int32) else (0 : Int32))), iv (own_h q1)] [(.ref tt_766)]
  refine sT (fun t k => XS.iload X769.here hx rfl (hb hby d16_143) rfl k) ?_
  show gM p e below _ T769 m 145 #[rv a1, lv q1, sN, lv q2, sN, iv (if (xs1.getD (0 : Int32).toNatClampNeg 0) < q1 then (-2 : Int32) else (if q1 < (xs1.getD (0 : Int32).toNatClampNeg 0) then (-1 : Int32) else (0 : Int32))), iv (own_h q1)] [(.int (own_h q1)), (.ref tt_766)]
  refine sT (fun t k => own_ial X769 hx hZ e769 f766_8 (own_hh _) (g := (mkF m 145 #[rv a1, lv q1, sN, lv q2, sN, iv (if (xs1.getD (0 : Int32).toNatClampNeg 0) < q1 then (-2 : Int32) else (if q1 < (xs1.getD (0 : Int32).toNatClampNeg 0) then (-1 : Int32) else (0 : Int32))), iv (own_h q1)] [(.int (own_h q1)), (.ref tt_766)])) rfl rfl (hb hby d16_145) _ k) ?_
  show gM p e below _ T769 m 146 #[rv a1, lv q1, sN, lv q2, sN, iv (if (xs1.getD (0 : Int32).toNatClampNeg 0) < q1 then (-2 : Int32) else (if q1 < (xs1.getD (0 : Int32).toNatClampNeg 0) then (-1 : Int32) else (0 : Int32))), iv (own_h q1)] [(.int ((List.replicate 32 (0 : Int32)).getD (own_h q1).toNatClampNeg 0))]
  have hc770 : ((List.replicate 32 (0 : Int32)).getD (own_h q1).toNatClampNeg 0) = (0 : Int32) := own_z _
  refine sT (fun t k => XS.ifYes X769.here hx rfl (pc0 := 146) (pc' := 169) rfl (hb hby d16_146) rfl ((if0 _ _).trans (teq hc770).1) (by decide) (by decide) k) ?_
  show gM p e below _ T769 m 169 #[rv a1, lv q1, sN, lv q2, sN, iv (if (xs1.getD (0 : Int32).toNatClampNeg 0) < q1 then (-2 : Int32) else (if q1 < (xs1.getD (0 : Int32).toNatClampNeg 0) then (-1 : Int32) else (0 : Int32))), iv (own_h q1)] []
  refine sT (fun t k => XS.aloadN X769.here hx rfl (hb hby d16_169) rfl rfl k) ?_
  show gM p e below _ T769 m 170 #[rv a1, lv q1, sN, lv q2, sN, iv (if (xs1.getD (0 : Int32).toNatClampNeg 0) < q1 then (-2 : Int32) else (if q1 < (xs1.getD (0 : Int32).toNatClampNeg 0) then (-1 : Int32) else (0 : Int32))), iv (own_h q1)] [(.ref a1)]
  refine sT (fun t k => XS.lloadN X769.here hx rfl (hb hby d16_170) rfl k) ?_
  show gM p e below _ T769 m 171 #[rv a1, lv q1, sN, lv q2, sN, iv (if (xs1.getD (0 : Int32).toNatClampNeg 0) < q1 then (-2 : Int32) else (if q1 < (xs1.getD (0 : Int32).toNatClampNeg 0) then (-1 : Int32) else (0 : Int32))), iv (own_h q1)] [(.long q1), (.ref a1)]
  refine sT (fun t k => XS.lloadN X769.here hx rfl (hb hby d16_171) rfl k) ?_
  show gM p e below _ T769 m 172 #[rv a1, lv q1, sN, lv q2, sN, iv (if (xs1.getD (0 : Int32).toNatClampNeg 0) < q1 then (-2 : Int32) else (if q1 < (xs1.getD (0 : Int32).toNatClampNeg 0) then (-1 : Int32) else (0 : Int32))), iv (own_h q1)] [(.long q2), (.long q1), (.ref a1)]
  obtain ⟨cq771, q771, q771'⟩ := f766_1.cell
  obtain ⟨_, _, ⟨T771, L771, k771, n771⟩, -, X771, ⟨Lc771, hQ771, l771, y771, z771⟩, st771⟩ := X769.privateBack hx (y := (⟨oS, "append", "(JJ)V"⟩ : MethodName)) hown (mvT hZ w44) (mvT hZ w45) (own_selp hZ w1 w46 w45 (by decide)) (Cond.privateMethod_at (mvP hZ w46 (args := #[]))) (mvT hZ w47) (by decide) (backOf (W := 0) (own_ap1 l Z a0 hw [] a1 q1 q2 (bb) (cc) (kb) (kc) (z1) (xs1) (ys1) (mo) ((.int 1)) ((.ref tt_766)) T766.heap n0 (Nat.le_trans Z0 K766c.1) f766_1 g_a1 f766_2 f766_5 f766_6 f766_7 (V_bb.keep K766c (ninS (Ne.symm ne_a1_bb) nin0)) (V_cc.keep K766c (ninS (Ne.symm ne_a1_cc) nin0)) g_bb g_cc ne_a1_bb ne_a1_cc ne_bb_cc hz hxl hyl f766_3 f766_4) hZ w47 w2 (by decide) (by decide)) (g := (mkF m 172 #[rv a1, lv q1, sN, lv q2, sN, iv (if (xs1.getD (0 : Int32).toNatClampNeg 0) < q1 then (-2 : Int32) else (if q1 < (xs1.getD (0 : Int32).toNatClampNeg 0) then (-1 : Int32) else (0 : Int32))), iv (own_h q1)] [(.long q2), (.long q1), (.ref a1)])) rfl (by rw [hml]; rfl) (Steps.refl _) (a := a1) (by rw [e769]; exact q771) q771' (argsL := [(.long q1), (.long q2)]) (rest := []) (lenOf own_pd7 rfl) rfl (by show 2 * 0 + _ ≤ _; exact Nat.le_of_eq rfl) (hb hby d16_172) (fun _ _ => ⟨rfl, e769, (by decide : 1 + 2 ≤ _), (by decide : 32 + 4 ≤ _)⟩)
  dsimp only [Pt.U, Pt.locs, Pt.cells, Pt.slots] at X771 l771 y771 z771 st771 hQ771
  subst y771 z771
  obtain ⟨b2_771, c2_771, k2_771, k3_771, z2_771, xs2_771, ys2_771, rfl, N771q, K771c, f771_0, f771_1, f771_2, f771_3, f771_4, f771_5, f771_6, f771_7, f771_8, f771_9, f771_10, f771_11, f771_12, f771_13, f771_14, f771_15, f771_16, f771_17, f771_18⟩ := hQ771
  have N771 : Fr n0 L771 := by rw [l771]; exact Fr.app N768 N771q
  refine own_jump st771 ?_
  have K772 : Keep h0 T771.heap [a1, bb, cc] := K767.trans K771c (allS (Or.inl (List.mem_of_getElem? (i := 0) rfl)) (allS (Or.inl (List.mem_of_getElem? (i := 1) rfl)) (allS (Or.inl (List.mem_of_getElem? (i := 2) rfl)) all0)))
  show gM p e below _ T771 m 175 #[rv a1, lv q1, sN, lv q2, sN, iv (if (xs1.getD (0 : Int32).toNatClampNeg 0) < q1 then (-2 : Int32) else (if q1 < (xs1.getD (0 : Int32).toNatClampNeg 0) then (-1 : Int32) else (0 : Int32))), iv (own_h q1)] []
  have ne_tt_766_b2_771 : tt_766 ≠ b2_771 := own_neb f771_0 f766_8.lt (Ne.symm ne_bb_tt_766)
  have ne_tt_766_c2_771 : tt_766 ≠ c2_771 := own_neb f771_1 f766_8.lt (Ne.symm ne_cc_tt_766)
  have sz_b2_771 : h0.size ≤ b2_771 ∨ b2_771 = bb := f771_0.imp (Nat.le_trans K767.1) id
  have sz_c2_771 : h0.size ≤ c2_771 ∨ c2_771 = cc := f771_1.imp (Nat.le_trans K767.1) id
  refine sT (fun t k => XS.aloadN X771.here hx rfl (hb hby d16_175) rfl rfl k) ?_
  show gM p e below _ T771 m 176 #[rv a1, lv q1, sN, lv q2, sN, iv (if (xs1.getD (0 : Int32).toNatClampNeg 0) < q1 then (-2 : Int32) else (if q1 < (xs1.getD (0 : Int32).toNatClampNeg 0) then (-1 : Int32) else (0 : Int32))), iv (own_h q1)] [(.ref a1)]
  obtain ⟨T773, X773, e773, st773⟩ := getF X771 hx hZ hown (host := "") (Or.inl w35) Via.refl rfl f771_11 (g := (mkF m 176 #[rv a1, lv q1, sN, lv q2, sN, iv (if (xs1.getD (0 : Int32).toNatClampNeg 0) < q1 then (-2 : Int32) else (if q1 < (xs1.getD (0 : Int32).toNatClampNeg 0) then (-1 : Int32) else (0 : Int32))), iv (own_h q1)] [(.ref a1)])) rfl rfl (hb hby d16_176)
  refine sT st773 ?_
  show gM p e below _ T773 m 179 #[rv a1, lv q1, sN, lv q2, sN, iv (if (xs1.getD (0 : Int32).toNatClampNeg 0) < q1 then (-2 : Int32) else (if q1 < (xs1.getD (0 : Int32).toNatClampNeg 0) then (-1 : Int32) else (0 : Int32))), iv (own_h q1)] [(.ref tt_766)]
  refine sT (fun t k => XS.iload X773.here hx rfl (hb hby d16_179) rfl k) ?_
  show gM p e below _ T773 m 181 #[rv a1, lv q1, sN, lv q2, sN, iv (if (xs1.getD (0 : Int32).toNatClampNeg 0) < q1 then (-2 : Int32) else (if q1 < (xs1.getD (0 : Int32).toNatClampNeg 0) then (-1 : Int32) else (0 : Int32))), iv (own_h q1)] [(.int (own_h q1)), (.ref tt_766)]
  refine sT (fun t k => XS.aloadN X773.here hx rfl (hb hby d16_181) rfl rfl k) ?_
  show gM p e below _ T773 m 182 #[rv a1, lv q1, sN, lv q2, sN, iv (if (xs1.getD (0 : Int32).toNatClampNeg 0) < q1 then (-2 : Int32) else (if q1 < (xs1.getD (0 : Int32).toNatClampNeg 0) then (-1 : Int32) else (0 : Int32))), iv (own_h q1)] [(.ref a1), (.int (own_h q1)), (.ref tt_766)]
  obtain ⟨T774, X774, e774, st774⟩ := getF X773 hx hZ hown (host := "") (Or.inl w42) Via.refl e773 f771_6 (g := (mkF m 182 #[rv a1, lv q1, sN, lv q2, sN, iv (if (xs1.getD (0 : Int32).toNatClampNeg 0) < q1 then (-2 : Int32) else (if q1 < (xs1.getD (0 : Int32).toNatClampNeg 0) then (-1 : Int32) else (0 : Int32))), iv (own_h q1)] [(.ref a1), (.int (own_h q1)), (.ref tt_766)])) rfl rfl (hb hby d16_182)
  refine sT st774 ?_
  show gM p e below _ T774 m 185 #[rv a1, lv q1, sN, lv q2, sN, iv (if (xs1.getD (0 : Int32).toNatClampNeg 0) < q1 then (-2 : Int32) else (if q1 < (xs1.getD (0 : Int32).toNatClampNeg 0) then (-1 : Int32) else (0 : Int32))), iv (own_h q1)] [(.int 2), (.int (own_h q1)), (.ref tt_766)]
  obtain ⟨T775, h775, X775, e775, W775, V775, st775⟩ := own_ist X774 hx hZ e774 (f766_8.keep K771c (ninS (Ne.symm ne_a1_tt_766) (ninS (Ne.symm ne_bb_tt_766) (ninS (Ne.symm ne_cc_tt_766) nin0)))) (j := (own_h q1)) (own_hh _) ((own_h q1).toNatClampNeg) rfl (own_hl _) (g := (mkF m 185 #[rv a1, lv q1, sN, lv q2, sN, iv (if (xs1.getD (0 : Int32).toNatClampNeg 0) < q1 then (-2 : Int32) else (if q1 < (xs1.getD (0 : Int32).toNatClampNeg 0) then (-1 : Int32) else (0 : Int32))), iv (own_h q1)] [(.int 2), (.int (own_h q1)), (.ref tt_766)])) rfl rfl (hb hby d16_185)
  have V775 : Arv Z h775 tt_766 kt_766 .int 32 (((List.replicate 32 (0 : Int32)).set ((own_h q1).toNatClampNeg) (2 : Int32)).map Value.int) (Value.int 0) := V775
  have N775 := Fr.snoc X775 N771 g_tt_766
  have K776 : Keep h0 h775 [a1, bb, cc] := K772.wr W775 (Or.inr sz_tt_766)
  refine sT st775 ?_
  show gM p e below _ T775 m 186 #[rv a1, lv q1, sN, lv q2, sN, iv (if (xs1.getD (0 : Int32).toNatClampNeg 0) < q1 then (-2 : Int32) else (if q1 < (xs1.getD (0 : Int32).toNatClampNeg 0) then (-1 : Int32) else (0 : Int32))), iv (own_h q1)] []
  refine sT (fun t k => XS.iconst X775.here hx rfl (hb hby d16_186) k) ?_
  show gM p e below _ T775 m 187 #[rv a1, lv q1, sN, lv q2, sN, iv (if (xs1.getD (0 : Int32).toNatClampNeg 0) < q1 then (-2 : Int32) else (if q1 < (xs1.getD (0 : Int32).toNatClampNeg 0) then (-1 : Int32) else (0 : Int32))), iv (own_h q1)] [(.int 2)]
  refine sT (fun t k => XS.aloadN X775.here hx rfl (hb hby d16_187) rfl rfl k) ?_
  show gM p e below _ T775 m 188 #[rv a1, lv q1, sN, lv q2, sN, iv (if (xs1.getD (0 : Int32).toNatClampNeg 0) < q1 then (-2 : Int32) else (if q1 < (xs1.getD (0 : Int32).toNatClampNeg 0) then (-1 : Int32) else (0 : Int32))), iv (own_h q1)] [(.ref a1), (.int 2)]
  obtain ⟨T777, X777, e777, st777⟩ := getF X775 hx hZ hown (host := "") (Or.inl w42) Via.refl e775 (f771_6.other W775 (Or.inl ne_a1_tt_766)) (g := (mkF m 188 #[rv a1, lv q1, sN, lv q2, sN, iv (if (xs1.getD (0 : Int32).toNatClampNeg 0) < q1 then (-2 : Int32) else (if q1 < (xs1.getD (0 : Int32).toNatClampNeg 0) then (-1 : Int32) else (0 : Int32))), iv (own_h q1)] [(.ref a1), (.int 2)])) rfl rfl (hb hby d16_188)
  refine sT st777 ?_
  show gM p e below _ T777 m 191 #[rv a1, lv q1, sN, lv q2, sN, iv (if (xs1.getD (0 : Int32).toNatClampNeg 0) < q1 then (-2 : Int32) else (if q1 < (xs1.getD (0 : Int32).toNatClampNeg 0) then (-1 : Int32) else (0 : Int32))), iv (own_h q1)] [(.int 2), (.int 2)]
  refine sT (fun t k => XS.aloadN X777.here hx rfl (hb hby d16_191) rfl rfl k) ?_
  show gM p e below _ T777 m 192 #[rv a1, lv q1, sN, lv q2, sN, iv (if (xs1.getD (0 : Int32).toNatClampNeg 0) < q1 then (-2 : Int32) else (if q1 < (xs1.getD (0 : Int32).toNatClampNeg 0) then (-1 : Int32) else (0 : Int32))), iv (own_h q1)] [(.ref a1), (.int 2), (.int 2)]
  obtain ⟨T778, X778, e778, st778⟩ := getF X777 hx hZ hown (host := "") (Or.inl w48) Via.refl e777 (f771_10.other W775 (Or.inl ne_a1_tt_766)) (g := (mkF m 192 #[rv a1, lv q1, sN, lv q2, sN, iv (if (xs1.getD (0 : Int32).toNatClampNeg 0) < q1 then (-2 : Int32) else (if q1 < (xs1.getD (0 : Int32).toNatClampNeg 0) then (-1 : Int32) else (0 : Int32))), iv (own_h q1)] [(.ref a1), (.int 2), (.int 2)])) rfl rfl (hb hby d16_192)
  refine sT st778 ?_
  show gM p e below _ T778 m 195 #[rv a1, lv q1, sN, lv q2, sN, iv (if (xs1.getD (0 : Int32).toNatClampNeg 0) < q1 then (-2 : Int32) else (if q1 < (xs1.getD (0 : Int32).toNatClampNeg 0) then (-1 : Int32) else (0 : Int32))), iv (own_h q1)] [(.int 1), (.int 2), (.int 2)]
  refine sT (fun t k => XS.isub X778.here hx rfl (hb hby d16_195) rfl k) ?_
  show gM p e below _ T778 m 196 #[rv a1, lv q1, sN, lv q2, sN, iv (if (xs1.getD (0 : Int32).toNatClampNeg 0) < q1 then (-2 : Int32) else (if q1 < (xs1.getD (0 : Int32).toNatClampNeg 0) then (-1 : Int32) else (0 : Int32))), iv (own_h q1)] [(.int 1), (.int 2)]
  refine sT (fun t k => XS.imul X778.here hx rfl (hb hby d16_196) rfl k) ?_
  show gM p e below _ T778 m 197 #[rv a1, lv q1, sN, lv q2, sN, iv (if (xs1.getD (0 : Int32).toNatClampNeg 0) < q1 then (-2 : Int32) else (if q1 < (xs1.getD (0 : Int32).toNatClampNeg 0) then (-1 : Int32) else (0 : Int32))), iv (own_h q1)] [(.int 2)]
  refine sT (fun t k => XS.aloadN X778.here hx rfl (hb hby d16_197) rfl rfl k) ?_
  show gM p e below _ T778 m 198 #[rv a1, lv q1, sN, lv q2, sN, iv (if (xs1.getD (0 : Int32).toNatClampNeg 0) < q1 then (-2 : Int32) else (if q1 < (xs1.getD (0 : Int32).toNatClampNeg 0) then (-1 : Int32) else (0 : Int32))), iv (own_h q1)] [(.ref a1), (.int 2)]
  obtain ⟨T779, X779, e779, st779⟩ := getF X778 hx hZ hown (host := "") (Or.inl w35) Via.refl e778 (f771_11.other W775 (Or.inl ne_a1_tt_766)) (g := (mkF m 198 #[rv a1, lv q1, sN, lv q2, sN, iv (if (xs1.getD (0 : Int32).toNatClampNeg 0) < q1 then (-2 : Int32) else (if q1 < (xs1.getD (0 : Int32).toNatClampNeg 0) then (-1 : Int32) else (0 : Int32))), iv (own_h q1)] [(.ref a1), (.int 2)])) rfl rfl (hb hby d16_198)
  refine sT st779 ?_
  show gM p e below _ T779 m 201 #[rv a1, lv q1, sN, lv q2, sN, iv (if (xs1.getD (0 : Int32).toNatClampNeg 0) < q1 then (-2 : Int32) else (if q1 < (xs1.getD (0 : Int32).toNatClampNeg 0) then (-1 : Int32) else (0 : Int32))), iv (own_h q1)] [(.ref tt_766), (.int 2)]
  refine sT (fun t k => own_len X779 hx hZ e779 V775 (g := (mkF m 201 #[rv a1, lv q1, sN, lv q2, sN, iv (if (xs1.getD (0 : Int32).toNatClampNeg 0) < q1 then (-2 : Int32) else (if q1 < (xs1.getD (0 : Int32).toNatClampNeg 0) then (-1 : Int32) else (0 : Int32))), iv (own_h q1)] [(.ref tt_766), (.int 2)])) rfl rfl (hb hby d16_201) _ k) ?_
  show gM p e below _ T779 m 202 #[rv a1, lv q1, sN, lv q2, sN, iv (if (xs1.getD (0 : Int32).toNatClampNeg 0) < q1 then (-2 : Int32) else (if q1 < (xs1.getD (0 : Int32).toNatClampNeg 0) then (-1 : Int32) else (0 : Int32))), iv (own_h q1)] [(.int 32), (.int 2)]
  have hc780 : ¬ ((32 : Int32) < (2 : Int32)) := by decide
  refine sT (fun t k => XS.icmpYes X779.here hx rfl (pc0 := 202) (pc' := 216) rfl (hb hby d16_202) rfl (flt hc780).2.2.2 (by decide) (by decide) k) ?_
  show gM p e below _ T779 m 216 #[rv a1, lv q1, sN, lv q2, sN, iv (if (xs1.getD (0 : Int32).toNatClampNeg 0) < q1 then (-2 : Int32) else (if q1 < (xs1.getD (0 : Int32).toNatClampNeg 0) then (-1 : Int32) else (0 : Int32))), iv (own_h q1)] []
  refine sT (fun t k => XS.iconst X779.here hx rfl (hb hby d16_216) k) ?_
  show gM p e below _ T779 m 217 #[rv a1, lv q1, sN, lv q2, sN, iv (if (xs1.getD (0 : Int32).toNatClampNeg 0) < q1 then (-2 : Int32) else (if q1 < (xs1.getD (0 : Int32).toNatClampNeg 0) then (-1 : Int32) else (0 : Int32))), iv (own_h q1)] [(.int 1)]
  refine own_retV X779 hx hlk Bd.returns (w := (.int 1)) (own_nb (Or.inr rfl)) (Or.inl ⟨rfl, Or.inr (Or.inl rfl), _, rfl⟩) (hb hby d16_217) ?_ (by decide) (by decide)
  show own_al1_Q Z a1 q1 q2 bb cc kb kc z1 xs1 ys1 mo h0 n0 _ T779.heap _
  rw [e779]
  exact ⟨b2_771, c2_771, k2_771, k3_771, z2_771, xs2_771, ys2_771, tt_766, kt_766, rfl, N775, K776, (f771_0.imp (Nat.le_trans K767.1) id), (f771_1.imp (Nat.le_trans K767.1) id), f771_2, f771_3, f771_4, (f771_5.wr W775), (f771_6.other W775 (Or.inl ne_a1_tt_766)), (f771_7.other W775 (Or.inl ne_a1_tt_766)), (f771_8.other W775 (Or.inl ne_a1_tt_766)), (f771_9.other W775 (Or.inl ne_a1_tt_766)), (f771_10.other W775 (Or.inl ne_a1_tt_766)), (f771_12.other W775 (Ne.symm ne_tt_766_b2_771)), (f771_13.other W775 (Ne.symm ne_tt_766_c2_771)), f771_14, f771_15, f771_16, f771_17, f771_18, sz_tt_766, ne_a1_tt_766, (Ne.symm ne_tt_766_b2_771), (Ne.symm ne_tt_766_c2_771), (f771_11.other W775 (Or.inl ne_a1_tt_766)), V775⟩
theorem own_al2_ef (m : MethodId) (a1 : Addr) (q1 : Int64) (q2 : Int64) : entryFrame m #[(.ref a1), (.long q1), (.long q2)] 7 = mkF m 0 #[rv a1, lv q1, sN, lv q2, sN, uN, uN] [] := by first | (simp [entryFrame, mkF, argsToLocals, Value.category]; done) | rfl
def own_al2_Q (Z : State) (a1 : Addr) (q1 : Int64) (q2 : Int64) (bb : Addr) (cc : Addr) (kb : ClassId) (kc : ClassId) (z1 : Int32) (xs1 : List Int64) (ys1 : List Int64) (mo : Int32) (h0 : Heap) (n0 : Nat) (v : Option Value) (h : Heap) (L : List Loc) : Prop := ∃ b2 : Addr, ∃ c2 : Addr, ∃ k2 : ClassId, ∃ k3 : ClassId, ∃ z2 : Int32, ∃ xs2 : List Int64, ∃ ys2 : List Int64, ∃ tt : Addr, ∃ kt : ClassId, v = some (.int 1) ∧ Fr n0 L ∧ Keep h0 h [a1, bb, cc] ∧ (h0.size ≤ b2 ∨ b2 = bb) ∧ (h0.size ≤ c2 ∨ c2 = cc) ∧ a1 ≠ b2 ∧ a1 ≠ c2 ∧ b2 ≠ c2 ∧ Exa Z h a1 oS ∧ Fld Z h a1 oS "size" "I" (.int 3) ∧ Fld Z h a1 oS "most" "I" (.int mo) ∧ Fld Z h a1 oS "blocks" "[J" (.ref b2) ∧ Fld Z h a1 oS "bits" "[J" (.ref c2) ∧ Fld Z h a1 oS "ordered" "I" (.int 2) ∧ Arv Z h b2 k2 .long z2 (xs2.map Value.long) (Value.long 0) ∧ Arv Z h c2 k3 .long z2 (ys2.map Value.long) (Value.long 0) ∧ z2 = own_nl (2 : Int32) z1 mo ∧ xs2.length = z2.toNatClampNeg ∧ ys2.length = z2.toNatClampNeg ∧ xs2.getD (0 : Int32).toNatClampNeg 0 = xs1.getD (0 : Int32).toNatClampNeg 0 ∧ xs2.getD (1 : Int32).toNatClampNeg 0 = xs1.getD (1 : Int32).toNatClampNeg 0 ∧ xs2.getD (2 : Int32).toNatClampNeg 0 = q1 ∧ h0.size ≤ tt ∧ a1 ≠ tt ∧ b2 ≠ tt ∧ c2 ≠ tt ∧ Fld Z h a1 oS "table" "[I" (.ref tt) ∧ Arv Z h tt kt .int 32 (((List.replicate 32 (0 : Int32)).set ((own_h q1).toNatClampNeg) (3 : Int32)).map Value.int) (Value.int 0)
set_option maxRecDepth 65536 in
set_option maxHeartbeats 40000000 in
theorem own_al2 (l : Launch) (Z : State) (a0 : Array Value) (hw : ∀ d ∈ tables_1, d.before a0 Z = true) (ws : List Jvm.Cond) (a1 : Addr) (q1 : Int64) (q2 : Int64) (bb : Addr) (cc : Addr) (kb : ClassId) (kc : ClassId) (z1 : Int32) (xs1 : List Int64) (ys1 : List Int64) (mo : Int32) (h0 : Heap) (n0 : Nat) (Z0 : n0 ≤ h0.size) (E_a1 : Exa Z h0 a1 oS) (g_a1 : n0 ≤ a1) (F_size_a1 : Fld Z h0 a1 oS "size" "I" (.int 2)) (F_most_a1 : Fld Z h0 a1 oS "most" "I" (.int mo)) (F_blocks_a1 : Fld Z h0 a1 oS "blocks" "[J" (.ref bb)) (F_bits_a1 : Fld Z h0 a1 oS "bits" "[J" (.ref cc)) (V_bb : Arv Z h0 bb kb .long z1 (xs1.map Value.long) (Value.long 0)) (V_cc : Arv Z h0 cc kc .long z1 (ys1.map Value.long) (Value.long 0)) (g_bb : n0 ≤ bb) (g_cc : n0 ≤ cc) (ne_a1_bb : a1 ≠ bb) (ne_a1_cc : a1 ≠ cc) (ne_bb_cc : bb ≠ cc) (hz : ¬ z1 < (2 : Int32)) (hxl : xs1.length = z1.toNatClampNeg) (hyl : ys1.length = z1.toNatClampNeg) (F_ordered_a1 : Fld Z h0 a1 oS "ordered" "I" (.int 2)) (F_table_a1 : Fld Z h0 a1 oS "table" "[I" .null) (hnq : ¬ (xs1.getD (1 : Int32).toNatClampNeg 0) = q1) (hlt : ¬ (xs1.getD (1 : Int32).toNatClampNeg 0) < q1) (hbs : (if (xs1.getD (0 : Int32).toNatClampNeg 0) < q1 then (if (xs1.getD (1 : Int32).toNatClampNeg 0) < q1 then (-3 : Int32) else (if q1 < (xs1.getD (1 : Int32).toNatClampNeg 0) then (-2 : Int32) else (1 : Int32))) else (if q1 < (xs1.getD (0 : Int32).toNatClampNeg 0) then (-1 : Int32) else (0 : Int32))) < (0 : Int32)) :
    MetFree l (⟨oS, "add", "(JJ)Z"⟩ : MethodName) (head1 (Jvm.Cond.code (⟨oS, "add", "(JJ)Z"⟩ : MethodName) prog_128_method_8_code 7 (some .boolean) :: ws) ({ frames := 3, cells := 3, slots := 40, locals := 50 } : Room)) (fun aa U => aa = #[(.ref a1), (.long q1), (.long q2)] ∧ Z.Warmed39 U.vm ∧ U.heap = h0) (fun _ _ _ _ _ => True) (fun _ U o U' => ∃ v L, o = .returned v ∧ own_al2_Q Z a1 q1 q2 bb cc kb kc z1 xs1 ys1 mo h0 n0 v U'.heap L ∧ FrameEnd U o U' L ({ frames := 3, cells := 3, slots := 40, locals := 50 } : Room).cells ({ frames := 3, cells := 3, slots := 40, locals := 50 } : Room).slots) := by
  refine MetFree.of_bodySF (plainFor_of_name own_pn0) hisR ?_
  have w1 := hw _ (List.mem_of_getElem? (i := 1) rfl)
  have w2 := hw _ (List.mem_of_getElem? (i := 2) rfl)
  have w20 := hw _ (List.mem_of_getElem? (i := 20) rfl)
  have w35 := hw _ (List.mem_of_getElem? (i := 35) rfl)
  have w42 := hw _ (List.mem_of_getElem? (i := 42) rfl)
  have w44 := hw _ (List.mem_of_getElem? (i := 44) rfl)
  have w45 := hw _ (List.mem_of_getElem? (i := 45) rfl)
  have w46 := hw _ (List.mem_of_getElem? (i := 46) rfl)
  have w47 := hw _ (List.mem_of_getElem? (i := 47) rfl)
  have w48 := hw _ (List.mem_of_getElem? (i := 48) rfl)
  have w51 := hw _ (List.mem_of_getElem? (i := 51) rfl)
  have w52 := hw _ (List.mem_of_getElem? (i := 52) rfl)
  have w53 := hw _ (List.mem_of_getElem? (i := 53) rfl)
  have w54 := hw _ (List.mem_of_getElem? (i := 54) rfl)
  have w61 := hw _ (List.mem_of_getElem? (i := 61) rfl)
  have w62 := hw _ (List.mem_of_getElem? (i := 62) rfl)
  have w63 := hw _ (List.mem_of_getElem? (i := 63) rfl)
  have w64 := hw _ (List.mem_of_getElem? (i := 64) rfl)
  have w66 := hw _ (List.mem_of_getElem? (i := 66) rfl)
  have w67 := hw _ (List.mem_of_getElem? (i := 67) rfl)
  have w68 := hw _ (List.mem_of_getElem? (i := 68) rfl)
  have w69 := hw _ (List.mem_of_getElem? (i := 69) rfl)
  intro p e s m args below meth c s₁ Bd hml0 hP hK
  obtain ⟨rfl, hZ, hh⟩ := hP
  have hx := Bd.exec
  have hby := Bd.bytes
  have hlk := Bd.notSynchronized
  have hml : c.maxLocals = 7 := hml0
  have hown : s.vm.findClass oS = some m.cls := findClass_of_methodNamed Bd.named
  have hnm := (name_of_methodNamed Bd.named Bd.method).1
  have X0 : Stand p l e ({ frames := 3, cells := 3, slots := 40, locals := 50 } : Room) s m #[(.ref a1), (.long q1), (.long q2)] below meth c s₁ [] 0 0 := Stand.of_body Bd
  have e0 : s₁.heap = h0 := by rw [← hh, Bd.state]; rfl
  have N0 := Fr.nil n0
  have K0 : Keep h0 h0 [a1, bb, cc] := Keep.refl h0 _
  show gS p e below (own_Fin s (own_al2_Q Z a1 q1 q2 bb cc kb kc z1 xs1 ys1 mo h0 n0) ({ frames := 3, cells := 3, slots := 40, locals := 50 } : Room).cells ({ frames := 3, cells := 3, slots := 40, locals := 50 } : Room).slots) _
  refine sT (fun t k => castTop (own_al2_ef m a1 q1 q2) k) ?_
  show gM p e below _ s₁ m 0 #[rv a1, lv q1, sN, lv q2, sN, uN, uN] []
  refine sT (fun t k => XS.aloadN X0.here hx rfl (hb hby d16_0) rfl rfl k) ?_
  show gM p e below _ s₁ m 1 #[rv a1, lv q1, sN, lv q2, sN, uN, uN] [(.ref a1)]
  obtain ⟨T812, X812, e812, st812⟩ := getF X0 hx hZ hown (host := "") (Or.inl w42) Via.refl e0 F_size_a1 (g := (mkF m 1 #[rv a1, lv q1, sN, lv q2, sN, uN, uN] [(.ref a1)])) rfl rfl (hb hby d16_1)
  refine sT st812 ?_
  show gM p e below _ T812 m 4 #[rv a1, lv q1, sN, lv q2, sN, uN, uN] [(.int 2)]
  have hc813 : (0 : Int32) < (2 : Int32) := by decide
  refine sT (fun t k => XS.ifNo X812.here hx rfl (hb hby d16_4) rfl ((if0 _ _).trans (tlt hc813).2.2.2) k) ?_
  show gM p e below _ T812 m 7 #[rv a1, lv q1, sN, lv q2, sN, uN, uN] []
  refine sT (fun t k => XS.aloadN X812.here hx rfl (hb hby d16_7) rfl rfl k) ?_
  show gM p e below _ T812 m 8 #[rv a1, lv q1, sN, lv q2, sN, uN, uN] [(.ref a1)]
  obtain ⟨T814, X814, e814, st814⟩ := getF X812 hx hZ hown (host := "") (Or.inl w20) Via.refl e812 F_blocks_a1 (g := (mkF m 8 #[rv a1, lv q1, sN, lv q2, sN, uN, uN] [(.ref a1)])) rfl rfl (hb hby d16_8)
  refine sT st814 ?_
  show gM p e below _ T814 m 11 #[rv a1, lv q1, sN, lv q2, sN, uN, uN] [(.ref bb)]
  refine sT (fun t k => XS.aloadN X814.here hx rfl (hb hby d16_11) rfl rfl k) ?_
  show gM p e below _ T814 m 12 #[rv a1, lv q1, sN, lv q2, sN, uN, uN] [(.ref a1), (.ref bb)]
  obtain ⟨T815, X815, e815, st815⟩ := getF X814 hx hZ hown (host := "") (Or.inl w42) Via.refl e814 F_size_a1 (g := (mkF m 12 #[rv a1, lv q1, sN, lv q2, sN, uN, uN] [(.ref a1), (.ref bb)])) rfl rfl (hb hby d16_12)
  refine sT st815 ?_
  show gM p e below _ T815 m 15 #[rv a1, lv q1, sN, lv q2, sN, uN, uN] [(.int 2), (.ref bb)]
  refine sT (fun t k => XS.iconst X815.here hx rfl (hb hby d16_15) k) ?_
  show gM p e below _ T815 m 16 #[rv a1, lv q1, sN, lv q2, sN, uN, uN] [(.int 1), (.int 2), (.ref bb)]
  refine sT (fun t k => XS.isub X815.here hx rfl (hb hby d16_16) rfl k) ?_
  show gM p e below _ T815 m 17 #[rv a1, lv q1, sN, lv q2, sN, uN, uN] [(.int 1), (.ref bb)]
  refine sT (fun t k => own_lal X815 hx hZ e815 V_bb (own_j (by decide) (by decide) hz) (g := (mkF m 17 #[rv a1, lv q1, sN, lv q2, sN, uN, uN] [(.int 1), (.ref bb)])) rfl rfl (hb hby d16_17) _ k) ?_
  show gM p e below _ T815 m 18 #[rv a1, lv q1, sN, lv q2, sN, uN, uN] [(.long (xs1.getD (1 : Int32).toNatClampNeg 0))]
  refine sT (fun t k => XS.lloadN X815.here hx rfl (hb hby d16_18) rfl k) ?_
  show gM p e below _ T815 m 19 #[rv a1, lv q1, sN, lv q2, sN, uN, uN] [(.long q1), (.long (xs1.getD (1 : Int32).toNatClampNeg 0))]
  refine sT (fun t k => XS.lcmp X815.here hx rfl (hb hby d16_19) rfl k) ?_
  show gM p e below _ T815 m 20 #[rv a1, lv q1, sN, lv q2, sN, uN, uN] [(.int (lcmpW (xs1.getD (1 : Int32).toNatClampNeg 0) q1))]
  have hc816 : ¬ ((xs1.getD (1 : Int32).toNatClampNeg 0) = q1) := hnq
  refine sT (fun t k => XS.ifYes X815.here hx rfl (pc0 := 20) (pc' := 40) rfl (hb hby d16_20) rfl ((if0 _ _).trans (feq (fun zq => hc816 ((lw_eq (xs1.getD (1 : Int32).toNatClampNeg 0) q1).mp zq))).2) (by decide) (by decide) k) ?_
  show gM p e below _ T815 m 40 #[rv a1, lv q1, sN, lv q2, sN, uN, uN] []
  refine sT (fun t k => XS.aloadN X815.here hx rfl (hb hby d16_40) rfl rfl k) ?_
  show gM p e below _ T815 m 41 #[rv a1, lv q1, sN, lv q2, sN, uN, uN] [(.ref a1)]
  obtain ⟨T817, X817, e817, st817⟩ := getF X815 hx hZ hown (host := "") (Or.inl w35) Via.refl e815 F_table_a1 (g := (mkF m 41 #[rv a1, lv q1, sN, lv q2, sN, uN, uN] [(.ref a1)])) rfl rfl (hb hby d16_41)
  refine sT st817 ?_
  show gM p e below _ T817 m 44 #[rv a1, lv q1, sN, lv q2, sN, uN, uN] [.null]
  refine sT (fun t k => XS.ifnonnullNo X817.here hx rfl (hb hby d16_44) rfl k) ?_
  show gM p e below _ T817 m 47 #[rv a1, lv q1, sN, lv q2, sN, uN, uN] []
  refine sT (fun t k => XS.aloadN X817.here hx rfl (hb hby d16_47) rfl rfl k) ?_
  show gM p e below _ T817 m 48 #[rv a1, lv q1, sN, lv q2, sN, uN, uN] [(.ref a1)]
  obtain ⟨T818, X818, e818, st818⟩ := getF X817 hx hZ hown (host := "") (Or.inl w42) Via.refl e817 F_size_a1 (g := (mkF m 48 #[rv a1, lv q1, sN, lv q2, sN, uN, uN] [(.ref a1)])) rfl rfl (hb hby d16_48)
  refine sT st818 ?_
  show gM p e below _ T818 m 51 #[rv a1, lv q1, sN, lv q2, sN, uN, uN] [(.int 2)]
  have hc819 : ¬ ((2 : Int32) = (0 : Int32)) := by decide
  refine sT (fun t k => XS.ifNo X818.here hx rfl (hb hby d16_51) rfl ((if0 _ _).trans (feq hc819).1) k) ?_
  show gM p e below _ T818 m 54 #[rv a1, lv q1, sN, lv q2, sN, uN, uN] []
  refine sT (fun t k => XS.lloadN X818.here hx rfl (hb hby d16_54) rfl k) ?_
  show gM p e below _ T818 m 55 #[rv a1, lv q1, sN, lv q2, sN, uN, uN] [(.long q1)]
  refine sT (fun t k => XS.aloadN X818.here hx rfl (hb hby d16_55) rfl rfl k) ?_
  show gM p e below _ T818 m 56 #[rv a1, lv q1, sN, lv q2, sN, uN, uN] [(.ref a1), (.long q1)]
  obtain ⟨T820, X820, e820, st820⟩ := getF X818 hx hZ hown (host := "") (Or.inl w20) Via.refl e818 F_blocks_a1 (g := (mkF m 56 #[rv a1, lv q1, sN, lv q2, sN, uN, uN] [(.ref a1), (.long q1)])) rfl rfl (hb hby d16_56)
  refine sT st820 ?_
  show gM p e below _ T820 m 59 #[rv a1, lv q1, sN, lv q2, sN, uN, uN] [(.ref bb), (.long q1)]
  refine sT (fun t k => XS.aloadN X820.here hx rfl (hb hby d16_59) rfl rfl k) ?_
  show gM p e below _ T820 m 60 #[rv a1, lv q1, sN, lv q2, sN, uN, uN] [(.ref a1), (.ref bb), (.long q1)]
  obtain ⟨T821, X821, e821, st821⟩ := getF X820 hx hZ hown (host := "") (Or.inl w42) Via.refl e820 F_size_a1 (g := (mkF m 60 #[rv a1, lv q1, sN, lv q2, sN, uN, uN] [(.ref a1), (.ref bb), (.long q1)])) rfl rfl (hb hby d16_60)
  refine sT st821 ?_
  show gM p e below _ T821 m 63 #[rv a1, lv q1, sN, lv q2, sN, uN, uN] [(.int 2), (.ref bb), (.long q1)]
  refine sT (fun t k => XS.iconst X821.here hx rfl (hb hby d16_63) k) ?_
  show gM p e below _ T821 m 64 #[rv a1, lv q1, sN, lv q2, sN, uN, uN] [(.int 1), (.int 2), (.ref bb), (.long q1)]
  refine sT (fun t k => XS.isub X821.here hx rfl (hb hby d16_64) rfl k) ?_
  show gM p e below _ T821 m 65 #[rv a1, lv q1, sN, lv q2, sN, uN, uN] [(.int 1), (.ref bb), (.long q1)]
  refine sT (fun t k => own_lal X821 hx hZ e821 V_bb (own_j (by decide) (by decide) hz) (g := (mkF m 65 #[rv a1, lv q1, sN, lv q2, sN, uN, uN] [(.int 1), (.ref bb), (.long q1)])) rfl rfl (hb hby d16_65) _ k) ?_
  show gM p e below _ T821 m 66 #[rv a1, lv q1, sN, lv q2, sN, uN, uN] [(.long (xs1.getD (1 : Int32).toNatClampNeg 0)), (.long q1)]
  refine sT (fun t k => XS.lcmp X821.here hx rfl (hb hby d16_66) rfl k) ?_
  show gM p e below _ T821 m 67 #[rv a1, lv q1, sN, lv q2, sN, uN, uN] [(.int (lcmpW q1 (xs1.getD (1 : Int32).toNatClampNeg 0)))]
  have hc822 : ¬ ((xs1.getD (1 : Int32).toNatClampNeg 0) < q1) := hlt
  refine sT (fun t k => XS.ifYes X821.here hx rfl (pc0 := 67) (pc' := 86) rfl (hb hby d16_67) rfl ((if0 _ _).trans (flt (fun zq => hc822 ((lw_gt q1 (xs1.getD (1 : Int32).toNatClampNeg 0)).mp zq))).2.2.2) (by decide) (by decide) k) ?_
  show gM p e below _ T821 m 86 #[rv a1, lv q1, sN, lv q2, sN, uN, uN] []
  refine sT (fun t k => XS.aloadN X821.here hx rfl (hb hby d16_86) rfl rfl k) ?_
  show gM p e below _ T821 m 87 #[rv a1, lv q1, sN, lv q2, sN, uN, uN] [(.ref a1)]
  obtain ⟨T823, X823, e823, st823⟩ := getF X821 hx hZ hown (host := "") (Or.inl w20) Via.refl e821 F_blocks_a1 (g := (mkF m 87 #[rv a1, lv q1, sN, lv q2, sN, uN, uN] [(.ref a1)])) rfl rfl (hb hby d16_87)
  refine sT st823 ?_
  show gM p e below _ T823 m 90 #[rv a1, lv q1, sN, lv q2, sN, uN, uN] [(.ref bb)]
  refine sT (fun t k => XS.iconst X823.here hx rfl (hb hby d16_90) k) ?_
  show gM p e below _ T823 m 91 #[rv a1, lv q1, sN, lv q2, sN, uN, uN] [(.int 0), (.ref bb)]
  refine sT (fun t k => XS.aloadN X823.here hx rfl (hb hby d16_91) rfl rfl k) ?_
  show gM p e below _ T823 m 92 #[rv a1, lv q1, sN, lv q2, sN, uN, uN] [(.ref a1), (.int 0), (.ref bb)]
  obtain ⟨T824, X824, e824, st824⟩ := getF X823 hx hZ hown (host := "") (Or.inl w48) Via.refl e823 F_ordered_a1 (g := (mkF m 92 #[rv a1, lv q1, sN, lv q2, sN, uN, uN] [(.ref a1), (.int 0), (.ref bb)])) rfl rfl (hb hby d16_92)
  refine sT st824 ?_
  show gM p e below _ T824 m 95 #[rv a1, lv q1, sN, lv q2, sN, uN, uN] [(.int 2), (.int 0), (.ref bb)]
  refine sT (fun t k => XS.lloadN X824.here hx rfl (hb hby d16_95) rfl k) ?_
  show gM p e below _ T824 m 96 #[rv a1, lv q1, sN, lv q2, sN, uN, uN] [(.long q1), (.int 2), (.int 0), (.ref bb)]
  obtain ⟨_, _, ⟨T825, L825, k825, n825⟩, -, X825, ⟨Lc825, hQ825, l825, y825, z825⟩, st825⟩ := Jvm.LawKit.callS X824 hx (y := (⟨"java/util/Arrays", "binarySearch", "([JIIJ)I"⟩ : MethodName)) hown (mvT hZ w51) (mvT hZ w52) (mvT hZ w53) (mvT hZ w54) (by decide) (backOf (W := 0) (own_bs2 l Z a0 hw [] bb q1 (kb) (z1) (xs1) ((if (xs1.getD (0 : Int32).toNatClampNeg 0) < q1 then (if (xs1.getD (1 : Int32).toNatClampNeg 0) < q1 then (-3 : Int32) else (if q1 < (xs1.getD (1 : Int32).toNatClampNeg 0) then (-2 : Int32) else (1 : Int32))) else (if q1 < (xs1.getD (0 : Int32).toNatClampNeg 0) then (-1 : Int32) else (0 : Int32)))) h0 n0 Z0 V_bb hz rfl) hZ w54 w53 (by decide) (by decide)) (g := (mkF m 96 #[rv a1, lv q1, sN, lv q2, sN, uN, uN] [(.long q1), (.int 2), (.int 0), (.ref bb)])) rfl (by rw [hml]; rfl) (argsL := [(.ref bb), (.int 0), (.int 2), (.long q1)]) (rest := []) (lenOf own_pd6 rfl) rfl (by show 2 * 0 + _ ≤ _; exact Nat.le_of_eq rfl) (hb hby d16_96) (fun _ _ => ⟨rfl, e824, (by decide : 0 + 0 ≤ _), (by decide : 0 + 0 ≤ _)⟩)
  dsimp only [Pt.U, Pt.locs, Pt.cells, Pt.slots] at X825 l825 y825 z825 st825 hQ825
  subst y825 z825
  obtain ⟨rfl, N825q, eh825⟩ := hQ825
  have N825 : Fr n0 L825 := by rw [l825]; exact Fr.app N0 N825q
  refine sT st825 ?_
  show gM p e below _ T825 m 99 #[rv a1, lv q1, sN, lv q2, sN, uN, uN] [(.int (if (xs1.getD (0 : Int32).toNatClampNeg 0) < q1 then (if (xs1.getD (1 : Int32).toNatClampNeg 0) < q1 then (-3 : Int32) else (if q1 < (xs1.getD (1 : Int32).toNatClampNeg 0) then (-2 : Int32) else (1 : Int32))) else (if q1 < (xs1.getD (0 : Int32).toNatClampNeg 0) then (-1 : Int32) else (0 : Int32))))]
  refine sT (fun t k => XS.istore X825.here hx rfl (hb hby d16_99) rfl (l' := #[rv a1, lv q1, sN, lv q2, sN, iv (if (xs1.getD (0 : Int32).toNatClampNeg 0) < q1 then (if (xs1.getD (1 : Int32).toNatClampNeg 0) < q1 then (-3 : Int32) else (if q1 < (xs1.getD (1 : Int32).toNatClampNeg 0) then (-2 : Int32) else (1 : Int32))) else (if q1 < (xs1.getD (0 : Int32).toNatClampNeg 0) then (-1 : Int32) else (0 : Int32))), uN]) rfl k) ?_
  show gM p e below _ T825 m 101 #[rv a1, lv q1, sN, lv q2, sN, iv (if (xs1.getD (0 : Int32).toNatClampNeg 0) < q1 then (if (xs1.getD (1 : Int32).toNatClampNeg 0) < q1 then (-3 : Int32) else (if q1 < (xs1.getD (1 : Int32).toNatClampNeg 0) then (-2 : Int32) else (1 : Int32))) else (if q1 < (xs1.getD (0 : Int32).toNatClampNeg 0) then (-1 : Int32) else (0 : Int32))), uN] []
  refine sT (fun t k => XS.iload X825.here hx rfl (hb hby d16_101) rfl k) ?_
  show gM p e below _ T825 m 103 #[rv a1, lv q1, sN, lv q2, sN, iv (if (xs1.getD (0 : Int32).toNatClampNeg 0) < q1 then (if (xs1.getD (1 : Int32).toNatClampNeg 0) < q1 then (-3 : Int32) else (if q1 < (xs1.getD (1 : Int32).toNatClampNeg 0) then (-2 : Int32) else (1 : Int32))) else (if q1 < (xs1.getD (0 : Int32).toNatClampNeg 0) then (-1 : Int32) else (0 : Int32))), uN] [(.int (if (xs1.getD (0 : Int32).toNatClampNeg 0) < q1 then (if (xs1.getD (1 : Int32).toNatClampNeg 0) < q1 then (-3 : Int32) else (if q1 < (xs1.getD (1 : Int32).toNatClampNeg 0) then (-2 : Int32) else (1 : Int32))) else (if q1 < (xs1.getD (0 : Int32).toNatClampNeg 0) then (-1 : Int32) else (0 : Int32))))]
  have hc826 : (if (xs1.getD (0 : Int32).toNatClampNeg 0) < q1 then (if (xs1.getD (1 : Int32).toNatClampNeg 0) < q1 then (-3 : Int32) else (if q1 < (xs1.getD (1 : Int32).toNatClampNeg 0) then (-2 : Int32) else (1 : Int32))) else (if q1 < (xs1.getD (0 : Int32).toNatClampNeg 0) then (-1 : Int32) else (0 : Int32))) < (0 : Int32) := hbs
  refine sT (fun t k => XS.ifYes X825.here hx rfl (pc0 := 103) (pc' := 119) rfl (hb hby d16_103) rfl ((if0 _ _).trans (tlt hc826).1) (by decide) (by decide) k) ?_
  show gM p e below _ T825 m 119 #[rv a1, lv q1, sN, lv q2, sN, iv (if (xs1.getD (0 : Int32).toNatClampNeg 0) < q1 then (if (xs1.getD (1 : Int32).toNatClampNeg 0) < q1 then (-3 : Int32) else (if q1 < (xs1.getD (1 : Int32).toNatClampNeg 0) then (-2 : Int32) else (1 : Int32))) else (if q1 < (xs1.getD (0 : Int32).toNatClampNeg 0) then (-1 : Int32) else (0 : Int32))), uN] []
  refine sT (fun t k => XS.aloadN X825.here hx rfl (hb hby d16_119) rfl rfl k) ?_
  show gM p e below _ T825 m 120 #[rv a1, lv q1, sN, lv q2, sN, iv (if (xs1.getD (0 : Int32).toNatClampNeg 0) < q1 then (if (xs1.getD (1 : Int32).toNatClampNeg 0) < q1 then (-3 : Int32) else (if q1 < (xs1.getD (1 : Int32).toNatClampNeg 0) then (-2 : Int32) else (1 : Int32))) else (if q1 < (xs1.getD (0 : Int32).toNatClampNeg 0) then (-1 : Int32) else (0 : Int32))), uN] [(.ref a1)]
  obtain ⟨T827, X827, e827, st827⟩ := getF X825 hx hZ hown (host := "") (Or.inl w35) Via.refl eh825 F_table_a1 (g := (mkF m 120 #[rv a1, lv q1, sN, lv q2, sN, iv (if (xs1.getD (0 : Int32).toNatClampNeg 0) < q1 then (if (xs1.getD (1 : Int32).toNatClampNeg 0) < q1 then (-3 : Int32) else (if q1 < (xs1.getD (1 : Int32).toNatClampNeg 0) then (-2 : Int32) else (1 : Int32))) else (if q1 < (xs1.getD (0 : Int32).toNatClampNeg 0) then (-1 : Int32) else (0 : Int32))), uN] [(.ref a1)])) rfl rfl (hb hby d16_120)
  refine sT st827 ?_
  show gM p e below _ T827 m 123 #[rv a1, lv q1, sN, lv q2, sN, iv (if (xs1.getD (0 : Int32).toNatClampNeg 0) < q1 then (if (xs1.getD (1 : Int32).toNatClampNeg 0) < q1 then (-3 : Int32) else (if q1 < (xs1.getD (1 : Int32).toNatClampNeg 0) then (-2 : Int32) else (1 : Int32))) else (if q1 < (xs1.getD (0 : Int32).toNatClampNeg 0) then (-1 : Int32) else (0 : Int32))), uN] [.null]
  refine sT (fun t k => XS.ifnonnullNo X827.here hx rfl (hb hby d16_123) rfl k) ?_
  show gM p e below _ T827 m 126 #[rv a1, lv q1, sN, lv q2, sN, iv (if (xs1.getD (0 : Int32).toNatClampNeg 0) < q1 then (if (xs1.getD (1 : Int32).toNatClampNeg 0) < q1 then (-3 : Int32) else (if q1 < (xs1.getD (1 : Int32).toNatClampNeg 0) then (-2 : Int32) else (1 : Int32))) else (if q1 < (xs1.getD (0 : Int32).toNatClampNeg 0) then (-1 : Int32) else (0 : Int32))), uN] []
  refine sT (fun t k => XS.aloadN X827.here hx rfl (hb hby d16_126) rfl rfl k) ?_
  show gM p e below _ T827 m 127 #[rv a1, lv q1, sN, lv q2, sN, iv (if (xs1.getD (0 : Int32).toNatClampNeg 0) < q1 then (if (xs1.getD (1 : Int32).toNatClampNeg 0) < q1 then (-3 : Int32) else (if q1 < (xs1.getD (1 : Int32).toNatClampNeg 0) then (-2 : Int32) else (1 : Int32))) else (if q1 < (xs1.getD (0 : Int32).toNatClampNeg 0) then (-1 : Int32) else (0 : Int32))), uN] [(.ref a1)]
  refine sT (fun t k => XS.bipush X827.here hx rfl (hb hby d16_127) k) ?_
  show gM p e below _ T827 m 129 #[rv a1, lv q1, sN, lv q2, sN, iv (if (xs1.getD (0 : Int32).toNatClampNeg 0) < q1 then (if (xs1.getD (1 : Int32).toNatClampNeg 0) < q1 then (-3 : Int32) else (if q1 < (xs1.getD (1 : Int32).toNatClampNeg 0) then (-2 : Int32) else (1 : Int32))) else (if q1 < (xs1.getD (0 : Int32).toNatClampNeg 0) then (-1 : Int32) else (0 : Int32))), uN] [(.int 32), (.ref a1)]
  obtain ⟨cq828, q828, q828'⟩ := E_a1.cell
  obtain ⟨_, _, ⟨T828, L828, k828, n828⟩, -, X828, ⟨Lc828, hQ828, l828, y828, z828⟩, st828⟩ := X827.privateBack hx (y := (⟨oS, "index", "(I)V"⟩ : MethodName)) hown (mvT hZ w61) (mvT hZ w62) (own_selp hZ w1 w63 w62 (by decide)) (Cond.privateMethod_at (mvP hZ w63 (args := #[]))) (mvT hZ w64) (by decide) (backOf (W := 0) (own_ix2 l Z a0 hw [] a1 (.null) ((.int mo)) ((.ref bb)) ((.ref cc)) h0 n0 Z0 E_a1 g_a1 F_size_a1 F_ordered_a1 F_table_a1 F_most_a1 F_blocks_a1 F_bits_a1) hZ w64 w2 (by decide) (by decide)) (g := (mkF m 129 #[rv a1, lv q1, sN, lv q2, sN, iv (if (xs1.getD (0 : Int32).toNatClampNeg 0) < q1 then (if (xs1.getD (1 : Int32).toNatClampNeg 0) < q1 then (-3 : Int32) else (if q1 < (xs1.getD (1 : Int32).toNatClampNeg 0) then (-2 : Int32) else (1 : Int32))) else (if q1 < (xs1.getD (0 : Int32).toNatClampNeg 0) then (-1 : Int32) else (0 : Int32))), uN] [(.int 32), (.ref a1)])) rfl (by rw [hml]; rfl) (Steps.refl _) (a := a1) (by rw [e827]; exact q828) q828' (argsL := [(.int 32)]) (rest := []) (lenOf own_pd1 rfl) rfl (by show 2 * 0 + _ ≤ _; exact Nat.le_of_eq rfl) (hb hby d16_129) (fun _ _ => ⟨rfl, e827, (by decide : 0 + 1 ≤ _), (by decide : 0 + 32 ≤ _)⟩)
  dsimp only [Pt.U, Pt.locs, Pt.cells, Pt.slots] at X828 l828 y828 z828 st828 hQ828
  subst y828 z828
  obtain ⟨tt_828, kt_828, rfl, N828q, K828c, f828_0, f828_1, f828_2, f828_3, f828_4, f828_5, f828_6, f828_7, f828_8⟩ := hQ828
  have N828 : Fr n0 L828 := by rw [l828]; exact Fr.app N825 N828q
  refine own_jump st828 ?_
  have K829 : Keep h0 T828.heap [a1, bb, cc] := K0.trans K828c (allS (Or.inl (List.mem_of_getElem? (i := 0) rfl)) all0)
  have sz_tt_828 : h0.size ≤ tt_828 := Nat.le_trans K0.1 f828_0
  have g_tt_828 : n0 ≤ tt_828 := Nat.le_trans Z0 sz_tt_828
  have ne_bb_tt_828 : bb ≠ tt_828 := Nat.ne_of_lt (Nat.lt_of_lt_of_le V_bb.lt f828_0)
  have ne_a1_tt_828 : a1 ≠ tt_828 := Nat.ne_of_lt (Nat.lt_of_lt_of_le E_a1.lt f828_0)
  have ne_cc_tt_828 : cc ≠ tt_828 := Nat.ne_of_lt (Nat.lt_of_lt_of_le V_cc.lt f828_0)
  show gM p e below _ T828 m 132 #[rv a1, lv q1, sN, lv q2, sN, iv (if (xs1.getD (0 : Int32).toNatClampNeg 0) < q1 then (if (xs1.getD (1 : Int32).toNatClampNeg 0) < q1 then (-3 : Int32) else (if q1 < (xs1.getD (1 : Int32).toNatClampNeg 0) then (-2 : Int32) else (1 : Int32))) else (if q1 < (xs1.getD (0 : Int32).toNatClampNeg 0) then (-1 : Int32) else (0 : Int32))), uN] []
  refine sT (fun t k => XS.aloadN X828.here hx rfl (hb hby d16_132) rfl rfl k) ?_
  show gM p e below _ T828 m 133 #[rv a1, lv q1, sN, lv q2, sN, iv (if (xs1.getD (0 : Int32).toNatClampNeg 0) < q1 then (if (xs1.getD (1 : Int32).toNatClampNeg 0) < q1 then (-3 : Int32) else (if q1 < (xs1.getD (1 : Int32).toNatClampNeg 0) then (-2 : Int32) else (1 : Int32))) else (if q1 < (xs1.getD (0 : Int32).toNatClampNeg 0) then (-1 : Int32) else (0 : Int32))), uN] [(.ref a1)]
  refine sT (fun t k => XS.lloadN X828.here hx rfl (hb hby d16_133) rfl k) ?_
  show gM p e below _ T828 m 134 #[rv a1, lv q1, sN, lv q2, sN, iv (if (xs1.getD (0 : Int32).toNatClampNeg 0) < q1 then (if (xs1.getD (1 : Int32).toNatClampNeg 0) < q1 then (-3 : Int32) else (if q1 < (xs1.getD (1 : Int32).toNatClampNeg 0) then (-2 : Int32) else (1 : Int32))) else (if q1 < (xs1.getD (0 : Int32).toNatClampNeg 0) then (-1 : Int32) else (0 : Int32))), uN] [(.long q1), (.ref a1)]
  obtain ⟨cq830, q830, q830'⟩ := f828_1.cell
  obtain ⟨_, _, ⟨T830, L830, k830, n830⟩, -, X830, ⟨Lc830, hQ830, l830, y830, z830⟩, st830⟩ := X828.privateBack hx (y := (⟨oS, "slot", "(J)I"⟩ : MethodName)) hown (mvT hZ w66) (mvT hZ w67) (own_selp hZ w1 w68 w67 (by decide)) (Cond.privateMethod_at (mvP hZ w68 (args := #[]))) (mvT hZ w69) (by decide) (backOf (W := 0) (own_sA l Z a0 hw [] a1 q1 (tt_828) (kt_828) T828.heap n0 (Nat.le_trans Z0 K828c.1) f828_4 f828_8) hZ w69 w2 (by decide) (by decide)) (g := (mkF m 134 #[rv a1, lv q1, sN, lv q2, sN, iv (if (xs1.getD (0 : Int32).toNatClampNeg 0) < q1 then (if (xs1.getD (1 : Int32).toNatClampNeg 0) < q1 then (-3 : Int32) else (if q1 < (xs1.getD (1 : Int32).toNatClampNeg 0) then (-2 : Int32) else (1 : Int32))) else (if q1 < (xs1.getD (0 : Int32).toNatClampNeg 0) then (-1 : Int32) else (0 : Int32))), uN] [(.long q1), (.ref a1)])) rfl (by rw [hml]; rfl) (Steps.refl _) (a := a1) q830 q830' (argsL := [(.long q1)]) (rest := []) (lenOf own_pd8 rfl) rfl (by show 2 * 0 + _ ≤ _; exact Nat.le_of_eq rfl) (hb hby d16_134) (fun _ _ => ⟨rfl, rfl, (by decide : 1 + 0 ≤ _), (by decide : 32 + 0 ≤ _)⟩)
  dsimp only [Pt.U, Pt.locs, Pt.cells, Pt.slots] at X830 l830 y830 z830 st830 hQ830
  subst y830 z830
  obtain ⟨rfl, N830q, eh830⟩ := hQ830
  have N830 : Fr n0 L830 := by rw [l830]; exact Fr.app N828 N830q
  refine own_jump st830 ?_
  show gM p e below _ T830 m 137 #[rv a1, lv q1, sN, lv q2, sN, iv (if (xs1.getD (0 : Int32).toNatClampNeg 0) < q1 then (if (xs1.getD (1 : Int32).toNatClampNeg 0) < q1 then (-3 : Int32) else (if q1 < (xs1.getD (1 : Int32).toNatClampNeg 0) then (-2 : Int32) else (1 : Int32))) else (if q1 < (xs1.getD (0 : Int32).toNatClampNeg 0) then (-1 : Int32) else (0 : Int32))), uN] [(.int (own_h q1))]
  refine sT (fun t k => XS.istore X830.here hx rfl (hb hby d16_137) rfl (l' := #[rv a1, lv q1, sN, lv q2, sN, iv (if (xs1.getD (0 : Int32).toNatClampNeg 0) < q1 then (if (xs1.getD (1 : Int32).toNatClampNeg 0) < q1 then (-3 : Int32) else (if q1 < (xs1.getD (1 : Int32).toNatClampNeg 0) then (-2 : Int32) else (1 : Int32))) else (if q1 < (xs1.getD (0 : Int32).toNatClampNeg 0) then (-1 : Int32) else (0 : Int32))), iv (own_h q1)]) rfl k) ?_
  show gM p e below _ T830 m 139 #[rv a1, lv q1, sN, lv q2, sN, iv (if (xs1.getD (0 : Int32).toNatClampNeg 0) < q1 then (if (xs1.getD (1 : Int32).toNatClampNeg 0) < q1 then (-3 : Int32) else (if q1 < (xs1.getD (1 : Int32).toNatClampNeg 0) then (-2 : Int32) else (1 : Int32))) else (if q1 < (xs1.getD (0 : Int32).toNatClampNeg 0) then (-1 : Int32) else (0 : Int32))), iv (own_h q1)] []
  refine sT (fun t k => XS.aloadN X830.here hx rfl (hb hby d16_139) rfl rfl k) ?_
  show gM p e below _ T830 m 140 #[rv a1, lv q1, sN, lv q2, sN, iv (if (xs1.getD (0 : Int32).toNatClampNeg 0) < q1 then (if (xs1.getD (1 : Int32).toNatClampNeg 0) < q1 then (-3 : Int32) else (if q1 < (xs1.getD (1 : Int32).toNatClampNeg 0) then (-2 : Int32) else (1 : Int32))) else (if q1 < (xs1.getD (0 : Int32).toNatClampNeg 0) then (-1 : Int32) else (0 : Int32))), iv (own_h q1)] [(.ref a1)]
  obtain ⟨T831, X831, e831, st831⟩ := getF X830 hx hZ hown (host := "") (Or.inl w35) Via.refl eh830 f828_4 (g := (mkF m 140 #[rv a1, lv q1, sN, lv q2, sN, iv (if (xs1.getD (0 : Int32).toNatClampNeg 0) < q1 then (if (xs1.getD (1 : Int32).toNatClampNeg 0) < q1 then (-3 : Int32) else (if q1 < (xs1.getD (1 : Int32).toNatClampNeg 0) then (-2 : Int32) else (1 : Int32))) else (if q1 < (xs1.getD (0 : Int32).toNatClampNeg 0) then (-1 : Int32) else (0 : Int32))), iv (own_h q1)] [(.ref a1)])) rfl rfl (hb hby d16_140)
  refine sT st831 ?_
  show gM p e below _ T831 m 143 #[rv a1, lv q1, sN, lv q2, sN, iv (if (xs1.getD (0 : Int32).toNatClampNeg 0) < q1 then (if (xs1.getD (1 : Int32).toNatClampNeg 0) < q1 then (-3 : Int32) else (if q1 < (xs1.getD (1 : Int32).toNatClampNeg 0) then (-2 : Int32) else (1 : Int32))) else (if q1 < (xs1.getD (0 : Int32).toNatClampNeg 0) then (-1 : Int32) else (0 : Int32))), iv (own_h q1)] [(.ref tt_828)]
  refine sT (fun t k => XS.iload X831.here hx rfl (hb hby d16_143) rfl k) ?_
  show gM p e below _ T831 m 145 #[rv a1, lv q1, sN, lv q2, sN, iv (if (xs1.getD (0 : Int32).toNatClampNeg 0) < q1 then (if (xs1.getD (1 : Int32).toNatClampNeg 0) < q1 then (-3 : Int32) else (if q1 < (xs1.getD (1 : Int32).toNatClampNeg 0) then (-2 : Int32) else (1 : Int32))) else (if q1 < (xs1.getD (0 : Int32).toNatClampNeg 0) then (-1 : Int32) else (0 : Int32))), iv (own_h q1)] [(.int (own_h q1)), (.ref tt_828)]
  refine sT (fun t k => own_ial X831 hx hZ e831 f828_8 (own_hh _) (g := (mkF m 145 #[rv a1, lv q1, sN, lv q2, sN, iv (if (xs1.getD (0 : Int32).toNatClampNeg 0) < q1 then (if (xs1.getD (1 : Int32).toNatClampNeg 0) < q1 then (-3 : Int32) else (if q1 < (xs1.getD (1 : Int32).toNatClampNeg 0) then (-2 : Int32) else (1 : Int32))) else (if q1 < (xs1.getD (0 : Int32).toNatClampNeg 0) then (-1 : Int32) else (0 : Int32))), iv (own_h q1)] [(.int (own_h q1)), (.ref tt_828)])) rfl rfl (hb hby d16_145) _ k) ?_
  show gM p e below _ T831 m 146 #[rv a1, lv q1, sN, lv q2, sN, iv (if (xs1.getD (0 : Int32).toNatClampNeg 0) < q1 then (if (xs1.getD (1 : Int32).toNatClampNeg 0) < q1 then (-3 : Int32) else (if q1 < (xs1.getD (1 : Int32).toNatClampNeg 0) then (-2 : Int32) else (1 : Int32))) else (if q1 < (xs1.getD (0 : Int32).toNatClampNeg 0) then (-1 : Int32) else (0 : Int32))), iv (own_h q1)] [(.int ((List.replicate 32 (0 : Int32)).getD (own_h q1).toNatClampNeg 0))]
  have hc832 : ((List.replicate 32 (0 : Int32)).getD (own_h q1).toNatClampNeg 0) = (0 : Int32) := own_z _
  refine sT (fun t k => XS.ifYes X831.here hx rfl (pc0 := 146) (pc' := 169) rfl (hb hby d16_146) rfl ((if0 _ _).trans (teq hc832).1) (by decide) (by decide) k) ?_
  show gM p e below _ T831 m 169 #[rv a1, lv q1, sN, lv q2, sN, iv (if (xs1.getD (0 : Int32).toNatClampNeg 0) < q1 then (if (xs1.getD (1 : Int32).toNatClampNeg 0) < q1 then (-3 : Int32) else (if q1 < (xs1.getD (1 : Int32).toNatClampNeg 0) then (-2 : Int32) else (1 : Int32))) else (if q1 < (xs1.getD (0 : Int32).toNatClampNeg 0) then (-1 : Int32) else (0 : Int32))), iv (own_h q1)] []
  refine sT (fun t k => XS.aloadN X831.here hx rfl (hb hby d16_169) rfl rfl k) ?_
  show gM p e below _ T831 m 170 #[rv a1, lv q1, sN, lv q2, sN, iv (if (xs1.getD (0 : Int32).toNatClampNeg 0) < q1 then (if (xs1.getD (1 : Int32).toNatClampNeg 0) < q1 then (-3 : Int32) else (if q1 < (xs1.getD (1 : Int32).toNatClampNeg 0) then (-2 : Int32) else (1 : Int32))) else (if q1 < (xs1.getD (0 : Int32).toNatClampNeg 0) then (-1 : Int32) else (0 : Int32))), iv (own_h q1)] [(.ref a1)]
  refine sT (fun t k => XS.lloadN X831.here hx rfl (hb hby d16_170) rfl k) ?_
  show gM p e below _ T831 m 171 #[rv a1, lv q1, sN, lv q2, sN, iv (if (xs1.getD (0 : Int32).toNatClampNeg 0) < q1 then (if (xs1.getD (1 : Int32).toNatClampNeg 0) < q1 then (-3 : Int32) else (if q1 < (xs1.getD (1 : Int32).toNatClampNeg 0) then (-2 : Int32) else (1 : Int32))) else (if q1 < (xs1.getD (0 : Int32).toNatClampNeg 0) then (-1 : Int32) else (0 : Int32))), iv (own_h q1)] [(.long q1), (.ref a1)]
  refine sT (fun t k => XS.lloadN X831.here hx rfl (hb hby d16_171) rfl k) ?_
  show gM p e below _ T831 m 172 #[rv a1, lv q1, sN, lv q2, sN, iv (if (xs1.getD (0 : Int32).toNatClampNeg 0) < q1 then (if (xs1.getD (1 : Int32).toNatClampNeg 0) < q1 then (-3 : Int32) else (if q1 < (xs1.getD (1 : Int32).toNatClampNeg 0) then (-2 : Int32) else (1 : Int32))) else (if q1 < (xs1.getD (0 : Int32).toNatClampNeg 0) then (-1 : Int32) else (0 : Int32))), iv (own_h q1)] [(.long q2), (.long q1), (.ref a1)]
  obtain ⟨cq833, q833, q833'⟩ := f828_1.cell
  obtain ⟨_, _, ⟨T833, L833, k833, n833⟩, -, X833, ⟨Lc833, hQ833, l833, y833, z833⟩, st833⟩ := X831.privateBack hx (y := (⟨oS, "append", "(JJ)V"⟩ : MethodName)) hown (mvT hZ w44) (mvT hZ w45) (own_selp hZ w1 w46 w45 (by decide)) (Cond.privateMethod_at (mvP hZ w46 (args := #[]))) (mvT hZ w47) (by decide) (backOf (W := 0) (own_ap2 l Z a0 hw [] a1 q1 q2 (bb) (cc) (kb) (kc) (z1) (xs1) (ys1) (mo) ((.int 2)) ((.ref tt_828)) T828.heap n0 (Nat.le_trans Z0 K828c.1) f828_1 g_a1 f828_2 f828_5 f828_6 f828_7 (V_bb.keep K828c (ninS (Ne.symm ne_a1_bb) nin0)) (V_cc.keep K828c (ninS (Ne.symm ne_a1_cc) nin0)) g_bb g_cc ne_a1_bb ne_a1_cc ne_bb_cc hz hxl hyl f828_3 f828_4) hZ w47 w2 (by decide) (by decide)) (g := (mkF m 172 #[rv a1, lv q1, sN, lv q2, sN, iv (if (xs1.getD (0 : Int32).toNatClampNeg 0) < q1 then (if (xs1.getD (1 : Int32).toNatClampNeg 0) < q1 then (-3 : Int32) else (if q1 < (xs1.getD (1 : Int32).toNatClampNeg 0) then (-2 : Int32) else (1 : Int32))) else (if q1 < (xs1.getD (0 : Int32).toNatClampNeg 0) then (-1 : Int32) else (0 : Int32))), iv (own_h q1)] [(.long q2), (.long q1), (.ref a1)])) rfl (by rw [hml]; rfl) (Steps.refl _) (a := a1) (by rw [e831]; exact q833) q833' (argsL := [(.long q1), (.long q2)]) (rest := []) (lenOf own_pd7 rfl) rfl (by show 2 * 0 + _ ≤ _; exact Nat.le_of_eq rfl) (hb hby d16_172) (fun _ _ => ⟨rfl, e831, (by decide : 1 + 2 ≤ _), (by decide : 32 + 8 ≤ _)⟩)
  dsimp only [Pt.U, Pt.locs, Pt.cells, Pt.slots] at X833 l833 y833 z833 st833 hQ833
  subst y833 z833
  obtain ⟨b2_833, c2_833, k2_833, k3_833, z2_833, xs2_833, ys2_833, rfl, N833q, K833c, f833_0, f833_1, f833_2, f833_3, f833_4, f833_5, f833_6, f833_7, f833_8, f833_9, f833_10, f833_11, f833_12, f833_13, f833_14, f833_15, f833_16, f833_17, f833_18, f833_19⟩ := hQ833
  have N833 : Fr n0 L833 := by rw [l833]; exact Fr.app N830 N833q
  refine own_jump st833 ?_
  have K834 : Keep h0 T833.heap [a1, bb, cc] := K829.trans K833c (allS (Or.inl (List.mem_of_getElem? (i := 0) rfl)) (allS (Or.inl (List.mem_of_getElem? (i := 1) rfl)) (allS (Or.inl (List.mem_of_getElem? (i := 2) rfl)) all0)))
  show gM p e below _ T833 m 175 #[rv a1, lv q1, sN, lv q2, sN, iv (if (xs1.getD (0 : Int32).toNatClampNeg 0) < q1 then (if (xs1.getD (1 : Int32).toNatClampNeg 0) < q1 then (-3 : Int32) else (if q1 < (xs1.getD (1 : Int32).toNatClampNeg 0) then (-2 : Int32) else (1 : Int32))) else (if q1 < (xs1.getD (0 : Int32).toNatClampNeg 0) then (-1 : Int32) else (0 : Int32))), iv (own_h q1)] []
  have ne_tt_828_b2_833 : tt_828 ≠ b2_833 := own_neb f833_0 f828_8.lt (Ne.symm ne_bb_tt_828)
  have ne_tt_828_c2_833 : tt_828 ≠ c2_833 := own_neb f833_1 f828_8.lt (Ne.symm ne_cc_tt_828)
  have sz_b2_833 : h0.size ≤ b2_833 ∨ b2_833 = bb := f833_0.imp (Nat.le_trans K829.1) id
  have sz_c2_833 : h0.size ≤ c2_833 ∨ c2_833 = cc := f833_1.imp (Nat.le_trans K829.1) id
  refine sT (fun t k => XS.aloadN X833.here hx rfl (hb hby d16_175) rfl rfl k) ?_
  show gM p e below _ T833 m 176 #[rv a1, lv q1, sN, lv q2, sN, iv (if (xs1.getD (0 : Int32).toNatClampNeg 0) < q1 then (if (xs1.getD (1 : Int32).toNatClampNeg 0) < q1 then (-3 : Int32) else (if q1 < (xs1.getD (1 : Int32).toNatClampNeg 0) then (-2 : Int32) else (1 : Int32))) else (if q1 < (xs1.getD (0 : Int32).toNatClampNeg 0) then (-1 : Int32) else (0 : Int32))), iv (own_h q1)] [(.ref a1)]
  obtain ⟨T835, X835, e835, st835⟩ := getF X833 hx hZ hown (host := "") (Or.inl w35) Via.refl rfl f833_11 (g := (mkF m 176 #[rv a1, lv q1, sN, lv q2, sN, iv (if (xs1.getD (0 : Int32).toNatClampNeg 0) < q1 then (if (xs1.getD (1 : Int32).toNatClampNeg 0) < q1 then (-3 : Int32) else (if q1 < (xs1.getD (1 : Int32).toNatClampNeg 0) then (-2 : Int32) else (1 : Int32))) else (if q1 < (xs1.getD (0 : Int32).toNatClampNeg 0) then (-1 : Int32) else (0 : Int32))), iv (own_h q1)] [(.ref a1)])) rfl rfl (hb hby d16_176)
  refine sT st835 ?_
  show gM p e below _ T835 m 179 #[rv a1, lv q1, sN, lv q2, sN, iv (if (xs1.getD (0 : Int32).toNatClampNeg 0) < q1 then (if (xs1.getD (1 : Int32).toNatClampNeg 0) < q1 then (-3 : Int32) else (if q1 < (xs1.getD (1 : Int32).toNatClampNeg 0) then (-2 : Int32) else (1 : Int32))) else (if q1 < (xs1.getD (0 : Int32).toNatClampNeg 0) then (-1 : Int32) else (0 : Int32))), iv (own_h q1)] [(.ref tt_828)]
  refine sT (fun t k => XS.iload X835.here hx rfl (hb hby d16_179) rfl k) ?_
  show gM p e below _ T835 m 181 #[rv a1, lv q1, sN, lv q2, sN, iv (if (xs1.getD (0 : Int32).toNatClampNeg 0) < q1 then (if (xs1.getD (1 : Int32).toNatClampNeg 0) < q1 then (-3 : Int32) else (if q1 < (xs1.getD (1 : Int32).toNatClampNeg 0) then (-2 : Int32) else (1 : Int32))) else (if q1 < (xs1.getD (0 : Int32).toNatClampNeg 0) then (-1 : Int32) else (0 : Int32))), iv (own_h q1)] [(.int (own_h q1)), (.ref tt_828)]
  refine sT (fun t k => XS.aloadN X835.here hx rfl (hb hby d16_181) rfl rfl k) ?_
  show gM p e below _ T835 m 182 #[rv a1, lv q1, sN, lv q2, sN, iv (if (xs1.getD (0 : Int32).toNatClampNeg 0) < q1 then (if (xs1.getD (1 : Int32).toNatClampNeg 0) < q1 then (-3 : Int32) else (if q1 < (xs1.getD (1 : Int32).toNatClampNeg 0) then (-2 : Int32) else (1 : Int32))) else (if q1 < (xs1.getD (0 : Int32).toNatClampNeg 0) then (-1 : Int32) else (0 : Int32))), iv (own_h q1)] [(.ref a1), (.int (own_h q1)), (.ref tt_828)]
  obtain ⟨T836, X836, e836, st836⟩ := getF X835 hx hZ hown (host := "") (Or.inl w42) Via.refl e835 f833_6 (g := (mkF m 182 #[rv a1, lv q1, sN, lv q2, sN, iv (if (xs1.getD (0 : Int32).toNatClampNeg 0) < q1 then (if (xs1.getD (1 : Int32).toNatClampNeg 0) < q1 then (-3 : Int32) else (if q1 < (xs1.getD (1 : Int32).toNatClampNeg 0) then (-2 : Int32) else (1 : Int32))) else (if q1 < (xs1.getD (0 : Int32).toNatClampNeg 0) then (-1 : Int32) else (0 : Int32))), iv (own_h q1)] [(.ref a1), (.int (own_h q1)), (.ref tt_828)])) rfl rfl (hb hby d16_182)
  refine sT st836 ?_
  show gM p e below _ T836 m 185 #[rv a1, lv q1, sN, lv q2, sN, iv (if (xs1.getD (0 : Int32).toNatClampNeg 0) < q1 then (if (xs1.getD (1 : Int32).toNatClampNeg 0) < q1 then (-3 : Int32) else (if q1 < (xs1.getD (1 : Int32).toNatClampNeg 0) then (-2 : Int32) else (1 : Int32))) else (if q1 < (xs1.getD (0 : Int32).toNatClampNeg 0) then (-1 : Int32) else (0 : Int32))), iv (own_h q1)] [(.int 3), (.int (own_h q1)), (.ref tt_828)]
  obtain ⟨T837, h837, X837, e837, W837, V837, st837⟩ := own_ist X836 hx hZ e836 (f828_8.keep K833c (ninS (Ne.symm ne_a1_tt_828) (ninS (Ne.symm ne_bb_tt_828) (ninS (Ne.symm ne_cc_tt_828) nin0)))) (j := (own_h q1)) (own_hh _) ((own_h q1).toNatClampNeg) rfl (own_hl _) (g := (mkF m 185 #[rv a1, lv q1, sN, lv q2, sN, iv (if (xs1.getD (0 : Int32).toNatClampNeg 0) < q1 then (if (xs1.getD (1 : Int32).toNatClampNeg 0) < q1 then (-3 : Int32) else (if q1 < (xs1.getD (1 : Int32).toNatClampNeg 0) then (-2 : Int32) else (1 : Int32))) else (if q1 < (xs1.getD (0 : Int32).toNatClampNeg 0) then (-1 : Int32) else (0 : Int32))), iv (own_h q1)] [(.int 3), (.int (own_h q1)), (.ref tt_828)])) rfl rfl (hb hby d16_185)
  have V837 : Arv Z h837 tt_828 kt_828 .int 32 (((List.replicate 32 (0 : Int32)).set ((own_h q1).toNatClampNeg) (3 : Int32)).map Value.int) (Value.int 0) := V837
  have N837 := Fr.snoc X837 N833 g_tt_828
  have K838 : Keep h0 h837 [a1, bb, cc] := K834.wr W837 (Or.inr sz_tt_828)
  refine sT st837 ?_
  show gM p e below _ T837 m 186 #[rv a1, lv q1, sN, lv q2, sN, iv (if (xs1.getD (0 : Int32).toNatClampNeg 0) < q1 then (if (xs1.getD (1 : Int32).toNatClampNeg 0) < q1 then (-3 : Int32) else (if q1 < (xs1.getD (1 : Int32).toNatClampNeg 0) then (-2 : Int32) else (1 : Int32))) else (if q1 < (xs1.getD (0 : Int32).toNatClampNeg 0) then (-1 : Int32) else (0 : Int32))), iv (own_h q1)] []
  refine sT (fun t k => XS.iconst X837.here hx rfl (hb hby d16_186) k) ?_
  show gM p e below _ T837 m 187 #[rv a1, lv q1, sN, lv q2, sN, iv (if (xs1.getD (0 : Int32).toNatClampNeg 0) < q1 then (if (xs1.getD (1 : Int32).toNatClampNeg 0) < q1 then (-3 : Int32) else (if q1 < (xs1.getD (1 : Int32).toNatClampNeg 0) then (-2 : Int32) else (1 : Int32))) else (if q1 < (xs1.getD (0 : Int32).toNatClampNeg 0) then (-1 : Int32) else (0 : Int32))), iv (own_h q1)] [(.int 2)]
  refine sT (fun t k => XS.aloadN X837.here hx rfl (hb hby d16_187) rfl rfl k) ?_
  show gM p e below _ T837 m 188 #[rv a1, lv q1, sN, lv q2, sN, iv (if (xs1.getD (0 : Int32).toNatClampNeg 0) < q1 then (if (xs1.getD (1 : Int32).toNatClampNeg 0) < q1 then (-3 : Int32) else (if q1 < (xs1.getD (1 : Int32).toNatClampNeg 0) then (-2 : Int32) else (1 : Int32))) else (if q1 < (xs1.getD (0 : Int32).toNatClampNeg 0) then (-1 : Int32) else (0 : Int32))), iv (own_h q1)] [(.ref a1), (.int 2)]
  obtain ⟨T839, X839, e839, st839⟩ := getF X837 hx hZ hown (host := "") (Or.inl w42) Via.refl e837 (f833_6.other W837 (Or.inl ne_a1_tt_828)) (g := (mkF m 188 #[rv a1, lv q1, sN, lv q2, sN, iv (if (xs1.getD (0 : Int32).toNatClampNeg 0) < q1 then (if (xs1.getD (1 : Int32).toNatClampNeg 0) < q1 then (-3 : Int32) else (if q1 < (xs1.getD (1 : Int32).toNatClampNeg 0) then (-2 : Int32) else (1 : Int32))) else (if q1 < (xs1.getD (0 : Int32).toNatClampNeg 0) then (-1 : Int32) else (0 : Int32))), iv (own_h q1)] [(.ref a1), (.int 2)])) rfl rfl (hb hby d16_188)
  refine sT st839 ?_
  show gM p e below _ T839 m 191 #[rv a1, lv q1, sN, lv q2, sN, iv (if (xs1.getD (0 : Int32).toNatClampNeg 0) < q1 then (if (xs1.getD (1 : Int32).toNatClampNeg 0) < q1 then (-3 : Int32) else (if q1 < (xs1.getD (1 : Int32).toNatClampNeg 0) then (-2 : Int32) else (1 : Int32))) else (if q1 < (xs1.getD (0 : Int32).toNatClampNeg 0) then (-1 : Int32) else (0 : Int32))), iv (own_h q1)] [(.int 3), (.int 2)]
  refine sT (fun t k => XS.aloadN X839.here hx rfl (hb hby d16_191) rfl rfl k) ?_
  show gM p e below _ T839 m 192 #[rv a1, lv q1, sN, lv q2, sN, iv (if (xs1.getD (0 : Int32).toNatClampNeg 0) < q1 then (if (xs1.getD (1 : Int32).toNatClampNeg 0) < q1 then (-3 : Int32) else (if q1 < (xs1.getD (1 : Int32).toNatClampNeg 0) then (-2 : Int32) else (1 : Int32))) else (if q1 < (xs1.getD (0 : Int32).toNatClampNeg 0) then (-1 : Int32) else (0 : Int32))), iv (own_h q1)] [(.ref a1), (.int 3), (.int 2)]
  obtain ⟨T840, X840, e840, st840⟩ := getF X839 hx hZ hown (host := "") (Or.inl w48) Via.refl e839 (f833_10.other W837 (Or.inl ne_a1_tt_828)) (g := (mkF m 192 #[rv a1, lv q1, sN, lv q2, sN, iv (if (xs1.getD (0 : Int32).toNatClampNeg 0) < q1 then (if (xs1.getD (1 : Int32).toNatClampNeg 0) < q1 then (-3 : Int32) else (if q1 < (xs1.getD (1 : Int32).toNatClampNeg 0) then (-2 : Int32) else (1 : Int32))) else (if q1 < (xs1.getD (0 : Int32).toNatClampNeg 0) then (-1 : Int32) else (0 : Int32))), iv (own_h q1)] [(.ref a1), (.int 3), (.int 2)])) rfl rfl (hb hby d16_192)
  refine sT st840 ?_
  show gM p e below _ T840 m 195 #[rv a1, lv q1, sN, lv q2, sN, iv (if (xs1.getD (0 : Int32).toNatClampNeg 0) < q1 then (if (xs1.getD (1 : Int32).toNatClampNeg 0) < q1 then (-3 : Int32) else (if q1 < (xs1.getD (1 : Int32).toNatClampNeg 0) then (-2 : Int32) else (1 : Int32))) else (if q1 < (xs1.getD (0 : Int32).toNatClampNeg 0) then (-1 : Int32) else (0 : Int32))), iv (own_h q1)] [(.int 2), (.int 3), (.int 2)]
  refine sT (fun t k => XS.isub X840.here hx rfl (hb hby d16_195) rfl k) ?_
  show gM p e below _ T840 m 196 #[rv a1, lv q1, sN, lv q2, sN, iv (if (xs1.getD (0 : Int32).toNatClampNeg 0) < q1 then (if (xs1.getD (1 : Int32).toNatClampNeg 0) < q1 then (-3 : Int32) else (if q1 < (xs1.getD (1 : Int32).toNatClampNeg 0) then (-2 : Int32) else (1 : Int32))) else (if q1 < (xs1.getD (0 : Int32).toNatClampNeg 0) then (-1 : Int32) else (0 : Int32))), iv (own_h q1)] [(.int 1), (.int 2)]
  refine sT (fun t k => XS.imul X840.here hx rfl (hb hby d16_196) rfl k) ?_
  show gM p e below _ T840 m 197 #[rv a1, lv q1, sN, lv q2, sN, iv (if (xs1.getD (0 : Int32).toNatClampNeg 0) < q1 then (if (xs1.getD (1 : Int32).toNatClampNeg 0) < q1 then (-3 : Int32) else (if q1 < (xs1.getD (1 : Int32).toNatClampNeg 0) then (-2 : Int32) else (1 : Int32))) else (if q1 < (xs1.getD (0 : Int32).toNatClampNeg 0) then (-1 : Int32) else (0 : Int32))), iv (own_h q1)] [(.int 2)]
  refine sT (fun t k => XS.aloadN X840.here hx rfl (hb hby d16_197) rfl rfl k) ?_
  show gM p e below _ T840 m 198 #[rv a1, lv q1, sN, lv q2, sN, iv (if (xs1.getD (0 : Int32).toNatClampNeg 0) < q1 then (if (xs1.getD (1 : Int32).toNatClampNeg 0) < q1 then (-3 : Int32) else (if q1 < (xs1.getD (1 : Int32).toNatClampNeg 0) then (-2 : Int32) else (1 : Int32))) else (if q1 < (xs1.getD (0 : Int32).toNatClampNeg 0) then (-1 : Int32) else (0 : Int32))), iv (own_h q1)] [(.ref a1), (.int 2)]
  obtain ⟨T841, X841, e841, st841⟩ := getF X840 hx hZ hown (host := "") (Or.inl w35) Via.refl e840 (f833_11.other W837 (Or.inl ne_a1_tt_828)) (g := (mkF m 198 #[rv a1, lv q1, sN, lv q2, sN, iv (if (xs1.getD (0 : Int32).toNatClampNeg 0) < q1 then (if (xs1.getD (1 : Int32).toNatClampNeg 0) < q1 then (-3 : Int32) else (if q1 < (xs1.getD (1 : Int32).toNatClampNeg 0) then (-2 : Int32) else (1 : Int32))) else (if q1 < (xs1.getD (0 : Int32).toNatClampNeg 0) then (-1 : Int32) else (0 : Int32))), iv (own_h q1)] [(.ref a1), (.int 2)])) rfl rfl (hb hby d16_198)
  refine sT st841 ?_
  show gM p e below _ T841 m 201 #[rv a1, lv q1, sN, lv q2, sN, iv (if (xs1.getD (0 : Int32).toNatClampNeg 0) < q1 then (if (xs1.getD (1 : Int32).toNatClampNeg 0) < q1 then (-3 : Int32) else (if q1 < (xs1.getD (1 : Int32).toNatClampNeg 0) then (-2 : Int32) else (1 : Int32))) else (if q1 < (xs1.getD (0 : Int32).toNatClampNeg 0) then (-1 : Int32) else (0 : Int32))), iv (own_h q1)] [(.ref tt_828), (.int 2)]
  refine sT (fun t k => own_len X841 hx hZ e841 V837 (g := (mkF m 201 #[rv a1, lv q1, sN, lv q2, sN, iv (if (xs1.getD (0 : Int32).toNatClampNeg 0) < q1 then (if (xs1.getD (1 : Int32).toNatClampNeg 0) < q1 then (-3 : Int32) else (if q1 < (xs1.getD (1 : Int32).toNatClampNeg 0) then (-2 : Int32) else (1 : Int32))) else (if q1 < (xs1.getD (0 : Int32).toNatClampNeg 0) then (-1 : Int32) else (0 : Int32))), iv (own_h q1)] [(.ref tt_828), (.int 2)])) rfl rfl (hb hby d16_201) _ k) ?_
  show gM p e below _ T841 m 202 #[rv a1, lv q1, sN, lv q2, sN, iv (if (xs1.getD (0 : Int32).toNatClampNeg 0) < q1 then (if (xs1.getD (1 : Int32).toNatClampNeg 0) < q1 then (-3 : Int32) else (if q1 < (xs1.getD (1 : Int32).toNatClampNeg 0) then (-2 : Int32) else (1 : Int32))) else (if q1 < (xs1.getD (0 : Int32).toNatClampNeg 0) then (-1 : Int32) else (0 : Int32))), iv (own_h q1)] [(.int 32), (.int 2)]
  have hc842 : ¬ ((32 : Int32) < (2 : Int32)) := by decide
  refine sT (fun t k => XS.icmpYes X841.here hx rfl (pc0 := 202) (pc' := 216) rfl (hb hby d16_202) rfl (flt hc842).2.2.2 (by decide) (by decide) k) ?_
  show gM p e below _ T841 m 216 #[rv a1, lv q1, sN, lv q2, sN, iv (if (xs1.getD (0 : Int32).toNatClampNeg 0) < q1 then (if (xs1.getD (1 : Int32).toNatClampNeg 0) < q1 then (-3 : Int32) else (if q1 < (xs1.getD (1 : Int32).toNatClampNeg 0) then (-2 : Int32) else (1 : Int32))) else (if q1 < (xs1.getD (0 : Int32).toNatClampNeg 0) then (-1 : Int32) else (0 : Int32))), iv (own_h q1)] []
  refine sT (fun t k => XS.iconst X841.here hx rfl (hb hby d16_216) k) ?_
  show gM p e below _ T841 m 217 #[rv a1, lv q1, sN, lv q2, sN, iv (if (xs1.getD (0 : Int32).toNatClampNeg 0) < q1 then (if (xs1.getD (1 : Int32).toNatClampNeg 0) < q1 then (-3 : Int32) else (if q1 < (xs1.getD (1 : Int32).toNatClampNeg 0) then (-2 : Int32) else (1 : Int32))) else (if q1 < (xs1.getD (0 : Int32).toNatClampNeg 0) then (-1 : Int32) else (0 : Int32))), iv (own_h q1)] [(.int 1)]
  refine own_retV X841 hx hlk Bd.returns (w := (.int 1)) (own_nb (Or.inr rfl)) (Or.inl ⟨rfl, Or.inr (Or.inl rfl), _, rfl⟩) (hb hby d16_217) ?_ (by decide) (by decide)
  show own_al2_Q Z a1 q1 q2 bb cc kb kc z1 xs1 ys1 mo h0 n0 _ T841.heap _
  rw [e841]
  exact ⟨b2_833, c2_833, k2_833, k3_833, z2_833, xs2_833, ys2_833, tt_828, kt_828, rfl, N837, K838, (f833_0.imp (Nat.le_trans K829.1) id), (f833_1.imp (Nat.le_trans K829.1) id), f833_2, f833_3, f833_4, (f833_5.wr W837), (f833_6.other W837 (Or.inl ne_a1_tt_828)), (f833_7.other W837 (Or.inl ne_a1_tt_828)), (f833_8.other W837 (Or.inl ne_a1_tt_828)), (f833_9.other W837 (Or.inl ne_a1_tt_828)), (f833_10.other W837 (Or.inl ne_a1_tt_828)), (f833_12.other W837 (Ne.symm ne_tt_828_b2_833)), (f833_13.other W837 (Ne.symm ne_tt_828_c2_833)), f833_14, f833_15, f833_16, f833_17, f833_18, f833_19, sz_tt_828, ne_a1_tt_828, (Ne.symm ne_tt_828_b2_833), (Ne.symm ne_tt_828_c2_833), (f833_11.other W837 (Or.inl ne_a1_tt_828)), V837⟩
theorem d16_106 : decode prog_128_method_8_code 106 = .ok (.aload_n 0, 1) := by decide +kernel
theorem d16_107 : decode prog_128_method_8_code 107 = .ok (.getfield 29, 3) := by decide +kernel
theorem d16_110 : decode prog_128_method_8_code 110 = .ok (.iload 5, 2) := by decide +kernel
theorem d16_112 : decode prog_128_method_8_code 112 = .ok (.dup2, 1) := by decide +kernel
theorem d16_113 : decode prog_128_method_8_code 113 = .ok (.laload, 1) := by decide +kernel
theorem d16_114 : decode prog_128_method_8_code 114 = .ok (.lload_n 3, 1) := by decide +kernel
theorem d16_115 : decode prog_128_method_8_code 115 = .ok (.lor, 1) := by decide +kernel
theorem d16_116 : decode prog_128_method_8_code 116 = .ok (.lastore, 1) := by decide +kernel
theorem d16_117 : decode prog_128_method_8_code 117 = .ok (.iconst 0, 1) := by decide +kernel
theorem d16_118 : decode prog_128_method_8_code 118 = .ok (.ireturn, 1) := by decide +kernel
theorem own_af2_ef (m : MethodId) (a1 : Addr) (q1 : Int64) (q2 : Int64) : entryFrame m #[(.ref a1), (.long q1), (.long q2)] 7 = mkF m 0 #[rv a1, lv q1, sN, lv q2, sN, uN, uN] [] := by first | (simp [entryFrame, mkF, argsToLocals, Value.category]; done) | rfl
def own_af2_Q (Z : State) (a1 : Addr) (q1 : Int64) (q2 : Int64) (bb : Addr) (cc : Addr) (kb : ClassId) (kc : ClassId) (z1 : Int32) (xs1 : List Int64) (ys1 : List Int64) (mo : Int32) (h0 : Heap) (n0 : Nat) (v : Option Value) (h : Heap) (L : List Loc) : Prop := ∃ ys2 : List Int64, v = some (.int 0) ∧ Fr n0 L ∧ Keep h0 h [cc] ∧ Arv Z h cc kc .long z1 (ys2.map Value.long) (Value.long 0) ∧ ys2.length = z1.toNatClampNeg
set_option maxRecDepth 65536 in
set_option maxHeartbeats 40000000 in
theorem own_af2 (l : Launch) (Z : State) (a0 : Array Value) (hw : ∀ d ∈ tables_1, d.before a0 Z = true) (ws : List Jvm.Cond) (a1 : Addr) (q1 : Int64) (q2 : Int64) (bb : Addr) (cc : Addr) (kb : ClassId) (kc : ClassId) (z1 : Int32) (xs1 : List Int64) (ys1 : List Int64) (mo : Int32) (h0 : Heap) (n0 : Nat) (Z0 : n0 ≤ h0.size) (E_a1 : Exa Z h0 a1 oS) (g_a1 : n0 ≤ a1) (F_size_a1 : Fld Z h0 a1 oS "size" "I" (.int 2)) (F_most_a1 : Fld Z h0 a1 oS "most" "I" (.int mo)) (F_blocks_a1 : Fld Z h0 a1 oS "blocks" "[J" (.ref bb)) (F_bits_a1 : Fld Z h0 a1 oS "bits" "[J" (.ref cc)) (V_bb : Arv Z h0 bb kb .long z1 (xs1.map Value.long) (Value.long 0)) (V_cc : Arv Z h0 cc kc .long z1 (ys1.map Value.long) (Value.long 0)) (g_bb : n0 ≤ bb) (g_cc : n0 ≤ cc) (ne_a1_bb : a1 ≠ bb) (ne_a1_cc : a1 ≠ cc) (ne_bb_cc : bb ≠ cc) (hz : ¬ z1 < (2 : Int32)) (hxl : xs1.length = z1.toNatClampNeg) (hyl : ys1.length = z1.toNatClampNeg) (F_ordered_a1 : Fld Z h0 a1 oS "ordered" "I" (.int 2)) (F_table_a1 : Fld Z h0 a1 oS "table" "[I" .null) (hnq : ¬ (xs1.getD (1 : Int32).toNatClampNeg 0) = q1) (hlt : ¬ (xs1.getD (1 : Int32).toNatClampNeg 0) < q1) (hbs : (if (xs1.getD (0 : Int32).toNatClampNeg 0) < q1 then (if (xs1.getD (1 : Int32).toNatClampNeg 0) < q1 then (-3 : Int32) else (if q1 < (xs1.getD (1 : Int32).toNatClampNeg 0) then (-2 : Int32) else (1 : Int32))) else (if q1 < (xs1.getD (0 : Int32).toNatClampNeg 0) then (-1 : Int32) else (0 : Int32))) = (0 : Int32)) :
    MetFree l (⟨oS, "add", "(JJ)Z"⟩ : MethodName) (head1 (Jvm.Cond.code (⟨oS, "add", "(JJ)Z"⟩ : MethodName) prog_128_method_8_code 7 (some .boolean) :: ws) ({ frames := 2, cells := 0, slots := 0, locals := 37 } : Room)) (fun aa U => aa = #[(.ref a1), (.long q1), (.long q2)] ∧ Z.Warmed39 U.vm ∧ U.heap = h0) (fun _ _ _ _ _ => True) (fun _ U o U' => ∃ v L, o = .returned v ∧ own_af2_Q Z a1 q1 q2 bb cc kb kc z1 xs1 ys1 mo h0 n0 v U'.heap L ∧ FrameEnd U o U' L ({ frames := 2, cells := 0, slots := 0, locals := 37 } : Room).cells ({ frames := 2, cells := 0, slots := 0, locals := 37 } : Room).slots) := by
  refine MetFree.of_bodySF (plainFor_of_name own_pn0) hisR ?_
  have w20 := hw _ (List.mem_of_getElem? (i := 20) rfl)
  have w22 := hw _ (List.mem_of_getElem? (i := 22) rfl)
  have w35 := hw _ (List.mem_of_getElem? (i := 35) rfl)
  have w42 := hw _ (List.mem_of_getElem? (i := 42) rfl)
  have w48 := hw _ (List.mem_of_getElem? (i := 48) rfl)
  have w51 := hw _ (List.mem_of_getElem? (i := 51) rfl)
  have w52 := hw _ (List.mem_of_getElem? (i := 52) rfl)
  have w53 := hw _ (List.mem_of_getElem? (i := 53) rfl)
  have w54 := hw _ (List.mem_of_getElem? (i := 54) rfl)
  intro p e s m args below meth c s₁ Bd hml0 hP hK
  obtain ⟨rfl, hZ, hh⟩ := hP
  have hx := Bd.exec
  have hby := Bd.bytes
  have hlk := Bd.notSynchronized
  have hml : c.maxLocals = 7 := hml0
  have hown : s.vm.findClass oS = some m.cls := findClass_of_methodNamed Bd.named
  have hnm := (name_of_methodNamed Bd.named Bd.method).1
  have X0 : Stand p l e ({ frames := 2, cells := 0, slots := 0, locals := 37 } : Room) s m #[(.ref a1), (.long q1), (.long q2)] below meth c s₁ [] 0 0 := Stand.of_body Bd
  have e0 : s₁.heap = h0 := by rw [← hh, Bd.state]; rfl
  have N0 := Fr.nil n0
  have K0 : Keep h0 h0 [cc] := Keep.refl h0 _
  show gS p e below (own_Fin s (own_af2_Q Z a1 q1 q2 bb cc kb kc z1 xs1 ys1 mo h0 n0) ({ frames := 2, cells := 0, slots := 0, locals := 37 } : Room).cells ({ frames := 2, cells := 0, slots := 0, locals := 37 } : Room).slots) _
  refine sT (fun t k => castTop (own_af2_ef m a1 q1 q2) k) ?_
  show gM p e below _ s₁ m 0 #[rv a1, lv q1, sN, lv q2, sN, uN, uN] []
  refine sT (fun t k => XS.aloadN X0.here hx rfl (hb hby d16_0) rfl rfl k) ?_
  show gM p e below _ s₁ m 1 #[rv a1, lv q1, sN, lv q2, sN, uN, uN] [(.ref a1)]
  obtain ⟨T861, X861, e861, st861⟩ := getF X0 hx hZ hown (host := "") (Or.inl w42) Via.refl e0 F_size_a1 (g := (mkF m 1 #[rv a1, lv q1, sN, lv q2, sN, uN, uN] [(.ref a1)])) rfl rfl (hb hby d16_1)
  refine sT st861 ?_
  show gM p e below _ T861 m 4 #[rv a1, lv q1, sN, lv q2, sN, uN, uN] [(.int 2)]
  have hc862 : (0 : Int32) < (2 : Int32) := by decide
  refine sT (fun t k => XS.ifNo X861.here hx rfl (hb hby d16_4) rfl ((if0 _ _).trans (tlt hc862).2.2.2) k) ?_
  show gM p e below _ T861 m 7 #[rv a1, lv q1, sN, lv q2, sN, uN, uN] []
  refine sT (fun t k => XS.aloadN X861.here hx rfl (hb hby d16_7) rfl rfl k) ?_
  show gM p e below _ T861 m 8 #[rv a1, lv q1, sN, lv q2, sN, uN, uN] [(.ref a1)]
  obtain ⟨T863, X863, e863, st863⟩ := getF X861 hx hZ hown (host := "") (Or.inl w20) Via.refl e861 F_blocks_a1 (g := (mkF m 8 #[rv a1, lv q1, sN, lv q2, sN, uN, uN] [(.ref a1)])) rfl rfl (hb hby d16_8)
  refine sT st863 ?_
  show gM p e below _ T863 m 11 #[rv a1, lv q1, sN, lv q2, sN, uN, uN] [(.ref bb)]
  refine sT (fun t k => XS.aloadN X863.here hx rfl (hb hby d16_11) rfl rfl k) ?_
  show gM p e below _ T863 m 12 #[rv a1, lv q1, sN, lv q2, sN, uN, uN] [(.ref a1), (.ref bb)]
  obtain ⟨T864, X864, e864, st864⟩ := getF X863 hx hZ hown (host := "") (Or.inl w42) Via.refl e863 F_size_a1 (g := (mkF m 12 #[rv a1, lv q1, sN, lv q2, sN, uN, uN] [(.ref a1), (.ref bb)])) rfl rfl (hb hby d16_12)
  refine sT st864 ?_
  show gM p e below _ T864 m 15 #[rv a1, lv q1, sN, lv q2, sN, uN, uN] [(.int 2), (.ref bb)]
  refine sT (fun t k => XS.iconst X864.here hx rfl (hb hby d16_15) k) ?_
  show gM p e below _ T864 m 16 #[rv a1, lv q1, sN, lv q2, sN, uN, uN] [(.int 1), (.int 2), (.ref bb)]
  refine sT (fun t k => XS.isub X864.here hx rfl (hb hby d16_16) rfl k) ?_
  show gM p e below _ T864 m 17 #[rv a1, lv q1, sN, lv q2, sN, uN, uN] [(.int 1), (.ref bb)]
  refine sT (fun t k => own_lal X864 hx hZ e864 V_bb (own_j (by decide) (by decide) hz) (g := (mkF m 17 #[rv a1, lv q1, sN, lv q2, sN, uN, uN] [(.int 1), (.ref bb)])) rfl rfl (hb hby d16_17) _ k) ?_
  show gM p e below _ T864 m 18 #[rv a1, lv q1, sN, lv q2, sN, uN, uN] [(.long (xs1.getD (1 : Int32).toNatClampNeg 0))]
  refine sT (fun t k => XS.lloadN X864.here hx rfl (hb hby d16_18) rfl k) ?_
  show gM p e below _ T864 m 19 #[rv a1, lv q1, sN, lv q2, sN, uN, uN] [(.long q1), (.long (xs1.getD (1 : Int32).toNatClampNeg 0))]
  refine sT (fun t k => XS.lcmp X864.here hx rfl (hb hby d16_19) rfl k) ?_
  show gM p e below _ T864 m 20 #[rv a1, lv q1, sN, lv q2, sN, uN, uN] [(.int (lcmpW (xs1.getD (1 : Int32).toNatClampNeg 0) q1))]
  have hc865 : ¬ ((xs1.getD (1 : Int32).toNatClampNeg 0) = q1) := hnq
  refine sT (fun t k => XS.ifYes X864.here hx rfl (pc0 := 20) (pc' := 40) rfl (hb hby d16_20) rfl ((if0 _ _).trans (feq (fun zq => hc865 ((lw_eq (xs1.getD (1 : Int32).toNatClampNeg 0) q1).mp zq))).2) (by decide) (by decide) k) ?_
  show gM p e below _ T864 m 40 #[rv a1, lv q1, sN, lv q2, sN, uN, uN] []
  refine sT (fun t k => XS.aloadN X864.here hx rfl (hb hby d16_40) rfl rfl k) ?_
  show gM p e below _ T864 m 41 #[rv a1, lv q1, sN, lv q2, sN, uN, uN] [(.ref a1)]
  obtain ⟨T866, X866, e866, st866⟩ := getF X864 hx hZ hown (host := "") (Or.inl w35) Via.refl e864 F_table_a1 (g := (mkF m 41 #[rv a1, lv q1, sN, lv q2, sN, uN, uN] [(.ref a1)])) rfl rfl (hb hby d16_41)
  refine sT st866 ?_
  show gM p e below _ T866 m 44 #[rv a1, lv q1, sN, lv q2, sN, uN, uN] [.null]
  refine sT (fun t k => XS.ifnonnullNo X866.here hx rfl (hb hby d16_44) rfl k) ?_
  show gM p e below _ T866 m 47 #[rv a1, lv q1, sN, lv q2, sN, uN, uN] []
  refine sT (fun t k => XS.aloadN X866.here hx rfl (hb hby d16_47) rfl rfl k) ?_
  show gM p e below _ T866 m 48 #[rv a1, lv q1, sN, lv q2, sN, uN, uN] [(.ref a1)]
  obtain ⟨T867, X867, e867, st867⟩ := getF X866 hx hZ hown (host := "") (Or.inl w42) Via.refl e866 F_size_a1 (g := (mkF m 48 #[rv a1, lv q1, sN, lv q2, sN, uN, uN] [(.ref a1)])) rfl rfl (hb hby d16_48)
  refine sT st867 ?_
  show gM p e below _ T867 m 51 #[rv a1, lv q1, sN, lv q2, sN, uN, uN] [(.int 2)]
  have hc868 : ¬ ((2 : Int32) = (0 : Int32)) := by decide
  refine sT (fun t k => XS.ifNo X867.here hx rfl (hb hby d16_51) rfl ((if0 _ _).trans (feq hc868).1) k) ?_
  show gM p e below _ T867 m 54 #[rv a1, lv q1, sN, lv q2, sN, uN, uN] []
  refine sT (fun t k => XS.lloadN X867.here hx rfl (hb hby d16_54) rfl k) ?_
  show gM p e below _ T867 m 55 #[rv a1, lv q1, sN, lv q2, sN, uN, uN] [(.long q1)]
  refine sT (fun t k => XS.aloadN X867.here hx rfl (hb hby d16_55) rfl rfl k) ?_
  show gM p e below _ T867 m 56 #[rv a1, lv q1, sN, lv q2, sN, uN, uN] [(.ref a1), (.long q1)]
  obtain ⟨T869, X869, e869, st869⟩ := getF X867 hx hZ hown (host := "") (Or.inl w20) Via.refl e867 F_blocks_a1 (g := (mkF m 56 #[rv a1, lv q1, sN, lv q2, sN, uN, uN] [(.ref a1), (.long q1)])) rfl rfl (hb hby d16_56)
  refine sT st869 ?_
  show gM p e below _ T869 m 59 #[rv a1, lv q1, sN, lv q2, sN, uN, uN] [(.ref bb), (.long q1)]
  refine sT (fun t k => XS.aloadN X869.here hx rfl (hb hby d16_59) rfl rfl k) ?_
  show gM p e below _ T869 m 60 #[rv a1, lv q1, sN, lv q2, sN, uN, uN] [(.ref a1), (.ref bb), (.long q1)]
  obtain ⟨T870, X870, e870, st870⟩ := getF X869 hx hZ hown (host := "") (Or.inl w42) Via.refl e869 F_size_a1 (g := (mkF m 60 #[rv a1, lv q1, sN, lv q2, sN, uN, uN] [(.ref a1), (.ref bb), (.long q1)])) rfl rfl (hb hby d16_60)
  refine sT st870 ?_
  show gM p e below _ T870 m 63 #[rv a1, lv q1, sN, lv q2, sN, uN, uN] [(.int 2), (.ref bb), (.long q1)]
  refine sT (fun t k => XS.iconst X870.here hx rfl (hb hby d16_63) k) ?_
  show gM p e below _ T870 m 64 #[rv a1, lv q1, sN, lv q2, sN, uN, uN] [(.int 1), (.int 2), (.ref bb), (.long q1)]
  refine sT (fun t k => XS.isub X870.here hx rfl (hb hby d16_64) rfl k) ?_
  show gM p e below _ T870 m 65 #[rv a1, lv q1, sN, lv q2, sN, uN, uN] [(.int 1), (.ref bb), (.long q1)]
  refine sT (fun t k => own_lal X870 hx hZ e870 V_bb (own_j (by decide) (by decide) hz) (g := (mkF m 65 #[rv a1, lv q1, sN, lv q2, sN, uN, uN] [(.int 1), (.ref bb), (.long q1)])) rfl rfl (hb hby d16_65) _ k) ?_
  show gM p e below _ T870 m 66 #[rv a1, lv q1, sN, lv q2, sN, uN, uN] [(.long (xs1.getD (1 : Int32).toNatClampNeg 0)), (.long q1)]
  refine sT (fun t k => XS.lcmp X870.here hx rfl (hb hby d16_66) rfl k) ?_
  show gM p e below _ T870 m 67 #[rv a1, lv q1, sN, lv q2, sN, uN, uN] [(.int (lcmpW q1 (xs1.getD (1 : Int32).toNatClampNeg 0)))]
  have hc871 : ¬ ((xs1.getD (1 : Int32).toNatClampNeg 0) < q1) := hlt
  refine sT (fun t k => XS.ifYes X870.here hx rfl (pc0 := 67) (pc' := 86) rfl (hb hby d16_67) rfl ((if0 _ _).trans (flt (fun zq => hc871 ((lw_gt q1 (xs1.getD (1 : Int32).toNatClampNeg 0)).mp zq))).2.2.2) (by decide) (by decide) k) ?_
  show gM p e below _ T870 m 86 #[rv a1, lv q1, sN, lv q2, sN, uN, uN] []
  refine sT (fun t k => XS.aloadN X870.here hx rfl (hb hby d16_86) rfl rfl k) ?_
  show gM p e below _ T870 m 87 #[rv a1, lv q1, sN, lv q2, sN, uN, uN] [(.ref a1)]
  obtain ⟨T872, X872, e872, st872⟩ := getF X870 hx hZ hown (host := "") (Or.inl w20) Via.refl e870 F_blocks_a1 (g := (mkF m 87 #[rv a1, lv q1, sN, lv q2, sN, uN, uN] [(.ref a1)])) rfl rfl (hb hby d16_87)
  refine sT st872 ?_
  show gM p e below _ T872 m 90 #[rv a1, lv q1, sN, lv q2, sN, uN, uN] [(.ref bb)]
  refine sT (fun t k => XS.iconst X872.here hx rfl (hb hby d16_90) k) ?_
  show gM p e below _ T872 m 91 #[rv a1, lv q1, sN, lv q2, sN, uN, uN] [(.int 0), (.ref bb)]
  refine sT (fun t k => XS.aloadN X872.here hx rfl (hb hby d16_91) rfl rfl k) ?_
  show gM p e below _ T872 m 92 #[rv a1, lv q1, sN, lv q2, sN, uN, uN] [(.ref a1), (.int 0), (.ref bb)]
  obtain ⟨T873, X873, e873, st873⟩ := getF X872 hx hZ hown (host := "") (Or.inl w48) Via.refl e872 F_ordered_a1 (g := (mkF m 92 #[rv a1, lv q1, sN, lv q2, sN, uN, uN] [(.ref a1), (.int 0), (.ref bb)])) rfl rfl (hb hby d16_92)
  refine sT st873 ?_
  show gM p e below _ T873 m 95 #[rv a1, lv q1, sN, lv q2, sN, uN, uN] [(.int 2), (.int 0), (.ref bb)]
  refine sT (fun t k => XS.lloadN X873.here hx rfl (hb hby d16_95) rfl k) ?_
  show gM p e below _ T873 m 96 #[rv a1, lv q1, sN, lv q2, sN, uN, uN] [(.long q1), (.int 2), (.int 0), (.ref bb)]
  obtain ⟨_, _, ⟨T874, L874, k874, n874⟩, -, X874, ⟨Lc874, hQ874, l874, y874, z874⟩, st874⟩ := Jvm.LawKit.callS X873 hx (y := (⟨"java/util/Arrays", "binarySearch", "([JIIJ)I"⟩ : MethodName)) hown (mvT hZ w51) (mvT hZ w52) (mvT hZ w53) (mvT hZ w54) (by decide) (backOf (W := 0) (own_bs2 l Z a0 hw [] bb q1 (kb) (z1) (xs1) ((0 : Int32)) h0 n0 Z0 V_bb hz hbs) hZ w54 w53 (by decide) (by decide)) (g := (mkF m 96 #[rv a1, lv q1, sN, lv q2, sN, uN, uN] [(.long q1), (.int 2), (.int 0), (.ref bb)])) rfl (by rw [hml]; rfl) (argsL := [(.ref bb), (.int 0), (.int 2), (.long q1)]) (rest := []) (lenOf own_pd6 rfl) rfl (by show 2 * 0 + _ ≤ _; exact Nat.le_of_eq rfl) (hb hby d16_96) (fun _ _ => ⟨rfl, e873, (by decide : 0 + 0 ≤ _), (by decide : 0 + 0 ≤ _)⟩)
  dsimp only [Pt.U, Pt.locs, Pt.cells, Pt.slots] at X874 l874 y874 z874 st874 hQ874
  subst y874 z874
  obtain ⟨rfl, N874q, eh874⟩ := hQ874
  have N874 : Fr n0 L874 := by rw [l874]; exact Fr.app N0 N874q
  refine sT st874 ?_
  show gM p e below _ T874 m 99 #[rv a1, lv q1, sN, lv q2, sN, uN, uN] [(.int 0)]
  refine sT (fun t k => XS.istore X874.here hx rfl (hb hby d16_99) rfl (l' := #[rv a1, lv q1, sN, lv q2, sN, iv 0, uN]) rfl k) ?_
  show gM p e below _ T874 m 101 #[rv a1, lv q1, sN, lv q2, sN, iv 0, uN] []
  refine sT (fun t k => XS.iload X874.here hx rfl (hb hby d16_101) rfl k) ?_
  show gM p e below _ T874 m 103 #[rv a1, lv q1, sN, lv q2, sN, iv 0, uN] [(.int 0)]
  have hc875 : ¬ ((0 : Int32) < (0 : Int32)) := by decide
  refine sT (fun t k => XS.ifNo X874.here hx rfl (hb hby d16_103) rfl ((if0 _ _).trans (flt hc875).1) k) ?_
  show gM p e below _ T874 m 106 #[rv a1, lv q1, sN, lv q2, sN, iv 0, uN] []
  refine sT (fun t k => XS.aloadN X874.here hx rfl (hb hby d16_106) rfl rfl k) ?_
  show gM p e below _ T874 m 107 #[rv a1, lv q1, sN, lv q2, sN, iv 0, uN] [(.ref a1)]
  obtain ⟨T876, X876, e876, st876⟩ := getF X874 hx hZ hown (host := "") (Or.inl w22) Via.refl eh874 F_bits_a1 (g := (mkF m 107 #[rv a1, lv q1, sN, lv q2, sN, iv 0, uN] [(.ref a1)])) rfl rfl (hb hby d16_107)
  refine sT st876 ?_
  show gM p e below _ T876 m 110 #[rv a1, lv q1, sN, lv q2, sN, iv 0, uN] [(.ref cc)]
  refine sT (fun t k => XS.iload X876.here hx rfl (hb hby d16_110) rfl k) ?_
  show gM p e below _ T876 m 112 #[rv a1, lv q1, sN, lv q2, sN, iv 0, uN] [(.int 0), (.ref cc)]
  refine sT (fun t k => XT.dup2 X876.here hx rfl (hb hby d16_112) rfl rfl rfl k) ?_
  show gM p e below _ T876 m 113 #[rv a1, lv q1, sN, lv q2, sN, iv 0, uN] [(.int 0), (.ref cc), (.int 0), (.ref cc)]
  refine sT (fun t k => own_lal X876 hx hZ e876 V_cc (own_j (by decide) (by decide) hz) (g := (mkF m 113 #[rv a1, lv q1, sN, lv q2, sN, iv 0, uN] [(.int 0), (.ref cc), (.int 0), (.ref cc)])) rfl rfl (hb hby d16_113) _ k) ?_
  show gM p e below _ T876 m 114 #[rv a1, lv q1, sN, lv q2, sN, iv 0, uN] [(.long (ys1.getD (0 : Int32).toNatClampNeg 0)), (.int 0), (.ref cc)]
  refine sT (fun t k => XS.lloadN X876.here hx rfl (hb hby d16_114) rfl k) ?_
  show gM p e below _ T876 m 115 #[rv a1, lv q1, sN, lv q2, sN, iv 0, uN] [(.long q2), (.long (ys1.getD (0 : Int32).toNatClampNeg 0)), (.int 0), (.ref cc)]
  refine sT (fun t k => XS.lor X876.here hx rfl (hb hby d16_115) rfl k) ?_
  show gM p e below _ T876 m 116 #[rv a1, lv q1, sN, lv q2, sN, iv 0, uN] [(.long ((ys1.getD (0 : Int32).toNatClampNeg 0) ||| q2)), (.int 0), (.ref cc)]
  obtain ⟨T877, h877, X877, e877, W877, V877, st877⟩ := own_lst X876 hx hZ e876 V_cc (j := (0 : Int32)) (own_j (by decide) (by decide) hz) (0) rfl (own_jl (j := (0 : Int32)) (by decide) (by decide) hz hyl) (g := (mkF m 116 #[rv a1, lv q1, sN, lv q2, sN, iv 0, uN] [(.long ((ys1.getD (0 : Int32).toNatClampNeg 0) ||| q2)), (.int 0), (.ref cc)])) rfl rfl (hb hby d16_116)
  have V877 : Arv Z h877 cc kc .long z1 ((ys1.set (0) ((ys1.getD (0 : Int32).toNatClampNeg 0) ||| q2)).map Value.long) (Value.long 0) := V877
  have N877 := Fr.snoc X877 N874 g_cc
  have K878 : Keep h0 h877 [cc] := K0.wr W877 (Or.inl (List.mem_of_getElem? (i := 0) rfl))
  refine sT st877 ?_
  show gM p e below _ T877 m 117 #[rv a1, lv q1, sN, lv q2, sN, iv 0, uN] []
  refine sT (fun t k => XS.iconst X877.here hx rfl (hb hby d16_117) k) ?_
  show gM p e below _ T877 m 118 #[rv a1, lv q1, sN, lv q2, sN, iv 0, uN] [(.int 0)]
  refine own_retV X877 hx hlk Bd.returns (w := (.int 0)) (own_nb (Or.inl rfl)) (Or.inl ⟨rfl, Or.inr (Or.inl rfl), _, rfl⟩) (hb hby d16_118) ?_ (by decide) (by decide)
  show own_af2_Q Z a1 q1 q2 bb cc kb kc z1 xs1 ys1 mo h0 n0 _ T877.heap _
  rw [e877]
  exact ⟨(ys1.set (0) ((ys1.getD (0 : Int32).toNatClampNeg 0) ||| q2)), rfl, N877, K878, V877, (by rw [List.length_set]; exact hyl)⟩
theorem own_af1_ef (m : MethodId) (a1 : Addr) (q1 : Int64) (q2 : Int64) : entryFrame m #[(.ref a1), (.long q1), (.long q2)] 7 = mkF m 0 #[rv a1, lv q1, sN, lv q2, sN, uN, uN] [] := by first | (simp [entryFrame, mkF, argsToLocals, Value.category]; done) | rfl
def own_af1_Q (Z : State) (a1 : Addr) (q1 : Int64) (q2 : Int64) (bb : Addr) (cc : Addr) (kb : ClassId) (kc : ClassId) (z1 : Int32) (xs1 : List Int64) (ys1 : List Int64) (mo : Int32) (tt : Addr) (h0 : Heap) (n0 : Nat) (v : Option Value) (h : Heap) (L : List Loc) : Prop := ∃ ys2 : List Int64, v = some (.int 0) ∧ Fr n0 L ∧ Keep h0 h [cc] ∧ Arv Z h cc kc .long z1 (ys2.map Value.long) (Value.long 0) ∧ ys2.length = z1.toNatClampNeg
set_option maxRecDepth 65536 in
set_option maxHeartbeats 40000000 in
theorem own_af1 (l : Launch) (Z : State) (a0 : Array Value) (hw : ∀ d ∈ tables_1, d.before a0 Z = true) (ws : List Jvm.Cond) (a1 : Addr) (q1 : Int64) (q2 : Int64) (bb : Addr) (cc : Addr) (kb : ClassId) (kc : ClassId) (z1 : Int32) (xs1 : List Int64) (ys1 : List Int64) (mo : Int32) (tt : Addr) (h0 : Heap) (n0 : Nat) (Z0 : n0 ≤ h0.size) (E_a1 : Exa Z h0 a1 oS) (g_a1 : n0 ≤ a1) (F_size_a1 : Fld Z h0 a1 oS "size" "I" (.int 2)) (F_most_a1 : Fld Z h0 a1 oS "most" "I" (.int mo)) (F_blocks_a1 : Fld Z h0 a1 oS "blocks" "[J" (.ref bb)) (F_bits_a1 : Fld Z h0 a1 oS "bits" "[J" (.ref cc)) (V_bb : Arv Z h0 bb kb .long z1 (xs1.map Value.long) (Value.long 0)) (V_cc : Arv Z h0 cc kc .long z1 (ys1.map Value.long) (Value.long 0)) (g_bb : n0 ≤ bb) (g_cc : n0 ≤ cc) (ne_a1_bb : a1 ≠ bb) (ne_a1_cc : a1 ≠ cc) (ne_bb_cc : bb ≠ cc) (hz : ¬ z1 < (2 : Int32)) (hxl : xs1.length = z1.toNatClampNeg) (hyl : ys1.length = z1.toNatClampNeg) (F_ordered_a1 : Fld Z h0 a1 oS "ordered" "I" (.int 1)) (F_table_a1 : Fld Z h0 a1 oS "table" "[I" (.ref tt)) (hnq : ¬ (xs1.getD (1 : Int32).toNatClampNeg 0) = q1) (hbs : (if (xs1.getD (0 : Int32).toNatClampNeg 0) < q1 then (-2 : Int32) else (if q1 < (xs1.getD (0 : Int32).toNatClampNeg 0) then (-1 : Int32) else (0 : Int32))) = (0 : Int32)) :
    MetFree l (⟨oS, "add", "(JJ)Z"⟩ : MethodName) (head1 (Jvm.Cond.code (⟨oS, "add", "(JJ)Z"⟩ : MethodName) prog_128_method_8_code 7 (some .boolean) :: ws) ({ frames := 2, cells := 0, slots := 0, locals := 37 } : Room)) (fun aa U => aa = #[(.ref a1), (.long q1), (.long q2)] ∧ Z.Warmed39 U.vm ∧ U.heap = h0) (fun _ _ _ _ _ => True) (fun _ U o U' => ∃ v L, o = .returned v ∧ own_af1_Q Z a1 q1 q2 bb cc kb kc z1 xs1 ys1 mo tt h0 n0 v U'.heap L ∧ FrameEnd U o U' L ({ frames := 2, cells := 0, slots := 0, locals := 37 } : Room).cells ({ frames := 2, cells := 0, slots := 0, locals := 37 } : Room).slots) := by
  refine MetFree.of_bodySF (plainFor_of_name own_pn0) hisR ?_
  have w20 := hw _ (List.mem_of_getElem? (i := 20) rfl)
  have w22 := hw _ (List.mem_of_getElem? (i := 22) rfl)
  have w35 := hw _ (List.mem_of_getElem? (i := 35) rfl)
  have w42 := hw _ (List.mem_of_getElem? (i := 42) rfl)
  have w48 := hw _ (List.mem_of_getElem? (i := 48) rfl)
  have w51 := hw _ (List.mem_of_getElem? (i := 51) rfl)
  have w52 := hw _ (List.mem_of_getElem? (i := 52) rfl)
  have w53 := hw _ (List.mem_of_getElem? (i := 53) rfl)
  have w54 := hw _ (List.mem_of_getElem? (i := 54) rfl)
  intro p e s m args below meth c s₁ Bd hml0 hP hK
  obtain ⟨rfl, hZ, hh⟩ := hP
  have hx := Bd.exec
  have hby := Bd.bytes
  have hlk := Bd.notSynchronized
  have hml : c.maxLocals = 7 := hml0
  have hown : s.vm.findClass oS = some m.cls := findClass_of_methodNamed Bd.named
  have hnm := (name_of_methodNamed Bd.named Bd.method).1
  have X0 : Stand p l e ({ frames := 2, cells := 0, slots := 0, locals := 37 } : Room) s m #[(.ref a1), (.long q1), (.long q2)] below meth c s₁ [] 0 0 := Stand.of_body Bd
  have e0 : s₁.heap = h0 := by rw [← hh, Bd.state]; rfl
  have N0 := Fr.nil n0
  have K0 : Keep h0 h0 [cc] := Keep.refl h0 _
  show gS p e below (own_Fin s (own_af1_Q Z a1 q1 q2 bb cc kb kc z1 xs1 ys1 mo tt h0 n0) ({ frames := 2, cells := 0, slots := 0, locals := 37 } : Room).cells ({ frames := 2, cells := 0, slots := 0, locals := 37 } : Room).slots) _
  refine sT (fun t k => castTop (own_af1_ef m a1 q1 q2) k) ?_
  show gM p e below _ s₁ m 0 #[rv a1, lv q1, sN, lv q2, sN, uN, uN] []
  refine sT (fun t k => XS.aloadN X0.here hx rfl (hb hby d16_0) rfl rfl k) ?_
  show gM p e below _ s₁ m 1 #[rv a1, lv q1, sN, lv q2, sN, uN, uN] [(.ref a1)]
  obtain ⟨T892, X892, e892, st892⟩ := getF X0 hx hZ hown (host := "") (Or.inl w42) Via.refl e0 F_size_a1 (g := (mkF m 1 #[rv a1, lv q1, sN, lv q2, sN, uN, uN] [(.ref a1)])) rfl rfl (hb hby d16_1)
  refine sT st892 ?_
  show gM p e below _ T892 m 4 #[rv a1, lv q1, sN, lv q2, sN, uN, uN] [(.int 2)]
  have hc893 : (0 : Int32) < (2 : Int32) := by decide
  refine sT (fun t k => XS.ifNo X892.here hx rfl (hb hby d16_4) rfl ((if0 _ _).trans (tlt hc893).2.2.2) k) ?_
  show gM p e below _ T892 m 7 #[rv a1, lv q1, sN, lv q2, sN, uN, uN] []
  refine sT (fun t k => XS.aloadN X892.here hx rfl (hb hby d16_7) rfl rfl k) ?_
  show gM p e below _ T892 m 8 #[rv a1, lv q1, sN, lv q2, sN, uN, uN] [(.ref a1)]
  obtain ⟨T894, X894, e894, st894⟩ := getF X892 hx hZ hown (host := "") (Or.inl w20) Via.refl e892 F_blocks_a1 (g := (mkF m 8 #[rv a1, lv q1, sN, lv q2, sN, uN, uN] [(.ref a1)])) rfl rfl (hb hby d16_8)
  refine sT st894 ?_
  show gM p e below _ T894 m 11 #[rv a1, lv q1, sN, lv q2, sN, uN, uN] [(.ref bb)]
  refine sT (fun t k => XS.aloadN X894.here hx rfl (hb hby d16_11) rfl rfl k) ?_
  show gM p e below _ T894 m 12 #[rv a1, lv q1, sN, lv q2, sN, uN, uN] [(.ref a1), (.ref bb)]
  obtain ⟨T895, X895, e895, st895⟩ := getF X894 hx hZ hown (host := "") (Or.inl w42) Via.refl e894 F_size_a1 (g := (mkF m 12 #[rv a1, lv q1, sN, lv q2, sN, uN, uN] [(.ref a1), (.ref bb)])) rfl rfl (hb hby d16_12)
  refine sT st895 ?_
  show gM p e below _ T895 m 15 #[rv a1, lv q1, sN, lv q2, sN, uN, uN] [(.int 2), (.ref bb)]
  refine sT (fun t k => XS.iconst X895.here hx rfl (hb hby d16_15) k) ?_
  show gM p e below _ T895 m 16 #[rv a1, lv q1, sN, lv q2, sN, uN, uN] [(.int 1), (.int 2), (.ref bb)]
  refine sT (fun t k => XS.isub X895.here hx rfl (hb hby d16_16) rfl k) ?_
  show gM p e below _ T895 m 17 #[rv a1, lv q1, sN, lv q2, sN, uN, uN] [(.int 1), (.ref bb)]
  refine sT (fun t k => own_lal X895 hx hZ e895 V_bb (own_j (by decide) (by decide) hz) (g := (mkF m 17 #[rv a1, lv q1, sN, lv q2, sN, uN, uN] [(.int 1), (.ref bb)])) rfl rfl (hb hby d16_17) _ k) ?_
  show gM p e below _ T895 m 18 #[rv a1, lv q1, sN, lv q2, sN, uN, uN] [(.long (xs1.getD (1 : Int32).toNatClampNeg 0))]
  refine sT (fun t k => XS.lloadN X895.here hx rfl (hb hby d16_18) rfl k) ?_
  show gM p e below _ T895 m 19 #[rv a1, lv q1, sN, lv q2, sN, uN, uN] [(.long q1), (.long (xs1.getD (1 : Int32).toNatClampNeg 0))]
  refine sT (fun t k => XS.lcmp X895.here hx rfl (hb hby d16_19) rfl k) ?_
  show gM p e below _ T895 m 20 #[rv a1, lv q1, sN, lv q2, sN, uN, uN] [(.int (lcmpW (xs1.getD (1 : Int32).toNatClampNeg 0) q1))]
  have hc896 : ¬ ((xs1.getD (1 : Int32).toNatClampNeg 0) = q1) := hnq
  refine sT (fun t k => XS.ifYes X895.here hx rfl (pc0 := 20) (pc' := 40) rfl (hb hby d16_20) rfl ((if0 _ _).trans (feq (fun zq => hc896 ((lw_eq (xs1.getD (1 : Int32).toNatClampNeg 0) q1).mp zq))).2) (by decide) (by decide) k) ?_
  show gM p e below _ T895 m 40 #[rv a1, lv q1, sN, lv q2, sN, uN, uN] []
  refine sT (fun t k => XS.aloadN X895.here hx rfl (hb hby d16_40) rfl rfl k) ?_
  show gM p e below _ T895 m 41 #[rv a1, lv q1, sN, lv q2, sN, uN, uN] [(.ref a1)]
  obtain ⟨T897, X897, e897, st897⟩ := getF X895 hx hZ hown (host := "") (Or.inl w35) Via.refl e895 F_table_a1 (g := (mkF m 41 #[rv a1, lv q1, sN, lv q2, sN, uN, uN] [(.ref a1)])) rfl rfl (hb hby d16_41)
  refine sT st897 ?_
  show gM p e below _ T897 m 44 #[rv a1, lv q1, sN, lv q2, sN, uN, uN] [(.ref tt)]
  refine sT (fun t k => XS.ifnonnullYes X897.here hx rfl (pc0 := 44) (pc' := 86) rfl (hb hby d16_44) rfl (by decide) (by decide) k) ?_
  show gM p e below _ T897 m 86 #[rv a1, lv q1, sN, lv q2, sN, uN, uN] []
  refine sT (fun t k => XS.aloadN X897.here hx rfl (hb hby d16_86) rfl rfl k) ?_
  show gM p e below _ T897 m 87 #[rv a1, lv q1, sN, lv q2, sN, uN, uN] [(.ref a1)]
  obtain ⟨T898, X898, e898, st898⟩ := getF X897 hx hZ hown (host := "") (Or.inl w20) Via.refl e897 F_blocks_a1 (g := (mkF m 87 #[rv a1, lv q1, sN, lv q2, sN, uN, uN] [(.ref a1)])) rfl rfl (hb hby d16_87)
  refine sT st898 ?_
  show gM p e below _ T898 m 90 #[rv a1, lv q1, sN, lv q2, sN, uN, uN] [(.ref bb)]
  refine sT (fun t k => XS.iconst X898.here hx rfl (hb hby d16_90) k) ?_
  show gM p e below _ T898 m 91 #[rv a1, lv q1, sN, lv q2, sN, uN, uN] [(.int 0), (.ref bb)]
  refine sT (fun t k => XS.aloadN X898.here hx rfl (hb hby d16_91) rfl rfl k) ?_
  show gM p e below _ T898 m 92 #[rv a1, lv q1, sN, lv q2, sN, uN, uN] [(.ref a1), (.int 0), (.ref bb)]
  obtain ⟨T899, X899, e899, st899⟩ := getF X898 hx hZ hown (host := "") (Or.inl w48) Via.refl e898 F_ordered_a1 (g := (mkF m 92 #[rv a1, lv q1, sN, lv q2, sN, uN, uN] [(.ref a1), (.int 0), (.ref bb)])) rfl rfl (hb hby d16_92)
  refine sT st899 ?_
  show gM p e below _ T899 m 95 #[rv a1, lv q1, sN, lv q2, sN, uN, uN] [(.int 1), (.int 0), (.ref bb)]
  refine sT (fun t k => XS.lloadN X899.here hx rfl (hb hby d16_95) rfl k) ?_
  show gM p e below _ T899 m 96 #[rv a1, lv q1, sN, lv q2, sN, uN, uN] [(.long q1), (.int 1), (.int 0), (.ref bb)]
  obtain ⟨_, _, ⟨T900, L900, k900, n900⟩, -, X900, ⟨Lc900, hQ900, l900, y900, z900⟩, st900⟩ := Jvm.LawKit.callS X899 hx (y := (⟨"java/util/Arrays", "binarySearch", "([JIIJ)I"⟩ : MethodName)) hown (mvT hZ w51) (mvT hZ w52) (mvT hZ w53) (mvT hZ w54) (by decide) (backOf (W := 0) (own_bs1 l Z a0 hw [] bb q1 (kb) (z1) (xs1) ((0 : Int32)) h0 n0 Z0 V_bb (own_w2 hz) hbs) hZ w54 w53 (by decide) (by decide)) (g := (mkF m 96 #[rv a1, lv q1, sN, lv q2, sN, uN, uN] [(.long q1), (.int 1), (.int 0), (.ref bb)])) rfl (by rw [hml]; rfl) (argsL := [(.ref bb), (.int 0), (.int 1), (.long q1)]) (rest := []) (lenOf own_pd6 rfl) rfl (by show 2 * 0 + _ ≤ _; exact Nat.le_of_eq rfl) (hb hby d16_96) (fun _ _ => ⟨rfl, e899, (by decide : 0 + 0 ≤ _), (by decide : 0 + 0 ≤ _)⟩)
  dsimp only [Pt.U, Pt.locs, Pt.cells, Pt.slots] at X900 l900 y900 z900 st900 hQ900
  subst y900 z900
  obtain ⟨rfl, N900q, eh900⟩ := hQ900
  have N900 : Fr n0 L900 := by rw [l900]; exact Fr.app N0 N900q
  refine sT st900 ?_
  show gM p e below _ T900 m 99 #[rv a1, lv q1, sN, lv q2, sN, uN, uN] [(.int 0)]
  refine sT (fun t k => XS.istore X900.here hx rfl (hb hby d16_99) rfl (l' := #[rv a1, lv q1, sN, lv q2, sN, iv 0, uN]) rfl k) ?_
  show gM p e below _ T900 m 101 #[rv a1, lv q1, sN, lv q2, sN, iv 0, uN] []
  refine sT (fun t k => XS.iload X900.here hx rfl (hb hby d16_101) rfl k) ?_
  show gM p e below _ T900 m 103 #[rv a1, lv q1, sN, lv q2, sN, iv 0, uN] [(.int 0)]
  have hc901 : ¬ ((0 : Int32) < (0 : Int32)) := by decide
  refine sT (fun t k => XS.ifNo X900.here hx rfl (hb hby d16_103) rfl ((if0 _ _).trans (flt hc901).1) k) ?_
  show gM p e below _ T900 m 106 #[rv a1, lv q1, sN, lv q2, sN, iv 0, uN] []
  refine sT (fun t k => XS.aloadN X900.here hx rfl (hb hby d16_106) rfl rfl k) ?_
  show gM p e below _ T900 m 107 #[rv a1, lv q1, sN, lv q2, sN, iv 0, uN] [(.ref a1)]
  obtain ⟨T902, X902, e902, st902⟩ := getF X900 hx hZ hown (host := "") (Or.inl w22) Via.refl eh900 F_bits_a1 (g := (mkF m 107 #[rv a1, lv q1, sN, lv q2, sN, iv 0, uN] [(.ref a1)])) rfl rfl (hb hby d16_107)
  refine sT st902 ?_
  show gM p e below _ T902 m 110 #[rv a1, lv q1, sN, lv q2, sN, iv 0, uN] [(.ref cc)]
  refine sT (fun t k => XS.iload X902.here hx rfl (hb hby d16_110) rfl k) ?_
  show gM p e below _ T902 m 112 #[rv a1, lv q1, sN, lv q2, sN, iv 0, uN] [(.int 0), (.ref cc)]
  refine sT (fun t k => XT.dup2 X902.here hx rfl (hb hby d16_112) rfl rfl rfl k) ?_
  show gM p e below _ T902 m 113 #[rv a1, lv q1, sN, lv q2, sN, iv 0, uN] [(.int 0), (.ref cc), (.int 0), (.ref cc)]
  refine sT (fun t k => own_lal X902 hx hZ e902 V_cc (own_j (by decide) (by decide) hz) (g := (mkF m 113 #[rv a1, lv q1, sN, lv q2, sN, iv 0, uN] [(.int 0), (.ref cc), (.int 0), (.ref cc)])) rfl rfl (hb hby d16_113) _ k) ?_
  show gM p e below _ T902 m 114 #[rv a1, lv q1, sN, lv q2, sN, iv 0, uN] [(.long (ys1.getD (0 : Int32).toNatClampNeg 0)), (.int 0), (.ref cc)]
  refine sT (fun t k => XS.lloadN X902.here hx rfl (hb hby d16_114) rfl k) ?_
  show gM p e below _ T902 m 115 #[rv a1, lv q1, sN, lv q2, sN, iv 0, uN] [(.long q2), (.long (ys1.getD (0 : Int32).toNatClampNeg 0)), (.int 0), (.ref cc)]
  refine sT (fun t k => XS.lor X902.here hx rfl (hb hby d16_115) rfl k) ?_
  show gM p e below _ T902 m 116 #[rv a1, lv q1, sN, lv q2, sN, iv 0, uN] [(.long ((ys1.getD (0 : Int32).toNatClampNeg 0) ||| q2)), (.int 0), (.ref cc)]
  obtain ⟨T903, h903, X903, e903, W903, V903, st903⟩ := own_lst X902 hx hZ e902 V_cc (j := (0 : Int32)) (own_j (by decide) (by decide) hz) (0) rfl (own_jl (j := (0 : Int32)) (by decide) (by decide) hz hyl) (g := (mkF m 116 #[rv a1, lv q1, sN, lv q2, sN, iv 0, uN] [(.long ((ys1.getD (0 : Int32).toNatClampNeg 0) ||| q2)), (.int 0), (.ref cc)])) rfl rfl (hb hby d16_116)
  have V903 : Arv Z h903 cc kc .long z1 ((ys1.set (0) ((ys1.getD (0 : Int32).toNatClampNeg 0) ||| q2)).map Value.long) (Value.long 0) := V903
  have N903 := Fr.snoc X903 N900 g_cc
  have K904 : Keep h0 h903 [cc] := K0.wr W903 (Or.inl (List.mem_of_getElem? (i := 0) rfl))
  refine sT st903 ?_
  show gM p e below _ T903 m 117 #[rv a1, lv q1, sN, lv q2, sN, iv 0, uN] []
  refine sT (fun t k => XS.iconst X903.here hx rfl (hb hby d16_117) k) ?_
  show gM p e below _ T903 m 118 #[rv a1, lv q1, sN, lv q2, sN, iv 0, uN] [(.int 0)]
  refine own_retV X903 hx hlk Bd.returns (w := (.int 0)) (own_nb (Or.inl rfl)) (Or.inl ⟨rfl, Or.inr (Or.inl rfl), _, rfl⟩) (hb hby d16_118) ?_ (by decide) (by decide)
  show own_af1_Q Z a1 q1 q2 bb cc kb kc z1 xs1 ys1 mo tt h0 n0 _ T903.heap _
  rw [e903]
  exact ⟨(ys1.set (0) ((ys1.getD (0 : Int32).toNatClampNeg 0) ||| q2)), rfl, N903, K904, V903, (by rw [List.length_set]; exact hyl)⟩
theorem own_al3_ef (m : MethodId) (a1 : Addr) (q1 : Int64) (q2 : Int64) : entryFrame m #[(.ref a1), (.long q1), (.long q2)] 7 = mkF m 0 #[rv a1, lv q1, sN, lv q2, sN, uN, uN] [] := by first | (simp [entryFrame, mkF, argsToLocals, Value.category]; done) | rfl
def own_al3_Q (Z : State) (a1 : Addr) (q1 : Int64) (q2 : Int64) (bb : Addr) (cc : Addr) (kb : ClassId) (kc : ClassId) (z1 : Int32) (xs1 : List Int64) (ys1 : List Int64) (mo : Int32) (tt : Addr) (kt : ClassId) (s1 : Int32) (h0 : Heap) (n0 : Nat) (v : Option Value) (h : Heap) (L : List Loc) : Prop := ∃ b2 : Addr, ∃ c2 : Addr, ∃ k2 : ClassId, ∃ k3 : ClassId, ∃ z2 : Int32, ∃ xs2 : List Int64, ∃ ys2 : List Int64, v = some (.int 1) ∧ Fr n0 L ∧ Keep h0 h [a1, bb, cc, tt] ∧ (h0.size ≤ b2 ∨ b2 = bb) ∧ (h0.size ≤ c2 ∨ c2 = cc) ∧ a1 ≠ b2 ∧ a1 ≠ c2 ∧ b2 ≠ c2 ∧ Exa Z h a1 oS ∧ Fld Z h a1 oS "size" "I" (.int 3) ∧ Fld Z h a1 oS "most" "I" (.int mo) ∧ Fld Z h a1 oS "blocks" "[J" (.ref b2) ∧ Fld Z h a1 oS "bits" "[J" (.ref c2) ∧ Fld Z h a1 oS "ordered" "I" (.int 1) ∧ Arv Z h b2 k2 .long z2 (xs2.map Value.long) (Value.long 0) ∧ Arv Z h c2 k3 .long z2 (ys2.map Value.long) (Value.long 0) ∧ z2 = own_nl (2 : Int32) z1 mo ∧ xs2.length = z2.toNatClampNeg ∧ ys2.length = z2.toNatClampNeg ∧ xs2.getD (0 : Int32).toNatClampNeg 0 = xs1.getD (0 : Int32).toNatClampNeg 0 ∧ xs2.getD (1 : Int32).toNatClampNeg 0 = xs1.getD (1 : Int32).toNatClampNeg 0 ∧ xs2.getD (2 : Int32).toNatClampNeg 0 = q1 ∧ Fld Z h a1 oS "table" "[I" (.ref tt) ∧ Arv Z h tt kt .int 32 ((((List.replicate 32 (0 : Int32)).set (s1.toNatClampNeg) (2 : Int32)).set ((if (own_h q1) = s1 then ((s1 + (1 : Int32)) &&& (31 : Int32)) else (own_h q1)).toNatClampNeg) (3 : Int32)).map Value.int) (Value.int 0)
set_option maxRecDepth 65536 in
set_option maxHeartbeats 40000000 in
theorem own_al3 (l : Launch) (Z : State) (a0 : Array Value) (hw : ∀ d ∈ tables_1, d.before a0 Z = true) (ws : List Jvm.Cond) (a1 : Addr) (q1 : Int64) (q2 : Int64) (bb : Addr) (cc : Addr) (kb : ClassId) (kc : ClassId) (z1 : Int32) (xs1 : List Int64) (ys1 : List Int64) (mo : Int32) (tt : Addr) (kt : ClassId) (s1 : Int32) (h0 : Heap) (n0 : Nat) (Z0 : n0 ≤ h0.size) (E_a1 : Exa Z h0 a1 oS) (g_a1 : n0 ≤ a1) (F_size_a1 : Fld Z h0 a1 oS "size" "I" (.int 2)) (F_most_a1 : Fld Z h0 a1 oS "most" "I" (.int mo)) (F_blocks_a1 : Fld Z h0 a1 oS "blocks" "[J" (.ref bb)) (F_bits_a1 : Fld Z h0 a1 oS "bits" "[J" (.ref cc)) (V_bb : Arv Z h0 bb kb .long z1 (xs1.map Value.long) (Value.long 0)) (V_cc : Arv Z h0 cc kc .long z1 (ys1.map Value.long) (Value.long 0)) (g_bb : n0 ≤ bb) (g_cc : n0 ≤ cc) (ne_a1_bb : a1 ≠ bb) (ne_a1_cc : a1 ≠ cc) (ne_bb_cc : bb ≠ cc) (hz : ¬ z1 < (2 : Int32)) (hxl : xs1.length = z1.toNatClampNeg) (hyl : ys1.length = z1.toNatClampNeg) (F_ordered_a1 : Fld Z h0 a1 oS "ordered" "I" (.int 1)) (F_table_a1 : Fld Z h0 a1 oS "table" "[I" (.ref tt)) (V_tt : Arv Z h0 tt kt .int 32 (((List.replicate 32 (0 : Int32)).set (s1.toNatClampNeg) (2 : Int32)).map Value.int) (Value.int 0)) (g_tt : n0 ≤ tt) (ne_a1_tt : a1 ≠ tt) (ne_bb_tt : bb ≠ tt) (ne_cc_tt : cc ≠ tt) (hnq : ¬ (xs1.getD (1 : Int32).toNatClampNeg 0) = q1) (hs1 : ¬ s1 < 0 ∧ s1 < (32 : Int32)) (hbs : (if (xs1.getD (0 : Int32).toNatClampNeg 0) < q1 then (-2 : Int32) else (if q1 < (xs1.getD (0 : Int32).toNatClampNeg 0) then (-1 : Int32) else (0 : Int32))) < (0 : Int32)) :
    MetFree l (⟨oS, "add", "(JJ)Z"⟩ : MethodName) (head1 (Jvm.Cond.code (⟨oS, "add", "(JJ)Z"⟩ : MethodName) prog_128_method_8_code 7 (some .boolean) :: ws) ({ frames := 3, cells := 2, slots := 8, locals := 50 } : Room)) (fun aa U => aa = #[(.ref a1), (.long q1), (.long q2)] ∧ Z.Warmed39 U.vm ∧ U.heap = h0) (fun _ _ _ _ _ => True) (fun _ U o U' => ∃ v L, o = .returned v ∧ own_al3_Q Z a1 q1 q2 bb cc kb kc z1 xs1 ys1 mo tt kt s1 h0 n0 v U'.heap L ∧ FrameEnd U o U' L ({ frames := 3, cells := 2, slots := 8, locals := 50 } : Room).cells ({ frames := 3, cells := 2, slots := 8, locals := 50 } : Room).slots) := by
  refine MetFree.of_bodySF (plainFor_of_name own_pn0) hisR ?_
  have w1 := hw _ (List.mem_of_getElem? (i := 1) rfl)
  have w2 := hw _ (List.mem_of_getElem? (i := 2) rfl)
  have w20 := hw _ (List.mem_of_getElem? (i := 20) rfl)
  have w35 := hw _ (List.mem_of_getElem? (i := 35) rfl)
  have w42 := hw _ (List.mem_of_getElem? (i := 42) rfl)
  have w44 := hw _ (List.mem_of_getElem? (i := 44) rfl)
  have w45 := hw _ (List.mem_of_getElem? (i := 45) rfl)
  have w46 := hw _ (List.mem_of_getElem? (i := 46) rfl)
  have w47 := hw _ (List.mem_of_getElem? (i := 47) rfl)
  have w48 := hw _ (List.mem_of_getElem? (i := 48) rfl)
  have w51 := hw _ (List.mem_of_getElem? (i := 51) rfl)
  have w52 := hw _ (List.mem_of_getElem? (i := 52) rfl)
  have w53 := hw _ (List.mem_of_getElem? (i := 53) rfl)
  have w54 := hw _ (List.mem_of_getElem? (i := 54) rfl)
  have w66 := hw _ (List.mem_of_getElem? (i := 66) rfl)
  have w67 := hw _ (List.mem_of_getElem? (i := 67) rfl)
  have w68 := hw _ (List.mem_of_getElem? (i := 68) rfl)
  have w69 := hw _ (List.mem_of_getElem? (i := 69) rfl)
  intro p e s m args below meth c s₁ Bd hml0 hP hK
  obtain ⟨rfl, hZ, hh⟩ := hP
  have hx := Bd.exec
  have hby := Bd.bytes
  have hlk := Bd.notSynchronized
  have hml : c.maxLocals = 7 := hml0
  have hown : s.vm.findClass oS = some m.cls := findClass_of_methodNamed Bd.named
  have hnm := (name_of_methodNamed Bd.named Bd.method).1
  have X0 : Stand p l e ({ frames := 3, cells := 2, slots := 8, locals := 50 } : Room) s m #[(.ref a1), (.long q1), (.long q2)] below meth c s₁ [] 0 0 := Stand.of_body Bd
  have e0 : s₁.heap = h0 := by rw [← hh, Bd.state]; rfl
  have N0 := Fr.nil n0
  have K0 : Keep h0 h0 [a1, bb, cc, tt] := Keep.refl h0 _
  show gS p e below (own_Fin s (own_al3_Q Z a1 q1 q2 bb cc kb kc z1 xs1 ys1 mo tt kt s1 h0 n0) ({ frames := 3, cells := 2, slots := 8, locals := 50 } : Room).cells ({ frames := 3, cells := 2, slots := 8, locals := 50 } : Room).slots) _
  refine sT (fun t k => castTop (own_al3_ef m a1 q1 q2) k) ?_
  show gM p e below _ s₁ m 0 #[rv a1, lv q1, sN, lv q2, sN, uN, uN] []
  refine sT (fun t k => XS.aloadN X0.here hx rfl (hb hby d16_0) rfl rfl k) ?_
  show gM p e below _ s₁ m 1 #[rv a1, lv q1, sN, lv q2, sN, uN, uN] [(.ref a1)]
  obtain ⟨T929, X929, e929, st929⟩ := getF X0 hx hZ hown (host := "") (Or.inl w42) Via.refl e0 F_size_a1 (g := (mkF m 1 #[rv a1, lv q1, sN, lv q2, sN, uN, uN] [(.ref a1)])) rfl rfl (hb hby d16_1)
  refine sT st929 ?_
  show gM p e below _ T929 m 4 #[rv a1, lv q1, sN, lv q2, sN, uN, uN] [(.int 2)]
  have hc930 : (0 : Int32) < (2 : Int32) := by decide
  refine sT (fun t k => XS.ifNo X929.here hx rfl (hb hby d16_4) rfl ((if0 _ _).trans (tlt hc930).2.2.2) k) ?_
  show gM p e below _ T929 m 7 #[rv a1, lv q1, sN, lv q2, sN, uN, uN] []
  refine sT (fun t k => XS.aloadN X929.here hx rfl (hb hby d16_7) rfl rfl k) ?_
  show gM p e below _ T929 m 8 #[rv a1, lv q1, sN, lv q2, sN, uN, uN] [(.ref a1)]
  obtain ⟨T931, X931, e931, st931⟩ := getF X929 hx hZ hown (host := "") (Or.inl w20) Via.refl e929 F_blocks_a1 (g := (mkF m 8 #[rv a1, lv q1, sN, lv q2, sN, uN, uN] [(.ref a1)])) rfl rfl (hb hby d16_8)
  refine sT st931 ?_
  show gM p e below _ T931 m 11 #[rv a1, lv q1, sN, lv q2, sN, uN, uN] [(.ref bb)]
  refine sT (fun t k => XS.aloadN X931.here hx rfl (hb hby d16_11) rfl rfl k) ?_
  show gM p e below _ T931 m 12 #[rv a1, lv q1, sN, lv q2, sN, uN, uN] [(.ref a1), (.ref bb)]
  obtain ⟨T932, X932, e932, st932⟩ := getF X931 hx hZ hown (host := "") (Or.inl w42) Via.refl e931 F_size_a1 (g := (mkF m 12 #[rv a1, lv q1, sN, lv q2, sN, uN, uN] [(.ref a1), (.ref bb)])) rfl rfl (hb hby d16_12)
  refine sT st932 ?_
  show gM p e below _ T932 m 15 #[rv a1, lv q1, sN, lv q2, sN, uN, uN] [(.int 2), (.ref bb)]
  refine sT (fun t k => XS.iconst X932.here hx rfl (hb hby d16_15) k) ?_
  show gM p e below _ T932 m 16 #[rv a1, lv q1, sN, lv q2, sN, uN, uN] [(.int 1), (.int 2), (.ref bb)]
  refine sT (fun t k => XS.isub X932.here hx rfl (hb hby d16_16) rfl k) ?_
  show gM p e below _ T932 m 17 #[rv a1, lv q1, sN, lv q2, sN, uN, uN] [(.int 1), (.ref bb)]
  refine sT (fun t k => own_lal X932 hx hZ e932 V_bb (own_j (by decide) (by decide) hz) (g := (mkF m 17 #[rv a1, lv q1, sN, lv q2, sN, uN, uN] [(.int 1), (.ref bb)])) rfl rfl (hb hby d16_17) _ k) ?_
  show gM p e below _ T932 m 18 #[rv a1, lv q1, sN, lv q2, sN, uN, uN] [(.long (xs1.getD (1 : Int32).toNatClampNeg 0))]
  refine sT (fun t k => XS.lloadN X932.here hx rfl (hb hby d16_18) rfl k) ?_
  show gM p e below _ T932 m 19 #[rv a1, lv q1, sN, lv q2, sN, uN, uN] [(.long q1), (.long (xs1.getD (1 : Int32).toNatClampNeg 0))]
  refine sT (fun t k => XS.lcmp X932.here hx rfl (hb hby d16_19) rfl k) ?_
  show gM p e below _ T932 m 20 #[rv a1, lv q1, sN, lv q2, sN, uN, uN] [(.int (lcmpW (xs1.getD (1 : Int32).toNatClampNeg 0) q1))]
  have hc933 : ¬ ((xs1.getD (1 : Int32).toNatClampNeg 0) = q1) := hnq
  refine sT (fun t k => XS.ifYes X932.here hx rfl (pc0 := 20) (pc' := 40) rfl (hb hby d16_20) rfl ((if0 _ _).trans (feq (fun zq => hc933 ((lw_eq (xs1.getD (1 : Int32).toNatClampNeg 0) q1).mp zq))).2) (by decide) (by decide) k) ?_
  show gM p e below _ T932 m 40 #[rv a1, lv q1, sN, lv q2, sN, uN, uN] []
  refine sT (fun t k => XS.aloadN X932.here hx rfl (hb hby d16_40) rfl rfl k) ?_
  show gM p e below _ T932 m 41 #[rv a1, lv q1, sN, lv q2, sN, uN, uN] [(.ref a1)]
  obtain ⟨T934, X934, e934, st934⟩ := getF X932 hx hZ hown (host := "") (Or.inl w35) Via.refl e932 F_table_a1 (g := (mkF m 41 #[rv a1, lv q1, sN, lv q2, sN, uN, uN] [(.ref a1)])) rfl rfl (hb hby d16_41)
  refine sT st934 ?_
  show gM p e below _ T934 m 44 #[rv a1, lv q1, sN, lv q2, sN, uN, uN] [(.ref tt)]
  refine sT (fun t k => XS.ifnonnullYes X934.here hx rfl (pc0 := 44) (pc' := 86) rfl (hb hby d16_44) rfl (by decide) (by decide) k) ?_
  show gM p e below _ T934 m 86 #[rv a1, lv q1, sN, lv q2, sN, uN, uN] []
  refine sT (fun t k => XS.aloadN X934.here hx rfl (hb hby d16_86) rfl rfl k) ?_
  show gM p e below _ T934 m 87 #[rv a1, lv q1, sN, lv q2, sN, uN, uN] [(.ref a1)]
  obtain ⟨T935, X935, e935, st935⟩ := getF X934 hx hZ hown (host := "") (Or.inl w20) Via.refl e934 F_blocks_a1 (g := (mkF m 87 #[rv a1, lv q1, sN, lv q2, sN, uN, uN] [(.ref a1)])) rfl rfl (hb hby d16_87)
  refine sT st935 ?_
  show gM p e below _ T935 m 90 #[rv a1, lv q1, sN, lv q2, sN, uN, uN] [(.ref bb)]
  refine sT (fun t k => XS.iconst X935.here hx rfl (hb hby d16_90) k) ?_
  show gM p e below _ T935 m 91 #[rv a1, lv q1, sN, lv q2, sN, uN, uN] [(.int 0), (.ref bb)]
  refine sT (fun t k => XS.aloadN X935.here hx rfl (hb hby d16_91) rfl rfl k) ?_
  show gM p e below _ T935 m 92 #[rv a1, lv q1, sN, lv q2, sN, uN, uN] [(.ref a1), (.int 0), (.ref bb)]
  obtain ⟨T936, X936, e936, st936⟩ := getF X935 hx hZ hown (host := "") (Or.inl w48) Via.refl e935 F_ordered_a1 (g := (mkF m 92 #[rv a1, lv q1, sN, lv q2, sN, uN, uN] [(.ref a1), (.int 0), (.ref bb)])) rfl rfl (hb hby d16_92)
  refine sT st936 ?_
  show gM p e below _ T936 m 95 #[rv a1, lv q1, sN, lv q2, sN, uN, uN] [(.int 1), (.int 0), (.ref bb)]
  refine sT (fun t k => XS.lloadN X936.here hx rfl (hb hby d16_95) rfl k) ?_
  show gM p e below _ T936 m 96 #[rv a1, lv q1, sN, lv q2, sN, uN, uN] [(.long q1), (.int 1), (.int 0), (.ref bb)]
  obtain ⟨_, _, ⟨T937, L937, k937, n937⟩, -, X937, ⟨Lc937, hQ937, l937, y937, z937⟩, st937⟩ := Jvm.LawKit.callS X936 hx (y := (⟨"java/util/Arrays", "binarySearch", "([JIIJ)I"⟩ : MethodName)) hown (mvT hZ w51) (mvT hZ w52) (mvT hZ w53) (mvT hZ w54) (by decide) (backOf (W := 0) (own_bs1 l Z a0 hw [] bb q1 (kb) (z1) (xs1) ((if (xs1.getD (0 : Int32).toNatClampNeg 0) < q1 then (-2 : Int32) else (if q1 < (xs1.getD (0 : Int32).toNatClampNeg 0) then (-1 : Int32) else (0 : Int32)))) h0 n0 Z0 V_bb (own_w2 hz) rfl) hZ w54 w53 (by decide) (by decide)) (g := (mkF m 96 #[rv a1, lv q1, sN, lv q2, sN, uN, uN] [(.long q1), (.int 1), (.int 0), (.ref bb)])) rfl (by rw [hml]; rfl) (argsL := [(.ref bb), (.int 0), (.int 1), (.long q1)]) (rest := []) (lenOf own_pd6 rfl) rfl (by show 2 * 0 + _ ≤ _; exact Nat.le_of_eq rfl) (hb hby d16_96) (fun _ _ => ⟨rfl, e936, (by decide : 0 + 0 ≤ _), (by decide : 0 + 0 ≤ _)⟩)
  dsimp only [Pt.U, Pt.locs, Pt.cells, Pt.slots] at X937 l937 y937 z937 st937 hQ937
  subst y937 z937
  obtain ⟨rfl, N937q, eh937⟩ := hQ937
  have N937 : Fr n0 L937 := by rw [l937]; exact Fr.app N0 N937q
  refine sT st937 ?_
  show gM p e below _ T937 m 99 #[rv a1, lv q1, sN, lv q2, sN, uN, uN] [(.int (if (xs1.getD (0 : Int32).toNatClampNeg 0) < q1 then (-2 : Int32) else (if q1 < (xs1.getD (0 : Int32).toNatClampNeg 0) then (-1 : Int32) else (0 : Int32))))]
  refine sT (fun t k => XS.istore X937.here hx rfl (hb hby d16_99) rfl (l' := #[rv a1, lv q1, sN, lv q2, sN, iv (if (xs1.getD (0 : Int32).toNatClampNeg 0) < q1 then (-2 : Int32) else (if q1 < (xs1.getD (0 : Int32).toNatClampNeg 0) then (-1 : Int32) else (0 : Int32))), uN]) rfl k) ?_
  show gM p e below _ T937 m 101 #[rv a1, lv q1, sN, lv q2, sN, iv (if (xs1.getD (0 : Int32).toNatClampNeg 0) < q1 then (-2 : Int32) else (if q1 < (xs1.getD (0 : Int32).toNatClampNeg 0) then (-1 : Int32) else (0 : Int32))), uN] []
  refine sT (fun t k => XS.iload X937.here hx rfl (hb hby d16_101) rfl k) ?_
  show gM p e below _ T937 m 103 #[rv a1, lv q1, sN, lv q2, sN, iv (if (xs1.getD (0 : Int32).toNatClampNeg 0) < q1 then (-2 : Int32) else (if q1 < (xs1.getD (0 : Int32).toNatClampNeg 0) then (-1 : Int32) else (0 : Int32))), uN] [(.int (if (xs1.getD (0 : Int32).toNatClampNeg 0) < q1 then (-2 : Int32) else (if q1 < (xs1.getD (0 : Int32).toNatClampNeg 0) then (-1 : Int32) else (0 : Int32))))]
  have hc938 : (if (xs1.getD (0 : Int32).toNatClampNeg 0) < q1 then (-2 : Int32) else (if q1 < (xs1.getD (0 : Int32).toNatClampNeg 0) then (-1 : Int32) else (0 : Int32))) < (0 : Int32) := hbs
  refine sT (fun t k => XS.ifYes X937.here hx rfl (pc0 := 103) (pc' := 119) rfl (hb hby d16_103) rfl ((if0 _ _).trans (tlt hc938).1) (by decide) (by decide) k) ?_
  show gM p e below _ T937 m 119 #[rv a1, lv q1, sN, lv q2, sN, iv (if (xs1.getD (0 : Int32).toNatClampNeg 0) < q1 then (-2 : Int32) else (if q1 < (xs1.getD (0 : Int32).toNatClampNeg 0) then (-1 : Int32) else (0 : Int32))), uN] []
  refine sT (fun t k => XS.aloadN X937.here hx rfl (hb hby d16_119) rfl rfl k) ?_
  show gM p e below _ T937 m 120 #[rv a1, lv q1, sN, lv q2, sN, iv (if (xs1.getD (0 : Int32).toNatClampNeg 0) < q1 then (-2 : Int32) else (if q1 < (xs1.getD (0 : Int32).toNatClampNeg 0) then (-1 : Int32) else (0 : Int32))), uN] [(.ref a1)]
  obtain ⟨T939, X939, e939, st939⟩ := getF X937 hx hZ hown (host := "") (Or.inl w35) Via.refl eh937 F_table_a1 (g := (mkF m 120 #[rv a1, lv q1, sN, lv q2, sN, iv (if (xs1.getD (0 : Int32).toNatClampNeg 0) < q1 then (-2 : Int32) else (if q1 < (xs1.getD (0 : Int32).toNatClampNeg 0) then (-1 : Int32) else (0 : Int32))), uN] [(.ref a1)])) rfl rfl (hb hby d16_120)
  refine sT st939 ?_
  show gM p e below _ T939 m 123 #[rv a1, lv q1, sN, lv q2, sN, iv (if (xs1.getD (0 : Int32).toNatClampNeg 0) < q1 then (-2 : Int32) else (if q1 < (xs1.getD (0 : Int32).toNatClampNeg 0) then (-1 : Int32) else (0 : Int32))), uN] [(.ref tt)]
  refine sT (fun t k => XS.ifnonnullYes X939.here hx rfl (pc0 := 123) (pc' := 132) rfl (hb hby d16_123) rfl (by decide) (by decide) k) ?_
  show gM p e below _ T939 m 132 #[rv a1, lv q1, sN, lv q2, sN, iv (if (xs1.getD (0 : Int32).toNatClampNeg 0) < q1 then (-2 : Int32) else (if q1 < (xs1.getD (0 : Int32).toNatClampNeg 0) then (-1 : Int32) else (0 : Int32))), uN] []
  refine sT (fun t k => XS.aloadN X939.here hx rfl (hb hby d16_132) rfl rfl k) ?_
  show gM p e below _ T939 m 133 #[rv a1, lv q1, sN, lv q2, sN, iv (if (xs1.getD (0 : Int32).toNatClampNeg 0) < q1 then (-2 : Int32) else (if q1 < (xs1.getD (0 : Int32).toNatClampNeg 0) then (-1 : Int32) else (0 : Int32))), uN] [(.ref a1)]
  refine sT (fun t k => XS.lloadN X939.here hx rfl (hb hby d16_133) rfl k) ?_
  show gM p e below _ T939 m 134 #[rv a1, lv q1, sN, lv q2, sN, iv (if (xs1.getD (0 : Int32).toNatClampNeg 0) < q1 then (-2 : Int32) else (if q1 < (xs1.getD (0 : Int32).toNatClampNeg 0) then (-1 : Int32) else (0 : Int32))), uN] [(.long q1), (.ref a1)]
  obtain ⟨cq940, q940, q940'⟩ := E_a1.cell
  obtain ⟨_, _, ⟨T940, L940, k940, n940⟩, -, X940, ⟨Lc940, hQ940, l940, y940, z940⟩, st940⟩ := X939.privateBack hx (y := (⟨oS, "slot", "(J)I"⟩ : MethodName)) hown (mvT hZ w66) (mvT hZ w67) (own_selp hZ w1 w68 w67 (by decide)) (Cond.privateMethod_at (mvP hZ w68 (args := #[]))) (mvT hZ w69) (by decide) (backOf (W := 0) (own_sB l Z a0 hw [] a1 q1 (bb) (kb) (z1) (xs1) (tt) (kt) (s1) h0 n0 Z0 F_blocks_a1 V_bb F_table_a1 V_tt hz hnq hs1) hZ w69 w2 (by decide) (by decide)) (g := (mkF m 134 #[rv a1, lv q1, sN, lv q2, sN, iv (if (xs1.getD (0 : Int32).toNatClampNeg 0) < q1 then (-2 : Int32) else (if q1 < (xs1.getD (0 : Int32).toNatClampNeg 0) then (-1 : Int32) else (0 : Int32))), uN] [(.long q1), (.ref a1)])) rfl (by rw [hml]; rfl) (Steps.refl _) (a := a1) (by rw [e939]; exact q940) q940' (argsL := [(.long q1)]) (rest := []) (lenOf own_pd8 rfl) rfl (by show 2 * 0 + _ ≤ _; exact Nat.le_of_eq rfl) (hb hby d16_134) (fun _ _ => ⟨rfl, e939, (by decide : 0 + 0 ≤ _), (by decide : 0 + 0 ≤ _)⟩)
  dsimp only [Pt.U, Pt.locs, Pt.cells, Pt.slots] at X940 l940 y940 z940 st940 hQ940
  subst y940 z940
  obtain ⟨rfl, N940q, eh940⟩ := hQ940
  have N940 : Fr n0 L940 := by rw [l940]; exact Fr.app N937 N940q
  refine own_jump st940 ?_
  show gM p e below _ T940 m 137 #[rv a1, lv q1, sN, lv q2, sN, iv (if (xs1.getD (0 : Int32).toNatClampNeg 0) < q1 then (-2 : Int32) else (if q1 < (xs1.getD (0 : Int32).toNatClampNeg 0) then (-1 : Int32) else (0 : Int32))), uN] [(.int (if (own_h q1) = s1 then ((s1 + (1 : Int32)) &&& (31 : Int32)) else (own_h q1)))]
  refine sT (fun t k => XS.istore X940.here hx rfl (hb hby d16_137) rfl (l' := #[rv a1, lv q1, sN, lv q2, sN, iv (if (xs1.getD (0 : Int32).toNatClampNeg 0) < q1 then (-2 : Int32) else (if q1 < (xs1.getD (0 : Int32).toNatClampNeg 0) then (-1 : Int32) else (0 : Int32))), iv (if (own_h q1) = s1 then ((s1 + (1 : Int32)) &&& (31 : Int32)) else (own_h q1))]) rfl k) ?_
  show gM p e below _ T940 m 139 #[rv a1, lv q1, sN, lv q2, sN, iv (if (xs1.getD (0 : Int32).toNatClampNeg 0) < q1 then (-2 : Int32) else (if q1 < (xs1.getD (0 : Int32).toNatClampNeg 0) then (-1 : Int32) else (0 : Int32))), iv (if (own_h q1) = s1 then ((s1 + (1 : Int32)) &&& (31 : Int32)) else (own_h q1))] []
  refine sT (fun t k => XS.aloadN X940.here hx rfl (hb hby d16_139) rfl rfl k) ?_
  show gM p e below _ T940 m 140 #[rv a1, lv q1, sN, lv q2, sN, iv (if (xs1.getD (0 : Int32).toNatClampNeg 0) < q1 then (-2 : Int32) else (if q1 < (xs1.getD (0 : Int32).toNatClampNeg 0) then (-1 : Int32) else (0 : Int32))), iv (if (own_h q1) = s1 then ((s1 + (1 : Int32)) &&& (31 : Int32)) else (own_h q1))] [(.ref a1)]
  obtain ⟨T941, X941, e941, st941⟩ := getF X940 hx hZ hown (host := "") (Or.inl w35) Via.refl eh940 F_table_a1 (g := (mkF m 140 #[rv a1, lv q1, sN, lv q2, sN, iv (if (xs1.getD (0 : Int32).toNatClampNeg 0) < q1 then (-2 : Int32) else (if q1 < (xs1.getD (0 : Int32).toNatClampNeg 0) then (-1 : Int32) else (0 : Int32))), iv (if (own_h q1) = s1 then ((s1 + (1 : Int32)) &&& (31 : Int32)) else (own_h q1))] [(.ref a1)])) rfl rfl (hb hby d16_140)
  refine sT st941 ?_
  show gM p e below _ T941 m 143 #[rv a1, lv q1, sN, lv q2, sN, iv (if (xs1.getD (0 : Int32).toNatClampNeg 0) < q1 then (-2 : Int32) else (if q1 < (xs1.getD (0 : Int32).toNatClampNeg 0) then (-1 : Int32) else (0 : Int32))), iv (if (own_h q1) = s1 then ((s1 + (1 : Int32)) &&& (31 : Int32)) else (own_h q1))] [(.ref tt)]
  refine sT (fun t k => XS.iload X941.here hx rfl (hb hby d16_143) rfl k) ?_
  show gM p e below _ T941 m 145 #[rv a1, lv q1, sN, lv q2, sN, iv (if (xs1.getD (0 : Int32).toNatClampNeg 0) < q1 then (-2 : Int32) else (if q1 < (xs1.getD (0 : Int32).toNatClampNeg 0) then (-1 : Int32) else (0 : Int32))), iv (if (own_h q1) = s1 then ((s1 + (1 : Int32)) &&& (31 : Int32)) else (own_h q1))] [(.int (if (own_h q1) = s1 then ((s1 + (1 : Int32)) &&& (31 : Int32)) else (own_h q1))), (.ref tt)]
  refine sT (fun t k => own_ial X941 hx hZ e941 V_tt (own_h2r hs1) (g := (mkF m 145 #[rv a1, lv q1, sN, lv q2, sN, iv (if (xs1.getD (0 : Int32).toNatClampNeg 0) < q1 then (-2 : Int32) else (if q1 < (xs1.getD (0 : Int32).toNatClampNeg 0) then (-1 : Int32) else (0 : Int32))), iv (if (own_h q1) = s1 then ((s1 + (1 : Int32)) &&& (31 : Int32)) else (own_h q1))] [(.int (if (own_h q1) = s1 then ((s1 + (1 : Int32)) &&& (31 : Int32)) else (own_h q1))), (.ref tt)])) rfl rfl (hb hby d16_145) _ k) ?_
  show gM p e below _ T941 m 146 #[rv a1, lv q1, sN, lv q2, sN, iv (if (xs1.getD (0 : Int32).toNatClampNeg 0) < q1 then (-2 : Int32) else (if q1 < (xs1.getD (0 : Int32).toNatClampNeg 0) then (-1 : Int32) else (0 : Int32))), iv (if (own_h q1) = s1 then ((s1 + (1 : Int32)) &&& (31 : Int32)) else (own_h q1))] [(.int (((List.replicate 32 (0 : Int32)).set (s1.toNatClampNeg) (2 : Int32)).getD (if (own_h q1) = s1 then ((s1 + (1 : Int32)) &&& (31 : Int32)) else (own_h q1)).toNatClampNeg 0))]
  have hc942 : (((List.replicate 32 (0 : Int32)).set (s1.toNatClampNeg) (2 : Int32)).getD (if (own_h q1) = s1 then ((s1 + (1 : Int32)) &&& (31 : Int32)) else (own_h q1)).toNatClampNeg 0) = (0 : Int32) := own_h2z hs1
  refine sT (fun t k => XS.ifYes X941.here hx rfl (pc0 := 146) (pc' := 169) rfl (hb hby d16_146) rfl ((if0 _ _).trans (teq hc942).1) (by decide) (by decide) k) ?_
  show gM p e below _ T941 m 169 #[rv a1, lv q1, sN, lv q2, sN, iv (if (xs1.getD (0 : Int32).toNatClampNeg 0) < q1 then (-2 : Int32) else (if q1 < (xs1.getD (0 : Int32).toNatClampNeg 0) then (-1 : Int32) else (0 : Int32))), iv (if (own_h q1) = s1 then ((s1 + (1 : Int32)) &&& (31 : Int32)) else (own_h q1))] []
  refine sT (fun t k => XS.aloadN X941.here hx rfl (hb hby d16_169) rfl rfl k) ?_
  show gM p e below _ T941 m 170 #[rv a1, lv q1, sN, lv q2, sN, iv (if (xs1.getD (0 : Int32).toNatClampNeg 0) < q1 then (-2 : Int32) else (if q1 < (xs1.getD (0 : Int32).toNatClampNeg 0) then (-1 : Int32) else (0 : Int32))), iv (if (own_h q1) = s1 then ((s1 + (1 : Int32)) &&& (31 : Int32)) else (own_h q1))] [(.ref a1)]
  refine sT (fun t k => XS.lloadN X941.here hx rfl (hb hby d16_170) rfl k) ?_
  show gM p e below _ T941 m 171 #[rv a1, lv q1, sN, lv q2, sN, iv (if (xs1.getD (0 : Int32).toNatClampNeg 0) < q1 then (-2 : Int32) else (if q1 < (xs1.getD (0 : Int32).toNatClampNeg 0) then (-1 : Int32) else (0 : Int32))), iv (if (own_h q1) = s1 then ((s1 + (1 : Int32)) &&& (31 : Int32)) else (own_h q1))] [(.long q1), (.ref a1)]
  refine sT (fun t k => XS.lloadN X941.here hx rfl (hb hby d16_171) rfl k) ?_
  show gM p e below _ T941 m 172 #[rv a1, lv q1, sN, lv q2, sN, iv (if (xs1.getD (0 : Int32).toNatClampNeg 0) < q1 then (-2 : Int32) else (if q1 < (xs1.getD (0 : Int32).toNatClampNeg 0) then (-1 : Int32) else (0 : Int32))), iv (if (own_h q1) = s1 then ((s1 + (1 : Int32)) &&& (31 : Int32)) else (own_h q1))] [(.long q2), (.long q1), (.ref a1)]
  obtain ⟨cq943, q943, q943'⟩ := E_a1.cell
  obtain ⟨_, _, ⟨T943, L943, k943, n943⟩, -, X943, ⟨Lc943, hQ943, l943, y943, z943⟩, st943⟩ := X941.privateBack hx (y := (⟨oS, "append", "(JJ)V"⟩ : MethodName)) hown (mvT hZ w44) (mvT hZ w45) (own_selp hZ w1 w46 w45 (by decide)) (Cond.privateMethod_at (mvP hZ w46 (args := #[]))) (mvT hZ w47) (by decide) (backOf (W := 0) (own_ap2 l Z a0 hw [] a1 q1 q2 (bb) (cc) (kb) (kc) (z1) (xs1) (ys1) (mo) ((.int 1)) ((.ref tt)) h0 n0 Z0 E_a1 g_a1 F_size_a1 F_most_a1 F_blocks_a1 F_bits_a1 V_bb V_cc g_bb g_cc ne_a1_bb ne_a1_cc ne_bb_cc hz hxl hyl F_ordered_a1 F_table_a1) hZ w47 w2 (by decide) (by decide)) (g := (mkF m 172 #[rv a1, lv q1, sN, lv q2, sN, iv (if (xs1.getD (0 : Int32).toNatClampNeg 0) < q1 then (-2 : Int32) else (if q1 < (xs1.getD (0 : Int32).toNatClampNeg 0) then (-1 : Int32) else (0 : Int32))), iv (if (own_h q1) = s1 then ((s1 + (1 : Int32)) &&& (31 : Int32)) else (own_h q1))] [(.long q2), (.long q1), (.ref a1)])) rfl (by rw [hml]; rfl) (Steps.refl _) (a := a1) (by rw [e941]; exact q943) q943' (argsL := [(.long q1), (.long q2)]) (rest := []) (lenOf own_pd7 rfl) rfl (by show 2 * 0 + _ ≤ _; exact Nat.le_of_eq rfl) (hb hby d16_172) (fun _ _ => ⟨rfl, e941, (by decide : 0 + 2 ≤ _), (by decide : 0 + 8 ≤ _)⟩)
  dsimp only [Pt.U, Pt.locs, Pt.cells, Pt.slots] at X943 l943 y943 z943 st943 hQ943
  subst y943 z943
  obtain ⟨b2_943, c2_943, k2_943, k3_943, z2_943, xs2_943, ys2_943, rfl, N943q, K943c, f943_0, f943_1, f943_2, f943_3, f943_4, f943_5, f943_6, f943_7, f943_8, f943_9, f943_10, f943_11, f943_12, f943_13, f943_14, f943_15, f943_16, f943_17, f943_18, f943_19⟩ := hQ943
  have N943 : Fr n0 L943 := by rw [l943]; exact Fr.app N940 N943q
  refine own_jump st943 ?_
  have K944 : Keep h0 T943.heap [a1, bb, cc, tt] := K0.trans K943c (allS (Or.inl (List.mem_of_getElem? (i := 0) rfl)) (allS (Or.inl (List.mem_of_getElem? (i := 1) rfl)) (allS (Or.inl (List.mem_of_getElem? (i := 2) rfl)) all0)))
  show gM p e below _ T943 m 175 #[rv a1, lv q1, sN, lv q2, sN, iv (if (xs1.getD (0 : Int32).toNatClampNeg 0) < q1 then (-2 : Int32) else (if q1 < (xs1.getD (0 : Int32).toNatClampNeg 0) then (-1 : Int32) else (0 : Int32))), iv (if (own_h q1) = s1 then ((s1 + (1 : Int32)) &&& (31 : Int32)) else (own_h q1))] []
  have ne_tt_b2_943 : tt ≠ b2_943 := own_neb f943_0 V_tt.lt (Ne.symm ne_bb_tt)
  have ne_tt_c2_943 : tt ≠ c2_943 := own_neb f943_1 V_tt.lt (Ne.symm ne_cc_tt)
  have sz_b2_943 : h0.size ≤ b2_943 ∨ b2_943 = bb := f943_0.imp (Nat.le_trans K0.1) id
  have sz_c2_943 : h0.size ≤ c2_943 ∨ c2_943 = cc := f943_1.imp (Nat.le_trans K0.1) id
  refine sT (fun t k => XS.aloadN X943.here hx rfl (hb hby d16_175) rfl rfl k) ?_
  show gM p e below _ T943 m 176 #[rv a1, lv q1, sN, lv q2, sN, iv (if (xs1.getD (0 : Int32).toNatClampNeg 0) < q1 then (-2 : Int32) else (if q1 < (xs1.getD (0 : Int32).toNatClampNeg 0) then (-1 : Int32) else (0 : Int32))), iv (if (own_h q1) = s1 then ((s1 + (1 : Int32)) &&& (31 : Int32)) else (own_h q1))] [(.ref a1)]
  obtain ⟨T945, X945, e945, st945⟩ := getF X943 hx hZ hown (host := "") (Or.inl w35) Via.refl rfl f943_11 (g := (mkF m 176 #[rv a1, lv q1, sN, lv q2, sN, iv (if (xs1.getD (0 : Int32).toNatClampNeg 0) < q1 then (-2 : Int32) else (if q1 < (xs1.getD (0 : Int32).toNatClampNeg 0) then (-1 : Int32) else (0 : Int32))), iv (if (own_h q1) = s1 then ((s1 + (1 : Int32)) &&& (31 : Int32)) else (own_h q1))] [(.ref a1)])) rfl rfl (hb hby d16_176)
  refine sT st945 ?_
  show gM p e below _ T945 m 179 #[rv a1, lv q1, sN, lv q2, sN, iv (if (xs1.getD (0 : Int32).toNatClampNeg 0) < q1 then (-2 : Int32) else (if q1 < (xs1.getD (0 : Int32).toNatClampNeg 0) then (-1 : Int32) else (0 : Int32))), iv (if (own_h q1) = s1 then ((s1 + (1 : Int32)) &&& (31 : Int32)) else (own_h q1))] [(.ref tt)]
  refine sT (fun t k => XS.iload X945.here hx rfl (hb hby d16_179) rfl k) ?_
  show gM p e below _ T945 m 181 #[rv a1, lv q1, sN, lv q2, sN, iv (if (xs1.getD (0 : Int32).toNatClampNeg 0) < q1 then (-2 : Int32) else (if q1 < (xs1.getD (0 : Int32).toNatClampNeg 0) then (-1 : Int32) else (0 : Int32))), iv (if (own_h q1) = s1 then ((s1 + (1 : Int32)) &&& (31 : Int32)) else (own_h q1))] [(.int (if (own_h q1) = s1 then ((s1 + (1 : Int32)) &&& (31 : Int32)) else (own_h q1))), (.ref tt)]
  refine sT (fun t k => XS.aloadN X945.here hx rfl (hb hby d16_181) rfl rfl k) ?_
  show gM p e below _ T945 m 182 #[rv a1, lv q1, sN, lv q2, sN, iv (if (xs1.getD (0 : Int32).toNatClampNeg 0) < q1 then (-2 : Int32) else (if q1 < (xs1.getD (0 : Int32).toNatClampNeg 0) then (-1 : Int32) else (0 : Int32))), iv (if (own_h q1) = s1 then ((s1 + (1 : Int32)) &&& (31 : Int32)) else (own_h q1))] [(.ref a1), (.int (if (own_h q1) = s1 then ((s1 + (1 : Int32)) &&& (31 : Int32)) else (own_h q1))), (.ref tt)]
  obtain ⟨T946, X946, e946, st946⟩ := getF X945 hx hZ hown (host := "") (Or.inl w42) Via.refl e945 f943_6 (g := (mkF m 182 #[rv a1, lv q1, sN, lv q2, sN, iv (if (xs1.getD (0 : Int32).toNatClampNeg 0) < q1 then (-2 : Int32) else (if q1 < (xs1.getD (0 : Int32).toNatClampNeg 0) then (-1 : Int32) else (0 : Int32))), iv (if (own_h q1) = s1 then ((s1 + (1 : Int32)) &&& (31 : Int32)) else (own_h q1))] [(.ref a1), (.int (if (own_h q1) = s1 then ((s1 + (1 : Int32)) &&& (31 : Int32)) else (own_h q1))), (.ref tt)])) rfl rfl (hb hby d16_182)
  refine sT st946 ?_
  show gM p e below _ T946 m 185 #[rv a1, lv q1, sN, lv q2, sN, iv (if (xs1.getD (0 : Int32).toNatClampNeg 0) < q1 then (-2 : Int32) else (if q1 < (xs1.getD (0 : Int32).toNatClampNeg 0) then (-1 : Int32) else (0 : Int32))), iv (if (own_h q1) = s1 then ((s1 + (1 : Int32)) &&& (31 : Int32)) else (own_h q1))] [(.int 3), (.int (if (own_h q1) = s1 then ((s1 + (1 : Int32)) &&& (31 : Int32)) else (own_h q1))), (.ref tt)]
  obtain ⟨T947, h947, X947, e947, W947, V947, st947⟩ := own_ist X946 hx hZ e946 (V_tt.keep K943c (ninS (Ne.symm ne_a1_tt) (ninS (Ne.symm ne_bb_tt) (ninS (Ne.symm ne_cc_tt) nin0)))) (j := (if (own_h q1) = s1 then ((s1 + (1 : Int32)) &&& (31 : Int32)) else (own_h q1))) (own_h2r hs1) ((if (own_h q1) = s1 then ((s1 + (1 : Int32)) &&& (31 : Int32)) else (own_h q1)).toNatClampNeg) rfl (own_h2l _ _) (g := (mkF m 185 #[rv a1, lv q1, sN, lv q2, sN, iv (if (xs1.getD (0 : Int32).toNatClampNeg 0) < q1 then (-2 : Int32) else (if q1 < (xs1.getD (0 : Int32).toNatClampNeg 0) then (-1 : Int32) else (0 : Int32))), iv (if (own_h q1) = s1 then ((s1 + (1 : Int32)) &&& (31 : Int32)) else (own_h q1))] [(.int 3), (.int (if (own_h q1) = s1 then ((s1 + (1 : Int32)) &&& (31 : Int32)) else (own_h q1))), (.ref tt)])) rfl rfl (hb hby d16_185)
  have V947 : Arv Z h947 tt kt .int 32 ((((List.replicate 32 (0 : Int32)).set (s1.toNatClampNeg) (2 : Int32)).set ((if (own_h q1) = s1 then ((s1 + (1 : Int32)) &&& (31 : Int32)) else (own_h q1)).toNatClampNeg) (3 : Int32)).map Value.int) (Value.int 0) := V947
  have N947 := Fr.snoc X947 N943 g_tt
  have K948 : Keep h0 h947 [a1, bb, cc, tt] := K944.wr W947 (Or.inl (List.mem_of_getElem? (i := 3) rfl))
  refine sT st947 ?_
  show gM p e below _ T947 m 186 #[rv a1, lv q1, sN, lv q2, sN, iv (if (xs1.getD (0 : Int32).toNatClampNeg 0) < q1 then (-2 : Int32) else (if q1 < (xs1.getD (0 : Int32).toNatClampNeg 0) then (-1 : Int32) else (0 : Int32))), iv (if (own_h q1) = s1 then ((s1 + (1 : Int32)) &&& (31 : Int32)) else (own_h q1))] []
  refine sT (fun t k => XS.iconst X947.here hx rfl (hb hby d16_186) k) ?_
  show gM p e below _ T947 m 187 #[rv a1, lv q1, sN, lv q2, sN, iv (if (xs1.getD (0 : Int32).toNatClampNeg 0) < q1 then (-2 : Int32) else (if q1 < (xs1.getD (0 : Int32).toNatClampNeg 0) then (-1 : Int32) else (0 : Int32))), iv (if (own_h q1) = s1 then ((s1 + (1 : Int32)) &&& (31 : Int32)) else (own_h q1))] [(.int 2)]
  refine sT (fun t k => XS.aloadN X947.here hx rfl (hb hby d16_187) rfl rfl k) ?_
  show gM p e below _ T947 m 188 #[rv a1, lv q1, sN, lv q2, sN, iv (if (xs1.getD (0 : Int32).toNatClampNeg 0) < q1 then (-2 : Int32) else (if q1 < (xs1.getD (0 : Int32).toNatClampNeg 0) then (-1 : Int32) else (0 : Int32))), iv (if (own_h q1) = s1 then ((s1 + (1 : Int32)) &&& (31 : Int32)) else (own_h q1))] [(.ref a1), (.int 2)]
  obtain ⟨T949, X949, e949, st949⟩ := getF X947 hx hZ hown (host := "") (Or.inl w42) Via.refl e947 (f943_6.other W947 (Or.inl ne_a1_tt)) (g := (mkF m 188 #[rv a1, lv q1, sN, lv q2, sN, iv (if (xs1.getD (0 : Int32).toNatClampNeg 0) < q1 then (-2 : Int32) else (if q1 < (xs1.getD (0 : Int32).toNatClampNeg 0) then (-1 : Int32) else (0 : Int32))), iv (if (own_h q1) = s1 then ((s1 + (1 : Int32)) &&& (31 : Int32)) else (own_h q1))] [(.ref a1), (.int 2)])) rfl rfl (hb hby d16_188)
  refine sT st949 ?_
  show gM p e below _ T949 m 191 #[rv a1, lv q1, sN, lv q2, sN, iv (if (xs1.getD (0 : Int32).toNatClampNeg 0) < q1 then (-2 : Int32) else (if q1 < (xs1.getD (0 : Int32).toNatClampNeg 0) then (-1 : Int32) else (0 : Int32))), iv (if (own_h q1) = s1 then ((s1 + (1 : Int32)) &&& (31 : Int32)) else (own_h q1))] [(.int 3), (.int 2)]
  refine sT (fun t k => XS.aloadN X949.here hx rfl (hb hby d16_191) rfl rfl k) ?_
  show gM p e below _ T949 m 192 #[rv a1, lv q1, sN, lv q2, sN, iv (if (xs1.getD (0 : Int32).toNatClampNeg 0) < q1 then (-2 : Int32) else (if q1 < (xs1.getD (0 : Int32).toNatClampNeg 0) then (-1 : Int32) else (0 : Int32))), iv (if (own_h q1) = s1 then ((s1 + (1 : Int32)) &&& (31 : Int32)) else (own_h q1))] [(.ref a1), (.int 3), (.int 2)]
  obtain ⟨T950, X950, e950, st950⟩ := getF X949 hx hZ hown (host := "") (Or.inl w48) Via.refl e949 (f943_10.other W947 (Or.inl ne_a1_tt)) (g := (mkF m 192 #[rv a1, lv q1, sN, lv q2, sN, iv (if (xs1.getD (0 : Int32).toNatClampNeg 0) < q1 then (-2 : Int32) else (if q1 < (xs1.getD (0 : Int32).toNatClampNeg 0) then (-1 : Int32) else (0 : Int32))), iv (if (own_h q1) = s1 then ((s1 + (1 : Int32)) &&& (31 : Int32)) else (own_h q1))] [(.ref a1), (.int 3), (.int 2)])) rfl rfl (hb hby d16_192)
  refine sT st950 ?_
  show gM p e below _ T950 m 195 #[rv a1, lv q1, sN, lv q2, sN, iv (if (xs1.getD (0 : Int32).toNatClampNeg 0) < q1 then (-2 : Int32) else (if q1 < (xs1.getD (0 : Int32).toNatClampNeg 0) then (-1 : Int32) else (0 : Int32))), iv (if (own_h q1) = s1 then ((s1 + (1 : Int32)) &&& (31 : Int32)) else (own_h q1))] [(.int 1), (.int 3), (.int 2)]
  refine sT (fun t k => XS.isub X950.here hx rfl (hb hby d16_195) rfl k) ?_
  show gM p e below _ T950 m 196 #[rv a1, lv q1, sN, lv q2, sN, iv (if (xs1.getD (0 : Int32).toNatClampNeg 0) < q1 then (-2 : Int32) else (if q1 < (xs1.getD (0 : Int32).toNatClampNeg 0) then (-1 : Int32) else (0 : Int32))), iv (if (own_h q1) = s1 then ((s1 + (1 : Int32)) &&& (31 : Int32)) else (own_h q1))] [(.int 2), (.int 2)]
  refine sT (fun t k => XS.imul X950.here hx rfl (hb hby d16_196) rfl k) ?_
  show gM p e below _ T950 m 197 #[rv a1, lv q1, sN, lv q2, sN, iv (if (xs1.getD (0 : Int32).toNatClampNeg 0) < q1 then (-2 : Int32) else (if q1 < (xs1.getD (0 : Int32).toNatClampNeg 0) then (-1 : Int32) else (0 : Int32))), iv (if (own_h q1) = s1 then ((s1 + (1 : Int32)) &&& (31 : Int32)) else (own_h q1))] [(.int 4)]
  refine sT (fun t k => XS.aloadN X950.here hx rfl (hb hby d16_197) rfl rfl k) ?_
  show gM p e below _ T950 m 198 #[rv a1, lv q1, sN, lv q2, sN, iv (if (xs1.getD (0 : Int32).toNatClampNeg 0) < q1 then (-2 : Int32) else (if q1 < (xs1.getD (0 : Int32).toNatClampNeg 0) then (-1 : Int32) else (0 : Int32))), iv (if (own_h q1) = s1 then ((s1 + (1 : Int32)) &&& (31 : Int32)) else (own_h q1))] [(.ref a1), (.int 4)]
  obtain ⟨T951, X951, e951, st951⟩ := getF X950 hx hZ hown (host := "") (Or.inl w35) Via.refl e950 (f943_11.other W947 (Or.inl ne_a1_tt)) (g := (mkF m 198 #[rv a1, lv q1, sN, lv q2, sN, iv (if (xs1.getD (0 : Int32).toNatClampNeg 0) < q1 then (-2 : Int32) else (if q1 < (xs1.getD (0 : Int32).toNatClampNeg 0) then (-1 : Int32) else (0 : Int32))), iv (if (own_h q1) = s1 then ((s1 + (1 : Int32)) &&& (31 : Int32)) else (own_h q1))] [(.ref a1), (.int 4)])) rfl rfl (hb hby d16_198)
  refine sT st951 ?_
  show gM p e below _ T951 m 201 #[rv a1, lv q1, sN, lv q2, sN, iv (if (xs1.getD (0 : Int32).toNatClampNeg 0) < q1 then (-2 : Int32) else (if q1 < (xs1.getD (0 : Int32).toNatClampNeg 0) then (-1 : Int32) else (0 : Int32))), iv (if (own_h q1) = s1 then ((s1 + (1 : Int32)) &&& (31 : Int32)) else (own_h q1))] [(.ref tt), (.int 4)]
  refine sT (fun t k => own_len X951 hx hZ e951 V947 (g := (mkF m 201 #[rv a1, lv q1, sN, lv q2, sN, iv (if (xs1.getD (0 : Int32).toNatClampNeg 0) < q1 then (-2 : Int32) else (if q1 < (xs1.getD (0 : Int32).toNatClampNeg 0) then (-1 : Int32) else (0 : Int32))), iv (if (own_h q1) = s1 then ((s1 + (1 : Int32)) &&& (31 : Int32)) else (own_h q1))] [(.ref tt), (.int 4)])) rfl rfl (hb hby d16_201) _ k) ?_
  show gM p e below _ T951 m 202 #[rv a1, lv q1, sN, lv q2, sN, iv (if (xs1.getD (0 : Int32).toNatClampNeg 0) < q1 then (-2 : Int32) else (if q1 < (xs1.getD (0 : Int32).toNatClampNeg 0) then (-1 : Int32) else (0 : Int32))), iv (if (own_h q1) = s1 then ((s1 + (1 : Int32)) &&& (31 : Int32)) else (own_h q1))] [(.int 32), (.int 4)]
  have hc952 : ¬ ((32 : Int32) < (4 : Int32)) := by decide
  refine sT (fun t k => XS.icmpYes X951.here hx rfl (pc0 := 202) (pc' := 216) rfl (hb hby d16_202) rfl (flt hc952).2.2.2 (by decide) (by decide) k) ?_
  show gM p e below _ T951 m 216 #[rv a1, lv q1, sN, lv q2, sN, iv (if (xs1.getD (0 : Int32).toNatClampNeg 0) < q1 then (-2 : Int32) else (if q1 < (xs1.getD (0 : Int32).toNatClampNeg 0) then (-1 : Int32) else (0 : Int32))), iv (if (own_h q1) = s1 then ((s1 + (1 : Int32)) &&& (31 : Int32)) else (own_h q1))] []
  refine sT (fun t k => XS.iconst X951.here hx rfl (hb hby d16_216) k) ?_
  show gM p e below _ T951 m 217 #[rv a1, lv q1, sN, lv q2, sN, iv (if (xs1.getD (0 : Int32).toNatClampNeg 0) < q1 then (-2 : Int32) else (if q1 < (xs1.getD (0 : Int32).toNatClampNeg 0) then (-1 : Int32) else (0 : Int32))), iv (if (own_h q1) = s1 then ((s1 + (1 : Int32)) &&& (31 : Int32)) else (own_h q1))] [(.int 1)]
  refine own_retV X951 hx hlk Bd.returns (w := (.int 1)) (own_nb (Or.inr rfl)) (Or.inl ⟨rfl, Or.inr (Or.inl rfl), _, rfl⟩) (hb hby d16_217) ?_ (by decide) (by decide)
  show own_al3_Q Z a1 q1 q2 bb cc kb kc z1 xs1 ys1 mo tt kt s1 h0 n0 _ T951.heap _
  rw [e951]
  exact ⟨b2_943, c2_943, k2_943, k3_943, z2_943, xs2_943, ys2_943, rfl, N947, K948, (f943_0.imp (Nat.le_trans K0.1) id), (f943_1.imp (Nat.le_trans K0.1) id), f943_2, f943_3, f943_4, (f943_5.wr W947), (f943_6.other W947 (Or.inl ne_a1_tt)), (f943_7.other W947 (Or.inl ne_a1_tt)), (f943_8.other W947 (Or.inl ne_a1_tt)), (f943_9.other W947 (Or.inl ne_a1_tt)), (f943_10.other W947 (Or.inl ne_a1_tt)), (f943_12.other W947 (Ne.symm ne_tt_b2_943)), (f943_13.other W947 (Ne.symm ne_tt_c2_943)), f943_14, f943_15, f943_16, f943_17, f943_18, f943_19, (f943_11.other W947 (Or.inl ne_a1_tt)), V947⟩
theorem own_pn2 : plainName "com/example/concepta/concepta/store/OidSetBytesPinLaw" = true := by first | (simp [plainName, overriddenIn]; done) | decide +kernel
theorem own_pd9 : parseMethodDescriptor "()J" = some ⟨[], some .long⟩ := by decide +kernel
theorem own_pd10 : parseMethodDescriptor "(JJ)Z" = some ⟨[.long, .long], some .boolean⟩ := by decide +kernel
theorem own_pd11 : parseMethodDescriptor "()Lcom/example/concepta/concepta/store/OidSet;" = some ⟨[], some (.object oS)⟩ := by decide +kernel
theorem own_law_ef (m : MethodId) (p1 : Int64) (p2 : Int64) (p3 : Int64) (p4 : Int32) : entryFrame m #[(.long p1), (.long p2), (.long p3), (.int p4)] maxLocals = mkF m 0 #[lv p1, sN, lv p2, sN, lv p3, sN, iv p4, uN, uN, uN, uN, uN, uN, uN, uN, uN, uN, uN, uN, uN, uN, uN] [] := by first | (simp [entryFrame, mkF, argsToLocals, Value.category, maxLocals]; done) | rfl
set_option maxRecDepth 65536 in
set_option maxHeartbeats 40000000 in
theorem own_law (l : Launch) (Z : State) (a0 : Array Value) (hw : ∀ d ∈ tables_1, d.before a0 Z = true) (ws : List Jvm.Cond) (p1 : Int64) (p2 : Int64) (p3 : Int64) (p4 : Int32) (h0 : Heap) (n0 : Nat) (Z0 : n0 ≤ h0.size) :
    MetFree l x (head1 (Jvm.Cond.code x code maxLocals ret :: ws) room_1) (fun aa U => aa = #[(.long p1), (.long p2), (.long p3), (.int p4)] ∧ Z.Warmed39 U.vm ∧ U.heap = h0) (fun _ _ _ _ _ => True) (fun _ U o U' => ∃ v L, o = .returned v ∧ own_Q0 n0 v U'.heap L ∧ FrameEnd U o U' L 32 256) := by
  refine MetFree.of_bodySF (plainFor_of_name own_pn2) hisR ?_
  have w0 := hw _ (List.mem_of_getElem? (i := 0) rfl)
  have w1 := hw _ (List.mem_of_getElem? (i := 1) rfl)
  have w2 := hw _ (List.mem_of_getElem? (i := 2) rfl)
  have w3 := hw _ (List.mem_of_getElem? (i := 3) rfl)
  have w4 := hw _ (List.mem_of_getElem? (i := 4) rfl)
  have w5 := hw _ (List.mem_of_getElem? (i := 5) rfl)
  have w14 := hw _ (List.mem_of_getElem? (i := 14) rfl)
  have w21 := hw _ (List.mem_of_getElem? (i := 21) rfl)
  have w23 := hw _ (List.mem_of_getElem? (i := 23) rfl)
  have w24 := hw _ (List.mem_of_getElem? (i := 24) rfl)
  have w25 := hw _ (List.mem_of_getElem? (i := 25) rfl)
  have w26 := hw _ (List.mem_of_getElem? (i := 26) rfl)
  have w27 := hw _ (List.mem_of_getElem? (i := 27) rfl)
  have w28 := hw _ (List.mem_of_getElem? (i := 28) rfl)
  have w29 := hw _ (List.mem_of_getElem? (i := 29) rfl)
  have w30 := hw _ (List.mem_of_getElem? (i := 30) rfl)
  have w31 := hw _ (List.mem_of_getElem? (i := 31) rfl)
  have w32 := hw _ (List.mem_of_getElem? (i := 32) rfl)
  have w33 := hw _ (List.mem_of_getElem? (i := 33) rfl)
  have w36 := hw _ (List.mem_of_getElem? (i := 36) rfl)
  have w37 := hw _ (List.mem_of_getElem? (i := 37) rfl)
  have w38 := hw _ (List.mem_of_getElem? (i := 38) rfl)
  have w39 := hw _ (List.mem_of_getElem? (i := 39) rfl)
  have w40 := hw _ (List.mem_of_getElem? (i := 40) rfl)
  have w41 := hw _ (List.mem_of_getElem? (i := 41) rfl)
  have w43 := hw _ (List.mem_of_getElem? (i := 43) rfl)
  have w49 := hw _ (List.mem_of_getElem? (i := 49) rfl)
  have w50 := hw _ (List.mem_of_getElem? (i := 50) rfl)
  have w71 := hw _ (List.mem_of_getElem? (i := 71) rfl)
  have w73 := hw _ (List.mem_of_getElem? (i := 73) rfl)
  have w74 := hw _ (List.mem_of_getElem? (i := 74) rfl)
  have w75 := hw _ (List.mem_of_getElem? (i := 75) rfl)
  have w76 := hw _ (List.mem_of_getElem? (i := 76) rfl)
  have w77 := hw _ (List.mem_of_getElem? (i := 77) rfl)
  have w78 := hw _ (List.mem_of_getElem? (i := 78) rfl)
  have w79 := hw _ (List.mem_of_getElem? (i := 79) rfl)
  have w80 := hw _ (List.mem_of_getElem? (i := 80) rfl)
  have w101 := hw _ (List.mem_of_getElem? (i := 101) rfl)
  intro p e s m args below meth c s₁ Bd hml0 hP hK
  obtain ⟨rfl, hZ, hh⟩ := hP
  have hx := Bd.exec
  have hby := Bd.bytes
  have hlk := Bd.notSynchronized
  have hml : c.maxLocals = 22 := hml0
  have hown : s.vm.findClass "com/example/concepta/concepta/store/OidSetBytesPinLaw" = some m.cls := findClass_of_methodNamed Bd.named
  have hnm := (name_of_methodNamed Bd.named Bd.method).1
  have X0 : Stand p l e room_1 s m #[(.long p1), (.long p2), (.long p3), (.int p4)] below meth c s₁ [] 0 0 := Stand.of_body Bd
  have e0 : s₁.heap = h0 := by rw [← hh, Bd.state]; rfl
  have N0 := Fr.nil n0
  have K0 : Keep h0 h0 [] := Keep.refl h0 _
  show gS p e below (own_Fin s (own_Q0 n0) 32 256) _
  refine sT (fun t k => castTop (own_law_ef m p1 p2 p3 p4) k) ?_
  show gM p e below _ s₁ m 0 #[lv p1, sN, lv p2, sN, lv p3, sN, iv p4, uN, uN, uN, uN, uN, uN, uN, uN, uN, uN, uN, uN, uN, uN, uN] []
  refine sT (fun t k => XS.iload X0.here hx rfl (hb hby at_0) rfl k) ?_
  show gM p e below _ s₁ m 2 #[lv p1, sN, lv p2, sN, lv p3, sN, iv p4, uN, uN, uN, uN, uN, uN, uN, uN, uN, uN, uN, uN, uN, uN, uN] [(.int p4)]
  refine sT (fun t k => XS.iconst X0.here hx rfl (hb hby at_2) k) ?_
  show gM p e below _ s₁ m 3 #[lv p1, sN, lv p2, sN, lv p3, sN, iv p4, uN, uN, uN, uN, uN, uN, uN, uN, uN, uN, uN, uN, uN, uN, uN] [(.int 1), (.int p4)]
  refine sT (fun t k => XS.iand X0.here hx rfl (hb hby at_3) rfl k) ?_
  show gM p e below _ s₁ m 4 #[lv p1, sN, lv p2, sN, lv p3, sN, iv p4, uN, uN, uN, uN, uN, uN, uN, uN, uN, uN, uN, uN, uN, uN, uN] [(.int (p4 &&& (1 : Int32)))]
  refine sT (S' := s₁.setTop (mkF m 12 #[lv p1, sN, lv p2, sN, lv p3, sN, iv p4, uN, uN, uN, uN, uN, uN, uN, uN, uN, uN, uN, uN, uN, uN, uN] [(.int (if (p4 &&& (1 : Int32)) = (0 : Int32) then (0 : Int32) else (1 : Int32)))])) (fun t k => ?_) ?_
  · show Steps p.tables e below (s₁.setTop (mkF m 4 #[lv p1, sN, lv p2, sN, lv p3, sN, iv p4, uN, uN, uN, uN, uN, uN, uN, uN, uN, uN, uN, uN, uN, uN, uN] [(.int (p4 &&& (1 : Int32)))])) _
    by_cases hc953 : (p4 &&& (1 : Int32)) = (0 : Int32)
    · --
      refine XS.ifYes X0.here hx rfl (pc0 := 4) (pc' := 11) rfl (hb hby at_4) rfl ((if0 _ _).trans (teq hc953).1) (by decide) (by decide) ?_
      show Steps p.tables e below (s₁.setTop (mkF m 11 #[lv p1, sN, lv p2, sN, lv p3, sN, iv p4, uN, uN, uN, uN, uN, uN, uN, uN, uN, uN, uN, uN, uN, uN, uN] [])) _
      refine XS.iconst X0.here hx rfl (hb hby at_11) ?_
      show Steps p.tables e below (s₁.setTop (mkF m 12 #[lv p1, sN, lv p2, sN, lv p3, sN, iv p4, uN, uN, uN, uN, uN, uN, uN, uN, uN, uN, uN, uN, uN, uN, uN] [(.int 0)])) _
      simp only [if_pos hc953] at k
      exact k
    · --
      refine XS.ifNo X0.here hx rfl (hb hby at_4) rfl ((if0 _ _).trans (feq hc953).1) ?_
      show Steps p.tables e below (s₁.setTop (mkF m 7 #[lv p1, sN, lv p2, sN, lv p3, sN, iv p4, uN, uN, uN, uN, uN, uN, uN, uN, uN, uN, uN, uN, uN, uN, uN] [])) _
      refine XS.iconst X0.here hx rfl (hb hby at_7) ?_
      show Steps p.tables e below (s₁.setTop (mkF m 8 #[lv p1, sN, lv p2, sN, lv p3, sN, iv p4, uN, uN, uN, uN, uN, uN, uN, uN, uN, uN, uN, uN, uN, uN, uN] [(.int 1)])) _
      refine XS.goto X0.here hx rfl (pc0 := 8) (pc' := 12) rfl (hb hby at_8) (by decide) (by decide) ?_
      show Steps p.tables e below (s₁.setTop (mkF m 12 #[lv p1, sN, lv p2, sN, lv p3, sN, iv p4, uN, uN, uN, uN, uN, uN, uN, uN, uN, uN, uN, uN, uN, uN, uN] [(.int 1)])) _
      simp only [if_neg hc953] at k
      exact k
  show gM p e below _ s₁ m 12 #[lv p1, sN, lv p2, sN, lv p3, sN, iv p4, uN, uN, uN, uN, uN, uN, uN, uN, uN, uN, uN, uN, uN, uN, uN] [(.int (if (p4 &&& (1 : Int32)) = (0 : Int32) then (0 : Int32) else (1 : Int32)))]
  refine sT (fun t k => XS.istore X0.here hx rfl (hb hby at_12) rfl (l' := #[lv p1, sN, lv p2, sN, lv p3, sN, iv p4, iv (if (p4 &&& (1 : Int32)) = (0 : Int32) then (0 : Int32) else (1 : Int32)), uN, uN, uN, uN, uN, uN, uN, uN, uN, uN, uN, uN, uN, uN]) rfl k) ?_
  show gM p e below _ s₁ m 14 #[lv p1, sN, lv p2, sN, lv p3, sN, iv p4, iv (if (p4 &&& (1 : Int32)) = (0 : Int32) then (0 : Int32) else (1 : Int32)), uN, uN, uN, uN, uN, uN, uN, uN, uN, uN, uN, uN, uN, uN] []
  generalize hv_vsm : (if (p4 &&& (1 : Int32)) = (0 : Int32) then (0 : Int32) else (1 : Int32)) = vsm
  refine sT (fun t k => XS.iload X0.here hx rfl (hb hby at_14) rfl k) ?_
  show gM p e below _ s₁ m 16 #[lv p1, sN, lv p2, sN, lv p3, sN, iv p4, iv vsm, uN, uN, uN, uN, uN, uN, uN, uN, uN, uN, uN, uN, uN, uN] [(.int p4)]
  refine sT (fun t k => XS.iconst X0.here hx rfl (hb hby at_16) k) ?_
  show gM p e below _ s₁ m 17 #[lv p1, sN, lv p2, sN, lv p3, sN, iv p4, iv vsm, uN, uN, uN, uN, uN, uN, uN, uN, uN, uN, uN, uN, uN, uN] [(.int 1), (.int p4)]
  refine sT (fun t k => XS.ishr X0.here hx rfl (hb hby at_17) rfl k) ?_
  show gM p e below _ s₁ m 18 #[lv p1, sN, lv p2, sN, lv p3, sN, iv p4, iv vsm, uN, uN, uN, uN, uN, uN, uN, uN, uN, uN, uN, uN, uN, uN] [(.int (p4 >>> ((1 : Int32) &&& 31)))]
  refine sT (fun t k => XS.istore X0.here hx rfl (hb hby at_18) rfl (l' := #[lv p1, sN, lv p2, sN, lv p3, sN, iv p4, iv vsm, iv (p4 >>> ((1 : Int32) &&& 31)), uN, uN, uN, uN, uN, uN, uN, uN, uN, uN, uN, uN, uN]) rfl k) ?_
  show gM p e below _ s₁ m 20 #[lv p1, sN, lv p2, sN, lv p3, sN, iv p4, iv vsm, iv (p4 >>> ((1 : Int32) &&& 31)), uN, uN, uN, uN, uN, uN, uN, uN, uN, uN, uN, uN, uN] []
  generalize hv_vmo : (p4 >>> ((1 : Int32) &&& 31)) = vmo
  obtain ⟨T954, h954, X954, e954, E954, A954, D954, -, st954⟩ := newO X0 hx hZ hown w0 w1 w2 e0 (g := (mkF m 20 #[lv p1, sN, lv p2, sN, lv p3, sN, iv p4, iv vsm, iv vmo, uN, uN, uN, uN, uN, uN, uN, uN, uN, uN, uN, uN, uN] [])) rfl (hb hby at_20) (by decide) (by decide)
  obtain ⟨b954, g954⟩ : ∃ z, z = h0.size := ⟨_, rfl⟩
  rw [← g954] at A954 D954 st954
  have g_b954 : n0 ≤ b954 := Nat.le_trans Z0 (Nat.le_of_eq g954.symm)
  have sz_b954 : h0.size ≤ b954 := Nat.le_trans K0.1 (Nat.le_of_eq g954.symm)
  have K955 : Keep h0 h954 [] := K0.ext E954
  have F_most_b954 : Fld Z h954 b954 oS "most" "I" (.int 0) := D954 (Or.inl w14) (ty := .int) (by decide)
  have F_blocks_b954 : Fld Z h954 b954 oS "blocks" "[J" .null := D954 (Or.inl w21) (ty := (.array .long)) (by decide)
  have F_bits_b954 : Fld Z h954 b954 oS "bits" "[J" .null := D954 (Or.inl w23) (ty := (.array .long)) (by decide)
  have F_table_b954 : Fld Z h954 b954 oS "table" "[I" .null := D954 (Or.inl w36) (ty := (.array .int)) (by decide)
  have F_size_b954 : Fld Z h954 b954 oS "size" "I" (.int 0) := D954 (Or.inl w43) (ty := .int) (by decide)
  have F_ordered_b954 : Fld Z h954 b954 oS "ordered" "I" (.int 0) := D954 (Or.inl w49) (ty := .int) (by decide)
  refine sT st954 ?_
  show gM p e below _ T954 m 23 #[lv p1, sN, lv p2, sN, lv p3, sN, iv p4, iv vsm, iv vmo, uN, uN, uN, uN, uN, uN, uN, uN, uN, uN, uN, uN, uN] [(.ref b954)]
  refine sT (fun t k => XS.dup X954.here hx rfl (hb hby at_23) rfl rfl k) ?_
  show gM p e below _ T954 m 24 #[lv p1, sN, lv p2, sN, lv p3, sN, iv p4, iv vsm, iv vmo, uN, uN, uN, uN, uN, uN, uN, uN, uN, uN, uN, uN, uN] [(.ref b954), (.ref b954)]
  obtain ⟨_, _, ⟨T956, L956, k956, n956⟩, -, X956, ⟨Lc956, hQ956, l956, y956, z956⟩, st956⟩ := X954.specialBack hx (y := (⟨oS, "<init>", "()V"⟩ : MethodName)) rfl hown (mvT hZ w3) (mvT hZ w4) (mvT hZ w5) (by decide) (backOf (W := 1) (own_i0 l Z a0 hw [] b954 ((.int 0)) (.null) (.null) h954 n0 (Nat.le_trans Z0 E954.1) A954 g_b954 F_size_b954 F_ordered_b954 F_table_b954 F_most_b954 F_blocks_b954 F_bits_b954) hZ w5 w2 (by decide) (by decide)) (g := (mkF m 24 #[lv p1, sN, lv p2, sN, lv p3, sN, iv p4, iv vsm, iv vmo, uN, uN, uN, uN, uN, uN, uN, uN, uN, uN, uN, uN, uN] [(.ref b954), (.ref b954)])) rfl (by rw [hml]; rfl) (Steps.refl _) (a := b954) (argsL := []) (rest := [(.ref b954)]) (lenOf own_pd2 rfl) rfl (by show 2 * 0 + _ ≤ _; exact Nat.le_of_eq rfl) (hb hby at_24) (fun _ _ => ⟨rfl, e954, (by decide : 1 + 2 ≤ _), (by decide : 6 + 32 ≤ _)⟩)
  dsimp only [Pt.U, Pt.locs, Pt.cells, Pt.slots] at X956 l956 y956 z956 st956 hQ956
  subst y956 z956
  obtain ⟨bb_956, cc_956, kb_956, kc_956, rfl, N956q, K956c, f956_0, f956_1, f956_2, f956_3, f956_4, f956_5, f956_6, f956_7, f956_8, f956_9, f956_10, f956_11⟩ := hQ956
  have N956 : Fr n0 L956 := by rw [l956]; exact Fr.app N0 N956q
  refine own_jump st956 ?_
  have K957 : Keep h0 T956.heap [] := K955.trans K956c (allS (Or.inr sz_b954) all0)
  have sz_bb_956 : h0.size ≤ bb_956 := Nat.le_trans K955.1 f956_0
  have g_bb_956 : n0 ≤ bb_956 := Nat.le_trans Z0 sz_bb_956
  have ne_b954_bb_956 : b954 ≠ bb_956 := Nat.ne_of_lt (Nat.lt_of_lt_of_le A954.lt f956_0)
  have sz_cc_956 : h0.size ≤ cc_956 := Nat.le_trans K955.1 f956_1
  have g_cc_956 : n0 ≤ cc_956 := Nat.le_trans Z0 sz_cc_956
  have ne_b954_cc_956 : b954 ≠ cc_956 := Nat.ne_of_lt (Nat.lt_of_lt_of_le A954.lt f956_1)
  show gM p e below _ T956 m 27 #[lv p1, sN, lv p2, sN, lv p3, sN, iv p4, iv vsm, iv vmo, uN, uN, uN, uN, uN, uN, uN, uN, uN, uN, uN, uN, uN] [(.ref b954)]
  refine sT (fun t k => XS.astore X956.here hx rfl (hb hby at_27) rfl rfl (l' := #[lv p1, sN, lv p2, sN, lv p3, sN, iv p4, iv vsm, iv vmo, rv b954, uN, uN, uN, uN, uN, uN, uN, uN, uN, uN, uN, uN]) rfl k) ?_
  show gM p e below _ T956 m 29 #[lv p1, sN, lv p2, sN, lv p3, sN, iv p4, iv vsm, iv vmo, rv b954, uN, uN, uN, uN, uN, uN, uN, uN, uN, uN, uN, uN] []
  have J41 : ∀ (T41 : State) (lo41 : List Loc) (ce41 sl41 : Nat) (h41 : Heap) (X41 : Stand p l e room_1 s m #[(.long p1), (.long p2), (.long p3), (.int p4)] below meth c T41 lo41 ce41 sl41) (e41 : T41.heap = h41) (N41 : Fr n0 lo41) (hce41 : ce41 ≤ 8) (hsl41 : sl41 ≤ 56) (K41 : Keep h0 h41 []) (ob bb cc : Addr) (kb kc : ClassId) (z1 : Int32) (xs1 ys1 : List Int64) (sz_ob : h0.size ≤ ob) (sz_bb : h0.size ≤ bb) (sz_cc : h0.size ≤ cc) (ne_ob_bb : ob ≠ bb) (ne_ob_cc : ob ≠ cc) (ne_bb_cc : bb ≠ cc) (E_ob : Exa Z h41 ob oS) (F_blocks_ob : Fld Z h41 ob oS "blocks" "[J" (.ref bb)) (F_bits_ob : Fld Z h41 ob oS "bits" "[J" (.ref cc)) (F_size_ob : Fld Z h41 ob oS "size" "I" (.int 0)) (F_ordered_ob : Fld Z h41 ob oS "ordered" "I" (.int 0)) (F_table_ob : Fld Z h41 ob oS "table" "[I" .null) (F_most_ob : Fld Z h41 ob oS "most" "I" (.int 2147483647)) (V_bb : Arv Z h41 bb kb .long z1 (xs1.map Value.long) (Value.long 0)) (V_cc : Arv Z h41 cc kc .long z1 (ys1.map Value.long) (Value.long 0)) (hxl : xs1.length = z1.toNatClampNeg) (hyl : ys1.length = z1.toNatClampNeg) (hzc : (vsm = (0 : Int32) ∧ z1 = (16 : Int32)) ∨ (vsm = (1 : Int32) ∧ z1 = (1 : Int32))), gS p e below (own_Fin s (own_Q0 n0) 32 256) (T41.setTop (mkF m 41 #[lv p1, sN, lv p2, sN, lv p3, sN, iv p4, iv vsm, iv vmo, rv ob, uN, uN, uN, uN, uN, uN, uN, uN, uN, uN, uN, uN] [])) := by
    intro T41 lo41 ce41 sl41 h41 X41 e41 N41 hce41 hsl41 K41 ob bb cc kb kc z1 xs1 ys1 sz_ob sz_bb sz_cc ne_ob_bb ne_ob_cc ne_bb_cc E_ob F_blocks_ob F_bits_ob F_size_ob F_ordered_ob F_table_ob F_most_ob V_bb V_cc hxl hyl hzc
    have g_ob : n0 ≤ ob := Nat.le_trans Z0 sz_ob
    have g_bb : n0 ≤ bb := Nat.le_trans Z0 sz_bb
    have g_cc : n0 ≤ cc := Nat.le_trans Z0 sz_cc
    refine sT (fun t k => XS.aload X41.here hx rfl (hb hby at_41) rfl rfl k) ?_
    show gM p e below _ T41 m 43 #[lv p1, sN, lv p2, sN, lv p3, sN, iv p4, iv vsm, iv vmo, rv ob, uN, uN, uN, uN, uN, uN, uN, uN, uN, uN, uN, uN] [(.ref ob)]
    refine sT (fun t k => XS.iload X41.here hx rfl (hb hby at_43) rfl k) ?_
    show gM p e below _ T41 m 45 #[lv p1, sN, lv p2, sN, lv p3, sN, iv p4, iv vsm, iv vmo, rv ob, uN, uN, uN, uN, uN, uN, uN, uN, uN, uN, uN, uN] [(.int vmo), (.ref ob)]
    obtain ⟨cq958, kq958, q958a, q958b, q958c⟩ := isOf hZ e41 E_ob
    obtain ⟨_, _, ⟨T958, L958, k958, n958⟩, -, X958, ⟨Lc958, hQ958, l958, y958, z958⟩, st958⟩ := X41.virtualBack hx (y := (⟨oS, "holdAtMost", "(I)V"⟩ : MethodName)) (z := (⟨oS, "holdAtMost", "(I)V"⟩ : MethodName)) hown (mvT hZ w24) (mvT hZ w25) (notFace_of_selects (args := #[]) (mvT hZ w27)) (mvT hZ w27) (mvT hZ w26) (by decide) (backOf (W := 0) (own_hm l Z a0 hw [] ob vmo ((.int 2147483647)) ((.ref bb)) ((.ref cc)) ((.int 0)) ((.int 0)) (.null) h41 n0 (Nat.le_trans Z0 K41.1) E_ob g_ob F_most_ob F_blocks_ob F_bits_ob F_size_ob F_ordered_ob F_table_ob) hZ w28 w2 (by decide) (by decide)) q958a q958c (g := (mkF m 45 #[lv p1, sN, lv p2, sN, lv p3, sN, iv p4, iv vsm, iv vmo, rv ob, uN, uN, uN, uN, uN, uN, uN, uN, uN, uN, uN, uN] [(.int vmo), (.ref ob)])) rfl (by rw [hml]; rfl) (Steps.refl _) (argsL := [(.int vmo)]) (rest := []) (lenOf own_pd1 rfl) rfl (by show 2 * 0 + _ ≤ _; exact Nat.le_of_eq rfl) (hb hby at_45) (fun _ _ => ⟨rfl, e41, (Nat.le_trans (m := 32) (by dsimp only [Pt.cells, Pt.slots]; omega) (by decide)), (Nat.le_trans (m := 256) (by dsimp only [Pt.cells, Pt.slots]; omega) (by decide))⟩)
    dsimp only [Pt.U, Pt.locs, Pt.cells, Pt.slots] at X958 l958 y958 z958 st958 hQ958
    subst y958 z958
    obtain ⟨rfl, N958q, K958c, f958_0, f958_1, f958_2, f958_3, f958_4, f958_5, f958_6⟩ := hQ958
    have N958 : Fr n0 L958 := by rw [l958]; exact Fr.app N41 N958q
    refine own_jump st958 ?_
    have K959 : Keep h0 T958.heap [] := K41.trans K958c (allS (Or.inr sz_ob) all0)
    show gM p e below _ T958 m 48 #[lv p1, sN, lv p2, sN, lv p3, sN, iv p4, iv vsm, iv vmo, rv ob, uN, uN, uN, uN, uN, uN, uN, uN, uN, uN, uN, uN] []
    refine sT (fun t k => XS.aload X958.here hx rfl (hb hby at_48) rfl rfl k) ?_
    show gM p e below _ T958 m 50 #[lv p1, sN, lv p2, sN, lv p3, sN, iv p4, iv vsm, iv vmo, rv ob, uN, uN, uN, uN, uN, uN, uN, uN, uN, uN, uN, uN] [(.ref ob)]
    obtain ⟨cq960, kq960, q960a, q960b, q960c⟩ := isOf hZ rfl f958_0
    obtain ⟨_, _, ⟨T960, L960, k960, n960⟩, -, X960, ⟨Lc960, hQ960, l960, y960, z960⟩, st960⟩ := X958.virtualBack hx (y := (⟨oS, "bytes", "()J"⟩ : MethodName)) (z := (⟨oS, "bytes", "()J"⟩ : MethodName)) hown (mvT hZ w29) (mvT hZ w30) (notFace_of_selects (args := #[]) (mvT hZ w32)) (mvT hZ w32) (mvT hZ w31) (by decide) (backOf (W := 0) (own_bN l Z a0 hw [] ob (bb) (cc) (kb) (kc) (z1) (z1) (xs1) (ys1) T958.heap n0 (Nat.le_trans (Nat.le_trans Z0 K41.1) K958c.1) f958_2 f958_3 f958_6 (V_bb.keep K958c (ninS (Ne.symm ne_ob_bb) nin0)) (V_cc.keep K958c (ninS (Ne.symm ne_ob_cc) nin0))) hZ w33 w2 (by decide) (by decide)) q960a q960c (g := (mkF m 50 #[lv p1, sN, lv p2, sN, lv p3, sN, iv p4, iv vsm, iv vmo, rv ob, uN, uN, uN, uN, uN, uN, uN, uN, uN, uN, uN, uN] [(.ref ob)])) rfl (by rw [hml]; rfl) (Steps.refl _) (argsL := []) (rest := []) (lenOf own_pd9 rfl) rfl (by show 2 * 0 + _ ≤ _; exact Nat.le_of_eq rfl) (hb hby at_50) (fun _ _ => ⟨rfl, rfl, (Nat.le_trans (m := 32) (by dsimp only [Pt.cells, Pt.slots]; omega) (by decide)), (Nat.le_trans (m := 256) (by dsimp only [Pt.cells, Pt.slots]; omega) (by decide))⟩)
    dsimp only [Pt.U, Pt.locs, Pt.cells, Pt.slots] at X960 l960 y960 z960 st960 hQ960
    subst y960 z960
    obtain ⟨rfl, N960q, eh960⟩ := hQ960
    have N960 : Fr n0 L960 := by rw [l960]; exact Fr.app N958 N960q
    refine own_jump st960 ?_
    show gM p e below _ T960 m 53 #[lv p1, sN, lv p2, sN, lv p3, sN, iv p4, iv vsm, iv vmo, rv ob, uN, uN, uN, uN, uN, uN, uN, uN, uN, uN, uN, uN] [(.long (((8 : Int64) * ((z1 + z1).toInt64)) + (0 : Int64)))]
    refine sT (fun t k => XS.lstore X960.here hx rfl (hb hby at_53) rfl (l' := #[lv p1, sN, lv p2, sN, lv p3, sN, iv p4, iv vsm, iv vmo, rv ob, lv (((8 : Int64) * ((z1 + z1).toInt64)) + (0 : Int64)), sN, uN, uN, uN, uN, uN, uN, uN, uN, uN, uN]) rfl k) ?_
    show gM p e below _ T960 m 55 #[lv p1, sN, lv p2, sN, lv p3, sN, iv p4, iv vsm, iv vmo, rv ob, lv (((8 : Int64) * ((z1 + z1).toInt64)) + (0 : Int64)), sN, uN, uN, uN, uN, uN, uN, uN, uN, uN, uN] []
    have J89 : ∀ (T89 : State) (lo89 : List Loc) (ce89 sl89 : Nat) (X89 : Stand p l e room_1 s m #[(.long p1), (.long p2), (.long p3), (.int p4)] below meth c T89 lo89 ce89 sl89) (N89 : Fr n0 lo89) (hce89 : ce89 ≤ 32) (hsl89 : sl89 ≤ 256) (v89 : Int64) (hv89 : v89 = own_exp p1 p2 p3 vsm vmo), gS p e below (own_Fin s (own_Q0 n0) 32 256) (T89.setTop (mkF m 89 #[lv p1, sN, lv p2, sN, lv p3, sN, iv p4, iv vsm, iv vmo, rv ob, lv (((8 : Int64) * ((z1 + z1).toInt64)) + (0 : Int64)), sN, uN, uN, uN, uN, uN, uN, uN, uN, uN, uN] [(.long v89)])) := by
      intro T89 lo89 ce89 sl89 X89 N89 hce89 hsl89 v89 hv89
      refine sT (fun t k => XS.lstore X89.here hx rfl (hb hby at_89) rfl (l' := #[lv p1, sN, lv p2, sN, lv p3, sN, iv p4, iv vsm, iv vmo, rv ob, lv (((8 : Int64) * ((z1 + z1).toInt64)) + (0 : Int64)), sN, lv v89, sN, uN, uN, uN, uN, uN, uN, uN, uN]) rfl k) ?_
      show gM p e below _ T89 m 91 #[lv p1, sN, lv p2, sN, lv p3, sN, iv p4, iv vsm, iv vmo, rv ob, lv (((8 : Int64) * ((z1 + z1).toInt64)) + (0 : Int64)), sN, lv v89, sN, uN, uN, uN, uN, uN, uN, uN, uN] []
      refine sT (fun t k => XS.iconst X89.here hx rfl (hb hby at_91) k) ?_
      show gM p e below _ T89 m 92 #[lv p1, sN, lv p2, sN, lv p3, sN, iv p4, iv vsm, iv vmo, rv ob, lv (((8 : Int64) * ((z1 + z1).toInt64)) + (0 : Int64)), sN, lv v89, sN, uN, uN, uN, uN, uN, uN, uN, uN] [(.int 1)]
      refine sT (fun t k => XS.lloadN X89.here hx rfl (hb hby at_92) rfl k) ?_
      show gM p e below _ T89 m 93 #[lv p1, sN, lv p2, sN, lv p3, sN, iv p4, iv vsm, iv vmo, rv ob, lv (((8 : Int64) * ((z1 + z1).toInt64)) + (0 : Int64)), sN, lv v89, sN, uN, uN, uN, uN, uN, uN, uN, uN] [(.long p2), (.int 1)]
      refine sT (fun t k => XS.lloadN X89.here hx rfl (hb hby at_93) rfl k) ?_
      show gM p e below _ T89 m 94 #[lv p1, sN, lv p2, sN, lv p3, sN, iv p4, iv vsm, iv vmo, rv ob, lv (((8 : Int64) * ((z1 + z1).toInt64)) + (0 : Int64)), sN, lv v89, sN, uN, uN, uN, uN, uN, uN, uN, uN] [(.long p1), (.long p2), (.int 1)]
      refine sT (fun t k => XS.lcmp X89.here hx rfl (hb hby at_94) rfl k) ?_
      show gM p e below _ T89 m 95 #[lv p1, sN, lv p2, sN, lv p3, sN, iv p4, iv vsm, iv vmo, rv ob, lv (((8 : Int64) * ((z1 + z1).toInt64)) + (0 : Int64)), sN, lv v89, sN, uN, uN, uN, uN, uN, uN, uN, uN] [(.int (lcmpW p2 p1)), (.int 1)]
      refine sT (S' := T89.setTop (mkF m 103 #[lv p1, sN, lv p2, sN, lv p3, sN, iv p4, iv vsm, iv vmo, rv ob, lv (((8 : Int64) * ((z1 + z1).toInt64)) + (0 : Int64)), sN, lv v89, sN, uN, uN, uN, uN, uN, uN, uN, uN] [(.int (if p2 = p1 then (0 : Int32) else (1 : Int32))), (.int 1)])) (fun t k => ?_) ?_
      · show Steps p.tables e below (T89.setTop (mkF m 95 #[lv p1, sN, lv p2, sN, lv p3, sN, iv p4, iv vsm, iv vmo, rv ob, lv (((8 : Int64) * ((z1 + z1).toInt64)) + (0 : Int64)), sN, lv v89, sN, uN, uN, uN, uN, uN, uN, uN, uN] [(.int (lcmpW p2 p1)), (.int 1)])) _
        by_cases hc961 : p2 = p1
        · --
          refine XS.ifYes X89.here hx rfl (pc0 := 95) (pc' := 102) rfl (hb hby at_95) rfl ((if0 _ _).trans (teq ((lw_eq p2 p1).mpr hc961)).1) (by decide) (by decide) ?_
          show Steps p.tables e below (T89.setTop (mkF m 102 #[lv p1, sN, lv p2, sN, lv p3, sN, iv p4, iv vsm, iv vmo, rv ob, lv (((8 : Int64) * ((z1 + z1).toInt64)) + (0 : Int64)), sN, lv v89, sN, uN, uN, uN, uN, uN, uN, uN, uN] [(.int 1)])) _
          refine XS.iconst X89.here hx rfl (hb hby at_102) ?_
          show Steps p.tables e below (T89.setTop (mkF m 103 #[lv p1, sN, lv p2, sN, lv p3, sN, iv p4, iv vsm, iv vmo, rv ob, lv (((8 : Int64) * ((z1 + z1).toInt64)) + (0 : Int64)), sN, lv v89, sN, uN, uN, uN, uN, uN, uN, uN, uN] [(.int 0), (.int 1)])) _
          simp only [if_pos hc961] at k
          exact k
        · --
          refine XS.ifNo X89.here hx rfl (hb hby at_95) rfl ((if0 _ _).trans (feq (fun zq => hc961 ((lw_eq p2 p1).mp zq))).1) ?_
          show Steps p.tables e below (T89.setTop (mkF m 98 #[lv p1, sN, lv p2, sN, lv p3, sN, iv p4, iv vsm, iv vmo, rv ob, lv (((8 : Int64) * ((z1 + z1).toInt64)) + (0 : Int64)), sN, lv v89, sN, uN, uN, uN, uN, uN, uN, uN, uN] [(.int 1)])) _
          refine XS.iconst X89.here hx rfl (hb hby at_98) ?_
          show Steps p.tables e below (T89.setTop (mkF m 99 #[lv p1, sN, lv p2, sN, lv p3, sN, iv p4, iv vsm, iv vmo, rv ob, lv (((8 : Int64) * ((z1 + z1).toInt64)) + (0 : Int64)), sN, lv v89, sN, uN, uN, uN, uN, uN, uN, uN, uN] [(.int 1), (.int 1)])) _
          refine XS.goto X89.here hx rfl (pc0 := 99) (pc' := 103) rfl (hb hby at_99) (by decide) (by decide) ?_
          show Steps p.tables e below (T89.setTop (mkF m 103 #[lv p1, sN, lv p2, sN, lv p3, sN, iv p4, iv vsm, iv vmo, rv ob, lv (((8 : Int64) * ((z1 + z1).toInt64)) + (0 : Int64)), sN, lv v89, sN, uN, uN, uN, uN, uN, uN, uN, uN] [(.int 1), (.int 1)])) _
          simp only [if_neg hc961] at k
          exact k
      show gM p e below _ T89 m 103 #[lv p1, sN, lv p2, sN, lv p3, sN, iv p4, iv vsm, iv vmo, rv ob, lv (((8 : Int64) * ((z1 + z1).toInt64)) + (0 : Int64)), sN, lv v89, sN, uN, uN, uN, uN, uN, uN, uN, uN] [(.int (if p2 = p1 then (0 : Int32) else (1 : Int32))), (.int 1)]
      refine sT (fun t k => XS.iadd X89.here hx rfl (hb hby at_103) rfl k) ?_
      show gM p e below _ T89 m 104 #[lv p1, sN, lv p2, sN, lv p3, sN, iv p4, iv vsm, iv vmo, rv ob, lv (((8 : Int64) * ((z1 + z1).toInt64)) + (0 : Int64)), sN, lv v89, sN, uN, uN, uN, uN, uN, uN, uN, uN] [(.int ((1 : Int32) + (if p2 = p1 then (0 : Int32) else (1 : Int32))))]
      refine sT (fun t k => XS.lload X89.here hx rfl (hb hby at_104) rfl k) ?_
      show gM p e below _ T89 m 106 #[lv p1, sN, lv p2, sN, lv p3, sN, iv p4, iv vsm, iv vmo, rv ob, lv (((8 : Int64) * ((z1 + z1).toInt64)) + (0 : Int64)), sN, lv v89, sN, uN, uN, uN, uN, uN, uN, uN, uN] [(.long p3), (.int ((1 : Int32) + (if p2 = p1 then (0 : Int32) else (1 : Int32))))]
      refine sT (fun t k => XS.lloadN X89.here hx rfl (hb hby at_106) rfl k) ?_
      show gM p e below _ T89 m 107 #[lv p1, sN, lv p2, sN, lv p3, sN, iv p4, iv vsm, iv vmo, rv ob, lv (((8 : Int64) * ((z1 + z1).toInt64)) + (0 : Int64)), sN, lv v89, sN, uN, uN, uN, uN, uN, uN, uN, uN] [(.long p1), (.long p3), (.int ((1 : Int32) + (if p2 = p1 then (0 : Int32) else (1 : Int32))))]
      refine sT (fun t k => XS.lcmp X89.here hx rfl (hb hby at_107) rfl k) ?_
      show gM p e below _ T89 m 108 #[lv p1, sN, lv p2, sN, lv p3, sN, iv p4, iv vsm, iv vmo, rv ob, lv (((8 : Int64) * ((z1 + z1).toInt64)) + (0 : Int64)), sN, lv v89, sN, uN, uN, uN, uN, uN, uN, uN, uN] [(.int (lcmpW p3 p1)), (.int ((1 : Int32) + (if p2 = p1 then (0 : Int32) else (1 : Int32))))]
      refine sT (S' := T89.setTop (mkF m 123 #[lv p1, sN, lv p2, sN, lv p3, sN, iv p4, iv vsm, iv vmo, rv ob, lv (((8 : Int64) * ((z1 + z1).toInt64)) + (0 : Int64)), sN, lv v89, sN, uN, uN, uN, uN, uN, uN, uN, uN] [(.int (if p3 = p1 then (0 : Int32) else (if p3 = p2 then (0 : Int32) else (1 : Int32)))), (.int ((1 : Int32) + (if p2 = p1 then (0 : Int32) else (1 : Int32))))])) (fun t k => ?_) ?_
      · show Steps p.tables e below (T89.setTop (mkF m 108 #[lv p1, sN, lv p2, sN, lv p3, sN, iv p4, iv vsm, iv vmo, rv ob, lv (((8 : Int64) * ((z1 + z1).toInt64)) + (0 : Int64)), sN, lv v89, sN, uN, uN, uN, uN, uN, uN, uN, uN] [(.int (lcmpW p3 p1)), (.int ((1 : Int32) + (if p2 = p1 then (0 : Int32) else (1 : Int32))))])) _
        by_cases hc962 : p3 = p1
        · --
          refine XS.ifYes X89.here hx rfl (pc0 := 108) (pc' := 122) rfl (hb hby at_108) rfl ((if0 _ _).trans (teq ((lw_eq p3 p1).mpr hc962)).1) (by decide) (by decide) ?_
          show Steps p.tables e below (T89.setTop (mkF m 122 #[lv p1, sN, lv p2, sN, lv p3, sN, iv p4, iv vsm, iv vmo, rv ob, lv (((8 : Int64) * ((z1 + z1).toInt64)) + (0 : Int64)), sN, lv v89, sN, uN, uN, uN, uN, uN, uN, uN, uN] [(.int ((1 : Int32) + (if p2 = p1 then (0 : Int32) else (1 : Int32))))])) _
          refine XS.iconst X89.here hx rfl (hb hby at_122) ?_
          show Steps p.tables e below (T89.setTop (mkF m 123 #[lv p1, sN, lv p2, sN, lv p3, sN, iv p4, iv vsm, iv vmo, rv ob, lv (((8 : Int64) * ((z1 + z1).toInt64)) + (0 : Int64)), sN, lv v89, sN, uN, uN, uN, uN, uN, uN, uN, uN] [(.int 0), (.int ((1 : Int32) + (if p2 = p1 then (0 : Int32) else (1 : Int32))))])) _
          simp only [if_pos hc962] at k
          exact k
        · --
          refine XS.ifNo X89.here hx rfl (hb hby at_108) rfl ((if0 _ _).trans (feq (fun zq => hc962 ((lw_eq p3 p1).mp zq))).1) ?_
          show Steps p.tables e below (T89.setTop (mkF m 111 #[lv p1, sN, lv p2, sN, lv p3, sN, iv p4, iv vsm, iv vmo, rv ob, lv (((8 : Int64) * ((z1 + z1).toInt64)) + (0 : Int64)), sN, lv v89, sN, uN, uN, uN, uN, uN, uN, uN, uN] [(.int ((1 : Int32) + (if p2 = p1 then (0 : Int32) else (1 : Int32))))])) _
          refine XS.lload X89.here hx rfl (hb hby at_111) rfl ?_
          show Steps p.tables e below (T89.setTop (mkF m 113 #[lv p1, sN, lv p2, sN, lv p3, sN, iv p4, iv vsm, iv vmo, rv ob, lv (((8 : Int64) * ((z1 + z1).toInt64)) + (0 : Int64)), sN, lv v89, sN, uN, uN, uN, uN, uN, uN, uN, uN] [(.long p3), (.int ((1 : Int32) + (if p2 = p1 then (0 : Int32) else (1 : Int32))))])) _
          refine XS.lloadN X89.here hx rfl (hb hby at_113) rfl ?_
          show Steps p.tables e below (T89.setTop (mkF m 114 #[lv p1, sN, lv p2, sN, lv p3, sN, iv p4, iv vsm, iv vmo, rv ob, lv (((8 : Int64) * ((z1 + z1).toInt64)) + (0 : Int64)), sN, lv v89, sN, uN, uN, uN, uN, uN, uN, uN, uN] [(.long p2), (.long p3), (.int ((1 : Int32) + (if p2 = p1 then (0 : Int32) else (1 : Int32))))])) _
          refine XS.lcmp X89.here hx rfl (hb hby at_114) rfl ?_
          show Steps p.tables e below (T89.setTop (mkF m 115 #[lv p1, sN, lv p2, sN, lv p3, sN, iv p4, iv vsm, iv vmo, rv ob, lv (((8 : Int64) * ((z1 + z1).toInt64)) + (0 : Int64)), sN, lv v89, sN, uN, uN, uN, uN, uN, uN, uN, uN] [(.int (lcmpW p3 p2)), (.int ((1 : Int32) + (if p2 = p1 then (0 : Int32) else (1 : Int32))))])) _
          by_cases hc963 : p3 = p2
          · --
            refine XS.ifYes X89.here hx rfl (pc0 := 115) (pc' := 122) rfl (hb hby at_115) rfl ((if0 _ _).trans (teq ((lw_eq p3 p2).mpr hc963)).1) (by decide) (by decide) ?_
            show Steps p.tables e below (T89.setTop (mkF m 122 #[lv p1, sN, lv p2, sN, lv p3, sN, iv p4, iv vsm, iv vmo, rv ob, lv (((8 : Int64) * ((z1 + z1).toInt64)) + (0 : Int64)), sN, lv v89, sN, uN, uN, uN, uN, uN, uN, uN, uN] [(.int ((1 : Int32) + (if p2 = p1 then (0 : Int32) else (1 : Int32))))])) _
            refine XS.iconst X89.here hx rfl (hb hby at_122) ?_
            show Steps p.tables e below (T89.setTop (mkF m 123 #[lv p1, sN, lv p2, sN, lv p3, sN, iv p4, iv vsm, iv vmo, rv ob, lv (((8 : Int64) * ((z1 + z1).toInt64)) + (0 : Int64)), sN, lv v89, sN, uN, uN, uN, uN, uN, uN, uN, uN] [(.int 0), (.int ((1 : Int32) + (if p2 = p1 then (0 : Int32) else (1 : Int32))))])) _
            simp only [if_neg hc962, if_pos hc963] at k
            exact k
          · --
            refine XS.ifNo X89.here hx rfl (hb hby at_115) rfl ((if0 _ _).trans (feq (fun zq => hc963 ((lw_eq p3 p2).mp zq))).1) ?_
            show Steps p.tables e below (T89.setTop (mkF m 118 #[lv p1, sN, lv p2, sN, lv p3, sN, iv p4, iv vsm, iv vmo, rv ob, lv (((8 : Int64) * ((z1 + z1).toInt64)) + (0 : Int64)), sN, lv v89, sN, uN, uN, uN, uN, uN, uN, uN, uN] [(.int ((1 : Int32) + (if p2 = p1 then (0 : Int32) else (1 : Int32))))])) _
            refine XS.iconst X89.here hx rfl (hb hby at_118) ?_
            show Steps p.tables e below (T89.setTop (mkF m 119 #[lv p1, sN, lv p2, sN, lv p3, sN, iv p4, iv vsm, iv vmo, rv ob, lv (((8 : Int64) * ((z1 + z1).toInt64)) + (0 : Int64)), sN, lv v89, sN, uN, uN, uN, uN, uN, uN, uN, uN] [(.int 1), (.int ((1 : Int32) + (if p2 = p1 then (0 : Int32) else (1 : Int32))))])) _
            refine XS.goto X89.here hx rfl (pc0 := 119) (pc' := 123) rfl (hb hby at_119) (by decide) (by decide) ?_
            show Steps p.tables e below (T89.setTop (mkF m 123 #[lv p1, sN, lv p2, sN, lv p3, sN, iv p4, iv vsm, iv vmo, rv ob, lv (((8 : Int64) * ((z1 + z1).toInt64)) + (0 : Int64)), sN, lv v89, sN, uN, uN, uN, uN, uN, uN, uN, uN] [(.int 1), (.int ((1 : Int32) + (if p2 = p1 then (0 : Int32) else (1 : Int32))))])) _
            simp only [if_neg hc962, if_neg hc963] at k
            exact k
      show gM p e below _ T89 m 123 #[lv p1, sN, lv p2, sN, lv p3, sN, iv p4, iv vsm, iv vmo, rv ob, lv (((8 : Int64) * ((z1 + z1).toInt64)) + (0 : Int64)), sN, lv v89, sN, uN, uN, uN, uN, uN, uN, uN, uN] [(.int (if p3 = p1 then (0 : Int32) else (if p3 = p2 then (0 : Int32) else (1 : Int32)))), (.int ((1 : Int32) + (if p2 = p1 then (0 : Int32) else (1 : Int32))))]
      refine sT (fun t k => XS.iadd X89.here hx rfl (hb hby at_123) rfl k) ?_
      show gM p e below _ T89 m 124 #[lv p1, sN, lv p2, sN, lv p3, sN, iv p4, iv vsm, iv vmo, rv ob, lv (((8 : Int64) * ((z1 + z1).toInt64)) + (0 : Int64)), sN, lv v89, sN, uN, uN, uN, uN, uN, uN, uN, uN] [(.int (((1 : Int32) + (if p2 = p1 then (0 : Int32) else (1 : Int32))) + (if p3 = p1 then (0 : Int32) else (if p3 = p2 then (0 : Int32) else (1 : Int32)))))]
      refine sT (fun t k => XS.istore X89.here hx rfl (hb hby at_124) rfl (l' := #[lv p1, sN, lv p2, sN, lv p3, sN, iv p4, iv vsm, iv vmo, rv ob, lv (((8 : Int64) * ((z1 + z1).toInt64)) + (0 : Int64)), sN, lv v89, sN, iv (((1 : Int32) + (if p2 = p1 then (0 : Int32) else (1 : Int32))) + (if p3 = p1 then (0 : Int32) else (if p3 = p2 then (0 : Int32) else (1 : Int32)))), uN, uN, uN, uN, uN, uN, uN]) rfl k) ?_
      show gM p e below _ T89 m 126 #[lv p1, sN, lv p2, sN, lv p3, sN, iv p4, iv vsm, iv vmo, rv ob, lv (((8 : Int64) * ((z1 + z1).toInt64)) + (0 : Int64)), sN, lv v89, sN, iv (((1 : Int32) + (if p2 = p1 then (0 : Int32) else (1 : Int32))) + (if p3 = p1 then (0 : Int32) else (if p3 = p2 then (0 : Int32) else (1 : Int32)))), uN, uN, uN, uN, uN, uN, uN] []
      generalize hv_vn : (((1 : Int32) + (if p2 = p1 then (0 : Int32) else (1 : Int32))) + (if p3 = p1 then (0 : Int32) else (if p3 = p2 then (0 : Int32) else (1 : Int32)))) = vn
      refine sT (fun t k => XS.lloadN X89.here hx rfl (hb hby at_126) rfl k) ?_
      show gM p e below _ T89 m 127 #[lv p1, sN, lv p2, sN, lv p3, sN, iv p4, iv vsm, iv vmo, rv ob, lv (((8 : Int64) * ((z1 + z1).toInt64)) + (0 : Int64)), sN, lv v89, sN, iv vn, uN, uN, uN, uN, uN, uN, uN] [(.long p2)]
      refine sT (fun t k => XS.lloadN X89.here hx rfl (hb hby at_127) rfl k) ?_
      show gM p e below _ T89 m 128 #[lv p1, sN, lv p2, sN, lv p3, sN, iv p4, iv vsm, iv vmo, rv ob, lv (((8 : Int64) * ((z1 + z1).toInt64)) + (0 : Int64)), sN, lv v89, sN, iv vn, uN, uN, uN, uN, uN, uN, uN] [(.long p1), (.long p2)]
      refine sT (fun t k => XS.lcmp X89.here hx rfl (hb hby at_128) rfl k) ?_
      show gM p e below _ T89 m 129 #[lv p1, sN, lv p2, sN, lv p3, sN, iv p4, iv vsm, iv vmo, rv ob, lv (((8 : Int64) * ((z1 + z1).toInt64)) + (0 : Int64)), sN, lv v89, sN, iv vn, uN, uN, uN, uN, uN, uN, uN] [(.int (lcmpW p2 p1))]
      refine sT (S' := T89.setTop (mkF m 151 #[lv p1, sN, lv p2, sN, lv p3, sN, iv p4, iv vsm, iv vmo, rv ob, lv (((8 : Int64) * ((z1 + z1).toInt64)) + (0 : Int64)), sN, lv v89, sN, iv vn, uN, uN, uN, uN, uN, uN, uN] [(.int (if p2 < p1 then (1 : Int32) else (if p3 < p2 then (if p3 = p1 then (0 : Int32) else (1 : Int32)) else (0 : Int32))))])) (fun t k => ?_) ?_
      · show Steps p.tables e below (T89.setTop (mkF m 129 #[lv p1, sN, lv p2, sN, lv p3, sN, iv p4, iv vsm, iv vmo, rv ob, lv (((8 : Int64) * ((z1 + z1).toInt64)) + (0 : Int64)), sN, lv v89, sN, iv vn, uN, uN, uN, uN, uN, uN, uN] [(.int (lcmpW p2 p1))])) _
        by_cases hc964 : p2 < p1
        · --
          refine XS.ifYes X89.here hx rfl (pc0 := 129) (pc' := 146) rfl (hb hby at_129) rfl ((if0 _ _).trans (tlt ((lw_lt p2 p1).mpr hc964)).1) (by decide) (by decide) ?_
          show Steps p.tables e below (T89.setTop (mkF m 146 #[lv p1, sN, lv p2, sN, lv p3, sN, iv p4, iv vsm, iv vmo, rv ob, lv (((8 : Int64) * ((z1 + z1).toInt64)) + (0 : Int64)), sN, lv v89, sN, iv vn, uN, uN, uN, uN, uN, uN, uN] [])) _
          refine XS.iconst X89.here hx rfl (hb hby at_146) ?_
          show Steps p.tables e below (T89.setTop (mkF m 147 #[lv p1, sN, lv p2, sN, lv p3, sN, iv p4, iv vsm, iv vmo, rv ob, lv (((8 : Int64) * ((z1 + z1).toInt64)) + (0 : Int64)), sN, lv v89, sN, iv vn, uN, uN, uN, uN, uN, uN, uN] [(.int 1)])) _
          refine XS.goto X89.here hx rfl (pc0 := 147) (pc' := 151) rfl (hb hby at_147) (by decide) (by decide) ?_
          show Steps p.tables e below (T89.setTop (mkF m 151 #[lv p1, sN, lv p2, sN, lv p3, sN, iv p4, iv vsm, iv vmo, rv ob, lv (((8 : Int64) * ((z1 + z1).toInt64)) + (0 : Int64)), sN, lv v89, sN, iv vn, uN, uN, uN, uN, uN, uN, uN] [(.int 1)])) _
          simp only [if_pos hc964] at k
          exact k
        · --
          refine XS.ifNo X89.here hx rfl (hb hby at_129) rfl ((if0 _ _).trans (flt (fun zq => hc964 ((lw_lt p2 p1).mp zq))).1) ?_
          show Steps p.tables e below (T89.setTop (mkF m 132 #[lv p1, sN, lv p2, sN, lv p3, sN, iv p4, iv vsm, iv vmo, rv ob, lv (((8 : Int64) * ((z1 + z1).toInt64)) + (0 : Int64)), sN, lv v89, sN, iv vn, uN, uN, uN, uN, uN, uN, uN] [])) _
          refine XS.lload X89.here hx rfl (hb hby at_132) rfl ?_
          show Steps p.tables e below (T89.setTop (mkF m 134 #[lv p1, sN, lv p2, sN, lv p3, sN, iv p4, iv vsm, iv vmo, rv ob, lv (((8 : Int64) * ((z1 + z1).toInt64)) + (0 : Int64)), sN, lv v89, sN, iv vn, uN, uN, uN, uN, uN, uN, uN] [(.long p3)])) _
          refine XS.lloadN X89.here hx rfl (hb hby at_134) rfl ?_
          show Steps p.tables e below (T89.setTop (mkF m 135 #[lv p1, sN, lv p2, sN, lv p3, sN, iv p4, iv vsm, iv vmo, rv ob, lv (((8 : Int64) * ((z1 + z1).toInt64)) + (0 : Int64)), sN, lv v89, sN, iv vn, uN, uN, uN, uN, uN, uN, uN] [(.long p2), (.long p3)])) _
          refine XS.lcmp X89.here hx rfl (hb hby at_135) rfl ?_
          show Steps p.tables e below (T89.setTop (mkF m 136 #[lv p1, sN, lv p2, sN, lv p3, sN, iv p4, iv vsm, iv vmo, rv ob, lv (((8 : Int64) * ((z1 + z1).toInt64)) + (0 : Int64)), sN, lv v89, sN, iv vn, uN, uN, uN, uN, uN, uN, uN] [(.int (lcmpW p3 p2))])) _
          by_cases hc965 : p3 < p2
          · --
            refine XS.ifNo X89.here hx rfl (hb hby at_136) rfl ((if0 _ _).trans (tlt ((lw_lt p3 p2).mpr hc965)).2.1) ?_
            show Steps p.tables e below (T89.setTop (mkF m 139 #[lv p1, sN, lv p2, sN, lv p3, sN, iv p4, iv vsm, iv vmo, rv ob, lv (((8 : Int64) * ((z1 + z1).toInt64)) + (0 : Int64)), sN, lv v89, sN, iv vn, uN, uN, uN, uN, uN, uN, uN] [])) _
            refine XS.lload X89.here hx rfl (hb hby at_139) rfl ?_
            show Steps p.tables e below (T89.setTop (mkF m 141 #[lv p1, sN, lv p2, sN, lv p3, sN, iv p4, iv vsm, iv vmo, rv ob, lv (((8 : Int64) * ((z1 + z1).toInt64)) + (0 : Int64)), sN, lv v89, sN, iv vn, uN, uN, uN, uN, uN, uN, uN] [(.long p3)])) _
            refine XS.lloadN X89.here hx rfl (hb hby at_141) rfl ?_
            show Steps p.tables e below (T89.setTop (mkF m 142 #[lv p1, sN, lv p2, sN, lv p3, sN, iv p4, iv vsm, iv vmo, rv ob, lv (((8 : Int64) * ((z1 + z1).toInt64)) + (0 : Int64)), sN, lv v89, sN, iv vn, uN, uN, uN, uN, uN, uN, uN] [(.long p1), (.long p3)])) _
            refine XS.lcmp X89.here hx rfl (hb hby at_142) rfl ?_
            show Steps p.tables e below (T89.setTop (mkF m 143 #[lv p1, sN, lv p2, sN, lv p3, sN, iv p4, iv vsm, iv vmo, rv ob, lv (((8 : Int64) * ((z1 + z1).toInt64)) + (0 : Int64)), sN, lv v89, sN, iv vn, uN, uN, uN, uN, uN, uN, uN] [(.int (lcmpW p3 p1))])) _
            by_cases hc966 : p3 = p1
            · --
              refine XS.ifYes X89.here hx rfl (pc0 := 143) (pc' := 150) rfl (hb hby at_143) rfl ((if0 _ _).trans (teq ((lw_eq p3 p1).mpr hc966)).1) (by decide) (by decide) ?_
              show Steps p.tables e below (T89.setTop (mkF m 150 #[lv p1, sN, lv p2, sN, lv p3, sN, iv p4, iv vsm, iv vmo, rv ob, lv (((8 : Int64) * ((z1 + z1).toInt64)) + (0 : Int64)), sN, lv v89, sN, iv vn, uN, uN, uN, uN, uN, uN, uN] [])) _
              refine XS.iconst X89.here hx rfl (hb hby at_150) ?_
              show Steps p.tables e below (T89.setTop (mkF m 151 #[lv p1, sN, lv p2, sN, lv p3, sN, iv p4, iv vsm, iv vmo, rv ob, lv (((8 : Int64) * ((z1 + z1).toInt64)) + (0 : Int64)), sN, lv v89, sN, iv vn, uN, uN, uN, uN, uN, uN, uN] [(.int 0)])) _
              simp only [if_neg hc964, if_pos hc965, if_pos hc966] at k
              exact k
            · --
              refine XS.ifNo X89.here hx rfl (hb hby at_143) rfl ((if0 _ _).trans (feq (fun zq => hc966 ((lw_eq p3 p1).mp zq))).1) ?_
              show Steps p.tables e below (T89.setTop (mkF m 146 #[lv p1, sN, lv p2, sN, lv p3, sN, iv p4, iv vsm, iv vmo, rv ob, lv (((8 : Int64) * ((z1 + z1).toInt64)) + (0 : Int64)), sN, lv v89, sN, iv vn, uN, uN, uN, uN, uN, uN, uN] [])) _
              refine XS.iconst X89.here hx rfl (hb hby at_146) ?_
              show Steps p.tables e below (T89.setTop (mkF m 147 #[lv p1, sN, lv p2, sN, lv p3, sN, iv p4, iv vsm, iv vmo, rv ob, lv (((8 : Int64) * ((z1 + z1).toInt64)) + (0 : Int64)), sN, lv v89, sN, iv vn, uN, uN, uN, uN, uN, uN, uN] [(.int 1)])) _
              refine XS.goto X89.here hx rfl (pc0 := 147) (pc' := 151) rfl (hb hby at_147) (by decide) (by decide) ?_
              show Steps p.tables e below (T89.setTop (mkF m 151 #[lv p1, sN, lv p2, sN, lv p3, sN, iv p4, iv vsm, iv vmo, rv ob, lv (((8 : Int64) * ((z1 + z1).toInt64)) + (0 : Int64)), sN, lv v89, sN, iv vn, uN, uN, uN, uN, uN, uN, uN] [(.int 1)])) _
              simp only [if_neg hc964, if_pos hc965, if_neg hc966] at k
              exact k
          · --
            refine XS.ifYes X89.here hx rfl (pc0 := 136) (pc' := 150) rfl (hb hby at_136) rfl ((if0 _ _).trans (flt (fun zq => hc965 ((lw_lt p3 p2).mp zq))).2.1) (by decide) (by decide) ?_
            show Steps p.tables e below (T89.setTop (mkF m 150 #[lv p1, sN, lv p2, sN, lv p3, sN, iv p4, iv vsm, iv vmo, rv ob, lv (((8 : Int64) * ((z1 + z1).toInt64)) + (0 : Int64)), sN, lv v89, sN, iv vn, uN, uN, uN, uN, uN, uN, uN] [])) _
            refine XS.iconst X89.here hx rfl (hb hby at_150) ?_
            show Steps p.tables e below (T89.setTop (mkF m 151 #[lv p1, sN, lv p2, sN, lv p3, sN, iv p4, iv vsm, iv vmo, rv ob, lv (((8 : Int64) * ((z1 + z1).toInt64)) + (0 : Int64)), sN, lv v89, sN, iv vn, uN, uN, uN, uN, uN, uN, uN] [(.int 0)])) _
            simp only [if_neg hc964, if_neg hc965] at k
            exact k
      show gM p e below _ T89 m 151 #[lv p1, sN, lv p2, sN, lv p3, sN, iv p4, iv vsm, iv vmo, rv ob, lv (((8 : Int64) * ((z1 + z1).toInt64)) + (0 : Int64)), sN, lv v89, sN, iv vn, uN, uN, uN, uN, uN, uN, uN] [(.int (if p2 < p1 then (1 : Int32) else (if p3 < p2 then (if p3 = p1 then (0 : Int32) else (1 : Int32)) else (0 : Int32))))]
      refine sT (fun t k => XS.istore X89.here hx rfl (hb hby at_151) rfl (l' := #[lv p1, sN, lv p2, sN, lv p3, sN, iv p4, iv vsm, iv vmo, rv ob, lv (((8 : Int64) * ((z1 + z1).toInt64)) + (0 : Int64)), sN, lv v89, sN, iv vn, iv (if p2 < p1 then (1 : Int32) else (if p3 < p2 then (if p3 = p1 then (0 : Int32) else (1 : Int32)) else (0 : Int32))), uN, uN, uN, uN, uN, uN]) rfl k) ?_
      show gM p e below _ T89 m 153 #[lv p1, sN, lv p2, sN, lv p3, sN, iv p4, iv vsm, iv vmo, rv ob, lv (((8 : Int64) * ((z1 + z1).toInt64)) + (0 : Int64)), sN, lv v89, sN, iv vn, iv (if p2 < p1 then (1 : Int32) else (if p3 < p2 then (if p3 = p1 then (0 : Int32) else (1 : Int32)) else (0 : Int32))), uN, uN, uN, uN, uN, uN] []
      generalize hv_vt : (if p2 < p1 then (1 : Int32) else (if p3 < p2 then (if p3 = p1 then (0 : Int32) else (1 : Int32)) else (0 : Int32))) = vt
      refine sT (fun t k => XS.iload X89.here hx rfl (hb hby at_153) rfl k) ?_
      show gM p e below _ T89 m 155 #[lv p1, sN, lv p2, sN, lv p3, sN, iv p4, iv vsm, iv vmo, rv ob, lv (((8 : Int64) * ((z1 + z1).toInt64)) + (0 : Int64)), sN, lv v89, sN, iv vn, iv vt, uN, uN, uN, uN, uN, uN] [(.int vsm)]
      refine sT (S' := T89.setTop (mkF m 211 #[lv p1, sN, lv p2, sN, lv p3, sN, iv p4, iv vsm, iv vmo, rv ob, lv (((8 : Int64) * ((z1 + z1).toInt64)) + (0 : Int64)), sN, lv v89, sN, iv vn, iv vt, lv (if vsm = (0 : Int32) then (16 : Int64) else (if vn = (1 : Int32) then (1 : Int64) else (if vn = (2 : Int32) then (2 : Int64) else (if vmo = (3 : Int32) then (3 : Int64) else (4 : Int64))))), sN, uN, uN, uN, uN] [])) (fun t k => ?_) ?_
      · show Steps p.tables e below (T89.setTop (mkF m 155 #[lv p1, sN, lv p2, sN, lv p3, sN, iv p4, iv vsm, iv vmo, rv ob, lv (((8 : Int64) * ((z1 + z1).toInt64)) + (0 : Int64)), sN, lv v89, sN, iv vn, iv vt, uN, uN, uN, uN, uN, uN] [(.int vsm)])) _
        by_cases hc967 : vsm = (0 : Int32)
        · --
          refine XS.ifNo X89.here hx rfl (hb hby at_155) rfl ((if0 _ _).trans (teq hc967).2) ?_
          show Steps p.tables e below (T89.setTop (mkF m 158 #[lv p1, sN, lv p2, sN, lv p3, sN, iv p4, iv vsm, iv vmo, rv ob, lv (((8 : Int64) * ((z1 + z1).toInt64)) + (0 : Int64)), sN, lv v89, sN, iv vn, iv vt, uN, uN, uN, uN, uN, uN] [])) _
          refine X89.ldc2Long hx hown (mvT hZ w73) (g := (mkF m 158 #[lv p1, sN, lv p2, sN, lv p3, sN, iv p4, iv vsm, iv vmo, rv ob, lv (((8 : Int64) * ((z1 + z1).toInt64)) + (0 : Int64)), sN, lv v89, sN, iv vn, iv vt, uN, uN, uN, uN, uN, uN] [])) rfl (hb hby at_158) _ ?_
          show Steps p.tables e below (T89.setTop (mkF m 161 #[lv p1, sN, lv p2, sN, lv p3, sN, iv p4, iv vsm, iv vmo, rv ob, lv (((8 : Int64) * ((z1 + z1).toInt64)) + (0 : Int64)), sN, lv v89, sN, iv vn, iv vt, uN, uN, uN, uN, uN, uN] [(.long 16)])) _
          refine XS.lstore X89.here hx rfl (hb hby at_161) rfl (l' := #[lv p1, sN, lv p2, sN, lv p3, sN, iv p4, iv vsm, iv vmo, rv ob, lv (((8 : Int64) * ((z1 + z1).toInt64)) + (0 : Int64)), sN, lv v89, sN, iv vn, iv vt, lv 16, sN, uN, uN, uN, uN]) rfl ?_
          show Steps p.tables e below (T89.setTop (mkF m 163 #[lv p1, sN, lv p2, sN, lv p3, sN, iv p4, iv vsm, iv vmo, rv ob, lv (((8 : Int64) * ((z1 + z1).toInt64)) + (0 : Int64)), sN, lv v89, sN, iv vn, iv vt, lv 16, sN, uN, uN, uN, uN] [])) _
          refine XS.goto X89.here hx rfl (pc0 := 163) (pc' := 211) rfl (hb hby at_163) (by decide) (by decide) ?_
          show Steps p.tables e below (T89.setTop (mkF m 211 #[lv p1, sN, lv p2, sN, lv p3, sN, iv p4, iv vsm, iv vmo, rv ob, lv (((8 : Int64) * ((z1 + z1).toInt64)) + (0 : Int64)), sN, lv v89, sN, iv vn, iv vt, lv 16, sN, uN, uN, uN, uN] [])) _
          simp only [if_pos hc967] at k
          exact k
        · --
          refine XS.ifYes X89.here hx rfl (pc0 := 155) (pc' := 166) rfl (hb hby at_155) rfl ((if0 _ _).trans (feq hc967).2) (by decide) (by decide) ?_
          show Steps p.tables e below (T89.setTop (mkF m 166 #[lv p1, sN, lv p2, sN, lv p3, sN, iv p4, iv vsm, iv vmo, rv ob, lv (((8 : Int64) * ((z1 + z1).toInt64)) + (0 : Int64)), sN, lv v89, sN, iv vn, iv vt, uN, uN, uN, uN, uN, uN] [])) _
          refine XS.iload X89.here hx rfl (hb hby at_166) rfl ?_
          show Steps p.tables e below (T89.setTop (mkF m 168 #[lv p1, sN, lv p2, sN, lv p3, sN, iv p4, iv vsm, iv vmo, rv ob, lv (((8 : Int64) * ((z1 + z1).toInt64)) + (0 : Int64)), sN, lv v89, sN, iv vn, iv vt, uN, uN, uN, uN, uN, uN] [(.int vn)])) _
          refine XS.iconst X89.here hx rfl (hb hby at_168) ?_
          show Steps p.tables e below (T89.setTop (mkF m 169 #[lv p1, sN, lv p2, sN, lv p3, sN, iv p4, iv vsm, iv vmo, rv ob, lv (((8 : Int64) * ((z1 + z1).toInt64)) + (0 : Int64)), sN, lv v89, sN, iv vn, iv vt, uN, uN, uN, uN, uN, uN] [(.int 1), (.int vn)])) _
          by_cases hc968 : vn = (1 : Int32)
          · --
            refine XS.icmpNo X89.here hx rfl (hb hby at_169) rfl (teq hc968).2 ?_
            show Steps p.tables e below (T89.setTop (mkF m 172 #[lv p1, sN, lv p2, sN, lv p3, sN, iv p4, iv vsm, iv vmo, rv ob, lv (((8 : Int64) * ((z1 + z1).toInt64)) + (0 : Int64)), sN, lv v89, sN, iv vn, iv vt, uN, uN, uN, uN, uN, uN] [])) _
            refine XS.lconst X89.here hx rfl (hb hby at_172) ?_
            show Steps p.tables e below (T89.setTop (mkF m 173 #[lv p1, sN, lv p2, sN, lv p3, sN, iv p4, iv vsm, iv vmo, rv ob, lv (((8 : Int64) * ((z1 + z1).toInt64)) + (0 : Int64)), sN, lv v89, sN, iv vn, iv vt, uN, uN, uN, uN, uN, uN] [(.long 1)])) _
            refine XS.lstore X89.here hx rfl (hb hby at_173) rfl (l' := #[lv p1, sN, lv p2, sN, lv p3, sN, iv p4, iv vsm, iv vmo, rv ob, lv (((8 : Int64) * ((z1 + z1).toInt64)) + (0 : Int64)), sN, lv v89, sN, iv vn, iv vt, lv 1, sN, uN, uN, uN, uN]) rfl ?_
            show Steps p.tables e below (T89.setTop (mkF m 175 #[lv p1, sN, lv p2, sN, lv p3, sN, iv p4, iv vsm, iv vmo, rv ob, lv (((8 : Int64) * ((z1 + z1).toInt64)) + (0 : Int64)), sN, lv v89, sN, iv vn, iv vt, lv 1, sN, uN, uN, uN, uN] [])) _
            refine XS.goto X89.here hx rfl (pc0 := 175) (pc' := 211) rfl (hb hby at_175) (by decide) (by decide) ?_
            show Steps p.tables e below (T89.setTop (mkF m 211 #[lv p1, sN, lv p2, sN, lv p3, sN, iv p4, iv vsm, iv vmo, rv ob, lv (((8 : Int64) * ((z1 + z1).toInt64)) + (0 : Int64)), sN, lv v89, sN, iv vn, iv vt, lv 1, sN, uN, uN, uN, uN] [])) _
            simp only [if_neg hc967, if_pos hc968] at k
            exact k
          · --
            refine XS.icmpYes X89.here hx rfl (pc0 := 169) (pc' := 178) rfl (hb hby at_169) rfl (feq hc968).2 (by decide) (by decide) ?_
            show Steps p.tables e below (T89.setTop (mkF m 178 #[lv p1, sN, lv p2, sN, lv p3, sN, iv p4, iv vsm, iv vmo, rv ob, lv (((8 : Int64) * ((z1 + z1).toInt64)) + (0 : Int64)), sN, lv v89, sN, iv vn, iv vt, uN, uN, uN, uN, uN, uN] [])) _
            refine XS.iload X89.here hx rfl (hb hby at_178) rfl ?_
            show Steps p.tables e below (T89.setTop (mkF m 180 #[lv p1, sN, lv p2, sN, lv p3, sN, iv p4, iv vsm, iv vmo, rv ob, lv (((8 : Int64) * ((z1 + z1).toInt64)) + (0 : Int64)), sN, lv v89, sN, iv vn, iv vt, uN, uN, uN, uN, uN, uN] [(.int vn)])) _
            refine XS.iconst X89.here hx rfl (hb hby at_180) ?_
            show Steps p.tables e below (T89.setTop (mkF m 181 #[lv p1, sN, lv p2, sN, lv p3, sN, iv p4, iv vsm, iv vmo, rv ob, lv (((8 : Int64) * ((z1 + z1).toInt64)) + (0 : Int64)), sN, lv v89, sN, iv vn, iv vt, uN, uN, uN, uN, uN, uN] [(.int 2), (.int vn)])) _
            by_cases hc969 : vn = (2 : Int32)
            · --
              refine XS.icmpNo X89.here hx rfl (hb hby at_181) rfl (teq hc969).2 ?_
              show Steps p.tables e below (T89.setTop (mkF m 184 #[lv p1, sN, lv p2, sN, lv p3, sN, iv p4, iv vsm, iv vmo, rv ob, lv (((8 : Int64) * ((z1 + z1).toInt64)) + (0 : Int64)), sN, lv v89, sN, iv vn, iv vt, uN, uN, uN, uN, uN, uN] [])) _
              refine X89.ldc2Long hx hown (mvT hZ w50) (g := (mkF m 184 #[lv p1, sN, lv p2, sN, lv p3, sN, iv p4, iv vsm, iv vmo, rv ob, lv (((8 : Int64) * ((z1 + z1).toInt64)) + (0 : Int64)), sN, lv v89, sN, iv vn, iv vt, uN, uN, uN, uN, uN, uN] [])) rfl (hb hby at_184) _ ?_
              show Steps p.tables e below (T89.setTop (mkF m 187 #[lv p1, sN, lv p2, sN, lv p3, sN, iv p4, iv vsm, iv vmo, rv ob, lv (((8 : Int64) * ((z1 + z1).toInt64)) + (0 : Int64)), sN, lv v89, sN, iv vn, iv vt, uN, uN, uN, uN, uN, uN] [(.long 2)])) _
              refine XS.lstore X89.here hx rfl (hb hby at_187) rfl (l' := #[lv p1, sN, lv p2, sN, lv p3, sN, iv p4, iv vsm, iv vmo, rv ob, lv (((8 : Int64) * ((z1 + z1).toInt64)) + (0 : Int64)), sN, lv v89, sN, iv vn, iv vt, lv 2, sN, uN, uN, uN, uN]) rfl ?_
              show Steps p.tables e below (T89.setTop (mkF m 189 #[lv p1, sN, lv p2, sN, lv p3, sN, iv p4, iv vsm, iv vmo, rv ob, lv (((8 : Int64) * ((z1 + z1).toInt64)) + (0 : Int64)), sN, lv v89, sN, iv vn, iv vt, lv 2, sN, uN, uN, uN, uN] [])) _
              refine XS.goto X89.here hx rfl (pc0 := 189) (pc' := 211) rfl (hb hby at_189) (by decide) (by decide) ?_
              show Steps p.tables e below (T89.setTop (mkF m 211 #[lv p1, sN, lv p2, sN, lv p3, sN, iv p4, iv vsm, iv vmo, rv ob, lv (((8 : Int64) * ((z1 + z1).toInt64)) + (0 : Int64)), sN, lv v89, sN, iv vn, iv vt, lv 2, sN, uN, uN, uN, uN] [])) _
              simp only [if_neg hc967, if_neg hc968, if_pos hc969] at k
              exact k
            · --
              refine XS.icmpYes X89.here hx rfl (pc0 := 181) (pc' := 192) rfl (hb hby at_181) rfl (feq hc969).2 (by decide) (by decide) ?_
              show Steps p.tables e below (T89.setTop (mkF m 192 #[lv p1, sN, lv p2, sN, lv p3, sN, iv p4, iv vsm, iv vmo, rv ob, lv (((8 : Int64) * ((z1 + z1).toInt64)) + (0 : Int64)), sN, lv v89, sN, iv vn, iv vt, uN, uN, uN, uN, uN, uN] [])) _
              refine XS.iload X89.here hx rfl (hb hby at_192) rfl ?_
              show Steps p.tables e below (T89.setTop (mkF m 194 #[lv p1, sN, lv p2, sN, lv p3, sN, iv p4, iv vsm, iv vmo, rv ob, lv (((8 : Int64) * ((z1 + z1).toInt64)) + (0 : Int64)), sN, lv v89, sN, iv vn, iv vt, uN, uN, uN, uN, uN, uN] [(.int vmo)])) _
              refine XS.iconst X89.here hx rfl (hb hby at_194) ?_
              show Steps p.tables e below (T89.setTop (mkF m 195 #[lv p1, sN, lv p2, sN, lv p3, sN, iv p4, iv vsm, iv vmo, rv ob, lv (((8 : Int64) * ((z1 + z1).toInt64)) + (0 : Int64)), sN, lv v89, sN, iv vn, iv vt, uN, uN, uN, uN, uN, uN] [(.int 3), (.int vmo)])) _
              by_cases hc970 : vmo = (3 : Int32)
              · --
                refine XS.icmpNo X89.here hx rfl (hb hby at_195) rfl (teq hc970).2 ?_
                show Steps p.tables e below (T89.setTop (mkF m 198 #[lv p1, sN, lv p2, sN, lv p3, sN, iv p4, iv vsm, iv vmo, rv ob, lv (((8 : Int64) * ((z1 + z1).toInt64)) + (0 : Int64)), sN, lv v89, sN, iv vn, iv vt, uN, uN, uN, uN, uN, uN] [])) _
                refine X89.ldc2Long hx hown (mvT hZ w101) (g := (mkF m 198 #[lv p1, sN, lv p2, sN, lv p3, sN, iv p4, iv vsm, iv vmo, rv ob, lv (((8 : Int64) * ((z1 + z1).toInt64)) + (0 : Int64)), sN, lv v89, sN, iv vn, iv vt, uN, uN, uN, uN, uN, uN] [])) rfl (hb hby at_198) _ ?_
                show Steps p.tables e below (T89.setTop (mkF m 201 #[lv p1, sN, lv p2, sN, lv p3, sN, iv p4, iv vsm, iv vmo, rv ob, lv (((8 : Int64) * ((z1 + z1).toInt64)) + (0 : Int64)), sN, lv v89, sN, iv vn, iv vt, uN, uN, uN, uN, uN, uN] [(.long 3)])) _
                refine XS.lstore X89.here hx rfl (hb hby at_201) rfl (l' := #[lv p1, sN, lv p2, sN, lv p3, sN, iv p4, iv vsm, iv vmo, rv ob, lv (((8 : Int64) * ((z1 + z1).toInt64)) + (0 : Int64)), sN, lv v89, sN, iv vn, iv vt, lv 3, sN, uN, uN, uN, uN]) rfl ?_
                show Steps p.tables e below (T89.setTop (mkF m 203 #[lv p1, sN, lv p2, sN, lv p3, sN, iv p4, iv vsm, iv vmo, rv ob, lv (((8 : Int64) * ((z1 + z1).toInt64)) + (0 : Int64)), sN, lv v89, sN, iv vn, iv vt, lv 3, sN, uN, uN, uN, uN] [])) _
                refine XS.goto X89.here hx rfl (pc0 := 203) (pc' := 211) rfl (hb hby at_203) (by decide) (by decide) ?_
                show Steps p.tables e below (T89.setTop (mkF m 211 #[lv p1, sN, lv p2, sN, lv p3, sN, iv p4, iv vsm, iv vmo, rv ob, lv (((8 : Int64) * ((z1 + z1).toInt64)) + (0 : Int64)), sN, lv v89, sN, iv vn, iv vt, lv 3, sN, uN, uN, uN, uN] [])) _
                simp only [if_neg hc967, if_neg hc968, if_neg hc969, if_pos hc970] at k
                exact k
              · --
                refine XS.icmpYes X89.here hx rfl (pc0 := 195) (pc' := 206) rfl (hb hby at_195) rfl (feq hc970).2 (by decide) (by decide) ?_
                show Steps p.tables e below (T89.setTop (mkF m 206 #[lv p1, sN, lv p2, sN, lv p3, sN, iv p4, iv vsm, iv vmo, rv ob, lv (((8 : Int64) * ((z1 + z1).toInt64)) + (0 : Int64)), sN, lv v89, sN, iv vn, iv vt, uN, uN, uN, uN, uN, uN] [])) _
                refine X89.ldc2Long hx hown (mvT hZ w71) (g := (mkF m 206 #[lv p1, sN, lv p2, sN, lv p3, sN, iv p4, iv vsm, iv vmo, rv ob, lv (((8 : Int64) * ((z1 + z1).toInt64)) + (0 : Int64)), sN, lv v89, sN, iv vn, iv vt, uN, uN, uN, uN, uN, uN] [])) rfl (hb hby at_206) _ ?_
                show Steps p.tables e below (T89.setTop (mkF m 209 #[lv p1, sN, lv p2, sN, lv p3, sN, iv p4, iv vsm, iv vmo, rv ob, lv (((8 : Int64) * ((z1 + z1).toInt64)) + (0 : Int64)), sN, lv v89, sN, iv vn, iv vt, uN, uN, uN, uN, uN, uN] [(.long 4)])) _
                refine XS.lstore X89.here hx rfl (hb hby at_209) rfl (l' := #[lv p1, sN, lv p2, sN, lv p3, sN, iv p4, iv vsm, iv vmo, rv ob, lv (((8 : Int64) * ((z1 + z1).toInt64)) + (0 : Int64)), sN, lv v89, sN, iv vn, iv vt, lv 4, sN, uN, uN, uN, uN]) rfl ?_
                show Steps p.tables e below (T89.setTop (mkF m 211 #[lv p1, sN, lv p2, sN, lv p3, sN, iv p4, iv vsm, iv vmo, rv ob, lv (((8 : Int64) * ((z1 + z1).toInt64)) + (0 : Int64)), sN, lv v89, sN, iv vn, iv vt, lv 4, sN, uN, uN, uN, uN] [])) _
                simp only [if_neg hc967, if_neg hc968, if_neg hc969, if_neg hc970] at k
                exact k
      show gM p e below _ T89 m 211 #[lv p1, sN, lv p2, sN, lv p3, sN, iv p4, iv vsm, iv vmo, rv ob, lv (((8 : Int64) * ((z1 + z1).toInt64)) + (0 : Int64)), sN, lv v89, sN, iv vn, iv vt, lv (if vsm = (0 : Int32) then (16 : Int64) else (if vn = (1 : Int32) then (1 : Int64) else (if vn = (2 : Int32) then (2 : Int64) else (if vmo = (3 : Int32) then (3 : Int64) else (4 : Int64))))), sN, uN, uN, uN, uN] []
      generalize hv_vk : (if vsm = (0 : Int32) then (16 : Int64) else (if vn = (1 : Int32) then (1 : Int64) else (if vn = (2 : Int32) then (2 : Int64) else (if vmo = (3 : Int32) then (3 : Int64) else (4 : Int64))))) = vk
      show gM p e below _ T89 m 211 #[lv p1, sN, lv p2, sN, lv p3, sN, iv p4, iv vsm, iv vmo, rv ob, lv (((8 : Int64) * ((z1 + z1).toInt64)) + (0 : Int64)), sN, lv v89, sN, iv vn, iv vt, lv vk, sN, uN, uN, uN, uN] []
      refine sT (fun t k => X89.ldc2Long hx hown (mvT hZ w73) (g := (mkF m 211 #[lv p1, sN, lv p2, sN, lv p3, sN, iv p4, iv vsm, iv vmo, rv ob, lv (((8 : Int64) * ((z1 + z1).toInt64)) + (0 : Int64)), sN, lv v89, sN, iv vn, iv vt, lv vk, sN, uN, uN, uN, uN] [])) rfl (hb hby at_211) _ k) ?_
      show gM p e below _ T89 m 214 #[lv p1, sN, lv p2, sN, lv p3, sN, iv p4, iv vsm, iv vmo, rv ob, lv (((8 : Int64) * ((z1 + z1).toInt64)) + (0 : Int64)), sN, lv v89, sN, iv vn, iv vt, lv vk, sN, uN, uN, uN, uN] [(.long 16)]
      refine sT (fun t k => XS.lload X89.here hx rfl (hb hby at_214) rfl k) ?_
      show gM p e below _ T89 m 216 #[lv p1, sN, lv p2, sN, lv p3, sN, iv p4, iv vsm, iv vmo, rv ob, lv (((8 : Int64) * ((z1 + z1).toInt64)) + (0 : Int64)), sN, lv v89, sN, iv vn, iv vt, lv vk, sN, uN, uN, uN, uN] [(.long vk), (.long 16)]
      refine sT (fun t k => XS.lmul X89.here hx rfl (hb hby at_216) rfl k) ?_
      show gM p e below _ T89 m 217 #[lv p1, sN, lv p2, sN, lv p3, sN, iv p4, iv vsm, iv vmo, rv ob, lv (((8 : Int64) * ((z1 + z1).toInt64)) + (0 : Int64)), sN, lv v89, sN, iv vn, iv vt, lv vk, sN, uN, uN, uN, uN] [(.long ((16 : Int64) * vk))]
      refine sT (fun t k => XS.iload X89.here hx rfl (hb hby at_217) rfl k) ?_
      show gM p e below _ T89 m 219 #[lv p1, sN, lv p2, sN, lv p3, sN, iv p4, iv vsm, iv vmo, rv ob, lv (((8 : Int64) * ((z1 + z1).toInt64)) + (0 : Int64)), sN, lv v89, sN, iv vn, iv vt, lv vk, sN, uN, uN, uN, uN] [(.int vt), (.long ((16 : Int64) * vk))]
      refine sT (S' := T89.setTop (mkF m 229 #[lv p1, sN, lv p2, sN, lv p3, sN, iv p4, iv vsm, iv vmo, rv ob, lv (((8 : Int64) * ((z1 + z1).toInt64)) + (0 : Int64)), sN, lv v89, sN, iv vn, iv vt, lv vk, sN, uN, uN, uN, uN] [(.long (if vt = (0 : Int32) then (0 : Int64) else (128 : Int64))), (.long ((16 : Int64) * vk))])) (fun t k => ?_) ?_
      · show Steps p.tables e below (T89.setTop (mkF m 219 #[lv p1, sN, lv p2, sN, lv p3, sN, iv p4, iv vsm, iv vmo, rv ob, lv (((8 : Int64) * ((z1 + z1).toInt64)) + (0 : Int64)), sN, lv v89, sN, iv vn, iv vt, lv vk, sN, uN, uN, uN, uN] [(.int vt), (.long ((16 : Int64) * vk))])) _
        by_cases hc971 : vt = (0 : Int32)
        · --
          refine XS.ifYes X89.here hx rfl (pc0 := 219) (pc' := 228) rfl (hb hby at_219) rfl ((if0 _ _).trans (teq hc971).1) (by decide) (by decide) ?_
          show Steps p.tables e below (T89.setTop (mkF m 228 #[lv p1, sN, lv p2, sN, lv p3, sN, iv p4, iv vsm, iv vmo, rv ob, lv (((8 : Int64) * ((z1 + z1).toInt64)) + (0 : Int64)), sN, lv v89, sN, iv vn, iv vt, lv vk, sN, uN, uN, uN, uN] [(.long ((16 : Int64) * vk))])) _
          refine XS.lconst X89.here hx rfl (hb hby at_228) ?_
          show Steps p.tables e below (T89.setTop (mkF m 229 #[lv p1, sN, lv p2, sN, lv p3, sN, iv p4, iv vsm, iv vmo, rv ob, lv (((8 : Int64) * ((z1 + z1).toInt64)) + (0 : Int64)), sN, lv v89, sN, iv vn, iv vt, lv vk, sN, uN, uN, uN, uN] [(.long 0), (.long ((16 : Int64) * vk))])) _
          simp only [if_pos hc971] at k
          exact k
        · --
          refine XS.ifNo X89.here hx rfl (hb hby at_219) rfl ((if0 _ _).trans (feq hc971).1) ?_
          show Steps p.tables e below (T89.setTop (mkF m 222 #[lv p1, sN, lv p2, sN, lv p3, sN, iv p4, iv vsm, iv vmo, rv ob, lv (((8 : Int64) * ((z1 + z1).toInt64)) + (0 : Int64)), sN, lv v89, sN, iv vn, iv vt, lv vk, sN, uN, uN, uN, uN] [(.long ((16 : Int64) * vk))])) _
          refine X89.ldc2Long hx hown (mvT hZ w74) (g := (mkF m 222 #[lv p1, sN, lv p2, sN, lv p3, sN, iv p4, iv vsm, iv vmo, rv ob, lv (((8 : Int64) * ((z1 + z1).toInt64)) + (0 : Int64)), sN, lv v89, sN, iv vn, iv vt, lv vk, sN, uN, uN, uN, uN] [(.long ((16 : Int64) * vk))])) rfl (hb hby at_222) _ ?_
          show Steps p.tables e below (T89.setTop (mkF m 225 #[lv p1, sN, lv p2, sN, lv p3, sN, iv p4, iv vsm, iv vmo, rv ob, lv (((8 : Int64) * ((z1 + z1).toInt64)) + (0 : Int64)), sN, lv v89, sN, iv vn, iv vt, lv vk, sN, uN, uN, uN, uN] [(.long 128), (.long ((16 : Int64) * vk))])) _
          refine XS.goto X89.here hx rfl (pc0 := 225) (pc' := 229) rfl (hb hby at_225) (by decide) (by decide) ?_
          show Steps p.tables e below (T89.setTop (mkF m 229 #[lv p1, sN, lv p2, sN, lv p3, sN, iv p4, iv vsm, iv vmo, rv ob, lv (((8 : Int64) * ((z1 + z1).toInt64)) + (0 : Int64)), sN, lv v89, sN, iv vn, iv vt, lv vk, sN, uN, uN, uN, uN] [(.long 128), (.long ((16 : Int64) * vk))])) _
          simp only [if_neg hc971] at k
          exact k
      show gM p e below _ T89 m 229 #[lv p1, sN, lv p2, sN, lv p3, sN, iv p4, iv vsm, iv vmo, rv ob, lv (((8 : Int64) * ((z1 + z1).toInt64)) + (0 : Int64)), sN, lv v89, sN, iv vn, iv vt, lv vk, sN, uN, uN, uN, uN] [(.long (if vt = (0 : Int32) then (0 : Int64) else (128 : Int64))), (.long ((16 : Int64) * vk))]
      refine sT (fun t k => XS.ladd X89.here hx rfl (hb hby at_229) rfl k) ?_
      show gM p e below _ T89 m 230 #[lv p1, sN, lv p2, sN, lv p3, sN, iv p4, iv vsm, iv vmo, rv ob, lv (((8 : Int64) * ((z1 + z1).toInt64)) + (0 : Int64)), sN, lv v89, sN, iv vn, iv vt, lv vk, sN, uN, uN, uN, uN] [(.long (((16 : Int64) * vk) + (if vt = (0 : Int32) then (0 : Int64) else (128 : Int64))))]
      refine sT (fun t k => XS.lstore X89.here hx rfl (hb hby at_230) rfl (l' := #[lv p1, sN, lv p2, sN, lv p3, sN, iv p4, iv vsm, iv vmo, rv ob, lv (((8 : Int64) * ((z1 + z1).toInt64)) + (0 : Int64)), sN, lv v89, sN, iv vn, iv vt, lv vk, sN, lv (((16 : Int64) * vk) + (if vt = (0 : Int32) then (0 : Int64) else (128 : Int64))), sN, uN, uN]) rfl k) ?_
      show gM p e below _ T89 m 232 #[lv p1, sN, lv p2, sN, lv p3, sN, iv p4, iv vsm, iv vmo, rv ob, lv (((8 : Int64) * ((z1 + z1).toInt64)) + (0 : Int64)), sN, lv v89, sN, iv vn, iv vt, lv vk, sN, lv (((16 : Int64) * vk) + (if vt = (0 : Int32) then (0 : Int64) else (128 : Int64))), sN, uN, uN] []
      generalize hv_vx : (((16 : Int64) * vk) + (if vt = (0 : Int32) then (0 : Int64) else (128 : Int64))) = vx
      refine sT (fun t k => XS.iload X89.here hx rfl (hb hby at_232) rfl k) ?_
      show gM p e below _ T89 m 234 #[lv p1, sN, lv p2, sN, lv p3, sN, iv p4, iv vsm, iv vmo, rv ob, lv (((8 : Int64) * ((z1 + z1).toInt64)) + (0 : Int64)), sN, lv v89, sN, iv vn, iv vt, lv vk, sN, lv vx, sN, uN, uN] [(.int vsm)]
      refine sT (S' := T89.setTop (mkF m 246 #[lv p1, sN, lv p2, sN, lv p3, sN, iv p4, iv vsm, iv vmo, rv ob, lv (((8 : Int64) * ((z1 + z1).toInt64)) + (0 : Int64)), sN, lv v89, sN, iv vn, iv vt, lv vk, sN, lv vx, sN, uN, uN] [(.long (if vsm = (0 : Int32) then (256 : Int64) else (16 : Int64)))])) (fun t k => ?_) ?_
      · show Steps p.tables e below (T89.setTop (mkF m 234 #[lv p1, sN, lv p2, sN, lv p3, sN, iv p4, iv vsm, iv vmo, rv ob, lv (((8 : Int64) * ((z1 + z1).toInt64)) + (0 : Int64)), sN, lv v89, sN, iv vn, iv vt, lv vk, sN, lv vx, sN, uN, uN] [(.int vsm)])) _
        by_cases hc972 : vsm = (0 : Int32)
        · --
          refine XS.ifYes X89.here hx rfl (pc0 := 234) (pc' := 243) rfl (hb hby at_234) rfl ((if0 _ _).trans (teq hc972).1) (by decide) (by decide) ?_
          show Steps p.tables e below (T89.setTop (mkF m 243 #[lv p1, sN, lv p2, sN, lv p3, sN, iv p4, iv vsm, iv vmo, rv ob, lv (((8 : Int64) * ((z1 + z1).toInt64)) + (0 : Int64)), sN, lv v89, sN, iv vn, iv vt, lv vk, sN, lv vx, sN, uN, uN] [])) _
          refine X89.ldc2Long hx hown (mvT hZ w75) (g := (mkF m 243 #[lv p1, sN, lv p2, sN, lv p3, sN, iv p4, iv vsm, iv vmo, rv ob, lv (((8 : Int64) * ((z1 + z1).toInt64)) + (0 : Int64)), sN, lv v89, sN, iv vn, iv vt, lv vk, sN, lv vx, sN, uN, uN] [])) rfl (hb hby at_243) _ ?_
          show Steps p.tables e below (T89.setTop (mkF m 246 #[lv p1, sN, lv p2, sN, lv p3, sN, iv p4, iv vsm, iv vmo, rv ob, lv (((8 : Int64) * ((z1 + z1).toInt64)) + (0 : Int64)), sN, lv v89, sN, iv vn, iv vt, lv vk, sN, lv vx, sN, uN, uN] [(.long 256)])) _
          simp only [if_pos hc972] at k
          exact k
        · --
          refine XS.ifNo X89.here hx rfl (hb hby at_234) rfl ((if0 _ _).trans (feq hc972).1) ?_
          show Steps p.tables e below (T89.setTop (mkF m 237 #[lv p1, sN, lv p2, sN, lv p3, sN, iv p4, iv vsm, iv vmo, rv ob, lv (((8 : Int64) * ((z1 + z1).toInt64)) + (0 : Int64)), sN, lv v89, sN, iv vn, iv vt, lv vk, sN, lv vx, sN, uN, uN] [])) _
          refine X89.ldc2Long hx hown (mvT hZ w73) (g := (mkF m 237 #[lv p1, sN, lv p2, sN, lv p3, sN, iv p4, iv vsm, iv vmo, rv ob, lv (((8 : Int64) * ((z1 + z1).toInt64)) + (0 : Int64)), sN, lv v89, sN, iv vn, iv vt, lv vk, sN, lv vx, sN, uN, uN] [])) rfl (hb hby at_237) _ ?_
          show Steps p.tables e below (T89.setTop (mkF m 240 #[lv p1, sN, lv p2, sN, lv p3, sN, iv p4, iv vsm, iv vmo, rv ob, lv (((8 : Int64) * ((z1 + z1).toInt64)) + (0 : Int64)), sN, lv v89, sN, iv vn, iv vt, lv vk, sN, lv vx, sN, uN, uN] [(.long 16)])) _
          refine XS.goto X89.here hx rfl (pc0 := 240) (pc' := 246) rfl (hb hby at_240) (by decide) (by decide) ?_
          show Steps p.tables e below (T89.setTop (mkF m 246 #[lv p1, sN, lv p2, sN, lv p3, sN, iv p4, iv vsm, iv vmo, rv ob, lv (((8 : Int64) * ((z1 + z1).toInt64)) + (0 : Int64)), sN, lv v89, sN, iv vn, iv vt, lv vk, sN, lv vx, sN, uN, uN] [(.long 16)])) _
          simp only [if_neg hc972] at k
          exact k
      show gM p e below _ T89 m 246 #[lv p1, sN, lv p2, sN, lv p3, sN, iv p4, iv vsm, iv vmo, rv ob, lv (((8 : Int64) * ((z1 + z1).toInt64)) + (0 : Int64)), sN, lv v89, sN, iv vn, iv vt, lv vk, sN, lv vx, sN, uN, uN] [(.long (if vsm = (0 : Int32) then (256 : Int64) else (16 : Int64)))]
      refine sT (fun t k => XS.lstore X89.here hx rfl (hb hby at_246) rfl (l' := #[lv p1, sN, lv p2, sN, lv p3, sN, iv p4, iv vsm, iv vmo, rv ob, lv (((8 : Int64) * ((z1 + z1).toInt64)) + (0 : Int64)), sN, lv v89, sN, iv vn, iv vt, lv vk, sN, lv vx, sN, lv (if vsm = (0 : Int32) then (256 : Int64) else (16 : Int64)), sN]) rfl k) ?_
      show gM p e below _ T89 m 248 #[lv p1, sN, lv p2, sN, lv p3, sN, iv p4, iv vsm, iv vmo, rv ob, lv (((8 : Int64) * ((z1 + z1).toInt64)) + (0 : Int64)), sN, lv v89, sN, iv vn, iv vt, lv vk, sN, lv vx, sN, lv (if vsm = (0 : Int32) then (256 : Int64) else (16 : Int64)), sN] []
      refine sT (fun t k => XS.lload X89.here hx rfl (hb hby at_248) rfl k) ?_
      show gM p e below _ T89 m 250 #[lv p1, sN, lv p2, sN, lv p3, sN, iv p4, iv vsm, iv vmo, rv ob, lv (((8 : Int64) * ((z1 + z1).toInt64)) + (0 : Int64)), sN, lv v89, sN, iv vn, iv vt, lv vk, sN, lv vx, sN, lv (if vsm = (0 : Int32) then (256 : Int64) else (16 : Int64)), sN] [(.long (((8 : Int64) * ((z1 + z1).toInt64)) + (0 : Int64)))]
      refine sT (fun t k => XS.lload X89.here hx rfl (hb hby at_250) rfl k) ?_
      show gM p e below _ T89 m 252 #[lv p1, sN, lv p2, sN, lv p3, sN, iv p4, iv vsm, iv vmo, rv ob, lv (((8 : Int64) * ((z1 + z1).toInt64)) + (0 : Int64)), sN, lv v89, sN, iv vn, iv vt, lv vk, sN, lv vx, sN, lv (if vsm = (0 : Int32) then (256 : Int64) else (16 : Int64)), sN] [(.long (if vsm = (0 : Int32) then (256 : Int64) else (16 : Int64))), (.long (((8 : Int64) * ((z1 + z1).toInt64)) + (0 : Int64)))]
      refine sT (fun t k => XS.lcmp X89.here hx rfl (hb hby at_252) rfl k) ?_
      show gM p e below _ T89 m 253 #[lv p1, sN, lv p2, sN, lv p3, sN, iv p4, iv vsm, iv vmo, rv ob, lv (((8 : Int64) * ((z1 + z1).toInt64)) + (0 : Int64)), sN, lv v89, sN, iv vn, iv vt, lv vk, sN, lv vx, sN, lv (if vsm = (0 : Int32) then (256 : Int64) else (16 : Int64)), sN] [(.int (lcmpW (((8 : Int64) * ((z1 + z1).toInt64)) + (0 : Int64)) (if vsm = (0 : Int32) then (256 : Int64) else (16 : Int64))))]
      have hc973 : (((8 : Int64) * ((z1 + z1).toInt64)) + (0 : Int64)) = (if vsm = (0 : Int32) then (256 : Int64) else (16 : Int64)) := own_bef hzc
      refine sT (fun t k => XS.ifNo X89.here hx rfl (hb hby at_253) rfl ((if0 _ _).trans (teq ((lw_eq (((8 : Int64) * ((z1 + z1).toInt64)) + (0 : Int64)) (if vsm = (0 : Int32) then (256 : Int64) else (16 : Int64))).mpr hc973)).2) k) ?_
      show gM p e below _ T89 m 256 #[lv p1, sN, lv p2, sN, lv p3, sN, iv p4, iv vsm, iv vmo, rv ob, lv (((8 : Int64) * ((z1 + z1).toInt64)) + (0 : Int64)), sN, lv v89, sN, iv vn, iv vt, lv vk, sN, lv vx, sN, lv (if vsm = (0 : Int32) then (256 : Int64) else (16 : Int64)), sN] []
      refine sT (fun t k => XS.lload X89.here hx rfl (hb hby at_256) rfl k) ?_
      show gM p e below _ T89 m 258 #[lv p1, sN, lv p2, sN, lv p3, sN, iv p4, iv vsm, iv vmo, rv ob, lv (((8 : Int64) * ((z1 + z1).toInt64)) + (0 : Int64)), sN, lv v89, sN, iv vn, iv vt, lv vk, sN, lv vx, sN, lv (if vsm = (0 : Int32) then (256 : Int64) else (16 : Int64)), sN] [(.long v89)]
      refine sT (fun t k => XS.lload X89.here hx rfl (hb hby at_258) rfl k) ?_
      show gM p e below _ T89 m 260 #[lv p1, sN, lv p2, sN, lv p3, sN, iv p4, iv vsm, iv vmo, rv ob, lv (((8 : Int64) * ((z1 + z1).toInt64)) + (0 : Int64)), sN, lv v89, sN, iv vn, iv vt, lv vk, sN, lv vx, sN, lv (if vsm = (0 : Int32) then (256 : Int64) else (16 : Int64)), sN] [(.long vx), (.long v89)]
      refine sT (fun t k => XS.lcmp X89.here hx rfl (hb hby at_260) rfl k) ?_
      show gM p e below _ T89 m 261 #[lv p1, sN, lv p2, sN, lv p3, sN, iv p4, iv vsm, iv vmo, rv ob, lv (((8 : Int64) * ((z1 + z1).toInt64)) + (0 : Int64)), sN, lv v89, sN, iv vn, iv vt, lv vk, sN, lv vx, sN, lv (if vsm = (0 : Int32) then (256 : Int64) else (16 : Int64)), sN] [(.int (lcmpW v89 vx))]
      have hc974 : v89 = vx := (by rw [hv89]; subst hv_vx hv_vk hv_vt hv_vn; rfl)
      refine sT (fun t k => XS.ifNo X89.here hx rfl (hb hby at_261) rfl ((if0 _ _).trans (teq ((lw_eq v89 vx).mpr hc974)).2) k) ?_
      show gM p e below _ T89 m 264 #[lv p1, sN, lv p2, sN, lv p3, sN, iv p4, iv vsm, iv vmo, rv ob, lv (((8 : Int64) * ((z1 + z1).toInt64)) + (0 : Int64)), sN, lv v89, sN, iv vn, iv vt, lv vk, sN, lv vx, sN, lv (if vsm = (0 : Int32) then (256 : Int64) else (16 : Int64)), sN] []
      refine sT (fun t k => XS.iconst X89.here hx rfl (hb hby at_264) k) ?_
      show gM p e below _ T89 m 265 #[lv p1, sN, lv p2, sN, lv p3, sN, iv p4, iv vsm, iv vmo, rv ob, lv (((8 : Int64) * ((z1 + z1).toInt64)) + (0 : Int64)), sN, lv v89, sN, iv vn, iv vt, lv vk, sN, lv vx, sN, lv (if vsm = (0 : Int32) then (256 : Int64) else (16 : Int64)), sN] [(.int 1)]
      refine sT (fun t k => XS.goto X89.here hx rfl (pc0 := 265) (pc' := 269) rfl (hb hby at_265) (by decide) (by decide) k) ?_
      show gM p e below _ T89 m 269 #[lv p1, sN, lv p2, sN, lv p3, sN, iv p4, iv vsm, iv vmo, rv ob, lv (((8 : Int64) * ((z1 + z1).toInt64)) + (0 : Int64)), sN, lv v89, sN, iv vn, iv vt, lv vk, sN, lv vx, sN, lv (if vsm = (0 : Int32) then (256 : Int64) else (16 : Int64)), sN] [(.int 1)]
      refine own_retL X89 hx hlk Bd.returns (hb hby at_269) (?_ : (1 : Int32) = 1) N89 (by omega) (by omega)
      exact rfl
    refine sT (fun t k => XS.aload X960.here hx rfl (hb hby at_55) rfl rfl k) ?_
    show gM p e below _ T960 m 57 #[lv p1, sN, lv p2, sN, lv p3, sN, iv p4, iv vsm, iv vmo, rv ob, lv (((8 : Int64) * ((z1 + z1).toInt64)) + (0 : Int64)), sN, uN, uN, uN, uN, uN, uN, uN, uN, uN, uN] [(.ref ob)]
    refine sT (fun t k => XS.lloadN X960.here hx rfl (hb hby at_57) rfl k) ?_
    show gM p e below _ T960 m 58 #[lv p1, sN, lv p2, sN, lv p3, sN, iv p4, iv vsm, iv vmo, rv ob, lv (((8 : Int64) * ((z1 + z1).toInt64)) + (0 : Int64)), sN, uN, uN, uN, uN, uN, uN, uN, uN, uN, uN] [(.long p1), (.ref ob)]
    refine sT (fun t k => XS.lconst X960.here hx rfl (hb hby at_58) k) ?_
    show gM p e below _ T960 m 59 #[lv p1, sN, lv p2, sN, lv p3, sN, iv p4, iv vsm, iv vmo, rv ob, lv (((8 : Int64) * ((z1 + z1).toInt64)) + (0 : Int64)), sN, uN, uN, uN, uN, uN, uN, uN, uN, uN, uN] [(.long 1), (.long p1), (.ref ob)]
    obtain ⟨cq975, kq975, q975a, q975b, q975c⟩ := isOf hZ eh960 f958_0
    obtain ⟨_, _, ⟨T975, L975, k975, n975⟩, -, X975, ⟨Lc975, hQ975, l975, y975, z975⟩, st975⟩ := X960.virtualBack hx (y := (⟨oS, "add", "(JJ)Z"⟩ : MethodName)) (z := (⟨oS, "add", "(JJ)Z"⟩ : MethodName)) hown (mvT hZ w37) (mvT hZ w38) (notFace_of_selects (args := #[]) (mvT hZ w40)) (mvT hZ w40) (mvT hZ w39) (by decide) (backOf (W := 0) (own_a0 l Z a0 hw [] ob p1 (1 : Int64) (bb) (cc) (kb) (kc) (z1) (xs1) (ys1) (vmo) T958.heap n0 (Nat.le_trans (Nat.le_trans Z0 K41.1) K958c.1) f958_0 g_ob f958_4 f958_1 f958_2 f958_3 (V_bb.keep K958c (ninS (Ne.symm ne_ob_bb) nin0)) (V_cc.keep K958c (ninS (Ne.symm ne_ob_cc) nin0)) g_bb g_cc ne_ob_bb ne_ob_cc ne_bb_cc (own_ge0 hzc) hxl hyl f958_5 f958_6) hZ w41 w2 (by decide) (by decide)) q975a q975c (g := (mkF m 59 #[lv p1, sN, lv p2, sN, lv p3, sN, iv p4, iv vsm, iv vmo, rv ob, lv (((8 : Int64) * ((z1 + z1).toInt64)) + (0 : Int64)), sN, uN, uN, uN, uN, uN, uN, uN, uN, uN, uN] [(.long 1), (.long p1), (.ref ob)])) rfl (by rw [hml]; rfl) (Steps.refl _) (argsL := [(.long p1), (.long 1)]) (rest := []) (lenOf own_pd10 rfl) rfl (by show 2 * 0 + _ ≤ _; exact Nat.le_of_eq rfl) (hb hby at_59) (fun _ _ => ⟨rfl, eh960, (Nat.le_trans (m := 32) (by dsimp only [Pt.cells, Pt.slots]; omega) (by decide)), (Nat.le_trans (m := 256) (by dsimp only [Pt.cells, Pt.slots]; omega) (by decide))⟩)
    dsimp only [Pt.U, Pt.locs, Pt.cells, Pt.slots] at X975 l975 y975 z975 st975 hQ975
    subst y975 z975
    obtain ⟨b2_975, c2_975, k2_975, k3_975, z2_975, xs2_975, ys2_975, rfl, N975q, K975c, f975_0, f975_1, f975_2, f975_3, f975_4, f975_5, f975_6, f975_7, f975_8, f975_9, f975_10, f975_11, f975_12, f975_13, f975_14, f975_15, f975_16, f975_17⟩ := hQ975
    have N975 : Fr n0 L975 := by rw [l975]; exact Fr.app N960 N975q
    refine own_jump st975 ?_
    have K976 : Keep h0 T975.heap [] := K959.trans K975c (allS (Or.inr sz_ob) (allS (Or.inr sz_bb) (allS (Or.inr sz_cc) all0)))
    show gM p e below _ T975 m 62 #[lv p1, sN, lv p2, sN, lv p3, sN, iv p4, iv vsm, iv vmo, rv ob, lv (((8 : Int64) * ((z1 + z1).toInt64)) + (0 : Int64)), sN, uN, uN, uN, uN, uN, uN, uN, uN, uN, uN] [(.int 1)]
    have sz_b2_975 : h0.size ≤ b2_975 := f975_0.elim (Nat.le_trans K959.1) (fun e => e ▸ sz_bb)
    have g_b2_975 : n0 ≤ b2_975 := Nat.le_trans Z0 sz_b2_975
    have sz_c2_975 : h0.size ≤ c2_975 := f975_1.elim (Nat.le_trans K959.1) (fun e => e ▸ sz_cc)
    have g_c2_975 : n0 ≤ c2_975 := Nat.le_trans Z0 sz_c2_975
    refine sT (fun t k => XS.pop X975.here hx rfl (hb hby at_62) rfl rfl k) ?_
    show gM p e below _ T975 m 63 #[lv p1, sN, lv p2, sN, lv p3, sN, iv p4, iv vsm, iv vmo, rv ob, lv (((8 : Int64) * ((z1 + z1).toInt64)) + (0 : Int64)), sN, uN, uN, uN, uN, uN, uN, uN, uN, uN, uN] []
    rcases own_tri p1 p2 with hA | hA | hA
    · --
      refine sT (fun t k => XS.aload X975.here hx rfl (hb hby at_63) rfl rfl k) ?_
      show gM p e below _ T975 m 65 #[lv p1, sN, lv p2, sN, lv p3, sN, iv p4, iv vsm, iv vmo, rv ob, lv (((8 : Int64) * ((z1 + z1).toInt64)) + (0 : Int64)), sN, uN, uN, uN, uN, uN, uN, uN, uN, uN, uN] [(.ref ob)]
      refine sT (fun t k => XS.lloadN X975.here hx rfl (hb hby at_65) rfl k) ?_
      show gM p e below _ T975 m 66 #[lv p1, sN, lv p2, sN, lv p3, sN, iv p4, iv vsm, iv vmo, rv ob, lv (((8 : Int64) * ((z1 + z1).toInt64)) + (0 : Int64)), sN, uN, uN, uN, uN, uN, uN, uN, uN, uN, uN] [(.long p2), (.ref ob)]
      refine sT (fun t k => X975.ldc2Long hx hown (mvT hZ w50) (g := (mkF m 66 #[lv p1, sN, lv p2, sN, lv p3, sN, iv p4, iv vsm, iv vmo, rv ob, lv (((8 : Int64) * ((z1 + z1).toInt64)) + (0 : Int64)), sN, uN, uN, uN, uN, uN, uN, uN, uN, uN, uN] [(.long p2), (.ref ob)])) rfl (hb hby at_66) _ k) ?_
      show gM p e below _ T975 m 69 #[lv p1, sN, lv p2, sN, lv p3, sN, iv p4, iv vsm, iv vmo, rv ob, lv (((8 : Int64) * ((z1 + z1).toInt64)) + (0 : Int64)), sN, uN, uN, uN, uN, uN, uN, uN, uN, uN, uN] [(.long 2), (.long p2), (.ref ob)]
      obtain ⟨cq977, kq977, q977a, q977b, q977c⟩ := isOf hZ rfl f975_5
      obtain ⟨_, _, ⟨T977, L977, k977, n977⟩, -, X977, ⟨Lc977, hQ977, l977, y977, z977⟩, st977⟩ := X975.virtualBack hx (y := (⟨oS, "add", "(JJ)Z"⟩ : MethodName)) (z := (⟨oS, "add", "(JJ)Z"⟩ : MethodName)) hown (mvT hZ w37) (mvT hZ w38) (notFace_of_selects (args := #[]) (mvT hZ w40)) (mvT hZ w40) (mvT hZ w39) (by decide) (backOf (W := 0) (own_ae1 l Z a0 hw [] ob p2 (2 : Int64) (b2_975) (c2_975) (k2_975) (k3_975) (z2_975) (xs2_975) (ys2_975) (vmo) T975.heap n0 (Nat.le_trans (Nat.le_trans (Nat.le_trans Z0 K41.1) K958c.1) K975c.1) f975_5 g_ob f975_6 f975_7 f975_8 f975_9 f975_11 f975_12 g_b2_975 g_c2_975 f975_2 f975_3 f975_4 (own_ge1 f975_13 hzc) f975_14 f975_15 (f975_16.trans hA)) hZ w41 w2 (by decide) (by decide)) q977a q977c (g := (mkF m 69 #[lv p1, sN, lv p2, sN, lv p3, sN, iv p4, iv vsm, iv vmo, rv ob, lv (((8 : Int64) * ((z1 + z1).toInt64)) + (0 : Int64)), sN, uN, uN, uN, uN, uN, uN, uN, uN, uN, uN] [(.long 2), (.long p2), (.ref ob)])) rfl (by rw [hml]; rfl) (Steps.refl _) (argsL := [(.long p2), (.long 2)]) (rest := []) (lenOf own_pd10 rfl) rfl (by show 2 * 0 + _ ≤ _; exact Nat.le_of_eq rfl) (hb hby at_69) (fun _ _ => ⟨rfl, rfl, (Nat.le_trans (m := 32) (by dsimp only [Pt.cells, Pt.slots]; omega) (by decide)), (Nat.le_trans (m := 256) (by dsimp only [Pt.cells, Pt.slots]; omega) (by decide))⟩)
      dsimp only [Pt.U, Pt.locs, Pt.cells, Pt.slots] at X977 l977 y977 z977 st977 hQ977
      subst y977 z977
      obtain ⟨ys2_977, rfl, N977q, K977c, f977_0, f977_1⟩ := hQ977
      have N977 : Fr n0 L977 := by rw [l977]; exact Fr.app N975 N977q
      refine own_jump st977 ?_
      have K978 : Keep h0 T977.heap [] := K976.trans K977c (allS (Or.inr sz_c2_975) all0)
      show gM p e below _ T977 m 72 #[lv p1, sN, lv p2, sN, lv p3, sN, iv p4, iv vsm, iv vmo, rv ob, lv (((8 : Int64) * ((z1 + z1).toInt64)) + (0 : Int64)), sN, uN, uN, uN, uN, uN, uN, uN, uN, uN, uN] [(.int 0)]
      refine sT (fun t k => XS.pop X977.here hx rfl (hb hby at_72) rfl rfl k) ?_
      show gM p e below _ T977 m 73 #[lv p1, sN, lv p2, sN, lv p3, sN, iv p4, iv vsm, iv vmo, rv ob, lv (((8 : Int64) * ((z1 + z1).toInt64)) + (0 : Int64)), sN, uN, uN, uN, uN, uN, uN, uN, uN, uN, uN] []
      rcases own_alte (b0 := p1) (b1 := p2) p3 hA with hB | hB | hB
      · --
        refine sT (fun t k => XS.aload X977.here hx rfl (hb hby at_73) rfl rfl k) ?_
        show gM p e below _ T977 m 75 #[lv p1, sN, lv p2, sN, lv p3, sN, iv p4, iv vsm, iv vmo, rv ob, lv (((8 : Int64) * ((z1 + z1).toInt64)) + (0 : Int64)), sN, uN, uN, uN, uN, uN, uN, uN, uN, uN, uN] [(.ref ob)]
        refine sT (fun t k => XS.lload X977.here hx rfl (hb hby at_75) rfl k) ?_
        show gM p e below _ T977 m 77 #[lv p1, sN, lv p2, sN, lv p3, sN, iv p4, iv vsm, iv vmo, rv ob, lv (((8 : Int64) * ((z1 + z1).toInt64)) + (0 : Int64)), sN, uN, uN, uN, uN, uN, uN, uN, uN, uN, uN] [(.long p3), (.ref ob)]
        refine sT (fun t k => X977.ldc2Long hx hown (mvT hZ w71) (g := (mkF m 77 #[lv p1, sN, lv p2, sN, lv p3, sN, iv p4, iv vsm, iv vmo, rv ob, lv (((8 : Int64) * ((z1 + z1).toInt64)) + (0 : Int64)), sN, uN, uN, uN, uN, uN, uN, uN, uN, uN, uN] [(.long p3), (.ref ob)])) rfl (hb hby at_77) _ k) ?_
        show gM p e below _ T977 m 80 #[lv p1, sN, lv p2, sN, lv p3, sN, iv p4, iv vsm, iv vmo, rv ob, lv (((8 : Int64) * ((z1 + z1).toInt64)) + (0 : Int64)), sN, uN, uN, uN, uN, uN, uN, uN, uN, uN, uN] [(.long 4), (.long p3), (.ref ob)]
        obtain ⟨cq979, kq979, q979a, q979b, q979c⟩ := isOf hZ rfl (f975_5.keep K977c)
        obtain ⟨_, _, ⟨T979, L979, k979, n979⟩, -, X979, ⟨Lc979, hQ979, l979, y979, z979⟩, st979⟩ := X977.virtualBack hx (y := (⟨oS, "add", "(JJ)Z"⟩ : MethodName)) (z := (⟨oS, "add", "(JJ)Z"⟩ : MethodName)) hown (mvT hZ w37) (mvT hZ w38) (notFace_of_selects (args := #[]) (mvT hZ w40)) (mvT hZ w40) (mvT hZ w39) (by decide) (backOf (W := 0) (own_ae1 l Z a0 hw [] ob p3 (4 : Int64) (b2_975) (c2_975) (k2_975) (k3_975) (z2_975) (xs2_975) (ys2_977) (vmo) T977.heap n0 (Nat.le_trans (Nat.le_trans (Nat.le_trans (Nat.le_trans Z0 K41.1) K958c.1) K975c.1) K977c.1) (f975_5.keep K977c) g_ob (f975_6.keep K977c (ninS f975_3 nin0)) (f975_7.keep K977c (ninS f975_3 nin0)) (f975_8.keep K977c (ninS f975_3 nin0)) (f975_9.keep K977c (ninS f975_3 nin0)) (f975_11.keep K977c (ninS f975_4 nin0)) f977_0 g_b2_975 g_c2_975 f975_2 f975_3 f975_4 (own_ge1 f975_13 hzc) f975_14 f977_1 (f975_16.trans hB)) hZ w41 w2 (by decide) (by decide)) q979a q979c (g := (mkF m 80 #[lv p1, sN, lv p2, sN, lv p3, sN, iv p4, iv vsm, iv vmo, rv ob, lv (((8 : Int64) * ((z1 + z1).toInt64)) + (0 : Int64)), sN, uN, uN, uN, uN, uN, uN, uN, uN, uN, uN] [(.long 4), (.long p3), (.ref ob)])) rfl (by rw [hml]; rfl) (Steps.refl _) (argsL := [(.long p3), (.long 4)]) (rest := []) (lenOf own_pd10 rfl) rfl (by show 2 * 0 + _ ≤ _; exact Nat.le_of_eq rfl) (hb hby at_80) (fun _ _ => ⟨rfl, rfl, (Nat.le_trans (m := 32) (by dsimp only [Pt.cells, Pt.slots]; omega) (by decide)), (Nat.le_trans (m := 256) (by dsimp only [Pt.cells, Pt.slots]; omega) (by decide))⟩)
        dsimp only [Pt.U, Pt.locs, Pt.cells, Pt.slots] at X979 l979 y979 z979 st979 hQ979
        subst y979 z979
        obtain ⟨ys2_979, rfl, N979q, K979c, f979_0, f979_1⟩ := hQ979
        have N979 : Fr n0 L979 := by rw [l979]; exact Fr.app N977 N979q
        refine own_jump st979 ?_
        have K980 : Keep h0 T979.heap [] := K978.trans K979c (allS (Or.inr sz_c2_975) all0)
        show gM p e below _ T979 m 83 #[lv p1, sN, lv p2, sN, lv p3, sN, iv p4, iv vsm, iv vmo, rv ob, lv (((8 : Int64) * ((z1 + z1).toInt64)) + (0 : Int64)), sN, uN, uN, uN, uN, uN, uN, uN, uN, uN, uN] [(.int 0)]
        refine sT (fun t k => XS.pop X979.here hx rfl (hb hby at_83) rfl rfl k) ?_
        show gM p e below _ T979 m 84 #[lv p1, sN, lv p2, sN, lv p3, sN, iv p4, iv vsm, iv vmo, rv ob, lv (((8 : Int64) * ((z1 + z1).toInt64)) + (0 : Int64)), sN, uN, uN, uN, uN, uN, uN, uN, uN, uN, uN] []
        refine sT (fun t k => XS.aload X979.here hx rfl (hb hby at_84) rfl rfl k) ?_
        show gM p e below _ T979 m 86 #[lv p1, sN, lv p2, sN, lv p3, sN, iv p4, iv vsm, iv vmo, rv ob, lv (((8 : Int64) * ((z1 + z1).toInt64)) + (0 : Int64)), sN, uN, uN, uN, uN, uN, uN, uN, uN, uN, uN] [(.ref ob)]
        obtain ⟨cq981, kq981, q981a, q981b, q981c⟩ := isOf hZ rfl ((f975_5.keep K977c).keep K979c)
        obtain ⟨_, _, ⟨T981, L981, k981, n981⟩, -, X981, ⟨Lc981, hQ981, l981, y981, z981⟩, st981⟩ := X979.virtualBack hx (y := (⟨oS, "bytes", "()J"⟩ : MethodName)) (z := (⟨oS, "bytes", "()J"⟩ : MethodName)) hown (mvT hZ w29) (mvT hZ w30) (notFace_of_selects (args := #[]) (mvT hZ w32)) (mvT hZ w32) (mvT hZ w31) (by decide) (backOf (W := 0) (own_bN l Z a0 hw [] ob (b2_975) (c2_975) (k2_975) (k3_975) (z2_975) (z2_975) (xs2_975) (ys2_979) T979.heap n0 (Nat.le_trans (Nat.le_trans (Nat.le_trans (Nat.le_trans (Nat.le_trans Z0 K41.1) K958c.1) K975c.1) K977c.1) K979c.1) ((f975_8.keep K977c (ninS f975_3 nin0)).keep K979c (ninS f975_3 nin0)) ((f975_9.keep K977c (ninS f975_3 nin0)).keep K979c (ninS f975_3 nin0)) ((f975_17.keep K977c (ninS f975_3 nin0)).keep K979c (ninS f975_3 nin0)) ((f975_11.keep K977c (ninS f975_4 nin0)).keep K979c (ninS f975_4 nin0)) f979_0) hZ w33 w2 (by decide) (by decide)) q981a q981c (g := (mkF m 86 #[lv p1, sN, lv p2, sN, lv p3, sN, iv p4, iv vsm, iv vmo, rv ob, lv (((8 : Int64) * ((z1 + z1).toInt64)) + (0 : Int64)), sN, uN, uN, uN, uN, uN, uN, uN, uN, uN, uN] [(.ref ob)])) rfl (by rw [hml]; rfl) (Steps.refl _) (argsL := []) (rest := []) (lenOf own_pd9 rfl) rfl (by show 2 * 0 + _ ≤ _; exact Nat.le_of_eq rfl) (hb hby at_86) (fun _ _ => ⟨rfl, rfl, (Nat.le_trans (m := 32) (by dsimp only [Pt.cells, Pt.slots]; omega) (by decide)), (Nat.le_trans (m := 256) (by dsimp only [Pt.cells, Pt.slots]; omega) (by decide))⟩)
        dsimp only [Pt.U, Pt.locs, Pt.cells, Pt.slots] at X981 l981 y981 z981 st981 hQ981
        subst y981 z981
        obtain ⟨rfl, N981q, eh981⟩ := hQ981
        have N981 : Fr n0 L981 := by rw [l981]; exact Fr.app N979 N981q
        refine own_jump st981 ?_
        show gM p e below _ T981 m 89 #[lv p1, sN, lv p2, sN, lv p3, sN, iv p4, iv vsm, iv vmo, rv ob, lv (((8 : Int64) * ((z1 + z1).toInt64)) + (0 : Int64)), sN, uN, uN, uN, uN, uN, uN, uN, uN, uN, uN] [(.long (((8 : Int64) * ((z2_975 + z2_975).toInt64)) + (0 : Int64)))]
        exact J89 T981 _ _ _ X981 N981 (Nat.le_trans (m := 32) (by omega) (by decide)) (Nat.le_trans (m := 256) (by omega) (by decide)) _ (own_leaf_ee hzc f975_13 hA hB)
      · --
        refine sT (fun t k => XS.aload X977.here hx rfl (hb hby at_73) rfl rfl k) ?_
        show gM p e below _ T977 m 75 #[lv p1, sN, lv p2, sN, lv p3, sN, iv p4, iv vsm, iv vmo, rv ob, lv (((8 : Int64) * ((z1 + z1).toInt64)) + (0 : Int64)), sN, uN, uN, uN, uN, uN, uN, uN, uN, uN, uN] [(.ref ob)]
        refine sT (fun t k => XS.lload X977.here hx rfl (hb hby at_75) rfl k) ?_
        show gM p e below _ T977 m 77 #[lv p1, sN, lv p2, sN, lv p3, sN, iv p4, iv vsm, iv vmo, rv ob, lv (((8 : Int64) * ((z1 + z1).toInt64)) + (0 : Int64)), sN, uN, uN, uN, uN, uN, uN, uN, uN, uN, uN] [(.long p3), (.ref ob)]
        refine sT (fun t k => X977.ldc2Long hx hown (mvT hZ w71) (g := (mkF m 77 #[lv p1, sN, lv p2, sN, lv p3, sN, iv p4, iv vsm, iv vmo, rv ob, lv (((8 : Int64) * ((z1 + z1).toInt64)) + (0 : Int64)), sN, uN, uN, uN, uN, uN, uN, uN, uN, uN, uN] [(.long p3), (.ref ob)])) rfl (hb hby at_77) _ k) ?_
        show gM p e below _ T977 m 80 #[lv p1, sN, lv p2, sN, lv p3, sN, iv p4, iv vsm, iv vmo, rv ob, lv (((8 : Int64) * ((z1 + z1).toInt64)) + (0 : Int64)), sN, uN, uN, uN, uN, uN, uN, uN, uN, uN, uN] [(.long 4), (.long p3), (.ref ob)]
        obtain ⟨cq982, kq982, q982a, q982b, q982c⟩ := isOf hZ rfl (f975_5.keep K977c)
        obtain ⟨_, _, ⟨T982, L982, k982, n982⟩, -, X982, ⟨Lc982, hQ982, l982, y982, z982⟩, st982⟩ := X977.virtualBack hx (y := (⟨oS, "add", "(JJ)Z"⟩ : MethodName)) (z := (⟨oS, "add", "(JJ)Z"⟩ : MethodName)) hown (mvT hZ w37) (mvT hZ w38) (notFace_of_selects (args := #[]) (mvT hZ w40)) (mvT hZ w40) (mvT hZ w39) (by decide) (backOf (W := 0) (own_ag1 l Z a0 hw [] ob p3 (4 : Int64) (b2_975) (c2_975) (k2_975) (k3_975) (z2_975) (xs2_975) (ys2_977) (vmo) T977.heap n0 (Nat.le_trans (Nat.le_trans (Nat.le_trans (Nat.le_trans Z0 K41.1) K958c.1) K975c.1) K977c.1) (f975_5.keep K977c) g_ob (f975_6.keep K977c (ninS f975_3 nin0)) (f975_7.keep K977c (ninS f975_3 nin0)) (f975_8.keep K977c (ninS f975_3 nin0)) (f975_9.keep K977c (ninS f975_3 nin0)) (f975_11.keep K977c (ninS f975_4 nin0)) f977_0 g_b2_975 g_c2_975 f975_2 f975_3 f975_4 (own_ge1 f975_13 hzc) f975_14 f977_1 (f975_10.keep K977c (ninS f975_3 nin0)) (f975_17.keep K977c (ninS f975_3 nin0)) (own_nqg f975_16 hB) (own_gt f975_16 hB)) hZ w41 w2 (by decide) (by decide)) q982a q982c (g := (mkF m 80 #[lv p1, sN, lv p2, sN, lv p3, sN, iv p4, iv vsm, iv vmo, rv ob, lv (((8 : Int64) * ((z1 + z1).toInt64)) + (0 : Int64)), sN, uN, uN, uN, uN, uN, uN, uN, uN, uN, uN] [(.long 4), (.long p3), (.ref ob)])) rfl (by rw [hml]; rfl) (Steps.refl _) (argsL := [(.long p3), (.long 4)]) (rest := []) (lenOf own_pd10 rfl) rfl (by show 2 * 0 + _ ≤ _; exact Nat.le_of_eq rfl) (hb hby at_80) (fun _ _ => ⟨rfl, rfl, (Nat.le_trans (m := 32) (by dsimp only [Pt.cells, Pt.slots]; omega) (by decide)), (Nat.le_trans (m := 256) (by dsimp only [Pt.cells, Pt.slots]; omega) (by decide))⟩)
        dsimp only [Pt.U, Pt.locs, Pt.cells, Pt.slots] at X982 l982 y982 z982 st982 hQ982
        subst y982 z982
        obtain ⟨b2_982, c2_982, k2_982, k3_982, z2_982, xs2_982, ys2_982, rfl, N982q, K982c, f982_0, f982_1, f982_2, f982_3, f982_4, f982_5, f982_6, f982_7, f982_8, f982_9, f982_10, f982_11, f982_12, f982_13, f982_14, f982_15, f982_16, f982_17, f982_18⟩ := hQ982
        have N982 : Fr n0 L982 := by rw [l982]; exact Fr.app N977 N982q
        refine own_jump st982 ?_
        have K983 : Keep h0 T982.heap [] := K978.trans K982c (allS (Or.inr sz_ob) (allS (Or.inr sz_b2_975) (allS (Or.inr sz_c2_975) all0)))
        show gM p e below _ T982 m 83 #[lv p1, sN, lv p2, sN, lv p3, sN, iv p4, iv vsm, iv vmo, rv ob, lv (((8 : Int64) * ((z1 + z1).toInt64)) + (0 : Int64)), sN, uN, uN, uN, uN, uN, uN, uN, uN, uN, uN] [(.int 1)]
        have sz_b2_982 : h0.size ≤ b2_982 := f982_0.elim (Nat.le_trans K978.1) (fun e => e ▸ sz_b2_975)
        have g_b2_982 : n0 ≤ b2_982 := Nat.le_trans Z0 sz_b2_982
        have sz_c2_982 : h0.size ≤ c2_982 := f982_1.elim (Nat.le_trans K978.1) (fun e => e ▸ sz_c2_975)
        have g_c2_982 : n0 ≤ c2_982 := Nat.le_trans Z0 sz_c2_982
        refine sT (fun t k => XS.pop X982.here hx rfl (hb hby at_83) rfl rfl k) ?_
        show gM p e below _ T982 m 84 #[lv p1, sN, lv p2, sN, lv p3, sN, iv p4, iv vsm, iv vmo, rv ob, lv (((8 : Int64) * ((z1 + z1).toInt64)) + (0 : Int64)), sN, uN, uN, uN, uN, uN, uN, uN, uN, uN, uN] []
        refine sT (fun t k => XS.aload X982.here hx rfl (hb hby at_84) rfl rfl k) ?_
        show gM p e below _ T982 m 86 #[lv p1, sN, lv p2, sN, lv p3, sN, iv p4, iv vsm, iv vmo, rv ob, lv (((8 : Int64) * ((z1 + z1).toInt64)) + (0 : Int64)), sN, uN, uN, uN, uN, uN, uN, uN, uN, uN, uN] [(.ref ob)]
        obtain ⟨cq984, kq984, q984a, q984b, q984c⟩ := isOf hZ rfl f982_5
        obtain ⟨_, _, ⟨T984, L984, k984, n984⟩, -, X984, ⟨Lc984, hQ984, l984, y984, z984⟩, st984⟩ := X982.virtualBack hx (y := (⟨oS, "bytes", "()J"⟩ : MethodName)) (z := (⟨oS, "bytes", "()J"⟩ : MethodName)) hown (mvT hZ w29) (mvT hZ w30) (notFace_of_selects (args := #[]) (mvT hZ w32)) (mvT hZ w32) (mvT hZ w31) (by decide) (backOf (W := 0) (own_bN l Z a0 hw [] ob (b2_982) (c2_982) (k2_982) (k3_982) (z2_982) (z2_982) (xs2_982) (ys2_982) T982.heap n0 (Nat.le_trans (Nat.le_trans (Nat.le_trans (Nat.le_trans (Nat.le_trans Z0 K41.1) K958c.1) K975c.1) K977c.1) K982c.1) f982_8 f982_9 f982_18 f982_11 f982_12) hZ w33 w2 (by decide) (by decide)) q984a q984c (g := (mkF m 86 #[lv p1, sN, lv p2, sN, lv p3, sN, iv p4, iv vsm, iv vmo, rv ob, lv (((8 : Int64) * ((z1 + z1).toInt64)) + (0 : Int64)), sN, uN, uN, uN, uN, uN, uN, uN, uN, uN, uN] [(.ref ob)])) rfl (by rw [hml]; rfl) (Steps.refl _) (argsL := []) (rest := []) (lenOf own_pd9 rfl) rfl (by show 2 * 0 + _ ≤ _; exact Nat.le_of_eq rfl) (hb hby at_86) (fun _ _ => ⟨rfl, rfl, (Nat.le_trans (m := 32) (by dsimp only [Pt.cells, Pt.slots]; omega) (by decide)), (Nat.le_trans (m := 256) (by dsimp only [Pt.cells, Pt.slots]; omega) (by decide))⟩)
        dsimp only [Pt.U, Pt.locs, Pt.cells, Pt.slots] at X984 l984 y984 z984 st984 hQ984
        subst y984 z984
        obtain ⟨rfl, N984q, eh984⟩ := hQ984
        have N984 : Fr n0 L984 := by rw [l984]; exact Fr.app N982 N984q
        refine own_jump st984 ?_
        show gM p e below _ T984 m 89 #[lv p1, sN, lv p2, sN, lv p3, sN, iv p4, iv vsm, iv vmo, rv ob, lv (((8 : Int64) * ((z1 + z1).toInt64)) + (0 : Int64)), sN, uN, uN, uN, uN, uN, uN, uN, uN, uN, uN] [(.long (((8 : Int64) * ((z2_982 + z2_982).toInt64)) + (0 : Int64)))]
        exact J89 T984 _ _ _ X984 N984 (Nat.le_trans (m := 32) (by omega) (by decide)) (Nat.le_trans (m := 256) (by omega) (by decide)) _ (own_leaf_eg hzc f975_13 f982_13 hA hB)
      · --
        refine sT (fun t k => XS.aload X977.here hx rfl (hb hby at_73) rfl rfl k) ?_
        show gM p e below _ T977 m 75 #[lv p1, sN, lv p2, sN, lv p3, sN, iv p4, iv vsm, iv vmo, rv ob, lv (((8 : Int64) * ((z1 + z1).toInt64)) + (0 : Int64)), sN, uN, uN, uN, uN, uN, uN, uN, uN, uN, uN] [(.ref ob)]
        refine sT (fun t k => XS.lload X977.here hx rfl (hb hby at_75) rfl k) ?_
        show gM p e below _ T977 m 77 #[lv p1, sN, lv p2, sN, lv p3, sN, iv p4, iv vsm, iv vmo, rv ob, lv (((8 : Int64) * ((z1 + z1).toInt64)) + (0 : Int64)), sN, uN, uN, uN, uN, uN, uN, uN, uN, uN, uN] [(.long p3), (.ref ob)]
        refine sT (fun t k => X977.ldc2Long hx hown (mvT hZ w71) (g := (mkF m 77 #[lv p1, sN, lv p2, sN, lv p3, sN, iv p4, iv vsm, iv vmo, rv ob, lv (((8 : Int64) * ((z1 + z1).toInt64)) + (0 : Int64)), sN, uN, uN, uN, uN, uN, uN, uN, uN, uN, uN] [(.long p3), (.ref ob)])) rfl (hb hby at_77) _ k) ?_
        show gM p e below _ T977 m 80 #[lv p1, sN, lv p2, sN, lv p3, sN, iv p4, iv vsm, iv vmo, rv ob, lv (((8 : Int64) * ((z1 + z1).toInt64)) + (0 : Int64)), sN, uN, uN, uN, uN, uN, uN, uN, uN, uN, uN] [(.long 4), (.long p3), (.ref ob)]
        obtain ⟨cq985, kq985, q985a, q985b, q985c⟩ := isOf hZ rfl (f975_5.keep K977c)
        obtain ⟨_, _, ⟨T985, L985, k985, n985⟩, -, X985, ⟨Lc985, hQ985, l985, y985, z985⟩, st985⟩ := X977.virtualBack hx (y := (⟨oS, "add", "(JJ)Z"⟩ : MethodName)) (z := (⟨oS, "add", "(JJ)Z"⟩ : MethodName)) hown (mvT hZ w37) (mvT hZ w38) (notFace_of_selects (args := #[]) (mvT hZ w40)) (mvT hZ w40) (mvT hZ w39) (by decide) (backOf (W := 0) (own_al1 l Z a0 hw [] ob p3 (4 : Int64) (b2_975) (c2_975) (k2_975) (k3_975) (z2_975) (xs2_975) (ys2_977) (vmo) T977.heap n0 (Nat.le_trans (Nat.le_trans (Nat.le_trans (Nat.le_trans Z0 K41.1) K958c.1) K975c.1) K977c.1) (f975_5.keep K977c) g_ob (f975_6.keep K977c (ninS f975_3 nin0)) (f975_7.keep K977c (ninS f975_3 nin0)) (f975_8.keep K977c (ninS f975_3 nin0)) (f975_9.keep K977c (ninS f975_3 nin0)) (f975_11.keep K977c (ninS f975_4 nin0)) f977_0 g_b2_975 g_c2_975 f975_2 f975_3 f975_4 (own_ge1 f975_13 hzc) f975_14 f977_1 (f975_10.keep K977c (ninS f975_3 nin0)) (f975_17.keep K977c (ninS f975_3 nin0)) (own_nql f975_16 hB) (own_lt' f975_16 hB) (own_b1 f975_16 hB)) hZ w41 w2 (by decide) (by decide)) q985a q985c (g := (mkF m 80 #[lv p1, sN, lv p2, sN, lv p3, sN, iv p4, iv vsm, iv vmo, rv ob, lv (((8 : Int64) * ((z1 + z1).toInt64)) + (0 : Int64)), sN, uN, uN, uN, uN, uN, uN, uN, uN, uN, uN] [(.long 4), (.long p3), (.ref ob)])) rfl (by rw [hml]; rfl) (Steps.refl _) (argsL := [(.long p3), (.long 4)]) (rest := []) (lenOf own_pd10 rfl) rfl (by show 2 * 0 + _ ≤ _; exact Nat.le_of_eq rfl) (hb hby at_80) (fun _ _ => ⟨rfl, rfl, (Nat.le_trans (m := 32) (by dsimp only [Pt.cells, Pt.slots]; omega) (by decide)), (Nat.le_trans (m := 256) (by dsimp only [Pt.cells, Pt.slots]; omega) (by decide))⟩)
        dsimp only [Pt.U, Pt.locs, Pt.cells, Pt.slots] at X985 l985 y985 z985 st985 hQ985
        subst y985 z985
        obtain ⟨b2_985, c2_985, k2_985, k3_985, z2_985, xs2_985, ys2_985, tt_985, kt_985, rfl, N985q, K985c, f985_0, f985_1, f985_2, f985_3, f985_4, f985_5, f985_6, f985_7, f985_8, f985_9, f985_10, f985_11, f985_12, f985_13, f985_14, f985_15, f985_16, f985_17, f985_18, f985_19, f985_20, f985_21, f985_22, f985_23⟩ := hQ985
        have N985 : Fr n0 L985 := by rw [l985]; exact Fr.app N977 N985q
        refine own_jump st985 ?_
        have K986 : Keep h0 T985.heap [] := K978.trans K985c (allS (Or.inr sz_ob) (allS (Or.inr sz_b2_975) (allS (Or.inr sz_c2_975) all0)))
        have sz_tt_985 : h0.size ≤ tt_985 := Nat.le_trans K978.1 f985_18
        have g_tt_985 : n0 ≤ tt_985 := Nat.le_trans Z0 sz_tt_985
        show gM p e below _ T985 m 83 #[lv p1, sN, lv p2, sN, lv p3, sN, iv p4, iv vsm, iv vmo, rv ob, lv (((8 : Int64) * ((z1 + z1).toInt64)) + (0 : Int64)), sN, uN, uN, uN, uN, uN, uN, uN, uN, uN, uN] [(.int 1)]
        have sz_b2_985 : h0.size ≤ b2_985 := f985_0.elim (Nat.le_trans K978.1) (fun e => e ▸ sz_b2_975)
        have g_b2_985 : n0 ≤ b2_985 := Nat.le_trans Z0 sz_b2_985
        have sz_c2_985 : h0.size ≤ c2_985 := f985_1.elim (Nat.le_trans K978.1) (fun e => e ▸ sz_c2_975)
        have g_c2_985 : n0 ≤ c2_985 := Nat.le_trans Z0 sz_c2_985
        refine sT (fun t k => XS.pop X985.here hx rfl (hb hby at_83) rfl rfl k) ?_
        show gM p e below _ T985 m 84 #[lv p1, sN, lv p2, sN, lv p3, sN, iv p4, iv vsm, iv vmo, rv ob, lv (((8 : Int64) * ((z1 + z1).toInt64)) + (0 : Int64)), sN, uN, uN, uN, uN, uN, uN, uN, uN, uN, uN] []
        refine sT (fun t k => XS.aload X985.here hx rfl (hb hby at_84) rfl rfl k) ?_
        show gM p e below _ T985 m 86 #[lv p1, sN, lv p2, sN, lv p3, sN, iv p4, iv vsm, iv vmo, rv ob, lv (((8 : Int64) * ((z1 + z1).toInt64)) + (0 : Int64)), sN, uN, uN, uN, uN, uN, uN, uN, uN, uN, uN] [(.ref ob)]
        obtain ⟨cq987, kq987, q987a, q987b, q987c⟩ := isOf hZ rfl f985_5
        obtain ⟨_, _, ⟨T987, L987, k987, n987⟩, -, X987, ⟨Lc987, hQ987, l987, y987, z987⟩, st987⟩ := X985.virtualBack hx (y := (⟨oS, "bytes", "()J"⟩ : MethodName)) (z := (⟨oS, "bytes", "()J"⟩ : MethodName)) hown (mvT hZ w29) (mvT hZ w30) (notFace_of_selects (args := #[]) (mvT hZ w32)) (mvT hZ w32) (mvT hZ w31) (by decide) (backOf (W := 0) (own_bT l Z a0 hw [] ob (b2_985) (c2_985) (k2_985) (k3_985) (tt_985) (kt_985) (z2_985) (z2_985) (xs2_985) (ys2_985) (((List.replicate 32 (0 : Int32)).set ((own_h p3).toNatClampNeg) (2 : Int32))) T985.heap n0 (Nat.le_trans (Nat.le_trans (Nat.le_trans (Nat.le_trans (Nat.le_trans Z0 K41.1) K958c.1) K975c.1) K977c.1) K985c.1) f985_8 f985_9 f985_22 f985_11 f985_12 f985_23) hZ w33 w2 (by decide) (by decide)) q987a q987c (g := (mkF m 86 #[lv p1, sN, lv p2, sN, lv p3, sN, iv p4, iv vsm, iv vmo, rv ob, lv (((8 : Int64) * ((z1 + z1).toInt64)) + (0 : Int64)), sN, uN, uN, uN, uN, uN, uN, uN, uN, uN, uN] [(.ref ob)])) rfl (by rw [hml]; rfl) (Steps.refl _) (argsL := []) (rest := []) (lenOf own_pd9 rfl) rfl (by show 2 * 0 + _ ≤ _; exact Nat.le_of_eq rfl) (hb hby at_86) (fun _ _ => ⟨rfl, rfl, (Nat.le_trans (m := 32) (by dsimp only [Pt.cells, Pt.slots]; omega) (by decide)), (Nat.le_trans (m := 256) (by dsimp only [Pt.cells, Pt.slots]; omega) (by decide))⟩)
        dsimp only [Pt.U, Pt.locs, Pt.cells, Pt.slots] at X987 l987 y987 z987 st987 hQ987
        subst y987 z987
        obtain ⟨rfl, N987q, eh987⟩ := hQ987
        have N987 : Fr n0 L987 := by rw [l987]; exact Fr.app N985 N987q
        refine own_jump st987 ?_
        show gM p e below _ T987 m 89 #[lv p1, sN, lv p2, sN, lv p3, sN, iv p4, iv vsm, iv vmo, rv ob, lv (((8 : Int64) * ((z1 + z1).toInt64)) + (0 : Int64)), sN, uN, uN, uN, uN, uN, uN, uN, uN, uN, uN] [(.long (((8 : Int64) * ((z2_985 + z2_985).toInt64)) + ((4 : Int64) * ((32 : Int32).toInt64))))]
        exact J89 T987 _ _ _ X987 N987 (Nat.le_trans (m := 32) (by omega) (by decide)) (Nat.le_trans (m := 256) (by omega) (by decide)) _ (own_leaf_el hzc f975_13 f985_13 hA hB)
    · --
      refine sT (fun t k => XS.aload X975.here hx rfl (hb hby at_63) rfl rfl k) ?_
      show gM p e below _ T975 m 65 #[lv p1, sN, lv p2, sN, lv p3, sN, iv p4, iv vsm, iv vmo, rv ob, lv (((8 : Int64) * ((z1 + z1).toInt64)) + (0 : Int64)), sN, uN, uN, uN, uN, uN, uN, uN, uN, uN, uN] [(.ref ob)]
      refine sT (fun t k => XS.lloadN X975.here hx rfl (hb hby at_65) rfl k) ?_
      show gM p e below _ T975 m 66 #[lv p1, sN, lv p2, sN, lv p3, sN, iv p4, iv vsm, iv vmo, rv ob, lv (((8 : Int64) * ((z1 + z1).toInt64)) + (0 : Int64)), sN, uN, uN, uN, uN, uN, uN, uN, uN, uN, uN] [(.long p2), (.ref ob)]
      refine sT (fun t k => X975.ldc2Long hx hown (mvT hZ w50) (g := (mkF m 66 #[lv p1, sN, lv p2, sN, lv p3, sN, iv p4, iv vsm, iv vmo, rv ob, lv (((8 : Int64) * ((z1 + z1).toInt64)) + (0 : Int64)), sN, uN, uN, uN, uN, uN, uN, uN, uN, uN, uN] [(.long p2), (.ref ob)])) rfl (hb hby at_66) _ k) ?_
      show gM p e below _ T975 m 69 #[lv p1, sN, lv p2, sN, lv p3, sN, iv p4, iv vsm, iv vmo, rv ob, lv (((8 : Int64) * ((z1 + z1).toInt64)) + (0 : Int64)), sN, uN, uN, uN, uN, uN, uN, uN, uN, uN, uN] [(.long 2), (.long p2), (.ref ob)]
      obtain ⟨cq988, kq988, q988a, q988b, q988c⟩ := isOf hZ rfl f975_5
      obtain ⟨_, _, ⟨T988, L988, k988, n988⟩, -, X988, ⟨Lc988, hQ988, l988, y988, z988⟩, st988⟩ := X975.virtualBack hx (y := (⟨oS, "add", "(JJ)Z"⟩ : MethodName)) (z := (⟨oS, "add", "(JJ)Z"⟩ : MethodName)) hown (mvT hZ w37) (mvT hZ w38) (notFace_of_selects (args := #[]) (mvT hZ w40)) (mvT hZ w40) (mvT hZ w39) (by decide) (backOf (W := 0) (own_ag1 l Z a0 hw [] ob p2 (2 : Int64) (b2_975) (c2_975) (k2_975) (k3_975) (z2_975) (xs2_975) (ys2_975) (vmo) T975.heap n0 (Nat.le_trans (Nat.le_trans (Nat.le_trans Z0 K41.1) K958c.1) K975c.1) f975_5 g_ob f975_6 f975_7 f975_8 f975_9 f975_11 f975_12 g_b2_975 g_c2_975 f975_2 f975_3 f975_4 (own_ge1 f975_13 hzc) f975_14 f975_15 f975_10 f975_17 (own_nqg f975_16 hA) (own_gt f975_16 hA)) hZ w41 w2 (by decide) (by decide)) q988a q988c (g := (mkF m 69 #[lv p1, sN, lv p2, sN, lv p3, sN, iv p4, iv vsm, iv vmo, rv ob, lv (((8 : Int64) * ((z1 + z1).toInt64)) + (0 : Int64)), sN, uN, uN, uN, uN, uN, uN, uN, uN, uN, uN] [(.long 2), (.long p2), (.ref ob)])) rfl (by rw [hml]; rfl) (Steps.refl _) (argsL := [(.long p2), (.long 2)]) (rest := []) (lenOf own_pd10 rfl) rfl (by show 2 * 0 + _ ≤ _; exact Nat.le_of_eq rfl) (hb hby at_69) (fun _ _ => ⟨rfl, rfl, (Nat.le_trans (m := 32) (by dsimp only [Pt.cells, Pt.slots]; omega) (by decide)), (Nat.le_trans (m := 256) (by dsimp only [Pt.cells, Pt.slots]; omega) (by decide))⟩)
      dsimp only [Pt.U, Pt.locs, Pt.cells, Pt.slots] at X988 l988 y988 z988 st988 hQ988
      subst y988 z988
      obtain ⟨b2_988, c2_988, k2_988, k3_988, z2_988, xs2_988, ys2_988, rfl, N988q, K988c, f988_0, f988_1, f988_2, f988_3, f988_4, f988_5, f988_6, f988_7, f988_8, f988_9, f988_10, f988_11, f988_12, f988_13, f988_14, f988_15, f988_16, f988_17, f988_18⟩ := hQ988
      have N988 : Fr n0 L988 := by rw [l988]; exact Fr.app N975 N988q
      refine own_jump st988 ?_
      have K989 : Keep h0 T988.heap [] := K976.trans K988c (allS (Or.inr sz_ob) (allS (Or.inr sz_b2_975) (allS (Or.inr sz_c2_975) all0)))
      show gM p e below _ T988 m 72 #[lv p1, sN, lv p2, sN, lv p3, sN, iv p4, iv vsm, iv vmo, rv ob, lv (((8 : Int64) * ((z1 + z1).toInt64)) + (0 : Int64)), sN, uN, uN, uN, uN, uN, uN, uN, uN, uN, uN] [(.int 1)]
      have sz_b2_988 : h0.size ≤ b2_988 := f988_0.elim (Nat.le_trans K976.1) (fun e => e ▸ sz_b2_975)
      have g_b2_988 : n0 ≤ b2_988 := Nat.le_trans Z0 sz_b2_988
      have sz_c2_988 : h0.size ≤ c2_988 := f988_1.elim (Nat.le_trans K976.1) (fun e => e ▸ sz_c2_975)
      have g_c2_988 : n0 ≤ c2_988 := Nat.le_trans Z0 sz_c2_988
      refine sT (fun t k => XS.pop X988.here hx rfl (hb hby at_72) rfl rfl k) ?_
      show gM p e below _ T988 m 73 #[lv p1, sN, lv p2, sN, lv p3, sN, iv p4, iv vsm, iv vmo, rv ob, lv (((8 : Int64) * ((z1 + z1).toInt64)) + (0 : Int64)), sN, uN, uN, uN, uN, uN, uN, uN, uN, uN, uN] []
      rcases own_altg (b0 := p1) (b1 := p2) p3 hA with hB | hB | hB | hB
      · --
        refine sT (fun t k => XS.aload X988.here hx rfl (hb hby at_73) rfl rfl k) ?_
        show gM p e below _ T988 m 75 #[lv p1, sN, lv p2, sN, lv p3, sN, iv p4, iv vsm, iv vmo, rv ob, lv (((8 : Int64) * ((z1 + z1).toInt64)) + (0 : Int64)), sN, uN, uN, uN, uN, uN, uN, uN, uN, uN, uN] [(.ref ob)]
        refine sT (fun t k => XS.lload X988.here hx rfl (hb hby at_75) rfl k) ?_
        show gM p e below _ T988 m 77 #[lv p1, sN, lv p2, sN, lv p3, sN, iv p4, iv vsm, iv vmo, rv ob, lv (((8 : Int64) * ((z1 + z1).toInt64)) + (0 : Int64)), sN, uN, uN, uN, uN, uN, uN, uN, uN, uN, uN] [(.long p3), (.ref ob)]
        refine sT (fun t k => X988.ldc2Long hx hown (mvT hZ w71) (g := (mkF m 77 #[lv p1, sN, lv p2, sN, lv p3, sN, iv p4, iv vsm, iv vmo, rv ob, lv (((8 : Int64) * ((z1 + z1).toInt64)) + (0 : Int64)), sN, uN, uN, uN, uN, uN, uN, uN, uN, uN, uN] [(.long p3), (.ref ob)])) rfl (hb hby at_77) _ k) ?_
        show gM p e below _ T988 m 80 #[lv p1, sN, lv p2, sN, lv p3, sN, iv p4, iv vsm, iv vmo, rv ob, lv (((8 : Int64) * ((z1 + z1).toInt64)) + (0 : Int64)), sN, uN, uN, uN, uN, uN, uN, uN, uN, uN, uN] [(.long 4), (.long p3), (.ref ob)]
        obtain ⟨cq990, kq990, q990a, q990b, q990c⟩ := isOf hZ rfl f988_5
        obtain ⟨_, _, ⟨T990, L990, k990, n990⟩, -, X990, ⟨Lc990, hQ990, l990, y990, z990⟩, st990⟩ := X988.virtualBack hx (y := (⟨oS, "add", "(JJ)Z"⟩ : MethodName)) (z := (⟨oS, "add", "(JJ)Z"⟩ : MethodName)) hown (mvT hZ w37) (mvT hZ w38) (notFace_of_selects (args := #[]) (mvT hZ w40)) (mvT hZ w40) (mvT hZ w39) (by decide) (backOf (W := 0) (own_ae2 l Z a0 hw [] ob p3 (4 : Int64) (b2_988) (c2_988) (k2_988) (k3_988) (z2_988) (xs2_988) (ys2_988) (vmo) T988.heap n0 (Nat.le_trans (Nat.le_trans (Nat.le_trans (Nat.le_trans Z0 K41.1) K958c.1) K975c.1) K988c.1) f988_5 g_ob f988_6 f988_7 f988_8 f988_9 f988_11 f988_12 g_b2_988 g_c2_988 f988_2 f988_3 f988_4 (own_ge2 f975_13 f988_13 hzc) f988_14 f988_15 (f988_17.trans hB)) hZ w41 w2 (by decide) (by decide)) q990a q990c (g := (mkF m 80 #[lv p1, sN, lv p2, sN, lv p3, sN, iv p4, iv vsm, iv vmo, rv ob, lv (((8 : Int64) * ((z1 + z1).toInt64)) + (0 : Int64)), sN, uN, uN, uN, uN, uN, uN, uN, uN, uN, uN] [(.long 4), (.long p3), (.ref ob)])) rfl (by rw [hml]; rfl) (Steps.refl _) (argsL := [(.long p3), (.long 4)]) (rest := []) (lenOf own_pd10 rfl) rfl (by show 2 * 0 + _ ≤ _; exact Nat.le_of_eq rfl) (hb hby at_80) (fun _ _ => ⟨rfl, rfl, (Nat.le_trans (m := 32) (by dsimp only [Pt.cells, Pt.slots]; omega) (by decide)), (Nat.le_trans (m := 256) (by dsimp only [Pt.cells, Pt.slots]; omega) (by decide))⟩)
        dsimp only [Pt.U, Pt.locs, Pt.cells, Pt.slots] at X990 l990 y990 z990 st990 hQ990
        subst y990 z990
        obtain ⟨ys2_990, rfl, N990q, K990c, f990_0, f990_1⟩ := hQ990
        have N990 : Fr n0 L990 := by rw [l990]; exact Fr.app N988 N990q
        refine own_jump st990 ?_
        have K991 : Keep h0 T990.heap [] := K989.trans K990c (allS (Or.inr sz_c2_988) all0)
        show gM p e below _ T990 m 83 #[lv p1, sN, lv p2, sN, lv p3, sN, iv p4, iv vsm, iv vmo, rv ob, lv (((8 : Int64) * ((z1 + z1).toInt64)) + (0 : Int64)), sN, uN, uN, uN, uN, uN, uN, uN, uN, uN, uN] [(.int 0)]
        refine sT (fun t k => XS.pop X990.here hx rfl (hb hby at_83) rfl rfl k) ?_
        show gM p e below _ T990 m 84 #[lv p1, sN, lv p2, sN, lv p3, sN, iv p4, iv vsm, iv vmo, rv ob, lv (((8 : Int64) * ((z1 + z1).toInt64)) + (0 : Int64)), sN, uN, uN, uN, uN, uN, uN, uN, uN, uN, uN] []
        refine sT (fun t k => XS.aload X990.here hx rfl (hb hby at_84) rfl rfl k) ?_
        show gM p e below _ T990 m 86 #[lv p1, sN, lv p2, sN, lv p3, sN, iv p4, iv vsm, iv vmo, rv ob, lv (((8 : Int64) * ((z1 + z1).toInt64)) + (0 : Int64)), sN, uN, uN, uN, uN, uN, uN, uN, uN, uN, uN] [(.ref ob)]
        obtain ⟨cq992, kq992, q992a, q992b, q992c⟩ := isOf hZ rfl (f988_5.keep K990c)
        obtain ⟨_, _, ⟨T992, L992, k992, n992⟩, -, X992, ⟨Lc992, hQ992, l992, y992, z992⟩, st992⟩ := X990.virtualBack hx (y := (⟨oS, "bytes", "()J"⟩ : MethodName)) (z := (⟨oS, "bytes", "()J"⟩ : MethodName)) hown (mvT hZ w29) (mvT hZ w30) (notFace_of_selects (args := #[]) (mvT hZ w32)) (mvT hZ w32) (mvT hZ w31) (by decide) (backOf (W := 0) (own_bN l Z a0 hw [] ob (b2_988) (c2_988) (k2_988) (k3_988) (z2_988) (z2_988) (xs2_988) (ys2_990) T990.heap n0 (Nat.le_trans (Nat.le_trans (Nat.le_trans (Nat.le_trans (Nat.le_trans Z0 K41.1) K958c.1) K975c.1) K988c.1) K990c.1) (f988_8.keep K990c (ninS f988_3 nin0)) (f988_9.keep K990c (ninS f988_3 nin0)) (f988_18.keep K990c (ninS f988_3 nin0)) (f988_11.keep K990c (ninS f988_4 nin0)) f990_0) hZ w33 w2 (by decide) (by decide)) q992a q992c (g := (mkF m 86 #[lv p1, sN, lv p2, sN, lv p3, sN, iv p4, iv vsm, iv vmo, rv ob, lv (((8 : Int64) * ((z1 + z1).toInt64)) + (0 : Int64)), sN, uN, uN, uN, uN, uN, uN, uN, uN, uN, uN] [(.ref ob)])) rfl (by rw [hml]; rfl) (Steps.refl _) (argsL := []) (rest := []) (lenOf own_pd9 rfl) rfl (by show 2 * 0 + _ ≤ _; exact Nat.le_of_eq rfl) (hb hby at_86) (fun _ _ => ⟨rfl, rfl, (Nat.le_trans (m := 32) (by dsimp only [Pt.cells, Pt.slots]; omega) (by decide)), (Nat.le_trans (m := 256) (by dsimp only [Pt.cells, Pt.slots]; omega) (by decide))⟩)
        dsimp only [Pt.U, Pt.locs, Pt.cells, Pt.slots] at X992 l992 y992 z992 st992 hQ992
        subst y992 z992
        obtain ⟨rfl, N992q, eh992⟩ := hQ992
        have N992 : Fr n0 L992 := by rw [l992]; exact Fr.app N990 N992q
        refine own_jump st992 ?_
        show gM p e below _ T992 m 89 #[lv p1, sN, lv p2, sN, lv p3, sN, iv p4, iv vsm, iv vmo, rv ob, lv (((8 : Int64) * ((z1 + z1).toInt64)) + (0 : Int64)), sN, uN, uN, uN, uN, uN, uN, uN, uN, uN, uN] [(.long (((8 : Int64) * ((z2_988 + z2_988).toInt64)) + (0 : Int64)))]
        exact J89 T992 _ _ _ X992 N992 (Nat.le_trans (m := 32) (by omega) (by decide)) (Nat.le_trans (m := 256) (by omega) (by decide)) _ (own_leaf_ge hzc f975_13 f988_13 hA hB)
      · --
        refine sT (fun t k => XS.aload X988.here hx rfl (hb hby at_73) rfl rfl k) ?_
        show gM p e below _ T988 m 75 #[lv p1, sN, lv p2, sN, lv p3, sN, iv p4, iv vsm, iv vmo, rv ob, lv (((8 : Int64) * ((z1 + z1).toInt64)) + (0 : Int64)), sN, uN, uN, uN, uN, uN, uN, uN, uN, uN, uN] [(.ref ob)]
        refine sT (fun t k => XS.lload X988.here hx rfl (hb hby at_75) rfl k) ?_
        show gM p e below _ T988 m 77 #[lv p1, sN, lv p2, sN, lv p3, sN, iv p4, iv vsm, iv vmo, rv ob, lv (((8 : Int64) * ((z1 + z1).toInt64)) + (0 : Int64)), sN, uN, uN, uN, uN, uN, uN, uN, uN, uN, uN] [(.long p3), (.ref ob)]
        refine sT (fun t k => X988.ldc2Long hx hown (mvT hZ w71) (g := (mkF m 77 #[lv p1, sN, lv p2, sN, lv p3, sN, iv p4, iv vsm, iv vmo, rv ob, lv (((8 : Int64) * ((z1 + z1).toInt64)) + (0 : Int64)), sN, uN, uN, uN, uN, uN, uN, uN, uN, uN, uN] [(.long p3), (.ref ob)])) rfl (hb hby at_77) _ k) ?_
        show gM p e below _ T988 m 80 #[lv p1, sN, lv p2, sN, lv p3, sN, iv p4, iv vsm, iv vmo, rv ob, lv (((8 : Int64) * ((z1 + z1).toInt64)) + (0 : Int64)), sN, uN, uN, uN, uN, uN, uN, uN, uN, uN, uN] [(.long 4), (.long p3), (.ref ob)]
        obtain ⟨cq993, kq993, q993a, q993b, q993c⟩ := isOf hZ rfl f988_5
        obtain ⟨_, _, ⟨T993, L993, k993, n993⟩, -, X993, ⟨Lc993, hQ993, l993, y993, z993⟩, st993⟩ := X988.virtualBack hx (y := (⟨oS, "add", "(JJ)Z"⟩ : MethodName)) (z := (⟨oS, "add", "(JJ)Z"⟩ : MethodName)) hown (mvT hZ w37) (mvT hZ w38) (notFace_of_selects (args := #[]) (mvT hZ w40)) (mvT hZ w40) (mvT hZ w39) (by decide) (backOf (W := 0) (own_ag2 l Z a0 hw [] ob p3 (4 : Int64) (b2_988) (c2_988) (k2_988) (k3_988) (z2_988) (xs2_988) (ys2_988) (vmo) T988.heap n0 (Nat.le_trans (Nat.le_trans (Nat.le_trans (Nat.le_trans Z0 K41.1) K958c.1) K975c.1) K988c.1) f988_5 g_ob f988_6 f988_7 f988_8 f988_9 f988_11 f988_12 g_b2_988 g_c2_988 f988_2 f988_3 f988_4 (own_ge2 f975_13 f988_13 hzc) f988_14 f988_15 f988_10 f988_18 (own_nqgg f988_17 hA hB) (own_gtgg f988_17 hB)) hZ w41 w2 (by decide) (by decide)) q993a q993c (g := (mkF m 80 #[lv p1, sN, lv p2, sN, lv p3, sN, iv p4, iv vsm, iv vmo, rv ob, lv (((8 : Int64) * ((z1 + z1).toInt64)) + (0 : Int64)), sN, uN, uN, uN, uN, uN, uN, uN, uN, uN, uN] [(.long 4), (.long p3), (.ref ob)])) rfl (by rw [hml]; rfl) (Steps.refl _) (argsL := [(.long p3), (.long 4)]) (rest := []) (lenOf own_pd10 rfl) rfl (by show 2 * 0 + _ ≤ _; exact Nat.le_of_eq rfl) (hb hby at_80) (fun _ _ => ⟨rfl, rfl, (Nat.le_trans (m := 32) (by dsimp only [Pt.cells, Pt.slots]; omega) (by decide)), (Nat.le_trans (m := 256) (by dsimp only [Pt.cells, Pt.slots]; omega) (by decide))⟩)
        dsimp only [Pt.U, Pt.locs, Pt.cells, Pt.slots] at X993 l993 y993 z993 st993 hQ993
        subst y993 z993
        obtain ⟨b2_993, c2_993, k2_993, k3_993, z2_993, xs2_993, ys2_993, rfl, N993q, K993c, f993_0, f993_1, f993_2, f993_3, f993_4, f993_5, f993_6, f993_7, f993_8, f993_9, f993_10, f993_11, f993_12, f993_13, f993_14, f993_15, f993_16, f993_17, f993_18, f993_19⟩ := hQ993
        have N993 : Fr n0 L993 := by rw [l993]; exact Fr.app N988 N993q
        refine own_jump st993 ?_
        have K994 : Keep h0 T993.heap [] := K989.trans K993c (allS (Or.inr sz_ob) (allS (Or.inr sz_b2_988) (allS (Or.inr sz_c2_988) all0)))
        show gM p e below _ T993 m 83 #[lv p1, sN, lv p2, sN, lv p3, sN, iv p4, iv vsm, iv vmo, rv ob, lv (((8 : Int64) * ((z1 + z1).toInt64)) + (0 : Int64)), sN, uN, uN, uN, uN, uN, uN, uN, uN, uN, uN] [(.int 1)]
        have sz_b2_993 : h0.size ≤ b2_993 := f993_0.elim (Nat.le_trans K989.1) (fun e => e ▸ sz_b2_988)
        have g_b2_993 : n0 ≤ b2_993 := Nat.le_trans Z0 sz_b2_993
        have sz_c2_993 : h0.size ≤ c2_993 := f993_1.elim (Nat.le_trans K989.1) (fun e => e ▸ sz_c2_988)
        have g_c2_993 : n0 ≤ c2_993 := Nat.le_trans Z0 sz_c2_993
        refine sT (fun t k => XS.pop X993.here hx rfl (hb hby at_83) rfl rfl k) ?_
        show gM p e below _ T993 m 84 #[lv p1, sN, lv p2, sN, lv p3, sN, iv p4, iv vsm, iv vmo, rv ob, lv (((8 : Int64) * ((z1 + z1).toInt64)) + (0 : Int64)), sN, uN, uN, uN, uN, uN, uN, uN, uN, uN, uN] []
        refine sT (fun t k => XS.aload X993.here hx rfl (hb hby at_84) rfl rfl k) ?_
        show gM p e below _ T993 m 86 #[lv p1, sN, lv p2, sN, lv p3, sN, iv p4, iv vsm, iv vmo, rv ob, lv (((8 : Int64) * ((z1 + z1).toInt64)) + (0 : Int64)), sN, uN, uN, uN, uN, uN, uN, uN, uN, uN, uN] [(.ref ob)]
        obtain ⟨cq995, kq995, q995a, q995b, q995c⟩ := isOf hZ rfl f993_5
        obtain ⟨_, _, ⟨T995, L995, k995, n995⟩, -, X995, ⟨Lc995, hQ995, l995, y995, z995⟩, st995⟩ := X993.virtualBack hx (y := (⟨oS, "bytes", "()J"⟩ : MethodName)) (z := (⟨oS, "bytes", "()J"⟩ : MethodName)) hown (mvT hZ w29) (mvT hZ w30) (notFace_of_selects (args := #[]) (mvT hZ w32)) (mvT hZ w32) (mvT hZ w31) (by decide) (backOf (W := 0) (own_bN l Z a0 hw [] ob (b2_993) (c2_993) (k2_993) (k3_993) (z2_993) (z2_993) (xs2_993) (ys2_993) T993.heap n0 (Nat.le_trans (Nat.le_trans (Nat.le_trans (Nat.le_trans (Nat.le_trans Z0 K41.1) K958c.1) K975c.1) K988c.1) K993c.1) f993_8 f993_9 f993_19 f993_11 f993_12) hZ w33 w2 (by decide) (by decide)) q995a q995c (g := (mkF m 86 #[lv p1, sN, lv p2, sN, lv p3, sN, iv p4, iv vsm, iv vmo, rv ob, lv (((8 : Int64) * ((z1 + z1).toInt64)) + (0 : Int64)), sN, uN, uN, uN, uN, uN, uN, uN, uN, uN, uN] [(.ref ob)])) rfl (by rw [hml]; rfl) (Steps.refl _) (argsL := []) (rest := []) (lenOf own_pd9 rfl) rfl (by show 2 * 0 + _ ≤ _; exact Nat.le_of_eq rfl) (hb hby at_86) (fun _ _ => ⟨rfl, rfl, (Nat.le_trans (m := 32) (by dsimp only [Pt.cells, Pt.slots]; omega) (by decide)), (Nat.le_trans (m := 256) (by dsimp only [Pt.cells, Pt.slots]; omega) (by decide))⟩)
        dsimp only [Pt.U, Pt.locs, Pt.cells, Pt.slots] at X995 l995 y995 z995 st995 hQ995
        subst y995 z995
        obtain ⟨rfl, N995q, eh995⟩ := hQ995
        have N995 : Fr n0 L995 := by rw [l995]; exact Fr.app N993 N995q
        refine own_jump st995 ?_
        show gM p e below _ T995 m 89 #[lv p1, sN, lv p2, sN, lv p3, sN, iv p4, iv vsm, iv vmo, rv ob, lv (((8 : Int64) * ((z1 + z1).toInt64)) + (0 : Int64)), sN, uN, uN, uN, uN, uN, uN, uN, uN, uN, uN] [(.long (((8 : Int64) * ((z2_993 + z2_993).toInt64)) + (0 : Int64)))]
        exact J89 T995 _ _ _ X995 N995 (Nat.le_trans (m := 32) (by omega) (by decide)) (Nat.le_trans (m := 256) (by omega) (by decide)) _ (own_leaf_gg hzc f975_13 f988_13 f993_13 hA hB)
      · --
        refine sT (fun t k => XS.aload X988.here hx rfl (hb hby at_73) rfl rfl k) ?_
        show gM p e below _ T988 m 75 #[lv p1, sN, lv p2, sN, lv p3, sN, iv p4, iv vsm, iv vmo, rv ob, lv (((8 : Int64) * ((z1 + z1).toInt64)) + (0 : Int64)), sN, uN, uN, uN, uN, uN, uN, uN, uN, uN, uN] [(.ref ob)]
        refine sT (fun t k => XS.lload X988.here hx rfl (hb hby at_75) rfl k) ?_
        show gM p e below _ T988 m 77 #[lv p1, sN, lv p2, sN, lv p3, sN, iv p4, iv vsm, iv vmo, rv ob, lv (((8 : Int64) * ((z1 + z1).toInt64)) + (0 : Int64)), sN, uN, uN, uN, uN, uN, uN, uN, uN, uN, uN] [(.long p3), (.ref ob)]
        refine sT (fun t k => X988.ldc2Long hx hown (mvT hZ w71) (g := (mkF m 77 #[lv p1, sN, lv p2, sN, lv p3, sN, iv p4, iv vsm, iv vmo, rv ob, lv (((8 : Int64) * ((z1 + z1).toInt64)) + (0 : Int64)), sN, uN, uN, uN, uN, uN, uN, uN, uN, uN, uN] [(.long p3), (.ref ob)])) rfl (hb hby at_77) _ k) ?_
        show gM p e below _ T988 m 80 #[lv p1, sN, lv p2, sN, lv p3, sN, iv p4, iv vsm, iv vmo, rv ob, lv (((8 : Int64) * ((z1 + z1).toInt64)) + (0 : Int64)), sN, uN, uN, uN, uN, uN, uN, uN, uN, uN, uN] [(.long 4), (.long p3), (.ref ob)]
        obtain ⟨cq996, kq996, q996a, q996b, q996c⟩ := isOf hZ rfl f988_5
        obtain ⟨_, _, ⟨T996, L996, k996, n996⟩, -, X996, ⟨Lc996, hQ996, l996, y996, z996⟩, st996⟩ := X988.virtualBack hx (y := (⟨oS, "add", "(JJ)Z"⟩ : MethodName)) (z := (⟨oS, "add", "(JJ)Z"⟩ : MethodName)) hown (mvT hZ w37) (mvT hZ w38) (notFace_of_selects (args := #[]) (mvT hZ w40)) (mvT hZ w40) (mvT hZ w39) (by decide) (backOf (W := 0) (own_af2 l Z a0 hw [] ob p3 (4 : Int64) (b2_988) (c2_988) (k2_988) (k3_988) (z2_988) (xs2_988) (ys2_988) (vmo) T988.heap n0 (Nat.le_trans (Nat.le_trans (Nat.le_trans (Nat.le_trans Z0 K41.1) K958c.1) K975c.1) K988c.1) f988_5 g_ob f988_6 f988_7 f988_8 f988_9 f988_11 f988_12 g_b2_988 g_c2_988 f988_2 f988_3 f988_4 (own_ge2 f975_13 f988_13 hzc) f988_14 f988_15 f988_10 f988_18 (own_nqgf f988_17 hA hB) (own_ltgf f988_17 hA hB) (own_bbgf (f988_16.trans f975_16) f988_17 hA hB)) hZ w41 w2 (by decide) (by decide)) q996a q996c (g := (mkF m 80 #[lv p1, sN, lv p2, sN, lv p3, sN, iv p4, iv vsm, iv vmo, rv ob, lv (((8 : Int64) * ((z1 + z1).toInt64)) + (0 : Int64)), sN, uN, uN, uN, uN, uN, uN, uN, uN, uN, uN] [(.long 4), (.long p3), (.ref ob)])) rfl (by rw [hml]; rfl) (Steps.refl _) (argsL := [(.long p3), (.long 4)]) (rest := []) (lenOf own_pd10 rfl) rfl (by show 2 * 0 + _ ≤ _; exact Nat.le_of_eq rfl) (hb hby at_80) (fun _ _ => ⟨rfl, rfl, (Nat.le_trans (m := 32) (by dsimp only [Pt.cells, Pt.slots]; omega) (by decide)), (Nat.le_trans (m := 256) (by dsimp only [Pt.cells, Pt.slots]; omega) (by decide))⟩)
        dsimp only [Pt.U, Pt.locs, Pt.cells, Pt.slots] at X996 l996 y996 z996 st996 hQ996
        subst y996 z996
        obtain ⟨ys2_996, rfl, N996q, K996c, f996_0, f996_1⟩ := hQ996
        have N996 : Fr n0 L996 := by rw [l996]; exact Fr.app N988 N996q
        refine own_jump st996 ?_
        have K997 : Keep h0 T996.heap [] := K989.trans K996c (allS (Or.inr sz_c2_988) all0)
        show gM p e below _ T996 m 83 #[lv p1, sN, lv p2, sN, lv p3, sN, iv p4, iv vsm, iv vmo, rv ob, lv (((8 : Int64) * ((z1 + z1).toInt64)) + (0 : Int64)), sN, uN, uN, uN, uN, uN, uN, uN, uN, uN, uN] [(.int 0)]
        refine sT (fun t k => XS.pop X996.here hx rfl (hb hby at_83) rfl rfl k) ?_
        show gM p e below _ T996 m 84 #[lv p1, sN, lv p2, sN, lv p3, sN, iv p4, iv vsm, iv vmo, rv ob, lv (((8 : Int64) * ((z1 + z1).toInt64)) + (0 : Int64)), sN, uN, uN, uN, uN, uN, uN, uN, uN, uN, uN] []
        refine sT (fun t k => XS.aload X996.here hx rfl (hb hby at_84) rfl rfl k) ?_
        show gM p e below _ T996 m 86 #[lv p1, sN, lv p2, sN, lv p3, sN, iv p4, iv vsm, iv vmo, rv ob, lv (((8 : Int64) * ((z1 + z1).toInt64)) + (0 : Int64)), sN, uN, uN, uN, uN, uN, uN, uN, uN, uN, uN] [(.ref ob)]
        obtain ⟨cq998, kq998, q998a, q998b, q998c⟩ := isOf hZ rfl (f988_5.keep K996c)
        obtain ⟨_, _, ⟨T998, L998, k998, n998⟩, -, X998, ⟨Lc998, hQ998, l998, y998, z998⟩, st998⟩ := X996.virtualBack hx (y := (⟨oS, "bytes", "()J"⟩ : MethodName)) (z := (⟨oS, "bytes", "()J"⟩ : MethodName)) hown (mvT hZ w29) (mvT hZ w30) (notFace_of_selects (args := #[]) (mvT hZ w32)) (mvT hZ w32) (mvT hZ w31) (by decide) (backOf (W := 0) (own_bN l Z a0 hw [] ob (b2_988) (c2_988) (k2_988) (k3_988) (z2_988) (z2_988) (xs2_988) (ys2_996) T996.heap n0 (Nat.le_trans (Nat.le_trans (Nat.le_trans (Nat.le_trans (Nat.le_trans Z0 K41.1) K958c.1) K975c.1) K988c.1) K996c.1) (f988_8.keep K996c (ninS f988_3 nin0)) (f988_9.keep K996c (ninS f988_3 nin0)) (f988_18.keep K996c (ninS f988_3 nin0)) (f988_11.keep K996c (ninS f988_4 nin0)) f996_0) hZ w33 w2 (by decide) (by decide)) q998a q998c (g := (mkF m 86 #[lv p1, sN, lv p2, sN, lv p3, sN, iv p4, iv vsm, iv vmo, rv ob, lv (((8 : Int64) * ((z1 + z1).toInt64)) + (0 : Int64)), sN, uN, uN, uN, uN, uN, uN, uN, uN, uN, uN] [(.ref ob)])) rfl (by rw [hml]; rfl) (Steps.refl _) (argsL := []) (rest := []) (lenOf own_pd9 rfl) rfl (by show 2 * 0 + _ ≤ _; exact Nat.le_of_eq rfl) (hb hby at_86) (fun _ _ => ⟨rfl, rfl, (Nat.le_trans (m := 32) (by dsimp only [Pt.cells, Pt.slots]; omega) (by decide)), (Nat.le_trans (m := 256) (by dsimp only [Pt.cells, Pt.slots]; omega) (by decide))⟩)
        dsimp only [Pt.U, Pt.locs, Pt.cells, Pt.slots] at X998 l998 y998 z998 st998 hQ998
        subst y998 z998
        obtain ⟨rfl, N998q, eh998⟩ := hQ998
        have N998 : Fr n0 L998 := by rw [l998]; exact Fr.app N996 N998q
        refine own_jump st998 ?_
        show gM p e below _ T998 m 89 #[lv p1, sN, lv p2, sN, lv p3, sN, iv p4, iv vsm, iv vmo, rv ob, lv (((8 : Int64) * ((z1 + z1).toInt64)) + (0 : Int64)), sN, uN, uN, uN, uN, uN, uN, uN, uN, uN, uN] [(.long (((8 : Int64) * ((z2_988 + z2_988).toInt64)) + (0 : Int64)))]
        exact J89 T998 _ _ _ X998 N998 (Nat.le_trans (m := 32) (by omega) (by decide)) (Nat.le_trans (m := 256) (by omega) (by decide)) _ (own_leaf_gf hzc f975_13 f988_13 hA hB)
      · --
        refine sT (fun t k => XS.aload X988.here hx rfl (hb hby at_73) rfl rfl k) ?_
        show gM p e below _ T988 m 75 #[lv p1, sN, lv p2, sN, lv p3, sN, iv p4, iv vsm, iv vmo, rv ob, lv (((8 : Int64) * ((z1 + z1).toInt64)) + (0 : Int64)), sN, uN, uN, uN, uN, uN, uN, uN, uN, uN, uN] [(.ref ob)]
        refine sT (fun t k => XS.lload X988.here hx rfl (hb hby at_75) rfl k) ?_
        show gM p e below _ T988 m 77 #[lv p1, sN, lv p2, sN, lv p3, sN, iv p4, iv vsm, iv vmo, rv ob, lv (((8 : Int64) * ((z1 + z1).toInt64)) + (0 : Int64)), sN, uN, uN, uN, uN, uN, uN, uN, uN, uN, uN] [(.long p3), (.ref ob)]
        refine sT (fun t k => X988.ldc2Long hx hown (mvT hZ w71) (g := (mkF m 77 #[lv p1, sN, lv p2, sN, lv p3, sN, iv p4, iv vsm, iv vmo, rv ob, lv (((8 : Int64) * ((z1 + z1).toInt64)) + (0 : Int64)), sN, uN, uN, uN, uN, uN, uN, uN, uN, uN, uN] [(.long p3), (.ref ob)])) rfl (hb hby at_77) _ k) ?_
        show gM p e below _ T988 m 80 #[lv p1, sN, lv p2, sN, lv p3, sN, iv p4, iv vsm, iv vmo, rv ob, lv (((8 : Int64) * ((z1 + z1).toInt64)) + (0 : Int64)), sN, uN, uN, uN, uN, uN, uN, uN, uN, uN, uN] [(.long 4), (.long p3), (.ref ob)]
        obtain ⟨cq999, kq999, q999a, q999b, q999c⟩ := isOf hZ rfl f988_5
        obtain ⟨_, _, ⟨T999, L999, k999, n999⟩, -, X999, ⟨Lc999, hQ999, l999, y999, z999⟩, st999⟩ := X988.virtualBack hx (y := (⟨oS, "add", "(JJ)Z"⟩ : MethodName)) (z := (⟨oS, "add", "(JJ)Z"⟩ : MethodName)) hown (mvT hZ w37) (mvT hZ w38) (notFace_of_selects (args := #[]) (mvT hZ w40)) (mvT hZ w40) (mvT hZ w39) (by decide) (backOf (W := 0) (own_al2 l Z a0 hw [] ob p3 (4 : Int64) (b2_988) (c2_988) (k2_988) (k3_988) (z2_988) (xs2_988) (ys2_988) (vmo) T988.heap n0 (Nat.le_trans (Nat.le_trans (Nat.le_trans (Nat.le_trans Z0 K41.1) K958c.1) K975c.1) K988c.1) f988_5 g_ob f988_6 f988_7 f988_8 f988_9 f988_11 f988_12 g_b2_988 g_c2_988 f988_2 f988_3 f988_4 (own_ge2 f975_13 f988_13 hzc) f988_14 f988_15 f988_10 f988_18 (own_nqgl f988_17 hA hB) (own_ltgl f988_17 hA hB) (own_bbgl (f988_16.trans f975_16) f988_17 hA hB)) hZ w41 w2 (by decide) (by decide)) q999a q999c (g := (mkF m 80 #[lv p1, sN, lv p2, sN, lv p3, sN, iv p4, iv vsm, iv vmo, rv ob, lv (((8 : Int64) * ((z1 + z1).toInt64)) + (0 : Int64)), sN, uN, uN, uN, uN, uN, uN, uN, uN, uN, uN] [(.long 4), (.long p3), (.ref ob)])) rfl (by rw [hml]; rfl) (Steps.refl _) (argsL := [(.long p3), (.long 4)]) (rest := []) (lenOf own_pd10 rfl) rfl (by show 2 * 0 + _ ≤ _; exact Nat.le_of_eq rfl) (hb hby at_80) (fun _ _ => ⟨rfl, rfl, (Nat.le_trans (m := 32) (by dsimp only [Pt.cells, Pt.slots]; omega) (by decide)), (Nat.le_trans (m := 256) (by dsimp only [Pt.cells, Pt.slots]; omega) (by decide))⟩)
        dsimp only [Pt.U, Pt.locs, Pt.cells, Pt.slots] at X999 l999 y999 z999 st999 hQ999
        subst y999 z999
        obtain ⟨b2_999, c2_999, k2_999, k3_999, z2_999, xs2_999, ys2_999, tt_999, kt_999, rfl, N999q, K999c, f999_0, f999_1, f999_2, f999_3, f999_4, f999_5, f999_6, f999_7, f999_8, f999_9, f999_10, f999_11, f999_12, f999_13, f999_14, f999_15, f999_16, f999_17, f999_18, f999_19, f999_20, f999_21, f999_22, f999_23, f999_24⟩ := hQ999
        have N999 : Fr n0 L999 := by rw [l999]; exact Fr.app N988 N999q
        refine own_jump st999 ?_
        have K1000 : Keep h0 T999.heap [] := K989.trans K999c (allS (Or.inr sz_ob) (allS (Or.inr sz_b2_988) (allS (Or.inr sz_c2_988) all0)))
        have sz_tt_999 : h0.size ≤ tt_999 := Nat.le_trans K989.1 f999_19
        have g_tt_999 : n0 ≤ tt_999 := Nat.le_trans Z0 sz_tt_999
        show gM p e below _ T999 m 83 #[lv p1, sN, lv p2, sN, lv p3, sN, iv p4, iv vsm, iv vmo, rv ob, lv (((8 : Int64) * ((z1 + z1).toInt64)) + (0 : Int64)), sN, uN, uN, uN, uN, uN, uN, uN, uN, uN, uN] [(.int 1)]
        have sz_b2_999 : h0.size ≤ b2_999 := f999_0.elim (Nat.le_trans K989.1) (fun e => e ▸ sz_b2_988)
        have g_b2_999 : n0 ≤ b2_999 := Nat.le_trans Z0 sz_b2_999
        have sz_c2_999 : h0.size ≤ c2_999 := f999_1.elim (Nat.le_trans K989.1) (fun e => e ▸ sz_c2_988)
        have g_c2_999 : n0 ≤ c2_999 := Nat.le_trans Z0 sz_c2_999
        refine sT (fun t k => XS.pop X999.here hx rfl (hb hby at_83) rfl rfl k) ?_
        show gM p e below _ T999 m 84 #[lv p1, sN, lv p2, sN, lv p3, sN, iv p4, iv vsm, iv vmo, rv ob, lv (((8 : Int64) * ((z1 + z1).toInt64)) + (0 : Int64)), sN, uN, uN, uN, uN, uN, uN, uN, uN, uN, uN] []
        refine sT (fun t k => XS.aload X999.here hx rfl (hb hby at_84) rfl rfl k) ?_
        show gM p e below _ T999 m 86 #[lv p1, sN, lv p2, sN, lv p3, sN, iv p4, iv vsm, iv vmo, rv ob, lv (((8 : Int64) * ((z1 + z1).toInt64)) + (0 : Int64)), sN, uN, uN, uN, uN, uN, uN, uN, uN, uN, uN] [(.ref ob)]
        obtain ⟨cq1001, kq1001, q1001a, q1001b, q1001c⟩ := isOf hZ rfl f999_5
        obtain ⟨_, _, ⟨T1001, L1001, k1001, n1001⟩, -, X1001, ⟨Lc1001, hQ1001, l1001, y1001, z1001⟩, st1001⟩ := X999.virtualBack hx (y := (⟨oS, "bytes", "()J"⟩ : MethodName)) (z := (⟨oS, "bytes", "()J"⟩ : MethodName)) hown (mvT hZ w29) (mvT hZ w30) (notFace_of_selects (args := #[]) (mvT hZ w32)) (mvT hZ w32) (mvT hZ w31) (by decide) (backOf (W := 0) (own_bT l Z a0 hw [] ob (b2_999) (c2_999) (k2_999) (k3_999) (tt_999) (kt_999) (z2_999) (z2_999) (xs2_999) (ys2_999) (((List.replicate 32 (0 : Int32)).set ((own_h p3).toNatClampNeg) (3 : Int32))) T999.heap n0 (Nat.le_trans (Nat.le_trans (Nat.le_trans (Nat.le_trans (Nat.le_trans Z0 K41.1) K958c.1) K975c.1) K988c.1) K999c.1) f999_8 f999_9 f999_23 f999_11 f999_12 f999_24) hZ w33 w2 (by decide) (by decide)) q1001a q1001c (g := (mkF m 86 #[lv p1, sN, lv p2, sN, lv p3, sN, iv p4, iv vsm, iv vmo, rv ob, lv (((8 : Int64) * ((z1 + z1).toInt64)) + (0 : Int64)), sN, uN, uN, uN, uN, uN, uN, uN, uN, uN, uN] [(.ref ob)])) rfl (by rw [hml]; rfl) (Steps.refl _) (argsL := []) (rest := []) (lenOf own_pd9 rfl) rfl (by show 2 * 0 + _ ≤ _; exact Nat.le_of_eq rfl) (hb hby at_86) (fun _ _ => ⟨rfl, rfl, (Nat.le_trans (m := 32) (by dsimp only [Pt.cells, Pt.slots]; omega) (by decide)), (Nat.le_trans (m := 256) (by dsimp only [Pt.cells, Pt.slots]; omega) (by decide))⟩)
        dsimp only [Pt.U, Pt.locs, Pt.cells, Pt.slots] at X1001 l1001 y1001 z1001 st1001 hQ1001
        subst y1001 z1001
        obtain ⟨rfl, N1001q, eh1001⟩ := hQ1001
        have N1001 : Fr n0 L1001 := by rw [l1001]; exact Fr.app N999 N1001q
        refine own_jump st1001 ?_
        show gM p e below _ T1001 m 89 #[lv p1, sN, lv p2, sN, lv p3, sN, iv p4, iv vsm, iv vmo, rv ob, lv (((8 : Int64) * ((z1 + z1).toInt64)) + (0 : Int64)), sN, uN, uN, uN, uN, uN, uN, uN, uN, uN, uN] [(.long (((8 : Int64) * ((z2_999 + z2_999).toInt64)) + ((4 : Int64) * ((32 : Int32).toInt64))))]
        exact J89 T1001 _ _ _ X1001 N1001 (Nat.le_trans (m := 32) (by omega) (by decide)) (Nat.le_trans (m := 256) (by omega) (by decide)) _ (own_leaf_gl hzc f975_13 f988_13 f999_13 hA hB)
    · --
      refine sT (fun t k => XS.aload X975.here hx rfl (hb hby at_63) rfl rfl k) ?_
      show gM p e below _ T975 m 65 #[lv p1, sN, lv p2, sN, lv p3, sN, iv p4, iv vsm, iv vmo, rv ob, lv (((8 : Int64) * ((z1 + z1).toInt64)) + (0 : Int64)), sN, uN, uN, uN, uN, uN, uN, uN, uN, uN, uN] [(.ref ob)]
      refine sT (fun t k => XS.lloadN X975.here hx rfl (hb hby at_65) rfl k) ?_
      show gM p e below _ T975 m 66 #[lv p1, sN, lv p2, sN, lv p3, sN, iv p4, iv vsm, iv vmo, rv ob, lv (((8 : Int64) * ((z1 + z1).toInt64)) + (0 : Int64)), sN, uN, uN, uN, uN, uN, uN, uN, uN, uN, uN] [(.long p2), (.ref ob)]
      refine sT (fun t k => X975.ldc2Long hx hown (mvT hZ w50) (g := (mkF m 66 #[lv p1, sN, lv p2, sN, lv p3, sN, iv p4, iv vsm, iv vmo, rv ob, lv (((8 : Int64) * ((z1 + z1).toInt64)) + (0 : Int64)), sN, uN, uN, uN, uN, uN, uN, uN, uN, uN, uN] [(.long p2), (.ref ob)])) rfl (hb hby at_66) _ k) ?_
      show gM p e below _ T975 m 69 #[lv p1, sN, lv p2, sN, lv p3, sN, iv p4, iv vsm, iv vmo, rv ob, lv (((8 : Int64) * ((z1 + z1).toInt64)) + (0 : Int64)), sN, uN, uN, uN, uN, uN, uN, uN, uN, uN, uN] [(.long 2), (.long p2), (.ref ob)]
      obtain ⟨cq1002, kq1002, q1002a, q1002b, q1002c⟩ := isOf hZ rfl f975_5
      obtain ⟨_, _, ⟨T1002, L1002, k1002, n1002⟩, -, X1002, ⟨Lc1002, hQ1002, l1002, y1002, z1002⟩, st1002⟩ := X975.virtualBack hx (y := (⟨oS, "add", "(JJ)Z"⟩ : MethodName)) (z := (⟨oS, "add", "(JJ)Z"⟩ : MethodName)) hown (mvT hZ w37) (mvT hZ w38) (notFace_of_selects (args := #[]) (mvT hZ w40)) (mvT hZ w40) (mvT hZ w39) (by decide) (backOf (W := 0) (own_al1 l Z a0 hw [] ob p2 (2 : Int64) (b2_975) (c2_975) (k2_975) (k3_975) (z2_975) (xs2_975) (ys2_975) (vmo) T975.heap n0 (Nat.le_trans (Nat.le_trans (Nat.le_trans Z0 K41.1) K958c.1) K975c.1) f975_5 g_ob f975_6 f975_7 f975_8 f975_9 f975_11 f975_12 g_b2_975 g_c2_975 f975_2 f975_3 f975_4 (own_ge1 f975_13 hzc) f975_14 f975_15 f975_10 f975_17 (own_nql f975_16 hA) (own_lt' f975_16 hA) (own_b1 f975_16 hA)) hZ w41 w2 (by decide) (by decide)) q1002a q1002c (g := (mkF m 69 #[lv p1, sN, lv p2, sN, lv p3, sN, iv p4, iv vsm, iv vmo, rv ob, lv (((8 : Int64) * ((z1 + z1).toInt64)) + (0 : Int64)), sN, uN, uN, uN, uN, uN, uN, uN, uN, uN, uN] [(.long 2), (.long p2), (.ref ob)])) rfl (by rw [hml]; rfl) (Steps.refl _) (argsL := [(.long p2), (.long 2)]) (rest := []) (lenOf own_pd10 rfl) rfl (by show 2 * 0 + _ ≤ _; exact Nat.le_of_eq rfl) (hb hby at_69) (fun _ _ => ⟨rfl, rfl, (Nat.le_trans (m := 32) (by dsimp only [Pt.cells, Pt.slots]; omega) (by decide)), (Nat.le_trans (m := 256) (by dsimp only [Pt.cells, Pt.slots]; omega) (by decide))⟩)
      dsimp only [Pt.U, Pt.locs, Pt.cells, Pt.slots] at X1002 l1002 y1002 z1002 st1002 hQ1002
      subst y1002 z1002
      obtain ⟨b2_1002, c2_1002, k2_1002, k3_1002, z2_1002, xs2_1002, ys2_1002, tt_1002, kt_1002, rfl, N1002q, K1002c, f1002_0, f1002_1, f1002_2, f1002_3, f1002_4, f1002_5, f1002_6, f1002_7, f1002_8, f1002_9, f1002_10, f1002_11, f1002_12, f1002_13, f1002_14, f1002_15, f1002_16, f1002_17, f1002_18, f1002_19, f1002_20, f1002_21, f1002_22, f1002_23⟩ := hQ1002
      have N1002 : Fr n0 L1002 := by rw [l1002]; exact Fr.app N975 N1002q
      refine own_jump st1002 ?_
      have K1003 : Keep h0 T1002.heap [] := K976.trans K1002c (allS (Or.inr sz_ob) (allS (Or.inr sz_b2_975) (allS (Or.inr sz_c2_975) all0)))
      have sz_tt_1002 : h0.size ≤ tt_1002 := Nat.le_trans K976.1 f1002_18
      have g_tt_1002 : n0 ≤ tt_1002 := Nat.le_trans Z0 sz_tt_1002
      show gM p e below _ T1002 m 72 #[lv p1, sN, lv p2, sN, lv p3, sN, iv p4, iv vsm, iv vmo, rv ob, lv (((8 : Int64) * ((z1 + z1).toInt64)) + (0 : Int64)), sN, uN, uN, uN, uN, uN, uN, uN, uN, uN, uN] [(.int 1)]
      have sz_b2_1002 : h0.size ≤ b2_1002 := f1002_0.elim (Nat.le_trans K976.1) (fun e => e ▸ sz_b2_975)
      have g_b2_1002 : n0 ≤ b2_1002 := Nat.le_trans Z0 sz_b2_1002
      have sz_c2_1002 : h0.size ≤ c2_1002 := f1002_1.elim (Nat.le_trans K976.1) (fun e => e ▸ sz_c2_975)
      have g_c2_1002 : n0 ≤ c2_1002 := Nat.le_trans Z0 sz_c2_1002
      refine sT (fun t k => XS.pop X1002.here hx rfl (hb hby at_72) rfl rfl k) ?_
      show gM p e below _ T1002 m 73 #[lv p1, sN, lv p2, sN, lv p3, sN, iv p4, iv vsm, iv vmo, rv ob, lv (((8 : Int64) * ((z1 + z1).toInt64)) + (0 : Int64)), sN, uN, uN, uN, uN, uN, uN, uN, uN, uN, uN] []
      rcases own_altl (b0 := p1) (b1 := p2) p3 hA with hB | hB | hB
      · --
        refine sT (fun t k => XS.aload X1002.here hx rfl (hb hby at_73) rfl rfl k) ?_
        show gM p e below _ T1002 m 75 #[lv p1, sN, lv p2, sN, lv p3, sN, iv p4, iv vsm, iv vmo, rv ob, lv (((8 : Int64) * ((z1 + z1).toInt64)) + (0 : Int64)), sN, uN, uN, uN, uN, uN, uN, uN, uN, uN, uN] [(.ref ob)]
        refine sT (fun t k => XS.lload X1002.here hx rfl (hb hby at_75) rfl k) ?_
        show gM p e below _ T1002 m 77 #[lv p1, sN, lv p2, sN, lv p3, sN, iv p4, iv vsm, iv vmo, rv ob, lv (((8 : Int64) * ((z1 + z1).toInt64)) + (0 : Int64)), sN, uN, uN, uN, uN, uN, uN, uN, uN, uN, uN] [(.long p3), (.ref ob)]
        refine sT (fun t k => X1002.ldc2Long hx hown (mvT hZ w71) (g := (mkF m 77 #[lv p1, sN, lv p2, sN, lv p3, sN, iv p4, iv vsm, iv vmo, rv ob, lv (((8 : Int64) * ((z1 + z1).toInt64)) + (0 : Int64)), sN, uN, uN, uN, uN, uN, uN, uN, uN, uN, uN] [(.long p3), (.ref ob)])) rfl (hb hby at_77) _ k) ?_
        show gM p e below _ T1002 m 80 #[lv p1, sN, lv p2, sN, lv p3, sN, iv p4, iv vsm, iv vmo, rv ob, lv (((8 : Int64) * ((z1 + z1).toInt64)) + (0 : Int64)), sN, uN, uN, uN, uN, uN, uN, uN, uN, uN, uN] [(.long 4), (.long p3), (.ref ob)]
        obtain ⟨cq1004, kq1004, q1004a, q1004b, q1004c⟩ := isOf hZ rfl f1002_5
        obtain ⟨_, _, ⟨T1004, L1004, k1004, n1004⟩, -, X1004, ⟨Lc1004, hQ1004, l1004, y1004, z1004⟩, st1004⟩ := X1002.virtualBack hx (y := (⟨oS, "add", "(JJ)Z"⟩ : MethodName)) (z := (⟨oS, "add", "(JJ)Z"⟩ : MethodName)) hown (mvT hZ w37) (mvT hZ w38) (notFace_of_selects (args := #[]) (mvT hZ w40)) (mvT hZ w40) (mvT hZ w39) (by decide) (backOf (W := 0) (own_ae2 l Z a0 hw [] ob p3 (4 : Int64) (b2_1002) (c2_1002) (k2_1002) (k3_1002) (z2_1002) (xs2_1002) (ys2_1002) (vmo) T1002.heap n0 (Nat.le_trans (Nat.le_trans (Nat.le_trans (Nat.le_trans Z0 K41.1) K958c.1) K975c.1) K1002c.1) f1002_5 g_ob f1002_6 f1002_7 f1002_8 f1002_9 f1002_11 f1002_12 g_b2_1002 g_c2_1002 f1002_2 f1002_3 f1002_4 (own_ge2 f975_13 f1002_13 hzc) f1002_14 f1002_15 (f1002_17.trans hB)) hZ w41 w2 (by decide) (by decide)) q1004a q1004c (g := (mkF m 80 #[lv p1, sN, lv p2, sN, lv p3, sN, iv p4, iv vsm, iv vmo, rv ob, lv (((8 : Int64) * ((z1 + z1).toInt64)) + (0 : Int64)), sN, uN, uN, uN, uN, uN, uN, uN, uN, uN, uN] [(.long 4), (.long p3), (.ref ob)])) rfl (by rw [hml]; rfl) (Steps.refl _) (argsL := [(.long p3), (.long 4)]) (rest := []) (lenOf own_pd10 rfl) rfl (by show 2 * 0 + _ ≤ _; exact Nat.le_of_eq rfl) (hb hby at_80) (fun _ _ => ⟨rfl, rfl, (Nat.le_trans (m := 32) (by dsimp only [Pt.cells, Pt.slots]; omega) (by decide)), (Nat.le_trans (m := 256) (by dsimp only [Pt.cells, Pt.slots]; omega) (by decide))⟩)
        dsimp only [Pt.U, Pt.locs, Pt.cells, Pt.slots] at X1004 l1004 y1004 z1004 st1004 hQ1004
        subst y1004 z1004
        obtain ⟨ys2_1004, rfl, N1004q, K1004c, f1004_0, f1004_1⟩ := hQ1004
        have N1004 : Fr n0 L1004 := by rw [l1004]; exact Fr.app N1002 N1004q
        refine own_jump st1004 ?_
        have K1005 : Keep h0 T1004.heap [] := K1003.trans K1004c (allS (Or.inr sz_c2_1002) all0)
        show gM p e below _ T1004 m 83 #[lv p1, sN, lv p2, sN, lv p3, sN, iv p4, iv vsm, iv vmo, rv ob, lv (((8 : Int64) * ((z1 + z1).toInt64)) + (0 : Int64)), sN, uN, uN, uN, uN, uN, uN, uN, uN, uN, uN] [(.int 0)]
        refine sT (fun t k => XS.pop X1004.here hx rfl (hb hby at_83) rfl rfl k) ?_
        show gM p e below _ T1004 m 84 #[lv p1, sN, lv p2, sN, lv p3, sN, iv p4, iv vsm, iv vmo, rv ob, lv (((8 : Int64) * ((z1 + z1).toInt64)) + (0 : Int64)), sN, uN, uN, uN, uN, uN, uN, uN, uN, uN, uN] []
        refine sT (fun t k => XS.aload X1004.here hx rfl (hb hby at_84) rfl rfl k) ?_
        show gM p e below _ T1004 m 86 #[lv p1, sN, lv p2, sN, lv p3, sN, iv p4, iv vsm, iv vmo, rv ob, lv (((8 : Int64) * ((z1 + z1).toInt64)) + (0 : Int64)), sN, uN, uN, uN, uN, uN, uN, uN, uN, uN, uN] [(.ref ob)]
        obtain ⟨cq1006, kq1006, q1006a, q1006b, q1006c⟩ := isOf hZ rfl (f1002_5.keep K1004c)
        obtain ⟨_, _, ⟨T1006, L1006, k1006, n1006⟩, -, X1006, ⟨Lc1006, hQ1006, l1006, y1006, z1006⟩, st1006⟩ := X1004.virtualBack hx (y := (⟨oS, "bytes", "()J"⟩ : MethodName)) (z := (⟨oS, "bytes", "()J"⟩ : MethodName)) hown (mvT hZ w29) (mvT hZ w30) (notFace_of_selects (args := #[]) (mvT hZ w32)) (mvT hZ w32) (mvT hZ w31) (by decide) (backOf (W := 0) (own_bT l Z a0 hw [] ob (b2_1002) (c2_1002) (k2_1002) (k3_1002) (tt_1002) (kt_1002) (z2_1002) (z2_1002) (xs2_1002) (ys2_1004) (((List.replicate 32 (0 : Int32)).set ((own_h p2).toNatClampNeg) (2 : Int32))) T1004.heap n0 (Nat.le_trans (Nat.le_trans (Nat.le_trans (Nat.le_trans (Nat.le_trans Z0 K41.1) K958c.1) K975c.1) K1002c.1) K1004c.1) (f1002_8.keep K1004c (ninS f1002_3 nin0)) (f1002_9.keep K1004c (ninS f1002_3 nin0)) (f1002_22.keep K1004c (ninS f1002_3 nin0)) (f1002_11.keep K1004c (ninS f1002_4 nin0)) f1004_0 (f1002_23.keep K1004c (ninS (Ne.symm f1002_21) nin0))) hZ w33 w2 (by decide) (by decide)) q1006a q1006c (g := (mkF m 86 #[lv p1, sN, lv p2, sN, lv p3, sN, iv p4, iv vsm, iv vmo, rv ob, lv (((8 : Int64) * ((z1 + z1).toInt64)) + (0 : Int64)), sN, uN, uN, uN, uN, uN, uN, uN, uN, uN, uN] [(.ref ob)])) rfl (by rw [hml]; rfl) (Steps.refl _) (argsL := []) (rest := []) (lenOf own_pd9 rfl) rfl (by show 2 * 0 + _ ≤ _; exact Nat.le_of_eq rfl) (hb hby at_86) (fun _ _ => ⟨rfl, rfl, (Nat.le_trans (m := 32) (by dsimp only [Pt.cells, Pt.slots]; omega) (by decide)), (Nat.le_trans (m := 256) (by dsimp only [Pt.cells, Pt.slots]; omega) (by decide))⟩)
        dsimp only [Pt.U, Pt.locs, Pt.cells, Pt.slots] at X1006 l1006 y1006 z1006 st1006 hQ1006
        subst y1006 z1006
        obtain ⟨rfl, N1006q, eh1006⟩ := hQ1006
        have N1006 : Fr n0 L1006 := by rw [l1006]; exact Fr.app N1004 N1006q
        refine own_jump st1006 ?_
        show gM p e below _ T1006 m 89 #[lv p1, sN, lv p2, sN, lv p3, sN, iv p4, iv vsm, iv vmo, rv ob, lv (((8 : Int64) * ((z1 + z1).toInt64)) + (0 : Int64)), sN, uN, uN, uN, uN, uN, uN, uN, uN, uN, uN] [(.long (((8 : Int64) * ((z2_1002 + z2_1002).toInt64)) + ((4 : Int64) * ((32 : Int32).toInt64))))]
        exact J89 T1006 _ _ _ X1006 N1006 (Nat.le_trans (m := 32) (by omega) (by decide)) (Nat.le_trans (m := 256) (by omega) (by decide)) _ (own_leaf_le hzc f975_13 f1002_13 hA hB)
      · --
        refine sT (fun t k => XS.aload X1002.here hx rfl (hb hby at_73) rfl rfl k) ?_
        show gM p e below _ T1002 m 75 #[lv p1, sN, lv p2, sN, lv p3, sN, iv p4, iv vsm, iv vmo, rv ob, lv (((8 : Int64) * ((z1 + z1).toInt64)) + (0 : Int64)), sN, uN, uN, uN, uN, uN, uN, uN, uN, uN, uN] [(.ref ob)]
        refine sT (fun t k => XS.lload X1002.here hx rfl (hb hby at_75) rfl k) ?_
        show gM p e below _ T1002 m 77 #[lv p1, sN, lv p2, sN, lv p3, sN, iv p4, iv vsm, iv vmo, rv ob, lv (((8 : Int64) * ((z1 + z1).toInt64)) + (0 : Int64)), sN, uN, uN, uN, uN, uN, uN, uN, uN, uN, uN] [(.long p3), (.ref ob)]
        refine sT (fun t k => X1002.ldc2Long hx hown (mvT hZ w71) (g := (mkF m 77 #[lv p1, sN, lv p2, sN, lv p3, sN, iv p4, iv vsm, iv vmo, rv ob, lv (((8 : Int64) * ((z1 + z1).toInt64)) + (0 : Int64)), sN, uN, uN, uN, uN, uN, uN, uN, uN, uN, uN] [(.long p3), (.ref ob)])) rfl (hb hby at_77) _ k) ?_
        show gM p e below _ T1002 m 80 #[lv p1, sN, lv p2, sN, lv p3, sN, iv p4, iv vsm, iv vmo, rv ob, lv (((8 : Int64) * ((z1 + z1).toInt64)) + (0 : Int64)), sN, uN, uN, uN, uN, uN, uN, uN, uN, uN, uN] [(.long 4), (.long p3), (.ref ob)]
        obtain ⟨cq1007, kq1007, q1007a, q1007b, q1007c⟩ := isOf hZ rfl f1002_5
        obtain ⟨_, _, ⟨T1007, L1007, k1007, n1007⟩, -, X1007, ⟨Lc1007, hQ1007, l1007, y1007, z1007⟩, st1007⟩ := X1002.virtualBack hx (y := (⟨oS, "add", "(JJ)Z"⟩ : MethodName)) (z := (⟨oS, "add", "(JJ)Z"⟩ : MethodName)) hown (mvT hZ w37) (mvT hZ w38) (notFace_of_selects (args := #[]) (mvT hZ w40)) (mvT hZ w40) (mvT hZ w39) (by decide) (backOf (W := 0) (own_af1 l Z a0 hw [] ob p3 (4 : Int64) (b2_1002) (c2_1002) (k2_1002) (k3_1002) (z2_1002) (xs2_1002) (ys2_1002) (vmo) (tt_1002) T1002.heap n0 (Nat.le_trans (Nat.le_trans (Nat.le_trans (Nat.le_trans Z0 K41.1) K958c.1) K975c.1) K1002c.1) f1002_5 g_ob f1002_6 f1002_7 f1002_8 f1002_9 f1002_11 f1002_12 g_b2_1002 g_c2_1002 f1002_2 f1002_3 f1002_4 (own_ge2 f975_13 f1002_13 hzc) f1002_14 f1002_15 f1002_10 f1002_22 (own_nqlf f1002_17 hA hB) (own_bblf (f1002_16.trans f975_16) f1002_17 hA hB)) hZ w41 w2 (by decide) (by decide)) q1007a q1007c (g := (mkF m 80 #[lv p1, sN, lv p2, sN, lv p3, sN, iv p4, iv vsm, iv vmo, rv ob, lv (((8 : Int64) * ((z1 + z1).toInt64)) + (0 : Int64)), sN, uN, uN, uN, uN, uN, uN, uN, uN, uN, uN] [(.long 4), (.long p3), (.ref ob)])) rfl (by rw [hml]; rfl) (Steps.refl _) (argsL := [(.long p3), (.long 4)]) (rest := []) (lenOf own_pd10 rfl) rfl (by show 2 * 0 + _ ≤ _; exact Nat.le_of_eq rfl) (hb hby at_80) (fun _ _ => ⟨rfl, rfl, (Nat.le_trans (m := 32) (by dsimp only [Pt.cells, Pt.slots]; omega) (by decide)), (Nat.le_trans (m := 256) (by dsimp only [Pt.cells, Pt.slots]; omega) (by decide))⟩)
        dsimp only [Pt.U, Pt.locs, Pt.cells, Pt.slots] at X1007 l1007 y1007 z1007 st1007 hQ1007
        subst y1007 z1007
        obtain ⟨ys2_1007, rfl, N1007q, K1007c, f1007_0, f1007_1⟩ := hQ1007
        have N1007 : Fr n0 L1007 := by rw [l1007]; exact Fr.app N1002 N1007q
        refine own_jump st1007 ?_
        have K1008 : Keep h0 T1007.heap [] := K1003.trans K1007c (allS (Or.inr sz_c2_1002) all0)
        show gM p e below _ T1007 m 83 #[lv p1, sN, lv p2, sN, lv p3, sN, iv p4, iv vsm, iv vmo, rv ob, lv (((8 : Int64) * ((z1 + z1).toInt64)) + (0 : Int64)), sN, uN, uN, uN, uN, uN, uN, uN, uN, uN, uN] [(.int 0)]
        refine sT (fun t k => XS.pop X1007.here hx rfl (hb hby at_83) rfl rfl k) ?_
        show gM p e below _ T1007 m 84 #[lv p1, sN, lv p2, sN, lv p3, sN, iv p4, iv vsm, iv vmo, rv ob, lv (((8 : Int64) * ((z1 + z1).toInt64)) + (0 : Int64)), sN, uN, uN, uN, uN, uN, uN, uN, uN, uN, uN] []
        refine sT (fun t k => XS.aload X1007.here hx rfl (hb hby at_84) rfl rfl k) ?_
        show gM p e below _ T1007 m 86 #[lv p1, sN, lv p2, sN, lv p3, sN, iv p4, iv vsm, iv vmo, rv ob, lv (((8 : Int64) * ((z1 + z1).toInt64)) + (0 : Int64)), sN, uN, uN, uN, uN, uN, uN, uN, uN, uN, uN] [(.ref ob)]
        obtain ⟨cq1009, kq1009, q1009a, q1009b, q1009c⟩ := isOf hZ rfl (f1002_5.keep K1007c)
        obtain ⟨_, _, ⟨T1009, L1009, k1009, n1009⟩, -, X1009, ⟨Lc1009, hQ1009, l1009, y1009, z1009⟩, st1009⟩ := X1007.virtualBack hx (y := (⟨oS, "bytes", "()J"⟩ : MethodName)) (z := (⟨oS, "bytes", "()J"⟩ : MethodName)) hown (mvT hZ w29) (mvT hZ w30) (notFace_of_selects (args := #[]) (mvT hZ w32)) (mvT hZ w32) (mvT hZ w31) (by decide) (backOf (W := 0) (own_bT l Z a0 hw [] ob (b2_1002) (c2_1002) (k2_1002) (k3_1002) (tt_1002) (kt_1002) (z2_1002) (z2_1002) (xs2_1002) (ys2_1007) (((List.replicate 32 (0 : Int32)).set ((own_h p2).toNatClampNeg) (2 : Int32))) T1007.heap n0 (Nat.le_trans (Nat.le_trans (Nat.le_trans (Nat.le_trans (Nat.le_trans Z0 K41.1) K958c.1) K975c.1) K1002c.1) K1007c.1) (f1002_8.keep K1007c (ninS f1002_3 nin0)) (f1002_9.keep K1007c (ninS f1002_3 nin0)) (f1002_22.keep K1007c (ninS f1002_3 nin0)) (f1002_11.keep K1007c (ninS f1002_4 nin0)) f1007_0 (f1002_23.keep K1007c (ninS (Ne.symm f1002_21) nin0))) hZ w33 w2 (by decide) (by decide)) q1009a q1009c (g := (mkF m 86 #[lv p1, sN, lv p2, sN, lv p3, sN, iv p4, iv vsm, iv vmo, rv ob, lv (((8 : Int64) * ((z1 + z1).toInt64)) + (0 : Int64)), sN, uN, uN, uN, uN, uN, uN, uN, uN, uN, uN] [(.ref ob)])) rfl (by rw [hml]; rfl) (Steps.refl _) (argsL := []) (rest := []) (lenOf own_pd9 rfl) rfl (by show 2 * 0 + _ ≤ _; exact Nat.le_of_eq rfl) (hb hby at_86) (fun _ _ => ⟨rfl, rfl, (Nat.le_trans (m := 32) (by dsimp only [Pt.cells, Pt.slots]; omega) (by decide)), (Nat.le_trans (m := 256) (by dsimp only [Pt.cells, Pt.slots]; omega) (by decide))⟩)
        dsimp only [Pt.U, Pt.locs, Pt.cells, Pt.slots] at X1009 l1009 y1009 z1009 st1009 hQ1009
        subst y1009 z1009
        obtain ⟨rfl, N1009q, eh1009⟩ := hQ1009
        have N1009 : Fr n0 L1009 := by rw [l1009]; exact Fr.app N1007 N1009q
        refine own_jump st1009 ?_
        show gM p e below _ T1009 m 89 #[lv p1, sN, lv p2, sN, lv p3, sN, iv p4, iv vsm, iv vmo, rv ob, lv (((8 : Int64) * ((z1 + z1).toInt64)) + (0 : Int64)), sN, uN, uN, uN, uN, uN, uN, uN, uN, uN, uN] [(.long (((8 : Int64) * ((z2_1002 + z2_1002).toInt64)) + ((4 : Int64) * ((32 : Int32).toInt64))))]
        exact J89 T1009 _ _ _ X1009 N1009 (Nat.le_trans (m := 32) (by omega) (by decide)) (Nat.le_trans (m := 256) (by omega) (by decide)) _ (own_leaf_lf hzc f975_13 f1002_13 hA hB)
      · --
        refine sT (fun t k => XS.aload X1002.here hx rfl (hb hby at_73) rfl rfl k) ?_
        show gM p e below _ T1002 m 75 #[lv p1, sN, lv p2, sN, lv p3, sN, iv p4, iv vsm, iv vmo, rv ob, lv (((8 : Int64) * ((z1 + z1).toInt64)) + (0 : Int64)), sN, uN, uN, uN, uN, uN, uN, uN, uN, uN, uN] [(.ref ob)]
        refine sT (fun t k => XS.lload X1002.here hx rfl (hb hby at_75) rfl k) ?_
        show gM p e below _ T1002 m 77 #[lv p1, sN, lv p2, sN, lv p3, sN, iv p4, iv vsm, iv vmo, rv ob, lv (((8 : Int64) * ((z1 + z1).toInt64)) + (0 : Int64)), sN, uN, uN, uN, uN, uN, uN, uN, uN, uN, uN] [(.long p3), (.ref ob)]
        refine sT (fun t k => X1002.ldc2Long hx hown (mvT hZ w71) (g := (mkF m 77 #[lv p1, sN, lv p2, sN, lv p3, sN, iv p4, iv vsm, iv vmo, rv ob, lv (((8 : Int64) * ((z1 + z1).toInt64)) + (0 : Int64)), sN, uN, uN, uN, uN, uN, uN, uN, uN, uN, uN] [(.long p3), (.ref ob)])) rfl (hb hby at_77) _ k) ?_
        show gM p e below _ T1002 m 80 #[lv p1, sN, lv p2, sN, lv p3, sN, iv p4, iv vsm, iv vmo, rv ob, lv (((8 : Int64) * ((z1 + z1).toInt64)) + (0 : Int64)), sN, uN, uN, uN, uN, uN, uN, uN, uN, uN, uN] [(.long 4), (.long p3), (.ref ob)]
        obtain ⟨cq1010, kq1010, q1010a, q1010b, q1010c⟩ := isOf hZ rfl f1002_5
        obtain ⟨_, _, ⟨T1010, L1010, k1010, n1010⟩, -, X1010, ⟨Lc1010, hQ1010, l1010, y1010, z1010⟩, st1010⟩ := X1002.virtualBack hx (y := (⟨oS, "add", "(JJ)Z"⟩ : MethodName)) (z := (⟨oS, "add", "(JJ)Z"⟩ : MethodName)) hown (mvT hZ w37) (mvT hZ w38) (notFace_of_selects (args := #[]) (mvT hZ w40)) (mvT hZ w40) (mvT hZ w39) (by decide) (backOf (W := 0) (own_al3 l Z a0 hw [] ob p3 (4 : Int64) (b2_1002) (c2_1002) (k2_1002) (k3_1002) (z2_1002) (xs2_1002) (ys2_1002) (vmo) (tt_1002) (kt_1002) ((own_h p2)) T1002.heap n0 (Nat.le_trans (Nat.le_trans (Nat.le_trans (Nat.le_trans Z0 K41.1) K958c.1) K975c.1) K1002c.1) f1002_5 g_ob f1002_6 f1002_7 f1002_8 f1002_9 f1002_11 f1002_12 g_b2_1002 g_c2_1002 f1002_2 f1002_3 f1002_4 (own_ge2 f975_13 f1002_13 hzc) f1002_14 f1002_15 f1002_10 f1002_22 f1002_23 g_tt_1002 f1002_19 f1002_20 f1002_21 (own_nqll f1002_17 hA hB) (own_hh _) (own_bbll (f1002_16.trans f975_16) f1002_17 hA hB)) hZ w41 w2 (by decide) (by decide)) q1010a q1010c (g := (mkF m 80 #[lv p1, sN, lv p2, sN, lv p3, sN, iv p4, iv vsm, iv vmo, rv ob, lv (((8 : Int64) * ((z1 + z1).toInt64)) + (0 : Int64)), sN, uN, uN, uN, uN, uN, uN, uN, uN, uN, uN] [(.long 4), (.long p3), (.ref ob)])) rfl (by rw [hml]; rfl) (Steps.refl _) (argsL := [(.long p3), (.long 4)]) (rest := []) (lenOf own_pd10 rfl) rfl (by show 2 * 0 + _ ≤ _; exact Nat.le_of_eq rfl) (hb hby at_80) (fun _ _ => ⟨rfl, rfl, (Nat.le_trans (m := 32) (by dsimp only [Pt.cells, Pt.slots]; omega) (by decide)), (Nat.le_trans (m := 256) (by dsimp only [Pt.cells, Pt.slots]; omega) (by decide))⟩)
        dsimp only [Pt.U, Pt.locs, Pt.cells, Pt.slots] at X1010 l1010 y1010 z1010 st1010 hQ1010
        subst y1010 z1010
        obtain ⟨b2_1010, c2_1010, k2_1010, k3_1010, z2_1010, xs2_1010, ys2_1010, rfl, N1010q, K1010c, f1010_0, f1010_1, f1010_2, f1010_3, f1010_4, f1010_5, f1010_6, f1010_7, f1010_8, f1010_9, f1010_10, f1010_11, f1010_12, f1010_13, f1010_14, f1010_15, f1010_16, f1010_17, f1010_18, f1010_19, f1010_20⟩ := hQ1010
        have N1010 : Fr n0 L1010 := by rw [l1010]; exact Fr.app N1002 N1010q
        refine own_jump st1010 ?_
        have K1011 : Keep h0 T1010.heap [] := K1003.trans K1010c (allS (Or.inr sz_ob) (allS (Or.inr sz_b2_1002) (allS (Or.inr sz_c2_1002) (allS (Or.inr sz_tt_1002) all0))))
        show gM p e below _ T1010 m 83 #[lv p1, sN, lv p2, sN, lv p3, sN, iv p4, iv vsm, iv vmo, rv ob, lv (((8 : Int64) * ((z1 + z1).toInt64)) + (0 : Int64)), sN, uN, uN, uN, uN, uN, uN, uN, uN, uN, uN] [(.int 1)]
        have sz_b2_1010 : h0.size ≤ b2_1010 := f1010_0.elim (Nat.le_trans K1003.1) (fun e => e ▸ sz_b2_1002)
        have g_b2_1010 : n0 ≤ b2_1010 := Nat.le_trans Z0 sz_b2_1010
        have sz_c2_1010 : h0.size ≤ c2_1010 := f1010_1.elim (Nat.le_trans K1003.1) (fun e => e ▸ sz_c2_1002)
        have g_c2_1010 : n0 ≤ c2_1010 := Nat.le_trans Z0 sz_c2_1010
        refine sT (fun t k => XS.pop X1010.here hx rfl (hb hby at_83) rfl rfl k) ?_
        show gM p e below _ T1010 m 84 #[lv p1, sN, lv p2, sN, lv p3, sN, iv p4, iv vsm, iv vmo, rv ob, lv (((8 : Int64) * ((z1 + z1).toInt64)) + (0 : Int64)), sN, uN, uN, uN, uN, uN, uN, uN, uN, uN, uN] []
        refine sT (fun t k => XS.aload X1010.here hx rfl (hb hby at_84) rfl rfl k) ?_
        show gM p e below _ T1010 m 86 #[lv p1, sN, lv p2, sN, lv p3, sN, iv p4, iv vsm, iv vmo, rv ob, lv (((8 : Int64) * ((z1 + z1).toInt64)) + (0 : Int64)), sN, uN, uN, uN, uN, uN, uN, uN, uN, uN, uN] [(.ref ob)]
        obtain ⟨cq1012, kq1012, q1012a, q1012b, q1012c⟩ := isOf hZ rfl f1010_5
        obtain ⟨_, _, ⟨T1012, L1012, k1012, n1012⟩, -, X1012, ⟨Lc1012, hQ1012, l1012, y1012, z1012⟩, st1012⟩ := X1010.virtualBack hx (y := (⟨oS, "bytes", "()J"⟩ : MethodName)) (z := (⟨oS, "bytes", "()J"⟩ : MethodName)) hown (mvT hZ w29) (mvT hZ w30) (notFace_of_selects (args := #[]) (mvT hZ w32)) (mvT hZ w32) (mvT hZ w31) (by decide) (backOf (W := 0) (own_bT l Z a0 hw [] ob (b2_1010) (c2_1010) (k2_1010) (k3_1010) (tt_1002) (kt_1002) (z2_1010) (z2_1010) (xs2_1010) (ys2_1010) ((((List.replicate 32 (0 : Int32)).set ((own_h p2).toNatClampNeg) (2 : Int32)).set ((if (own_h p3) = (own_h p2) then (((own_h p2) + (1 : Int32)) &&& (31 : Int32)) else (own_h p3)).toNatClampNeg) (3 : Int32))) T1010.heap n0 (Nat.le_trans (Nat.le_trans (Nat.le_trans (Nat.le_trans (Nat.le_trans Z0 K41.1) K958c.1) K975c.1) K1002c.1) K1010c.1) f1010_8 f1010_9 f1010_19 f1010_11 f1010_12 f1010_20) hZ w33 w2 (by decide) (by decide)) q1012a q1012c (g := (mkF m 86 #[lv p1, sN, lv p2, sN, lv p3, sN, iv p4, iv vsm, iv vmo, rv ob, lv (((8 : Int64) * ((z1 + z1).toInt64)) + (0 : Int64)), sN, uN, uN, uN, uN, uN, uN, uN, uN, uN, uN] [(.ref ob)])) rfl (by rw [hml]; rfl) (Steps.refl _) (argsL := []) (rest := []) (lenOf own_pd9 rfl) rfl (by show 2 * 0 + _ ≤ _; exact Nat.le_of_eq rfl) (hb hby at_86) (fun _ _ => ⟨rfl, rfl, (Nat.le_trans (m := 32) (by dsimp only [Pt.cells, Pt.slots]; omega) (by decide)), (Nat.le_trans (m := 256) (by dsimp only [Pt.cells, Pt.slots]; omega) (by decide))⟩)
        dsimp only [Pt.U, Pt.locs, Pt.cells, Pt.slots] at X1012 l1012 y1012 z1012 st1012 hQ1012
        subst y1012 z1012
        obtain ⟨rfl, N1012q, eh1012⟩ := hQ1012
        have N1012 : Fr n0 L1012 := by rw [l1012]; exact Fr.app N1010 N1012q
        refine own_jump st1012 ?_
        show gM p e below _ T1012 m 89 #[lv p1, sN, lv p2, sN, lv p3, sN, iv p4, iv vsm, iv vmo, rv ob, lv (((8 : Int64) * ((z1 + z1).toInt64)) + (0 : Int64)), sN, uN, uN, uN, uN, uN, uN, uN, uN, uN, uN] [(.long (((8 : Int64) * ((z2_1010 + z2_1010).toInt64)) + ((4 : Int64) * ((32 : Int32).toInt64))))]
        exact J89 T1012 _ _ _ X1012 N1012 (Nat.le_trans (m := 32) (by omega) (by decide)) (Nat.le_trans (m := 256) (by omega) (by decide)) _ (own_leaf_ll hzc f975_13 f1002_13 f1010_13 hA hB)
  have hvi : vsm = (0 : Int32) ∨ vsm = (1 : Int32) := own_cases hv_vsm
  clear hv_vsm
  rcases hvi with rfl | rfl
  · --
    show gM p e below _ T956 m 29 #[lv p1, sN, lv p2, sN, lv p3, sN, iv p4, iv 0, iv vmo, rv b954, uN, uN, uN, uN, uN, uN, uN, uN, uN, uN, uN, uN] []
    refine sT (fun t k => XS.iload X956.here hx rfl (hb hby at_29) rfl k) ?_
    show gM p e below _ T956 m 31 #[lv p1, sN, lv p2, sN, lv p3, sN, iv p4, iv 0, iv vmo, rv b954, uN, uN, uN, uN, uN, uN, uN, uN, uN, uN, uN, uN] [(.int 0)]
    have hc1013 : (0 : Int32) = (0 : Int32) := rfl
    refine sT (fun t k => XS.ifYes X956.here hx rfl (pc0 := 31) (pc' := 41) rfl (hb hby at_31) rfl ((if0 _ _).trans (teq hc1013).1) (by decide) (by decide) k) ?_
    show gM p e below _ T956 m 41 #[lv p1, sN, lv p2, sN, lv p3, sN, iv p4, iv 0, iv vmo, rv b954, uN, uN, uN, uN, uN, uN, uN, uN, uN, uN, uN, uN] []
    exact J41 T956 _ _ _ _ X956 rfl N956 (by decide) (by decide) K957 b954 bb_956 cc_956 kb_956 kc_956 (16 : Int32) ([0, 0, 0, 0, 0, 0, 0, 0, 0, 0, 0, 0, 0, 0, 0, 0] : List Int64) ([0, 0, 0, 0, 0, 0, 0, 0, 0, 0, 0, 0, 0, 0, 0, 0] : List Int64) sz_b954 sz_bb_956 sz_cc_956 ne_b954_bb_956 ne_b954_cc_956 f956_2 f956_3 f956_4 f956_5 f956_6 f956_7 f956_8 f956_9 f956_10 f956_11 rfl rfl (Or.inl ⟨rfl, rfl⟩)
  · --
    show gM p e below _ T956 m 29 #[lv p1, sN, lv p2, sN, lv p3, sN, iv p4, iv 1, iv vmo, rv b954, uN, uN, uN, uN, uN, uN, uN, uN, uN, uN, uN, uN] []
    refine sT (fun t k => XS.iload X956.here hx rfl (hb hby at_29) rfl k) ?_
    show gM p e below _ T956 m 31 #[lv p1, sN, lv p2, sN, lv p3, sN, iv p4, iv 1, iv vmo, rv b954, uN, uN, uN, uN, uN, uN, uN, uN, uN, uN, uN, uN] [(.int 1)]
    have hc1014 : ¬ ((1 : Int32) = (0 : Int32)) := by decide
    refine sT (fun t k => XS.ifNo X956.here hx rfl (hb hby at_31) rfl ((if0 _ _).trans (feq hc1014).1) k) ?_
    show gM p e below _ T956 m 34 #[lv p1, sN, lv p2, sN, lv p3, sN, iv p4, iv 1, iv vmo, rv b954, uN, uN, uN, uN, uN, uN, uN, uN, uN, uN, uN, uN] []
    refine sT (fun t k => XS.aload X956.here hx rfl (hb hby at_34) rfl rfl k) ?_
    show gM p e below _ T956 m 36 #[lv p1, sN, lv p2, sN, lv p3, sN, iv p4, iv 1, iv vmo, rv b954, uN, uN, uN, uN, uN, uN, uN, uN, uN, uN, uN, uN] [(.ref b954)]
    obtain ⟨cq1015, kq1015, q1015a, q1015b, q1015c⟩ := isOf hZ rfl f956_3
    obtain ⟨_, _, ⟨T1015, L1015, k1015, n1015⟩, -, X1015, ⟨Lc1015, hQ1015, l1015, y1015, z1015⟩, st1015⟩ := X956.virtualBack hx (y := (⟨oS, "copy", "()Lcom/example/concepta/concepta/store/OidSet;"⟩ : MethodName)) (z := (⟨oS, "copy", "()Lcom/example/concepta/concepta/store/OidSet;"⟩ : MethodName)) hown (mvT hZ w76) (mvT hZ w77) (notFace_of_selects (args := #[]) (mvT hZ w79)) (mvT hZ w79) (mvT hZ w78) (by decide) (backOf (W := 0) (own_cp l Z a0 hw [] b954 (bb_956) (cc_956) (kb_956) (kc_956) T956.heap n0 (Nat.le_trans (Nat.le_trans Z0 E954.1) K956c.1) f956_3 f956_6 f956_8 f956_4 f956_5 f956_10 f956_11) hZ w80 w2 (by decide) (by decide)) q1015a q1015c (g := (mkF m 36 #[lv p1, sN, lv p2, sN, lv p3, sN, iv p4, iv 1, iv vmo, rv b954, uN, uN, uN, uN, uN, uN, uN, uN, uN, uN, uN, uN] [(.ref b954)])) rfl (by rw [hml]; rfl) (Steps.refl _) (argsL := []) (rest := []) (lenOf own_pd11 rfl) rfl (by show 2 * 0 + _ ≤ _; exact Nat.le_of_eq rfl) (hb hby at_36) (fun _ _ => ⟨rfl, rfl, (by decide : 3 + 3 ≤ _), (by decide : 38 + 8 ≤ _)⟩)
    dsimp only [Pt.U, Pt.locs, Pt.cells, Pt.slots] at X1015 l1015 y1015 z1015 st1015 hQ1015
    subst y1015 z1015
    obtain ⟨xo_1015, bb_1015, cc_1015, kb_1015, kc_1015, rfl, N1015q, K1015c, f1015_0, f1015_1, f1015_2, f1015_3, f1015_4, f1015_5, f1015_6, f1015_7, f1015_8, f1015_9, f1015_10, f1015_11, f1015_12, f1015_13, f1015_14⟩ := hQ1015
    have N1015 : Fr n0 L1015 := by rw [l1015]; exact Fr.app N956 N1015q
    refine own_jump st1015 ?_
    have K1016 : Keep h0 T1015.heap [] := K957.trans K1015c all0
    have sz_xo_1015 : h0.size ≤ xo_1015 := Nat.le_trans K957.1 f1015_0
    have g_xo_1015 : n0 ≤ xo_1015 := Nat.le_trans Z0 sz_xo_1015
    have ne_cc_956_xo_1015 : cc_956 ≠ xo_1015 := Nat.ne_of_lt (Nat.lt_of_lt_of_le f956_11.lt f1015_0)
    have ne_b954_xo_1015 : b954 ≠ xo_1015 := Nat.ne_of_lt (Nat.lt_of_lt_of_le f956_3.lt f1015_0)
    have ne_bb_956_xo_1015 : bb_956 ≠ xo_1015 := Nat.ne_of_lt (Nat.lt_of_lt_of_le f956_10.lt f1015_0)
    have sz_bb_1015 : h0.size ≤ bb_1015 := Nat.le_trans K957.1 f1015_1
    have g_bb_1015 : n0 ≤ bb_1015 := Nat.le_trans Z0 sz_bb_1015
    have ne_cc_956_bb_1015 : cc_956 ≠ bb_1015 := Nat.ne_of_lt (Nat.lt_of_lt_of_le f956_11.lt f1015_1)
    have ne_b954_bb_1015 : b954 ≠ bb_1015 := Nat.ne_of_lt (Nat.lt_of_lt_of_le f956_3.lt f1015_1)
    have ne_bb_956_bb_1015 : bb_956 ≠ bb_1015 := Nat.ne_of_lt (Nat.lt_of_lt_of_le f956_10.lt f1015_1)
    have sz_cc_1015 : h0.size ≤ cc_1015 := Nat.le_trans K957.1 f1015_2
    have g_cc_1015 : n0 ≤ cc_1015 := Nat.le_trans Z0 sz_cc_1015
    have ne_cc_956_cc_1015 : cc_956 ≠ cc_1015 := Nat.ne_of_lt (Nat.lt_of_lt_of_le f956_11.lt f1015_2)
    have ne_b954_cc_1015 : b954 ≠ cc_1015 := Nat.ne_of_lt (Nat.lt_of_lt_of_le f956_3.lt f1015_2)
    have ne_bb_956_cc_1015 : bb_956 ≠ cc_1015 := Nat.ne_of_lt (Nat.lt_of_lt_of_le f956_10.lt f1015_2)
    show gM p e below _ T1015 m 39 #[lv p1, sN, lv p2, sN, lv p3, sN, iv p4, iv 1, iv vmo, rv b954, uN, uN, uN, uN, uN, uN, uN, uN, uN, uN, uN, uN] [(.ref xo_1015)]
    refine sT (fun t k => XS.astore X1015.here hx rfl (hb hby at_39) rfl rfl (l' := #[lv p1, sN, lv p2, sN, lv p3, sN, iv p4, iv 1, iv vmo, rv xo_1015, uN, uN, uN, uN, uN, uN, uN, uN, uN, uN, uN, uN]) rfl k) ?_
    show gM p e below _ T1015 m 41 #[lv p1, sN, lv p2, sN, lv p3, sN, iv p4, iv 1, iv vmo, rv xo_1015, uN, uN, uN, uN, uN, uN, uN, uN, uN, uN, uN, uN] []
    exact J41 T1015 _ _ _ _ X1015 rfl N1015 (by decide) (by decide) K1016 xo_1015 bb_1015 cc_1015 kb_1015 kc_1015 (1 : Int32) ([0] : List Int64) ([0] : List Int64) sz_xo_1015 sz_bb_1015 sz_cc_1015 f1015_13 f1015_14 f1015_3 f1015_4 f1015_5 f1015_6 f1015_7 f1015_8 f1015_9 f1015_10 f1015_11 f1015_12 rfl rfl (Or.inr ⟨rfl, rfl⟩)
set_option maxRecDepth 65536 in
set_option maxHeartbeats 40000000 in
theorem comes_1 {Post : Tables → Env → Array Value → State → Outcome → State → Prop} (hpost : ∀ tb e args s v u, (limb_1_1.after args s (.returned v) u = true ∧ limb_1_2.after args s (.returned v) u = true ∧ True) → FrameEnd s (.returned v) u (Jvm.fieldLocs frame_1_writes args s ++ Jvm.arrayLocs frame_1_arrays args s ++ Jvm.staticLocs frame_1_statics s) 32 256 → Post tb e args s (.returned v) u) :
    ArmFor flags0 classFile x code maxLocals ret World_1 tables_1 room_1 Calls_1 rest_1 Pre_1 Post := by
  intro l hfl _ _ p e ha hc hk s m args below hf hA hF happ hP
  obtain ⟨hcalls, hrest, hpre⟩ := hP
  obtain ⟨-, -, -, hnamed, -, -, -, hat⟩ := (Spec.applies_iff hf).mp happ
  obtain ⟨hg, hn⟩ := and_e (Cond.before_iff.mp (show (Jvm.Cond.and given_1 narrow_1).before args s = true from hpre))
  obtain ⟨gg1, gg2⟩ := and_e hg
  obtain ⟨gg3, gg4⟩ := and_e gg2
  obtain ⟨gg5, gg6⟩ := and_e gg4
  obtain ⟨gg7, gg8⟩ := and_e gg6
  obtain ⟨w0, w1, w2, w3, rfl⟩ : ∃ w0 w1 w2 w3 : Value, args = #[w0, w1, w2, w3] := by
    have hs : args.size = 4 := by simpa [Cond.value, given_1] using gg1
    obtain ⟨L⟩ := args
    match L, hs with
    | [w0, w1, w2, w3], _ => exact ⟨w0, w1, w2, w3, rfl⟩
  have hw := fun d (hd : d ∈ tables_1) => atoms_spec (ws := Jvm.Cond.code x code maxLocals ret :: tables_1) hat d (List.mem_cons_of_mem _ hd)
  have hfit : Fit s := fun {y c} hc i hi => by
    obtain ⟨ha, rfl⟩ := Array.getElem?_eq_some_iff.mp hc
    have q := List.all_eq_true.mp ((Array.all_eq_true_iff_forall_mem.mp hF) _ (Array.getElem_mem ha)) i (List.mem_range.mpr hi)
    simpa [Array.getElem?_eq_getElem hi] using q
  obtain ⟨i0, ei0⟩ := isL_v gg3
  obtain rfl : w0 = (.long i0) := Option.some.inj ei0
  obtain ⟨i1, ei1⟩ := isL_v gg5
  obtain rfl : w1 = (.long i1) := Option.some.inj ei1
  obtain ⟨i2, ei2⟩ := isL_v gg7
  obtain rfl : w2 = (.long i2) := Option.some.inj ei2
  obtain ⟨i3, ei3⟩ := is_v gg8
  obtain rfl : w3 = (.int i3) := Option.some.inj ei3
  obtain ⟨n, o, h1, h2, h3, _, L, rfl, ⟨rfl, N⟩, hq⟩ := own_law l s _ hw tables_1 i0 i1 i2 i3  s.heap s.heap.size (Nat.le_refl _)  p e ha hc hk s m _ below hf ((Spec.applies_iff_loose hf).mp happ).1 ⟨rfl, State.Warmed39.refl s, rfl⟩ trivial
  refine ⟨n, _, h1, h2, h3, hpost _ _ _ _ _ _ ⟨Cond.after_iff.mpr rfl, Cond.after_iff.mpr (eq_i res_at (Term.int_eval (1)) rfl), trivial⟩ ⟨hq.1, hq.2.1, (hq.2.2.sift fun y hy => Or.inr (N y hy)).mono (by decide) (by decide)⟩⟩
theorem main_1_1 : Claimed_1_1 := comes_1 fun _ _ _ _ _ _ h hF => ⟨h.1, hF⟩
theorem main_1_2 : Claimed_1_2 := comes_1 fun _ _ _ _ _ _ h hF => ⟨h.2.1, hF⟩
end Jvm.Pilot.@@N@@
namespace Jvm.Pilot.@@N@@
open Jvm Jvm.ClassFile Sem Op Lib Jvm.Free Jvm.Stand Jvm.Pilot.@@N@@.Jvm.D
/-! MADE BY PROGRAM (witnessworld.py) out of the Statement's table words and the real class files: 14 classes; the members and pool entries that the words name. The judged class is class 1, her method 1. -/
namespace start1
open Jvm.ClassFile
def u (s : String) : CpInfo := .utf8 (stringToUtf16 s)
/-- a pool by its gaps: so many unusable entries, then the entry; so many at the end -/
def gap : Nat → List CpInfo → List CpInfo
  | 0, r => r
  | n + 1, r => .unusable :: gap n r
def poolList (es : List (Nat × CpInfo)) (last : Nat) : List CpInfo := es.foldr (fun e r => gap e.1 (e.2 :: r)) (gap last [])
def pool (es : List (Nat × CpInfo)) (last : Nat) : Array CpInfo := ⟨poolList es last⟩
def fileOf (pool : Array CpInfo) (this : Nat) (attrs : Array Attribute := #[]) (ms : Array MethodInfo := #[]) (fl : Nat := 33) (sup : Nat := 0) (ifs : Array Nat := #[]) (fds : Array FieldInfo := #[]) : ClassFile where
  minorVersion := 0
  majorVersion := 65
  constantPool := pool
  accessFlags := fl
  thisClass := this
  superClass := sup
  interfaces := ifs
  fields := fds
  methods := ms
  attributes := attrs
def plain (name : String) (sup : Option ClassId) : Class where
  name := name
  kind := .ordinary
  loader := none
  accessFlags := 33
  super := sup
  interfaces := #[]
  cf := none
  fields := #[]
  methods := #[]
  instanceTypes := #[]
  staticTypes := #[]
  resolved := #[]
  callSites := []
  init := .initialized
  statics := none
  mirror := none

def pool0 : Array CpInfo := pool [(5, u "<init>"), (0, u "()V"), (1, .class_ 10), (1, u "java/lang/Object")] 113

def k0c0 : Code := { maxStack := 0, maxLocals := 1, code := object_method_1_code, exceptionTable := #[], attributes := #[] }
def k0m0 : Method := { name := "<init>", desc := "()V", sig := { parameters := [], returnType := none }, accessFlags := 1, code := some k0c0 }
/-- java/lang/Object -/
def k0 : Class := { plain "java/lang/Object" none with
  accessFlags := 33
  interfaces := #[]
  cf := some (fileOf pool0 8 #[] #[{ accessFlags := 1, nameIndex := 5, descriptorIndex := 6, attributes := #[] }] 33 0 #[] #[])
  fields := #[]
  methods := #[k0m0]
  instanceTypes := #[]
  staticTypes := #[]
  resolved := Array.replicate 124 none
  statics := none }

def pool1 : Array CpInfo := pool [(2, .class_ 4), (0, .nameAndType 5 6), (0, u "java/lang/Object"), (0, u "<init>"), (0, u "()V"), (0, .class_ 8), (0, u "com/example/concepta/concepta/store/OidSet"), (0, .methodref 7 3), (0, .methodref 7 11), (0, .nameAndType 12 13), (0, u "copy"), (0, u "()Lcom/example/concepta/concepta/store/OidSet;"), (0, .methodref 7 15), (0, .nameAndType 16 17), (0, u "holdAtMost"), (0, u "(I)V"), (0, .methodref 7 19), (0, .nameAndType 20 21), (0, u "bytes"), (0, u "()J"), (0, .methodref 7 23), (0, .nameAndType 24 25), (0, u "add"), (0, u "(JJ)Z"), (0, .long 2), (1, .long 4), (1, .long 16), (1, .long 3), (1, .long 128), (1, .long 256), (1, .class_ 39), (0, u "com/example/concepta/concepta/store/OidSetBytesPinLaw"), (2, u "law"), (0, u "(JJJI)Z")] 3

def k1m0 : Method := { name := "<init>", desc := "()V", sig := { parameters := [], returnType := none }, accessFlags := 1, code := none }
def k1c1 : Code := { maxStack := 5, maxLocals := 22, code := code, exceptionTable := #[], attributes := #[] }
def k1m1 : Method := { name := "law", desc := "(JJJI)Z", sig := { parameters := [.long, .long, .long, .int], returnType := some .boolean }, accessFlags := 9, code := some k1c1 }
/-- com/example/concepta/concepta/store/OidSetBytesPinLaw -/
def k1 : Class := { plain "com/example/concepta/concepta/store/OidSetBytesPinLaw" (some 0) with
  accessFlags := 49
  interfaces := #[]
  cf := some (fileOf pool1 38 #[] #[{ accessFlags := 1, nameIndex := 5, descriptorIndex := 6, attributes := #[] }, { accessFlags := 9, nameIndex := 42, descriptorIndex := 43, attributes := #[] }] 49 2 #[] #[])
  fields := #[]
  methods := #[k1m0, k1m1]
  instanceTypes := #[]
  staticTypes := #[]
  resolved := Array.replicate 47 none
  statics := none }

def pool2 : Array CpInfo := pool [(1, .class_ 2), (0, u "com/example/concepta/concepta/store/OidSet"), (0, .methodref 1 4), (0, .nameAndType 5 6), (0, u "<init>"), (0, u "(I)V"), (0, .methodref 8 9), (0, .class_ 10), (0, .nameAndType 5 11), (0, u "java/lang/Object"), (0, u "()V"), (2, .integer 2147483647), (0, .fieldref 1 16), (0, .nameAndType 17 18), (0, u "most"), (0, u "I"), (0, .methodref 20 21), (0, .class_ 22), (0, .nameAndType 23 24), (0, u "java/lang/Math"), (0, u "max"), (0, u "(II)I"), (0, .fieldref 1 26), (0, .nameAndType 27 28), (0, u "blocks"), (0, u "[J"), (0, .fieldref 1 30), (0, .nameAndType 31 28), (0, u "bits"), (4, u "add"), (0, u "(JJ)Z"), (5, u "(J)I"), (0, .fieldref 1 45), (0, .nameAndType 46 18), (0, u "size"), (0, .long 8), (1, .fieldref 1 50), (0, .nameAndType 51 52), (0, u "table"), (0, u "[I"), (0, .long 4), (1, .methodref 1 56), (0, .nameAndType 57 58), (0, u "append"), (0, u "(JJ)V"), (0, .fieldref 1 60), (0, .nameAndType 61 18), (0, u "ordered"), (0, .methodref 63 64), (0, .class_ 65), (0, .nameAndType 66 67), (0, u "java/util/Arrays"), (0, u "binarySearch"), (0, u "([JIIJ)I"), (0, .methodref 1 69), (0, .nameAndType 70 6), (0, u "index"), (0, .methodref 1 72), (0, .nameAndType 73 43), (0, u "slot"), (4, .long 2), (1, .methodref 20 81), (0, .nameAndType 82 83), (0, u "min"), (0, u "(JJ)J"), (0, .methodref 63 85), (0, .nameAndType 86 87), (0, u "copyOf"), (0, u "([JI)[J"), (0, .long 11400714819323198485), (12, .methodref 1 102), (0, .nameAndType 103 11), (0, u "ascending"), (0, .methodref 105 106), (0, .class_ 107), (0, .nameAndType 108 109), (0, u "java/lang/System"), (0, u "arraycopy"), (0, u "(Ljava/lang/Object;ILjava/lang/Object;II)V"), (6, .class_ 117), (0, u "com/example/concepta/concepta/store/OidSet$RowsBuilder"), (81, u "LEVELS"), (2, u "CHUNK_SHIFT"), (1, u "FEWEST"), (1, u "MOST"), (1, u "POOLED"), (6, u "bytes"), (0, u "()J"), (2, u "holdAtMost"), (1, u "copy"), (0, u "()Lcom/example/concepta/concepta/store/OidSet;"), (22, .class_ 246), (0, u "com/example/concepta/concepta/store/OidSet$Rows")] 46

def k2c0 : Code := { maxStack := 2, maxLocals := 1, code := prog_128_method_1_code, exceptionTable := #[], attributes := #[] }
def k2m0 : Method := { name := "<init>", desc := "()V", sig := { parameters := [], returnType := none }, accessFlags := 0, code := some k2c0 }
def k2c1 : Code := { maxStack := 3, maxLocals := 2, code := prog_128_method_2_code, exceptionTable := #[], attributes := #[] }
def k2m1 : Method := { name := "<init>", desc := "(I)V", sig := { parameters := [.int], returnType := none }, accessFlags := 2, code := some k2c1 }
def k2c2 : Code := { maxStack := 6, maxLocals := 1, code := prog_128_method_7_code, exceptionTable := #[], attributes := #[] }
def k2m2 : Method := { name := "bytes", desc := "()J", sig := { parameters := [], returnType := some .long }, accessFlags := 0, code := some k2c2 }
def k2c3 : Code := { maxStack := 6, maxLocals := 7, code := prog_128_method_8_code, exceptionTable := #[], attributes := #[] }
def k2m3 : Method := { name := "add", desc := "(JJ)Z", sig := { parameters := [.long, .long], returnType := some .boolean }, accessFlags := 0, code := some k2c3 }
def k2c4 : Code := { maxStack := 2, maxLocals := 2, code := prog_128_method_10_code, exceptionTable := #[], attributes := #[] }
def k2m4 : Method := { name := "holdAtMost", desc := "(I)V", sig := { parameters := [.int], returnType := none }, accessFlags := 0, code := some k2c4 }
def k2c5 : Code := { maxStack := 4, maxLocals := 6, code := prog_128_method_11_code, exceptionTable := #[], attributes := #[] }
def k2m5 : Method := { name := "append", desc := "(JJ)V", sig := { parameters := [.long, .long], returnType := none }, accessFlags := 2, code := some k2c5 }
def k2c6 : Code := { maxStack := 4, maxLocals := 3, code := prog_128_method_12_code, exceptionTable := #[], attributes := #[] }
def k2m6 : Method := { name := "index", desc := "(I)V", sig := { parameters := [.int], returnType := none }, accessFlags := 2, code := some k2c6 }
def k2c7 : Code := { maxStack := 4, maxLocals := 5, code := prog_128_method_13_code, exceptionTable := #[], attributes := #[] }
def k2m7 : Method := { name := "slot", desc := "(J)I", sig := { parameters := [.long], returnType := some .int }, accessFlags := 2, code := some k2c7 }
def k2c8 : Code := { maxStack := 5, maxLocals := 6, code := prog_128_method_15_code, exceptionTable := #[], attributes := #[] }
def k2m8 : Method := { name := "ascending", desc := "()V", sig := { parameters := [], returnType := none }, accessFlags := 2, code := some k2c8 }
def k2c9 : Code := { maxStack := 5, maxLocals := 2, code := prog_128_method_16_code, exceptionTable := #[], attributes := #[] }
def k2m9 : Method := { name := "copy", desc := "()Lcom/example/concepta/concepta/store/OidSet;", sig := { parameters := [], returnType := some (.object "com/example/concepta/concepta/store/OidSet") }, accessFlags := 0, code := some k2c9 }
/-- com/example/concepta/concepta/store/OidSet -/
def k2 : Class := { plain "com/example/concepta/concepta/store/OidSet" (some 0) with
  accessFlags := 48
  interfaces := #[]
  cf := some (fileOf pool2 1 #[.nestMembers #[116, 245]] #[{ accessFlags := 0, nameIndex := 5, descriptorIndex := 11, attributes := #[] }, { accessFlags := 2, nameIndex := 5, descriptorIndex := 6, attributes := #[] }, { accessFlags := 0, nameIndex := 215, descriptorIndex := 216, attributes := #[] }, { accessFlags := 0, nameIndex := 36, descriptorIndex := 37, attributes := #[] }, { accessFlags := 0, nameIndex := 219, descriptorIndex := 6, attributes := #[] }, { accessFlags := 2, nameIndex := 57, descriptorIndex := 58, attributes := #[] }, { accessFlags := 2, nameIndex := 70, descriptorIndex := 6, attributes := #[] }, { accessFlags := 2, nameIndex := 73, descriptorIndex := 43, attributes := #[] }, { accessFlags := 2, nameIndex := 103, descriptorIndex := 11, attributes := #[] }, { accessFlags := 0, nameIndex := 221, descriptorIndex := 222, attributes := #[] }] 48 8 #[] #[{ accessFlags := 24, nameIndex := 199, descriptorIndex := 18, attributes := #[] }, { accessFlags := 26, nameIndex := 202, descriptorIndex := 18, attributes := #[] }, { accessFlags := 24, nameIndex := 204, descriptorIndex := 18, attributes := #[] }, { accessFlags := 24, nameIndex := 206, descriptorIndex := 18, attributes := #[] }, { accessFlags := 24, nameIndex := 208, descriptorIndex := 18, attributes := #[] }, { accessFlags := 2, nameIndex := 27, descriptorIndex := 28, attributes := #[] }, { accessFlags := 2, nameIndex := 31, descriptorIndex := 28, attributes := #[] }, { accessFlags := 2, nameIndex := 46, descriptorIndex := 18, attributes := #[] }, { accessFlags := 2, nameIndex := 61, descriptorIndex := 18, attributes := #[] }, { accessFlags := 2, nameIndex := 51, descriptorIndex := 52, attributes := #[] }, { accessFlags := 2, nameIndex := 17, descriptorIndex := 18, attributes := #[] }])
  fields := #[{ name := "LEVELS", type := .int, accessFlags := 24, slot := 0, constantValue := 0 }, { name := "CHUNK_SHIFT", type := .int, accessFlags := 26, slot := 1, constantValue := 0 }, { name := "FEWEST", type := .int, accessFlags := 24, slot := 2, constantValue := 0 }, { name := "MOST", type := .int, accessFlags := 24, slot := 3, constantValue := 0 }, { name := "POOLED", type := .int, accessFlags := 24, slot := 4, constantValue := 0 }, { name := "blocks", type := (.array .long), accessFlags := 2, slot := 0, constantValue := 0 }, { name := "bits", type := (.array .long), accessFlags := 2, slot := 1, constantValue := 0 }, { name := "size", type := .int, accessFlags := 2, slot := 2, constantValue := 0 }, { name := "ordered", type := .int, accessFlags := 2, slot := 3, constantValue := 0 }, { name := "table", type := (.array .int), accessFlags := 2, slot := 4, constantValue := 0 }, { name := "most", type := .int, accessFlags := 2, slot := 5, constantValue := 0 }]
  methods := #[k2m0, k2m1, k2m2, k2m3, k2m4, k2m5, k2m6, k2m7, k2m8, k2m9]
  instanceTypes := #[(.array .long), (.array .long), .int, .int, (.array .int), .int]
  staticTypes := #[.int, .int, .int, .int, .int]
  resolved := Array.replicate 293 none
  statics := none }

def pool3 : Array CpInfo := pool [(1, .class_ 2), (0, u "java/lang/Math"), (1, .class_ 6), (1, u "java/lang/Object"), (0, u "<init>"), (0, u "()V"), (89, .class_ 100), (1, u "java/lang/Math$RandomNumberGeneratorHolder"), (20, u "(JJ)J"), (50, u "negativeZeroFloatBits"), (0, u "J"), (2, u "negativeZeroDoubleBits"), (21, u "max"), (2, u "min"), (43, u "$assertionsDisabled"), (0, u "Z"), (88, u "(II)I"), (2, u "twoToTheDoubleScaleDown"), (0, u "D"), (4, u "twoToTheDoubleScaleUp"), (9, u "E"), (3, u "PI"), (2, u "TAU"), (2, u "DEGREES_TO_RADIANS"), (0, u "RADIANS_TO_DEGREES")] 94

def k3m0 : Method := { name := "<init>", desc := "()V", sig := { parameters := [], returnType := none }, accessFlags := 2, code := none }
def k3c1 : Code := { maxStack := 2, maxLocals := 2, code := jdk_29_method_65_code, exceptionTable := #[], attributes := #[] }
def k3m1 : Method := { name := "max", desc := "(II)I", sig := { parameters := [.int, .int], returnType := some .int }, accessFlags := 9, code := some k3c1 }
def k3c2 : Code := { maxStack := 2, maxLocals := 2, code := jdk_29_method_69_code, exceptionTable := #[], attributes := #[] }
def k3m2 : Method := { name := "min", desc := "(II)I", sig := { parameters := [.int, .int], returnType := some .int }, accessFlags := 9, code := some k3c2 }
def k3c3 : Code := { maxStack := 4, maxLocals := 4, code := jdk_29_method_70_code, exceptionTable := #[], attributes := #[] }
def k3m3 : Method := { name := "min", desc := "(JJ)J", sig := { parameters := [.long, .long], returnType := some .long }, accessFlags := 9, code := some k3c3 }
/-- java/lang/Math -/
def k3 : Class := { plain "java/lang/Math" (some 0) with
  accessFlags := 49
  interfaces := #[]
  cf := some (fileOf pool3 1 #[.nestMembers #[98]] #[{ accessFlags := 2, nameIndex := 7, descriptorIndex := 8, attributes := #[] }, { accessFlags := 9, nameIndex := 198, descriptorIndex := 335, attributes := #[] }, { accessFlags := 9, nameIndex := 201, descriptorIndex := 335, attributes := #[] }, { accessFlags := 9, nameIndex := 201, descriptorIndex := 121, attributes := #[] }] 49 4 #[] #[{ accessFlags := 25, nameIndex := 354, descriptorIndex := 339, attributes := #[] }, { accessFlags := 25, nameIndex := 358, descriptorIndex := 339, attributes := #[] }, { accessFlags := 25, nameIndex := 361, descriptorIndex := 339, attributes := #[] }, { accessFlags := 26, nameIndex := 364, descriptorIndex := 339, attributes := #[] }, { accessFlags := 26, nameIndex := 365, descriptorIndex := 339, attributes := #[] }, { accessFlags := 26, nameIndex := 172, descriptorIndex := 173, attributes := #[] }, { accessFlags := 26, nameIndex := 176, descriptorIndex := 173, attributes := #[] }, { accessFlags := 8, nameIndex := 344, descriptorIndex := 339, attributes := #[] }, { accessFlags := 8, nameIndex := 338, descriptorIndex := 339, attributes := #[] }, { accessFlags := 4120, nameIndex := 245, descriptorIndex := 246, attributes := #[] }])
  fields := #[{ name := "E", type := .double, accessFlags := 25, slot := 0, constantValue := 0 }, { name := "PI", type := .double, accessFlags := 25, slot := 1, constantValue := 0 }, { name := "TAU", type := .double, accessFlags := 25, slot := 2, constantValue := 0 }, { name := "DEGREES_TO_RADIANS", type := .double, accessFlags := 26, slot := 3, constantValue := 0 }, { name := "RADIANS_TO_DEGREES", type := .double, accessFlags := 26, slot := 4, constantValue := 0 }, { name := "negativeZeroFloatBits", type := .long, accessFlags := 26, slot := 5, constantValue := 0 }, { name := "negativeZeroDoubleBits", type := .long, accessFlags := 26, slot := 6, constantValue := 0 }, { name := "twoToTheDoubleScaleUp", type := .double, accessFlags := 8, slot := 7, constantValue := 0 }, { name := "twoToTheDoubleScaleDown", type := .double, accessFlags := 8, slot := 8, constantValue := 0 }, { name := "$assertionsDisabled", type := .boolean, accessFlags := 4120, slot := 9, constantValue := 0 }]
  methods := #[k3m0, k3m1, k3m2, k3m3]
  instanceTypes := #[]
  staticTypes := #[.double, .double, .double, .double, .double, .long, .long, .double, .double, .boolean]
  resolved := Array.replicate 460 none
  statics := none }

def pool4 : Array CpInfo := pool [(2, .class_ 4), (1, u "java/lang/Object"), (0, u "<init>"), (0, u "()V"), (6, .methodref 14 15), (0, .class_ 16), (0, .nameAndType 17 18), (0, u "java/util/Arrays"), (0, u "rangeCheck"), (0, u "(III)V"), (55, .class_ 76), (1, u "java/util/Arrays$NaturalOrder"), (36, .class_ 115), (1, u "java/util/Arrays$LegacyMergeSort"), (1, u "Z"), (32, .methodref 151 152), (0, .class_ 153), (0, .nameAndType 154 155), (0, u "java/lang/System"), (0, u "arraycopy"), (0, u "(Ljava/lang/Object;ILjava/lang/Object;II)V"), (49, .methodref 14 206), (0, .nameAndType 207 208), (0, u "binarySearch0"), (0, u "([JIIJ)I"), (93, u "copyOf"), (1, .methodref 305 306), (0, .class_ 307), (0, .nameAndType 308 309), (0, u "java/lang/Math"), (0, u "min"), (0, u "(II)I"), (65, .class_ 376), (0, u "java/util/Arrays$ArrayList"), (68, u "$assertionsDisabled"), (269, u "MIN_ARRAY_SORT_GRAN"), (0, u "I"), (2, u "INSERTIONSORT_THRESHOLD"), (74, u "binarySearch"), (77, u "([JI)[J"), (102, .class_ 976), (0, u "java/util/Arrays$ArrayItr")] 52

def k4m0 : Method := { name := "<init>", desc := "()V", sig := { parameters := [], returnType := none }, accessFlags := 2, code := none }
def k4c1 : Code := { maxStack := 4, maxLocals := 3, code := jdk_65_method_30_code, exceptionTable := #[], attributes := #[] }
def k4m1 : Method := { name := "rangeCheck", desc := "(III)V", sig := { parameters := [.int, .int, .int], returnType := none }, accessFlags := 8, code := some k4c1 }
def k4c2 : Code := { maxStack := 5, maxLocals := 5, code := jdk_65_method_55_code, exceptionTable := #[], attributes := #[] }
def k4m2 : Method := { name := "binarySearch", desc := "([JIIJ)I", sig := { parameters := [(.array .long), .int, .int, .long], returnType := some .int }, accessFlags := 9, code := some k4c2 }
def k4c3 : Code := { maxStack := 4, maxLocals := 10, code := jdk_65_method_56_code, exceptionTable := #[], attributes := #[] }
def k4m3 : Method := { name := "binarySearch0", desc := "([JIIJ)I", sig := { parameters := [(.array .long), .int, .int, .long], returnType := some .int }, accessFlags := 10, code := some k4c3 }
def k4c4 : Code := { maxStack := 6, maxLocals := 3, code := jdk_65_method_124_code, exceptionTable := #[], attributes := #[] }
def k4m4 : Method := { name := "copyOf", desc := "([JI)[J", sig := { parameters := [(.array .long), .int], returnType := some (.array .long) }, accessFlags := 9, code := some k4c4 }
/-- java/util/Arrays -/
def k4 : Class := { plain "java/util/Arrays" (some 0) with
  accessFlags := 49
  interfaces := #[]
  cf := some (fileOf pool4 14 #[.nestMembers #[975, 375, 113, 74]] #[{ accessFlags := 2, nameIndex := 5, descriptorIndex := 6, attributes := #[] }, { accessFlags := 8, nameIndex := 17, descriptorIndex := 18, attributes := #[] }, { accessFlags := 9, nameIndex := 794, descriptorIndex := 208, attributes := #[] }, { accessFlags := 10, nameIndex := 207, descriptorIndex := 208, attributes := #[] }, { accessFlags := 9, nameIndex := 302, descriptorIndex := 872, attributes := #[] }] 49 2 #[] #[{ accessFlags := 26, nameIndex := 715, descriptorIndex := 716, attributes := #[] }, { accessFlags := 26, nameIndex := 719, descriptorIndex := 716, attributes := #[] }, { accessFlags := 4120, nameIndex := 445, descriptorIndex := 117, attributes := #[] }])
  fields := #[{ name := "MIN_ARRAY_SORT_GRAN", type := .int, accessFlags := 26, slot := 0, constantValue := 0 }, { name := "INSERTIONSORT_THRESHOLD", type := .int, accessFlags := 26, slot := 1, constantValue := 0 }, { name := "$assertionsDisabled", type := .boolean, accessFlags := 4120, slot := 2, constantValue := 0 }]
  methods := #[k4m0, k4m1, k4m2, k4m3, k4m4]
  instanceTypes := #[]
  staticTypes := #[.int, .int, .boolean]
  resolved := Array.replicate 1029 none
  statics := none }

def pool5 : Array CpInfo := pool [(2, .class_ 4), (1, u "java/lang/Object"), (0, u "<init>"), (0, u "()V"), (1, .class_ 10), (1, u "java/lang/System"), (0, u "allowSecurityManager"), (0, u "I"), (16, u "cons"), (0, u "Ljava/io/Console;"), (77, .class_ 110), (1, u "java/lang/System$CallersHolder"), (43, u "initialErrStream"), (0, u "Ljava/io/PrintStream;"), (19, u "security"), (0, u "Ljava/lang/SecurityManager;"), (31, .class_ 209), (0, u "java/lang/System$1"), (7, u "props"), (0, u "Ljava/util/Properties;"), (2, u "lineSeparator"), (0, u "Ljava/lang/String;"), (96, .class_ 321), (1, u "java/lang/System$LoggerFinder"), (5, .class_ 328), (0, u "java/lang/System$Logger"), (67, u "err"), (2, u "out"), (91, u "notSupportedJnuEncoding"), (15, u "in"), (17, u "initialIn"), (0, u "Ljava/io/InputStream;"), (35, u "bootLayer"), (0, u "Ljava/lang/ModuleLayer;"), (99, .class_ 664), (0, u "java/lang/System$2"), (9, u "NEVER"), (2, u "MAYBE"), (49, u "arraycopy"), (0, u "(Ljava/lang/Object;ILjava/lang/Object;II)V"), (72, .class_ 802), (0, u "java/lang/System$Logger$Level")] 31

def k5m0 : Method := { name := "<init>", desc := "()V", sig := { parameters := [], returnType := none }, accessFlags := 2, code := none }
def k5m1 : Method := { name := "arraycopy", desc := "(Ljava/lang/Object;ILjava/lang/Object;II)V", sig := { parameters := [(.object "java/lang/Object"), .int, (.object "java/lang/Object"), .int, .int], returnType := none }, accessFlags := 265, code := none }
/-- java/lang/System -/
def k5 : Class := { plain "java/lang/System" (some 0) with
  accessFlags := 49
  interfaces := #[]
  cf := some (fileOf pool5 8 #[.nestMembers #[319, 327, 801, 108, 663, 208]] #[{ accessFlags := 2, nameIndex := 5, descriptorIndex := 6, attributes := #[] }, { accessFlags := 265, nameIndex := 727, descriptorIndex := 728, attributes := #[] }] 49 2 #[] #[{ accessFlags := 25, nameIndex := 507, descriptorIndex := 526, attributes := #[] }, { accessFlags := 25, nameIndex := 399, descriptorIndex := 155, attributes := #[] }, { accessFlags := 25, nameIndex := 396, descriptorIndex := 155, attributes := #[] }, { accessFlags := 10, nameIndex := 525, descriptorIndex := 526, attributes := #[] }, { accessFlags := 26, nameIndex := 674, descriptorIndex := 12, attributes := #[] }, { accessFlags := 26, nameIndex := 677, descriptorIndex := 12, attributes := #[] }, { accessFlags := 10, nameIndex := 11, descriptorIndex := 12, attributes := #[] }, { accessFlags := 74, nameIndex := 175, descriptorIndex := 176, attributes := #[] }, { accessFlags := 10, nameIndex := 491, descriptorIndex := 222, attributes := #[] }, { accessFlags := 74, nameIndex := 29, descriptorIndex := 30, attributes := #[] }, { accessFlags := 74, nameIndex := 154, descriptorIndex := 155, attributes := #[] }, { accessFlags := 10, nameIndex := 217, descriptorIndex := 218, attributes := #[] }, { accessFlags := 10, nameIndex := 221, descriptorIndex := 222, attributes := #[] }, { accessFlags := 8, nameIndex := 562, descriptorIndex := 563, attributes := #[] }])
  fields := #[{ name := "in", type := (.object "java/io/InputStream"), accessFlags := 25, slot := 0, constantValue := 0 }, { name := "out", type := (.object "java/io/PrintStream"), accessFlags := 25, slot := 1, constantValue := 0 }, { name := "err", type := (.object "java/io/PrintStream"), accessFlags := 25, slot := 2, constantValue := 0 }, { name := "initialIn", type := (.object "java/io/InputStream"), accessFlags := 10, slot := 3, constantValue := 0 }, { name := "NEVER", type := .int, accessFlags := 26, slot := 4, constantValue := 0 }, { name := "MAYBE", type := .int, accessFlags := 26, slot := 5, constantValue := 0 }, { name := "allowSecurityManager", type := .int, accessFlags := 10, slot := 6, constantValue := 0 }, { name := "security", type := (.object "java/lang/SecurityManager"), accessFlags := 74, slot := 7, constantValue := 0 }, { name := "notSupportedJnuEncoding", type := (.object "java/lang/String"), accessFlags := 10, slot := 8, constantValue := 0 }, { name := "cons", type := (.object "java/io/Console"), accessFlags := 74, slot := 9, constantValue := 0 }, { name := "initialErrStream", type := (.object "java/io/PrintStream"), accessFlags := 74, slot := 10, constantValue := 0 }, { name := "props", type := (.object "java/util/Properties"), accessFlags := 10, slot := 11, constantValue := 0 }, { name := "lineSeparator", type := (.object "java/lang/String"), accessFlags := 10, slot := 12, constantValue := 0 }, { name := "bootLayer", type := (.object "java/lang/ModuleLayer"), accessFlags := 8, slot := 13, constantValue := 0 }]
  methods := #[k5m0, k5m1]
  instanceTypes := #[]
  staticTypes := #[(.object "java/io/InputStream"), (.object "java/io/PrintStream"), (.object "java/io/PrintStream"), (.object "java/io/InputStream"), .int, .int, .int, (.object "java/lang/SecurityManager"), (.object "java/lang/String"), (.object "java/io/Console"), (.object "java/io/PrintStream"), (.object "java/util/Properties"), (.object "java/lang/String"), (.object "java/lang/ModuleLayer")]
  resolved := Array.replicate 834 none
  statics := none }

def pool6 : Array CpInfo := pool [(1, u "java/lang/Cloneable"), (0, .class_ 1), (0, u "java/lang/Object"), (0, .class_ 3)] 3

/-- java/lang/Cloneable -/
def k6 : Class := { plain "java/lang/Cloneable" (some 0) with
  accessFlags := 1537
  interfaces := #[]
  cf := some (fileOf pool6 2 #[] #[] 1537 4 #[] #[])
  fields := #[]
  methods := #[]
  instanceTypes := #[]
  staticTypes := #[]
  resolved := Array.replicate 8 none
  statics := none }

def pool7 : Array CpInfo := pool [(1, u "java/io/Serializable"), (0, .class_ 1), (0, u "java/lang/Object"), (0, .class_ 3)] 3

/-- java/io/Serializable -/
def k7 : Class := { plain "java/io/Serializable" (some 0) with
  accessFlags := 1537
  interfaces := #[]
  cf := some (fileOf pool7 2 #[] #[] 1537 4 #[] #[])
  fields := #[]
  methods := #[]
  instanceTypes := #[]
  staticTypes := #[]
  resolved := Array.replicate 8 none
  statics := none }

/-- the primitive byte -/
def k8 : Class := { plain "byte" none with kind := .primitive 'B', accessFlags := 0x411 }
/-- [B -/
def k9 : Class := { plain "[B" (some 0) with kind := .array 8 .byte, interfaces := #[6, 7], accessFlags := 1041 }

/-- the primitive int -/
def k10 : Class := { plain "int" none with kind := .primitive 'I', accessFlags := 0x411 }
/-- [I -/
def k11 : Class := { plain "[I" (some 0) with kind := .array 10 .int, interfaces := #[6, 7], accessFlags := 1041 }

/-- the primitive long -/
def k12 : Class := { plain "long" none with kind := .primitive 'J', accessFlags := 0x411 }
/-- [J -/
def k13 : Class := { plain "[J" (some 0) with kind := .array 12 .long, interfaces := #[6, 7], accessFlags := 1041 }

def heap : Heap := #[]
def classes : Array Class := #[k0, k1, k2, k3, k4, k5, k6, k7, k8, k9, k10, k11, k12, k13]
def interned : List (Array UInt16 × Addr) := []
def slotsUsed : Nat := 0
def theMethod : MethodId := ⟨1, 1⟩
def args0 : Array Value := #[.long 5, .long 3, .long 2, .int 1]
def aboutOver (below : List Frame) : State where
  vm := { classes := classes, interned := interned.toArray }
  heap := heap
  slotsUsed := slotsUsed
  threads := #[{ frames := .invoking theMethod args0 :: below }]
def below0 : List Frame := [.native { method := ⟨0, 0⟩, args := #[] }]
def about1 : State := aboutOver below0
def p0 : Program := .bare "" "" ""
def e0 : Env := launch0.env 0 0 0
theorem w_frames : about1.frames = Frame.invoking theMethod args0 :: below0 := rfl
set_option maxRecDepth 65536 in
theorem w_args : argsFit about1.vm theMethod args0 = true := by decide +kernel
set_option maxRecDepth 65536 in
theorem w_heap : heapFits about1 = true := by decide +kernel
set_option maxRecDepth 65536 in
theorem w_runnable : about1.curStatus? = some .runnable := by decide +kernel
set_option maxRecDepth 65536 in
theorem w_alone : about1.alone = true := by decide +kernel
set_option maxRecDepth 65536 in
theorem w_named : about1.methodNamed? x = some theMethod := by decide +kernel
set_option maxRecDepth 65536 in
theorem w_hears : about1.hears theMethod below0 = true := by decide +kernel
set_option maxRecDepth 65536 in
theorem w_ripe : about1.ripe theMethod args0 below0 = true := by decide +kernel
theorem w_running : about1.status = .running := rfl
set_option maxRecDepth 65536 in
theorem w_room : about1.hasRoom e0.platform room_1 = true :=
  launch0.hasRoom_least _ room_1 (by decide +kernel) (by decide +kernel) (by decide +kernel) (by decide +kernel) (by decide +kernel) (by decide +kernel)
theorem allAtoms_all (ts : List Jvm.Cond) (a : Array Jvm.Value) (st : Jvm.State) : (allAtoms ts).before a st = ts.all (fun c => c.before a st) := by
  induction ts with
  | nil => rfl
  | cons c t ih =>
    show (Jvm.Cond.and c (allAtoms t)).before a st = _
    rw [Jvm.Cond.before_and, ih, List.all_cons]
def words1 : List Jvm.Cond := Jvm.Cond.code x code maxLocals ret :: tables_1
/-- a 'code' word, met by the world's own term for the bytes: nothing is compared byte by byte -/
theorem code_word {y : MethodName} {bytes : ByteArray} {mx : Nat} {rt : Option FieldType} {a : Array Value} {s : State} {m : MethodId} {meth : Method} {c : Code} (h1 : s.methodNamed? y = some m) (h2 : s.vm.method? m = some meth) (h3 : meth.code = some c) (h4 : c.code = bytes)
    (h5 : (c.maxLocals == mx && c.exceptionTable.isEmpty && decide (c.maxStack ≤ mostOperands) && decide (meth.sig.returnType = rt) && !meth.locks && decide (parseMethodDescriptor y.desc = some meth.sig)) = true) : (Jvm.Cond.code y bytes mx rt).before a s = true := by
  simp only [Bool.and_eq_true, beq_iff_eq, Bool.not_eq_true', decide_eq_true_eq] at h5
  obtain ⟨⟨⟨⟨⟨g1, g2⟩, g3⟩, g4⟩, g5⟩, g6⟩ := h5
  simp [Cond.before, Cond.holds, Cond.value, h1, h2, h3, h4, g1, g2, g3, g4, g5, g6]
def isCode : Jvm.Cond → Bool
  | .code _ _ _ _ => true
  | _ => false
theorem all_split {L : List Jvm.Cond} {P : Jvm.Cond → Bool} (h1 : L.all (fun c => isCode c || P c) = true) (h2 : ∀ c ∈ L.filter isCode, P c = true) : L.all P = true := by
  refine List.all_eq_true.mpr fun c hc => ?_
  have h := List.all_eq_true.mp h1 c hc
  rcases Bool.eq_false_or_eq_true (isCode c) with hi | hi
  · exact h2 c (List.mem_filter.mpr ⟨hc, hi⟩)
  · simpa [hi] using h
set_option maxRecDepth 65536 in
theorem w_c0 : (Jvm.Cond.code x code maxLocals ret).before args0 about1 = true := code_word (m := ⟨1, 1⟩) (meth := k1m1) (c := k1c1) (by decide +kernel) rfl rfl rfl (by decide +kernel)
set_option maxRecDepth 65536 in
theorem w_c1 : (Jvm.Cond.code ({ cls := "com/example/concepta/concepta/store/OidSet", name := "<init>", desc := "()V" } : Jvm.MethodName) prog_128_method_1_code (1 : Nat) (Option.none : Option Jvm.ClassFile.FieldType)).before args0 about1 = true := code_word (m := ⟨2, 0⟩) (meth := k2m0) (c := k2c0) (by decide +kernel) rfl rfl rfl (by decide +kernel)
set_option maxRecDepth 65536 in
theorem w_c2 : (Jvm.Cond.code ({ cls := "com/example/concepta/concepta/store/OidSet", name := "<init>", desc := "(I)V" } : Jvm.MethodName) prog_128_method_2_code (2 : Nat) (Option.none : Option Jvm.ClassFile.FieldType)).before args0 about1 = true := code_word (m := ⟨2, 1⟩) (meth := k2m1) (c := k2c1) (by decide +kernel) rfl rfl rfl (by decide +kernel)
set_option maxRecDepth 65536 in
theorem w_c3 : (Jvm.Cond.code ({ cls := "java/lang/Object", name := "<init>", desc := "()V" } : Jvm.MethodName) object_method_1_code (1 : Nat) (Option.none : Option Jvm.ClassFile.FieldType)).before args0 about1 = true := code_word (m := ⟨0, 0⟩) (meth := k0m0) (c := k0c0) (by decide +kernel) rfl rfl rfl (by decide +kernel)
set_option maxRecDepth 65536 in
theorem w_c4 : (Jvm.Cond.code ({ cls := "java/lang/Math", name := "max", desc := "(II)I" } : Jvm.MethodName) jdk_29_method_65_code (2 : Nat) (Option.some Jvm.ClassFile.FieldType.int)).before args0 about1 = true := code_word (m := ⟨3, 1⟩) (meth := k3m1) (c := k3c1) (by decide +kernel) rfl rfl rfl (by decide +kernel)
set_option maxRecDepth 65536 in
theorem w_c5 : (Jvm.Cond.code ({ cls := "com/example/concepta/concepta/store/OidSet", name := "holdAtMost", desc := "(I)V" } : Jvm.MethodName) prog_128_method_10_code (2 : Nat) (Option.none : Option Jvm.ClassFile.FieldType)).before args0 about1 = true := code_word (m := ⟨2, 4⟩) (meth := k2m4) (c := k2c4) (by decide +kernel) rfl rfl rfl (by decide +kernel)
set_option maxRecDepth 65536 in
theorem w_c6 : (Jvm.Cond.code ({ cls := "com/example/concepta/concepta/store/OidSet", name := "bytes", desc := "()J" } : Jvm.MethodName) prog_128_method_7_code (1 : Nat) (Option.some Jvm.ClassFile.FieldType.long)).before args0 about1 = true := code_word (m := ⟨2, 2⟩) (meth := k2m2) (c := k2c2) (by decide +kernel) rfl rfl rfl (by decide +kernel)
set_option maxRecDepth 65536 in
theorem w_c7 : (Jvm.Cond.code ({ cls := "com/example/concepta/concepta/store/OidSet", name := "add", desc := "(JJ)Z" } : Jvm.MethodName) prog_128_method_8_code (7 : Nat) (Option.some Jvm.ClassFile.FieldType.boolean)).before args0 about1 = true := code_word (m := ⟨2, 3⟩) (meth := k2m3) (c := k2c3) (by decide +kernel) rfl rfl rfl (by decide +kernel)
set_option maxRecDepth 65536 in
theorem w_c8 : (Jvm.Cond.code ({ cls := "com/example/concepta/concepta/store/OidSet", name := "append", desc := "(JJ)V" } : Jvm.MethodName) prog_128_method_11_code (6 : Nat) (Option.none : Option Jvm.ClassFile.FieldType)).before args0 about1 = true := code_word (m := ⟨2, 5⟩) (meth := k2m5) (c := k2c5) (by decide +kernel) rfl rfl rfl (by decide +kernel)
set_option maxRecDepth 65536 in
theorem w_c9 : (Jvm.Cond.code ({ cls := "java/util/Arrays", name := "binarySearch", desc := "([JIIJ)I" } : Jvm.MethodName) jdk_65_method_55_code (5 : Nat) (Option.some Jvm.ClassFile.FieldType.int)).before args0 about1 = true := code_word (m := ⟨4, 2⟩) (meth := k4m2) (c := k4c2) (by decide +kernel) rfl rfl rfl (by decide +kernel)
set_option maxRecDepth 65536 in
theorem w_c10 : (Jvm.Cond.code ({ cls := "java/util/Arrays", name := "rangeCheck", desc := "(III)V" } : Jvm.MethodName) jdk_65_method_30_code (3 : Nat) (Option.none : Option Jvm.ClassFile.FieldType)).before args0 about1 = true := code_word (m := ⟨4, 1⟩) (meth := k4m1) (c := k4c1) (by decide +kernel) rfl rfl rfl (by decide +kernel)
set_option maxRecDepth 65536 in
theorem w_c11 : (Jvm.Cond.code ({ cls := "java/util/Arrays", name := "binarySearch0", desc := "([JIIJ)I" } : Jvm.MethodName) jdk_65_method_56_code (10 : Nat) (Option.some Jvm.ClassFile.FieldType.int)).before args0 about1 = true := code_word (m := ⟨4, 3⟩) (meth := k4m3) (c := k4c3) (by decide +kernel) rfl rfl rfl (by decide +kernel)
set_option maxRecDepth 65536 in
theorem w_c12 : (Jvm.Cond.code ({ cls := "com/example/concepta/concepta/store/OidSet", name := "index", desc := "(I)V" } : Jvm.MethodName) prog_128_method_12_code (3 : Nat) (Option.none : Option Jvm.ClassFile.FieldType)).before args0 about1 = true := code_word (m := ⟨2, 6⟩) (meth := k2m6) (c := k2c6) (by decide +kernel) rfl rfl rfl (by decide +kernel)
set_option maxRecDepth 65536 in
theorem w_c13 : (Jvm.Cond.code ({ cls := "com/example/concepta/concepta/store/OidSet", name := "slot", desc := "(J)I" } : Jvm.MethodName) prog_128_method_13_code (5 : Nat) (Option.some Jvm.ClassFile.FieldType.int)).before args0 about1 = true := code_word (m := ⟨2, 7⟩) (meth := k2m7) (c := k2c7) (by decide +kernel) rfl rfl rfl (by decide +kernel)
set_option maxRecDepth 65536 in
theorem w_c14 : (Jvm.Cond.code ({ cls := "com/example/concepta/concepta/store/OidSet", name := "copy", desc := "()Lcom/example/concepta/concepta/store/OidSet;" } : Jvm.MethodName) prog_128_method_16_code (2 : Nat) (Option.some (Jvm.ClassFile.FieldType.object "com/example/concepta/concepta/store/OidSet"))).before args0 about1 = true := code_word (m := ⟨2, 9⟩) (meth := k2m9) (c := k2c9) (by decide +kernel) rfl rfl rfl (by decide +kernel)
set_option maxRecDepth 65536 in
theorem w_c15 : (Jvm.Cond.code ({ cls := "com/example/concepta/concepta/store/OidSet", name := "ascending", desc := "()V" } : Jvm.MethodName) prog_128_method_15_code (6 : Nat) (Option.none : Option Jvm.ClassFile.FieldType)).before args0 about1 = true := code_word (m := ⟨2, 8⟩) (meth := k2m8) (c := k2c8) (by decide +kernel) rfl rfl rfl (by decide +kernel)
set_option maxRecDepth 65536 in
theorem w_c16 : (Jvm.Cond.code ({ cls := "java/lang/Math", name := "min", desc := "(JJ)J" } : Jvm.MethodName) jdk_29_method_70_code (4 : Nat) (Option.some Jvm.ClassFile.FieldType.long)).before args0 about1 = true := code_word (m := ⟨3, 3⟩) (meth := k3m3) (c := k3c3) (by decide +kernel) rfl rfl rfl (by decide +kernel)
set_option maxRecDepth 65536 in
theorem w_c17 : (Jvm.Cond.code ({ cls := "java/util/Arrays", name := "copyOf", desc := "([JI)[J" } : Jvm.MethodName) jdk_65_method_124_code (3 : Nat) (Option.some (Jvm.ClassFile.FieldType.array Jvm.ClassFile.FieldType.long))).before args0 about1 = true := code_word (m := ⟨4, 4⟩) (meth := k4m4) (c := k4c4) (by decide +kernel) rfl rfl rfl (by decide +kernel)
set_option maxRecDepth 65536 in
theorem w_c18 : (Jvm.Cond.code ({ cls := "java/lang/Math", name := "min", desc := "(II)I" } : Jvm.MethodName) jdk_29_method_69_code (2 : Nat) (Option.some Jvm.ClassFile.FieldType.int)).before args0 about1 = true := code_word (m := ⟨3, 2⟩) (meth := k3m2) (c := k3c2) (by decide +kernel) rfl rfl rfl (by decide +kernel)
def codes1 : List Jvm.Cond := [Jvm.Cond.code x code maxLocals ret, Jvm.Cond.code ({ cls := "com/example/concepta/concepta/store/OidSet", name := "<init>", desc := "()V" } : Jvm.MethodName) prog_128_method_1_code (1 : Nat) (Option.none : Option Jvm.ClassFile.FieldType), Jvm.Cond.code ({ cls := "com/example/concepta/concepta/store/OidSet", name := "<init>", desc := "(I)V" } : Jvm.MethodName) prog_128_method_2_code (2 : Nat) (Option.none : Option Jvm.ClassFile.FieldType), Jvm.Cond.code ({ cls := "java/lang/Object", name := "<init>", desc := "()V" } : Jvm.MethodName) object_method_1_code (1 : Nat) (Option.none : Option Jvm.ClassFile.FieldType), Jvm.Cond.code ({ cls := "java/lang/Math", name := "max", desc := "(II)I" } : Jvm.MethodName) jdk_29_method_65_code (2 : Nat) (Option.some Jvm.ClassFile.FieldType.int), Jvm.Cond.code ({ cls := "com/example/concepta/concepta/store/OidSet", name := "holdAtMost", desc := "(I)V" } : Jvm.MethodName) prog_128_method_10_code (2 : Nat) (Option.none : Option Jvm.ClassFile.FieldType), Jvm.Cond.code ({ cls := "com/example/concepta/concepta/store/OidSet", name := "bytes", desc := "()J" } : Jvm.MethodName) prog_128_method_7_code (1 : Nat) (Option.some Jvm.ClassFile.FieldType.long), Jvm.Cond.code ({ cls := "com/example/concepta/concepta/store/OidSet", name := "add", desc := "(JJ)Z" } : Jvm.MethodName) prog_128_method_8_code (7 : Nat) (Option.some Jvm.ClassFile.FieldType.boolean), Jvm.Cond.code ({ cls := "com/example/concepta/concepta/store/OidSet", name := "append", desc := "(JJ)V" } : Jvm.MethodName) prog_128_method_11_code (6 : Nat) (Option.none : Option Jvm.ClassFile.FieldType), Jvm.Cond.code ({ cls := "java/util/Arrays", name := "binarySearch", desc := "([JIIJ)I" } : Jvm.MethodName) jdk_65_method_55_code (5 : Nat) (Option.some Jvm.ClassFile.FieldType.int), Jvm.Cond.code ({ cls := "java/util/Arrays", name := "rangeCheck", desc := "(III)V" } : Jvm.MethodName) jdk_65_method_30_code (3 : Nat) (Option.none : Option Jvm.ClassFile.FieldType), Jvm.Cond.code ({ cls := "java/util/Arrays", name := "binarySearch0", desc := "([JIIJ)I" } : Jvm.MethodName) jdk_65_method_56_code (10 : Nat) (Option.some Jvm.ClassFile.FieldType.int), Jvm.Cond.code ({ cls := "com/example/concepta/concepta/store/OidSet", name := "index", desc := "(I)V" } : Jvm.MethodName) prog_128_method_12_code (3 : Nat) (Option.none : Option Jvm.ClassFile.FieldType), Jvm.Cond.code ({ cls := "com/example/concepta/concepta/store/OidSet", name := "slot", desc := "(J)I" } : Jvm.MethodName) prog_128_method_13_code (5 : Nat) (Option.some Jvm.ClassFile.FieldType.int), Jvm.Cond.code ({ cls := "com/example/concepta/concepta/store/OidSet", name := "copy", desc := "()Lcom/example/concepta/concepta/store/OidSet;" } : Jvm.MethodName) prog_128_method_16_code (2 : Nat) (Option.some (Jvm.ClassFile.FieldType.object "com/example/concepta/concepta/store/OidSet")), Jvm.Cond.code ({ cls := "com/example/concepta/concepta/store/OidSet", name := "ascending", desc := "()V" } : Jvm.MethodName) prog_128_method_15_code (6 : Nat) (Option.none : Option Jvm.ClassFile.FieldType), Jvm.Cond.code ({ cls := "java/lang/Math", name := "min", desc := "(JJ)J" } : Jvm.MethodName) jdk_29_method_70_code (4 : Nat) (Option.some Jvm.ClassFile.FieldType.long), Jvm.Cond.code ({ cls := "java/util/Arrays", name := "copyOf", desc := "([JI)[J" } : Jvm.MethodName) jdk_65_method_124_code (3 : Nat) (Option.some (Jvm.ClassFile.FieldType.array Jvm.ClassFile.FieldType.long)), Jvm.Cond.code ({ cls := "java/lang/Math", name := "min", desc := "(II)I" } : Jvm.MethodName) jdk_29_method_69_code (2 : Nat) (Option.some Jvm.ClassFile.FieldType.int)]
set_option maxRecDepth 65536 in
theorem codes_eq : words1.filter isCode = codes1 := rfl
theorem w_codes : ∀ c ∈ words1.filter isCode, c.before args0 about1 = true := by
  rw [codes_eq]
  intro c hc
  simp only [codes1, List.mem_cons, List.not_mem_nil, or_false] at hc
  rcases hc with rfl | rfl | rfl | rfl | rfl | rfl | rfl | rfl | rfl | rfl | rfl | rfl | rfl | rfl | rfl | rfl | rfl | rfl | rfl
  · exact w_c0
  · exact w_c1
  · exact w_c2
  · exact w_c3
  · exact w_c4
  · exact w_c5
  · exact w_c6
  · exact w_c7
  · exact w_c8
  · exact w_c9
  · exact w_c10
  · exact w_c11
  · exact w_c12
  · exact w_c13
  · exact w_c14
  · exact w_c15
  · exact w_c16
  · exact w_c17
  · exact w_c18
set_option maxRecDepth 65536 in
theorem w_t1 : (words1.take 24).all (fun c => isCode c || c.before args0 about1) = true := by decide +kernel
set_option maxRecDepth 65536 in
theorem w_t2 : ((words1.drop 24).take 24).all (fun c => isCode c || c.before args0 about1) = true := by decide +kernel
set_option maxRecDepth 65536 in
theorem w_t3 : (((words1.drop 24).drop 24).take 24).all (fun c => isCode c || c.before args0 about1) = true := by decide +kernel
set_option maxRecDepth 65536 in
theorem w_t4 : ((((words1.drop 24).drop 24).drop 24).take 24).all (fun c => isCode c || c.before args0 about1) = true := by decide +kernel
set_option maxRecDepth 65536 in
theorem w_t5 : ((((words1.drop 24).drop 24).drop 24).drop 24).all (fun c => isCode c || c.before args0 about1) = true := by decide +kernel
theorem w_tables : (allAtoms (Jvm.Cond.code x code maxLocals ret :: tables_1)).before args0 about1 = true := by
  rw [allAtoms_all]
  show words1.all (fun c => c.before args0 about1) = true
  refine all_split ?_ w_codes
  rw [← List.take_append_drop 24 words1, List.all_append, w_t1, ← List.take_append_drop 24 (words1.drop 24), List.all_append, w_t2, ← List.take_append_drop 24 ((words1.drop 24).drop 24), List.all_append, w_t3, ← List.take_append_drop 24 (((words1.drop 24).drop 24).drop 24), List.all_append, w_t4, w_t5]
  rfl
set_option maxRecDepth 65536 in
theorem w_case : (Jvm.Cond.and given_1 narrow_1).before args0 about1 = true := by decide +kernel
theorem w_applies : (headSpec (Jvm.Cond.code x code maxLocals ret :: tables_1) room_1).applies x e0.platform about1 = true :=
  (Spec.applies_iff w_frames).mpr ⟨w_running, w_runnable, w_alone, w_named, w_hears, w_ripe, w_room, w_tables⟩
theorem atStart : AtStart classFile x code maxLocals ret World_1 tables_1 room_1 Calls_1 rest_1 Pre_1 launch0 p0 e0 about1 theMethod args0 below0 :=
  ⟨lists_1, trivial, launch0.admits_env _ _ _, launch0.least_env, fairChoices_fair.cas, fairChoices_fair.clock, w_frames, w_args, w_heap, w_applies, trivial, trivial, w_case⟩
end start1
theorem witness_1 : WitnessClaimed_1 := ⟨start1.p0, start1.e0, start1.about1, start1.theMethod, start1.args0, start1.below0, start1.atStart⟩
end Jvm.Pilot.@@N@@
