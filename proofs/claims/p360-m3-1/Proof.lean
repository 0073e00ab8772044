import JvmDerived
import JvmDerived.Pilot.@@N@@Statement
import JvmDerived.Pilot.@@N@@Code
set_option linter.unusedVariables false
set_option linter.unusedSimpArgs false
namespace Jvm.Pilot.@@N@@
open Jvm Jvm.ClassFile Sem Op Lib Jvm.Free Jvm.Stand Jvm.LawKit Jvm.RoadKit Bundle Jvm.Pilot.@@N@@.Jvm.D
abbrev lv (x : Int64) : Slot := .val (.long x)
abbrev uN : Slot := Slot.unset
abbrev sN : Slot := Slot.second
section Own
variable {p : Program} {l : Launch} {e : Env} {R : Room} {s : State} {m : MethodId} {args : Array Value} {below : List Frame} {meth : Method} {c : Code} {T : State} {locs : List Loc} {cells slots : Nat} {Z : State} {h h' : Heap} {a b : Addr} {G : State → Outcome → Prop} {Q : Option Value → Heap → List Loc → Prop} {C K : Nat}
/-- the run comes to an end of which G holds -/
def gS (p : Program) (e : Env) (below : List Frame) (G : State → Outcome → Prop) (S : State) : Prop := ∃ s₂ o, Steps p.tables e below S s₂ ∧ s₂.status = .running ∧ Ended s₂ below o ∧ G s₂ o
abbrev gM {p : Program} {e : Env} {b : List Frame} {G : State → Outcome → Prop} {m : MethodId} (T : State) (pc : Nat) (L : Array Slot) (S : List Value) : Prop := gS p e b G (T.setTop (mkF m pc L S))
abbrev sM {p : Program} {e : Env} {b : List Frame} {m : MethodId} (T : State) (pc : Nat) (L : Array Slot) (S : List Value) (t : State) : Prop := Steps p.tables e b (T.setTop (mkF m pc L S)) t
theorem wO {a0 : Array Value} {Z : State} (hw : ∀ d ∈ tables_1, d.before a0 Z = true) (i : Nat) {d : Jvm.Cond} (h : tables_1[i]? = some d) : d.before a0 Z = true := hw d (List.mem_of_getElem? h)
theorem sT {S S' : State} (k : ∀ t, Steps p.tables e below S' t → Steps p.tables e below S t) (h : gS p e below G S') : gS p e below G S := by
  obtain ⟨s₂, o, h1, h2⟩ := h
  exact ⟨s₂, o, k _ h1, h2⟩
theorem own_jump {S S' : State} (k : Steps p.tables e below S S') (h : gS p e below G S') : gS p e below G S := sT (fun _ q => k.trans q) h
def own_Fin (s : State) (Q : Option Value → Heap → List Loc → Prop) (C K : Nat) : State → Outcome → Prop := fun U o => ∃ v L, o = .returned v ∧ Q v U.heap L ∧ FrameEnd s o U L C K
theorem own_ret0 (X : Stand p l e R s m args below meth c T locs cells slots) (hx : p.tables.exec = Jvm.exec) (hlk : meth.locks = false) (hret : meth.sig.returnType = none) {pc : Nat} {Ls : Array Slot} (hd : decode c.code pc = .ok (.return_, 1)) (hq : Q none T.heap locs) (hc : cells ≤ C) (hk : slots ≤ K) :
    gS p e below (own_Fin s Q C K) (T.setTop (mkF m pc Ls [])) := by
  obtain ⟨fs, hr, hrun, hended, hW, hsame⟩ := X.leave (v := none) (fun _ => rfl)
  exact ⟨_, _, X.returnOut hx hret hd hr, hrun, hended, _, _, rfl, hq, ⟨_, rfl⟩, hW, hsame.mono hc hk⟩
theorem own_retV (X : Stand p l e R s m args below meth c T locs cells slots) (hx : p.tables.exec = Jvm.exec) (hlk : meth.locks = false) {t : FieldType} (hret : meth.sig.returnType = some t) {w : Value} (hn : narrow t w = w) {i : Instr}
    (hi : (i = .ireturn ∧ (t = .int ∨ t = .boolean ∨ t = .byte ∨ t = .char ∨ t = .short) ∧ ∃ z, w = .int z) ∨ (i = .lreturn ∧ t = .long ∧ ∃ z, w = .long z) ∨ (i = .dreturn ∧ t = .double ∧ ∃ z, w = .double z) ∨ (i = .freturn ∧ t = .float ∧ ∃ z, w = .float z) ∨ (i = .areturn ∧ t.isReference = true ∧ w.isRef = true))
    {pc : Nat} {Ls : Array Slot} {rest : List Value} (hd : decode c.code pc = .ok (i, 1)) (hq : Q (some w) T.heap locs) (hc : cells ≤ C) (hk : slots ≤ K) :
    gS p e below (own_Fin s Q C K) (T.setTop (mkF m pc Ls (w :: rest))) := by
  obtain ⟨fs, hr, hrun, hended, hW, hsame⟩ := X.leave (v := some w) (fun h => by rw [hret] at h; cases h)
  exact ⟨_, _, retOut X hx hret hn hi hd hr, hrun, hended, _, _, rfl, hq, ⟨_, rfl⟩, hW, hsame.mono hc hk⟩
theorem own_nb {z : Int32} (h : z = 0 ∨ z = 1) : narrow .boolean (.int z) = .int z := by
  rcases h with rfl | rfl <;> rfl
theorem own_01 {q : Prop} [Decidable q] {x y : Int32} (hx : x = 0 ∨ x = 1) (hy : y = 0 ∨ y = 1) : (if q then x else y) = 0 ∨ (if q then x else y) = 1 := by
  split
  · exact hx
  · exact hy
/-- the law's own promise -/
def own_Q0 (n0 : Nat) (v : Option Value) (h : Heap) (L : List Loc) : Prop := v = some (.int 1) ∧ Fr n0 L
theorem own_retL {n0 : Nat} (X : Stand p l e R s m args below meth c T locs cells slots) (hx : p.tables.exec = Jvm.exec) (hlk : meth.locks = false) (hret : meth.sig.returnType = some .boolean) {pc : Nat} {Ls : Array Slot} {z : Int32} {rest : List Value} (hd : decode c.code pc = .ok (.ireturn, 1)) (hz : z = 1) (N : Fr n0 locs) (hc : cells ≤ C) (hk : slots ≤ K) :
    gS p e below (own_Fin s (own_Q0 n0) C K) (T.setTop (mkF m pc Ls (.int z :: rest))) := by
  subst hz
  exact own_retV X hx hlk hret (own_nb (Or.inr rfl)) (Or.inl ⟨rfl, Or.inr (Or.inl rfl), _, rfl⟩) hd ⟨rfl, N⟩ hc hk
/-! arrays of ints and of longs, by their lists -/
theorem own_getI (xs : List Int32) (n : Nat) : (xs.map Value.int).getD n (Value.int 0) = Value.int (xs.getD n 0) := by
  simp only [List.getD_eq_getElem?_getD, List.getElem?_map]
  cases xs[n]? <;> rfl
theorem own_getJ (xs : List Int64) (n : Nat) : (xs.map Value.long).getD n (Value.long 0) = Value.long (xs.getD n 0) := by
  simp only [List.getD_eq_getElem?_getD, List.getElem?_map]
  cases xs[n]? <;> rfl
theorem own_newI {k : ClassId} {z : Int32} (A : Arr Z h a (newA k .int z) .int) (q : ¬ z < 0) (n : Nat) : Arv Z h a k .int z ((List.replicate n (0 : Int32)).map Value.int) (Value.int 0) :=
  (Arv.new A q).pad fun i => by rw [List.map_replicate]; exact pad_rep [] (Value.int 0) n i
theorem own_newJ {k : ClassId} {z : Int32} (A : Arr Z h a (newA k .long z) .long) (q : ¬ z < 0) (n : Nat) : Arv Z h a k .long z ((List.replicate n (0 : Int64)).map Value.long) (Value.long 0) :=
  (Arv.new A q).pad fun i => by rw [List.map_replicate]; exact pad_rep [] (Value.long 0) n i
theorem own_ial (X : Stand p l e R s m args below meth c T locs cells slots) (hx : p.tables.exec = Jvm.exec) (hZ : Z.Warmed39 s.vm) (eT : T.heap = h) {k : ClassId} {z j : Int32} {xs : List Int32} (F : Arv Z h a k .int z (xs.map Value.int) (Value.int 0)) (hj : ¬ j < 0 ∧ j < z)
    {g : JFrame} (hg : g.method = m) {rest : List Value} (hs : g.stack = .int j :: .ref a :: rest) (hd : decode c.code g.pc = .ok (.iaload, 1)) (t : State) (kk : Steps p.tables e below (T.setTop { g with pc := g.pc + 1, stack := .int (xs.getD j.toNatClampNeg 0) :: rest }) t) : Steps p.tables e below (T.setTop g) t := by
  obtain ⟨cl, Ar, -, S, -, H, -⟩ := F
  have hin := inb_of S hj
  exact X.iaload hx (j := j) (by rw [eT]; exact Ar.1) (State.isArrayOf_alike hZ.alike Ar.2.1) Ar.2.2 hin (H.at hin (own_getI _ _)) hg hs hd t kk
theorem own_lal (X : Stand p l e R s m args below meth c T locs cells slots) (hx : p.tables.exec = Jvm.exec) (hZ : Z.Warmed39 s.vm) (eT : T.heap = h) {k : ClassId} {z j : Int32} {xs : List Int64} (F : Arv Z h a k .long z (xs.map Value.long) (Value.long 0)) (hj : ¬ j < 0 ∧ j < z)
    {g : JFrame} (hg : g.method = m) {rest : List Value} (hs : g.stack = .int j :: .ref a :: rest) (hd : decode c.code g.pc = .ok (.laload, 1)) (t : State) (kk : Steps p.tables e below (T.setTop { g with pc := g.pc + 1, stack := .long (xs.getD j.toNatClampNeg 0) :: rest }) t) : Steps p.tables e below (T.setTop g) t := by
  obtain ⟨cl, Ar, -, S, -, H, -⟩ := F
  have hin := inb_of S hj
  exact X.laload hx (j := j) (by rw [eT]; exact Ar.1) (State.isArrayOf_alike hZ.alike Ar.2.1) Ar.2.2 hin (H.at hin (own_getJ _ _)) hg hs hd t kk
theorem own_len (X : Stand p l e R s m args below meth c T locs cells slots) (hx : p.tables.exec = Jvm.exec) (hZ : Z.Warmed39 s.vm) (eT : T.heap = h) {k : ClassId} {ty : FieldType} {z : Int32} {vs : List Value} {dv : Value} (F : Arv Z h a k ty z vs dv)
    {g : JFrame} (hg : g.method = m) {rest : List Value} (hs : g.stack = .ref a :: rest) (hd : decode c.code g.pc = .ok (.arraylength, 1)) (t : State) (kk : Steps p.tables e below (T.setTop { g with pc := g.pc + 1, stack := .int z :: rest }) t) : Steps p.tables e below (T.setTop g) t := by
  obtain ⟨cl, Ar, -, S, N, -, -⟩ := F
  refine X.arraylength hx (by rw [eT]; exact Ar.1) (State.isArrayOf_alike hZ.alike Ar.2.1) hg hs hd t ?_
  rw [len_of S N]
  exact kk
theorem own_ist (X : Stand p l e R s m args below meth c T locs cells slots) (hx : p.tables.exec = Jvm.exec) (hZ : Z.Warmed39 s.vm) (eT : T.heap = h) {k : ClassId} {z j y : Int32} {xs : List Int32} (F : Arv Z h a k .int z (xs.map Value.int) (Value.int 0)) (hj : ¬ j < 0 ∧ j < z) (n : Nat) (hn : j.toNatClampNeg = n) (hl : n < xs.length)
    {g : JFrame} (hg : g.method = m) {rest : List Value} (hs : g.stack = .int y :: .int j :: .ref a :: rest) (hd : decode c.code g.pc = .ok (.iastore, 1)) :
    ∃ T' h', Stand p l e R s m args below meth c T' (locs ++ [⟨a, j.toNatClampNeg⟩]) cells slots ∧ T'.heap = h' ∧ Wr h h' a j.toNatClampNeg (.int y) ∧ Arv Z h' a k .int z ((xs.set n y).map Value.int) (Value.int 0) ∧ ∀ t, Steps p.tables e below (T'.setTop { g with pc := g.pc + 1, stack := rest }) t → Steps p.tables e below (T.setTop g) t := by
  obtain ⟨cl, Ar, q, S, N, H, I⟩ := F
  obtain ⟨T', h', X', e', W, st⟩ := stI X hx hZ eT Ar (inb_of S hj) hg hs hd
  refine ⟨T', h', X', e', W, ?_, st⟩
  rw [List.map_set]
  exact Arv.set Ar q S N H I rfl W n hn (by rw [List.length_map]; exact hl)
theorem own_lst (X : Stand p l e R s m args below meth c T locs cells slots) (hx : p.tables.exec = Jvm.exec) (hZ : Z.Warmed39 s.vm) (eT : T.heap = h) {k : ClassId} {z j : Int32} {y : Int64} {xs : List Int64} (F : Arv Z h a k .long z (xs.map Value.long) (Value.long 0)) (hj : ¬ j < 0 ∧ j < z) (n : Nat) (hn : j.toNatClampNeg = n) (hl : n < xs.length)
    {g : JFrame} (hg : g.method = m) {rest : List Value} (hs : g.stack = .long y :: .int j :: .ref a :: rest) (hd : decode c.code g.pc = .ok (.lastore, 1)) :
    ∃ T' h', Stand p l e R s m args below meth c T' (locs ++ [⟨a, j.toNatClampNeg⟩]) cells slots ∧ T'.heap = h' ∧ Wr h h' a j.toNatClampNeg (.long y) ∧ Arv Z h' a k .long z ((xs.set n y).map Value.long) (Value.long 0) ∧ ∀ t, Steps p.tables e below (T'.setTop { g with pc := g.pc + 1, stack := rest }) t → Steps p.tables e below (T.setTop g) t := by
  obtain ⟨cl, Ar, q, S, N, H, I⟩ := F
  obtain ⟨T', h', X', e', W, st⟩ := stJ X hx hZ eT Ar (inb_of S hj) hg hs hd
  refine ⟨T', h', X', e', W, ?_, st⟩
  rw [List.map_set]
  exact Arv.set Ar q S N H I rfl W n hn (by rw [List.length_map]; exact hl)
end Own
def own_n3 (y0 y1 y2 w0 w1 w2 : Int32) : Int32 := if y0 = w0 then (if y1 = w1 then (if y2 = w2 then 1 else 0) else 0) else 0
def own_n4 (y0 y1 y2 y3 w0 w1 w2 w3 : Int32) : Int32 := if y0 = w0 then (if y1 = w1 then (if y2 = w2 then (if y3 = w3 then 1 else 0) else 0) else 0) else 0
theorem own_i8 (x : Int32) : nar .byte (x.toInt8.toInt32) = x.toInt8.toInt32 := by
  show (x.toInt8.toInt32).toInt8.toInt32 = x.toInt8.toInt32
  simp
theorem own_nB (x : Int32) : narrow .byte (.int (x.toInt8.toInt32)) = .int (x.toInt8.toInt32) := congrArg Value.int (own_i8 x)
theorem own_c16 (x : Int32) : nar .char (x.toUInt32.toUInt16.toUInt32.toInt32) = x.toUInt32.toUInt16.toUInt32.toInt32 := by
  have q := c_i2c x
  have r := c_i2c (x.toUInt32.toUInt16.toUInt32.toInt32)
  apply Int32.toInt_inj.mp
  show ((x.toUInt32.toUInt16.toUInt32.toInt32).toUInt32.toUInt16.toUInt32.toInt32).toInt = (x.toUInt32.toUInt16.toUInt32.toInt32).toInt
  omega
theorem own_nC (x : Int32) : narrow .char (.int (x.toUInt32.toUInt16.toUInt32.toInt32)) = .int (x.toUInt32.toUInt16.toUInt32.toInt32) := congrArg Value.int (own_c16 x)
theorem own_cpos {c : Int32} (hN : nar .char c = c) : 0 ≤ c.toInt ∧ c.toInt < 65536 := by
  have q := c_i2c c
  rw [show c.toUInt32.toUInt16.toUInt32.toInt32 = c from hN] at q
  exact q.2
theorem own_bq {c : Int32} (hN : nar .char c = c) (hle : ¬ (255 : Int32) < c) {w : Int32} (h0 : 0 ≤ w.toInt) (h1 : w.toInt < 128) : (c.toInt8.toInt32 = w) = (c = w) := by
  have q := own_cpos hN
  have e : (255 : Int32).toInt = 255 := by decide
  rw [Int32.lt_iff_toInt_lt, e] at hle
  have r := c_i2b c
  apply propext
  rw [← Int32.toInt_inj, ← Int32.toInt_inj]
  omega
theorem own_c6 {x v : Int32} (h : ((x &&& (7 : Int32)) % (6 : Int32)) = v) : v = (0 : Int32) ∨ v = (1 : Int32) ∨ v = (2 : Int32) ∨ v = (3 : Int32) ∨ v = (4 : Int32) ∨ v = (5 : Int32) := by
  have q := c_and x 7 (by decide)
  have r := (c_irem (x &&& (7 : Int32)) 6 6 (by decide)).1 q.1
  rw [h] at r
  have hb : v.toInt = (0 : Int32).toInt ∨ v.toInt = (1 : Int32).toInt ∨ v.toInt = (2 : Int32).toInt ∨ v.toInt = (3 : Int32).toInt ∨ v.toInt = (4 : Int32).toInt ∨ v.toInt = (5 : Int32).toInt := by
    show v.toInt = 0 ∨ v.toInt = 1 ∨ v.toInt = 2 ∨ v.toInt = 3 ∨ v.toInt = 4 ∨ v.toInt = 5
    omega
  exact hb.imp Int32.toInt_inj.mp (Or.imp Int32.toInt_inj.mp (Or.imp Int32.toInt_inj.mp (Or.imp Int32.toInt_inj.mp (Or.imp Int32.toInt_inj.mp Int32.toInt_inj.mp))))
theorem own_w01 {q : Prop} [Decidable q] {v : Int32} (h : (if q then (0 : Int32) else (1 : Int32)) = v) : v = (0 : Int32) ∨ v = (1 : Int32) := by
  subst h
  exact own_01 (Or.inl rfl) (Or.inr rfl)
def own_comb (x y : Int32) : Int32 := (((x &&& (255 : Int32)) <<< ((0 : Int32) &&& 31)) ||| ((y &&& (255 : Int32)) <<< ((8 : Int32) &&& 31))).toUInt32.toUInt16.toUInt32.toInt32
theorem own_combI (x y : Int32) : (own_comb x y).toInt = x.toInt % 256 + (y.toInt % 256) * 256 := by
  have m1 : (x &&& (255 : Int32)).toInt = x.toInt % 256 := c_mask x 255 8 (by decide) (by decide)
  have m2 : (y &&& (255 : Int32)).toInt = y.toInt % 256 := c_mask y 255 8 (by decide) (by decide)
  have l1 : (((x &&& (255 : Int32)) <<< ((0 : Int32) &&& 31)).toInt - (x &&& (255 : Int32)).toInt * 1) % 4294967296 = 0 := c_ishl (x &&& (255 : Int32)) 0 0 (by decide)
  have l2 : (((y &&& (255 : Int32)) <<< ((8 : Int32) &&& 31)).toInt - (y &&& (255 : Int32)).toInt * 256) % 4294967296 = 0 := c_ishl (y &&& (255 : Int32)) 8 8 (by decide)
  have r1 := rng32 ((x &&& (255 : Int32)) <<< ((0 : Int32) &&& 31))
  have r2 := rng32 ((y &&& (255 : Int32)) <<< ((8 : Int32) &&& 31))
  have o := c_or' ((x &&& (255 : Int32)) <<< ((0 : Int32) &&& 31)) ((y &&& (255 : Int32)) <<< ((8 : Int32) &&& 31)) 8 (by decide) 256 (by decide) (by omega) (by omega) (by omega)
  have f := c_i2c (((x &&& (255 : Int32)) <<< ((0 : Int32) &&& 31)) ||| ((y &&& (255 : Int32)) <<< ((8 : Int32) &&& 31)))
  have rt := rng32 (((x &&& (255 : Int32)) <<< ((0 : Int32) &&& 31)) ||| ((y &&& (255 : Int32)) <<< ((8 : Int32) &&& 31)))
  unfold own_comb
  omega
theorem own_get {c : Int32} (hN : nar .char c = c) : own_comb ((c >>> ((0 : Int32) &&& 31)).toInt8.toInt32) ((c >>> ((8 : Int32) &&& 31)).toInt8.toInt32) = c := by
  have q := own_cpos hN
  have s1 : (c >>> ((0 : Int32) &&& 31)).toInt = c.toInt / 1 := c_ishr c 0 0 (by decide)
  have s2 : (c >>> ((8 : Int32) &&& 31)).toInt = c.toInt / 256 := c_ishr c 8 8 (by decide)
  have b1 := c_i2b (c >>> ((0 : Int32) &&& 31))
  have b2 := c_i2b (c >>> ((8 : Int32) &&& 31))
  apply Int32.toInt_inj.mp
  rw [own_combI]
  omega
theorem own_gt {c : Int32} (hN : nar .char c = c) (h : (255 : Int32) < c) : (255 : Int32) < own_comb ((c >>> ((0 : Int32) &&& 31)).toInt8.toInt32) ((c >>> ((8 : Int32) &&& 31)).toInt8.toInt32) := by
  rw [own_get hN]
  exact h
section Own2
variable {p : Program} {l : Launch} {e : Env} {R : Room} {s : State} {m : MethodId} {args : Array Value} {below : List Frame} {meth : Method} {c : Code} {T : State} {locs : List Loc} {cells slots : Nat} {Z : State} {h h' : Heap} {a b : Addr} {G : State → Outcome → Prop} {Q : Option Value → Heap → List Loc → Prop} {C K : Nat} {a0 : Array Value}
/-- the intern table's books go along with a narrow step -/
theorem own_ibH {Ts : List String} {vm1 : Vm} (I : IB Z s.vm Ts) (hW : s.WarmedH vm1) : IB Z vm1 Ts := by
  obtain ⟨more, h1, h2⟩ := I
  exact ⟨more, (State.WarmedH.interned_eq hW).trans h1, h2⟩
def own_FinW (s Z : State) (Ts : List String) (Q : Option Value → Heap → List Loc → Prop) (C K : Nat) : State → Outcome → Prop := fun U o => ∃ v L, o = .returned v ∧ Q v U.heap L ∧ IB Z U.vm Ts ∧ ReturnedEndW s o U L C K
theorem own_monoW {L : List Loc} {o : Outcome} {U : State} (q : ReturnedEndW s o U L cells slots) (hc : cells ≤ C) (hk : slots ≤ K) : ReturnedEndW s o U L C K := ⟨q.1, q.2.1, q.2.2.1, q.2.2.2.mono hc hk⟩
theorem own_ret0W {Ts : List String} {vm1 : Vm} {n : Nat} (X : Stand p l e R (s.setVm vm1) m args below meth c T locs cells slots) (hS : s.Since vm1 n) (hn' : n ≤ T.heap.size) (I : IB Z vm1 Ts) (hx : p.tables.exec = Jvm.exec) (hlk : meth.locks = false) (hret : meth.sig.returnType = none) {pc : Nat} {Ls : Array Slot} (hd : decode c.code pc = .ok (.return_, 1)) (hq : Q none T.heap locs) (hc : cells ≤ C) (hk : slots ≤ K) :
    gS p e below (own_FinW s Z Ts Q C K) (T.setTop (mkF m pc Ls [])) := by
  obtain ⟨fs, hr, hrun, hended, hW⟩ := X.leaveW hS hn' (v := none) (fun _ => rfl)
  exact ⟨_, _, X.returnOut hx hret hd hr, hrun, hended, _, _, rfl, hq, own_ibH (s := s.setVm vm1) I X.warmed, own_monoW hW hc hk⟩
theorem own_retVW {Ts : List String} {vm1 : Vm} {n : Nat} (X : Stand p l e R (s.setVm vm1) m args below meth c T locs cells slots) (hS : s.Since vm1 n) (hn' : n ≤ T.heap.size) (I : IB Z vm1 Ts) (hx : p.tables.exec = Jvm.exec) (hlk : meth.locks = false) {t : FieldType} (hret : meth.sig.returnType = some t) {w : Value} (hn : narrow t w = w) {i : Instr}
    (hi : (i = .ireturn ∧ (t = .int ∨ t = .boolean ∨ t = .byte ∨ t = .char ∨ t = .short) ∧ ∃ z, w = .int z) ∨ (i = .lreturn ∧ t = .long ∧ ∃ z, w = .long z) ∨ (i = .dreturn ∧ t = .double ∧ ∃ z, w = .double z) ∨ (i = .freturn ∧ t = .float ∧ ∃ z, w = .float z) ∨ (i = .areturn ∧ t.isReference = true ∧ w.isRef = true))
    {pc : Nat} {Ls : Array Slot} {rest : List Value} (hd : decode c.code pc = .ok (i, 1)) (hq : Q (some w) T.heap locs) (hc : cells ≤ C) (hk : slots ≤ K) :
    gS p e below (own_FinW s Z Ts Q C K) (T.setTop (mkF m pc Ls (w :: rest))) := by
  obtain ⟨fs, hr, hrun, hended, hW⟩ := X.leaveW hS hn' (v := some w) (fun h => by rw [hret] at h; cases h)
  exact ⟨_, _, retOut X hx hret hn hi hd hr, hrun, hended, _, _, rfl, hq, own_ibH (s := s.setVm vm1) I X.warmed, own_monoW hW hc hk⟩
theorem own_backW {y : MethodName} {bytes : ByteArray} {maxL : Nat} {ret : Option FieldType} {rm : Room} {len W : Nat} {as' : Array Value} {Ts Ts' : List String}
    (hM : MetFree l y (head1 [Cond.code y bytes maxL ret] rm) (fun a U => a = as' ∧ Z.Warmed39 U.vm ∧ U.heap = h ∧ IB Z U.vm Ts) (fun _ _ _ _ _ => True) (fun _ U o U' => ∃ v L, o = .returned v ∧ Q v U'.heap L ∧ IB Z U'.vm Ts' ∧ ReturnedEndW U o U' L rm.cells rm.slots))
    (hZ : Z.Warmed39 s.vm) (wc : (Cond.code y bytes maxL ret).before a0 Z = true) (wz : (Cond.initialized y.cls).before a0 Z = true) (hf : rm.frames + 1 ≤ R.frames) (hl : W + (maxL + 11) + rm.locals ≤ R.locals) :
    BackS l R p e below s args y len W (fun A a => a = as' ∧ A.U.heap = h ∧ IB Z A.U.vm Ts ∧ A.cells + rm.cells ≤ R.cells ∧ A.slots + rm.slots ≤ R.slots)
      (fun A _ v B => ∃ L, (Q v B.U.heap L ∧ IB Z B.U.vm Ts') ∧ B.locs = A.locs ++ L ∧ B.cells = A.cells + rm.cells ∧ B.slots = A.slots + rm.slots) :=
  BackS.of_freeW (bytes := bytes) (maxL := maxL) (ret := ret) (E := fun _ _ o t L k n => k = rm.cells ∧ n = rm.slots ∧ ∃ v, o = .returned v ∧ Q v t.heap L ∧ IB Z t.vm Ts') hM hf hl
    (fun m meth c A a Y hp => have hU : Z.Warmed39 A.U.vm := wtrans hZ Y.warmed
      ⟨by show (Cond.and _ .tt).before a A.U = true; rw [Cond.before_and, mv hU wc]; rfl, mv hU wc, mv hU wz, hp.2.2.2.1, hp.2.2.2.2⟩)
    (fun m meth c A a g mk Y hp => ⟨hp.1, wtrans hZ Y.warmed, hp.2.1, hp.2.2.1⟩) (fun _ _ _ _ _ _ _ _ _ => trivial)
    (fun _ _ _ _ ⟨v, L, h1, h2, h3, h4⟩ => ⟨L, _, _, h4, rfl, rfl, v, h1, h2, h3⟩)
    (fun m meth c A a g mk v t L k n Y hp _ _ ⟨e1, e2, v', e3, e4, e5⟩ => by cases e3; subst e1 e2; exact ⟨L, ⟨e4, e5⟩, rfl, rfl, rfl⟩)
theorem own_cal (X : Stand p l e R s m args below meth c T locs cells slots) (hx : p.tables.exec = Jvm.exec) (hZ : Z.Warmed39 s.vm) (eT : T.heap = h) {k : ClassId} {z j : Int32} {xs : List Int32} (F : Arv Z h a k .char z (xs.map Value.int) (Value.int 0)) (hj : ¬ j < 0 ∧ j < z)
    {g : JFrame} (hg : g.method = m) {rest : List Value} (hs : g.stack = .int j :: .ref a :: rest) (hd : decode c.code g.pc = .ok (.caload, 1)) (t : State) (kk : Steps p.tables e below (T.setTop { g with pc := g.pc + 1, stack := .int (xs.getD j.toNatClampNeg 0) :: rest }) t) : Steps p.tables e below (T.setTop g) t := by
  obtain ⟨cl, Ar, -, S, -, H, -⟩ := F
  have hin := inb_of S hj
  exact X.caload hx (j := j) (by rw [eT]; exact Ar.1) (State.isArrayOf_alike hZ.alike Ar.2.1) Ar.2.2 hin (H.at hin (own_getI _ _)) hg hs hd t kk
theorem own_bal (X : Stand p l e R s m args below meth c T locs cells slots) (hx : p.tables.exec = Jvm.exec) (hZ : Z.Warmed39 s.vm) (eT : T.heap = h) {k : ClassId} {z j : Int32} {xs : List Int32} (F : Arv Z h a k .byte z (xs.map Value.int) (Value.int 0)) (hj : ¬ j < 0 ∧ j < z)
    {g : JFrame} (hg : g.method = m) {rest : List Value} (hs : g.stack = .int j :: .ref a :: rest) (hd : decode c.code g.pc = .ok (.baload, 1)) (t : State) (kk : Steps p.tables e below (T.setTop { g with pc := g.pc + 1, stack := .int (xs.getD j.toNatClampNeg 0) :: rest }) t) : Steps p.tables e below (T.setTop g) t := by
  obtain ⟨cl, Ar, -, S, -, H, -⟩ := F
  have hin := inb_of S hj
  exact X.baloadBytes hx (j := j) (by rw [eT]; exact Ar.1) (State.isArrayOf_alike hZ.alike Ar.2.1) Ar.2.2 hin (H.at hin (own_getI _ _)) hg hs hd t kk
theorem own_cst (X : Stand p l e R s m args below meth c T locs cells slots) (hx : p.tables.exec = Jvm.exec) (hZ : Z.Warmed39 s.vm) (eT : T.heap = h) {k : ClassId} {z j y : Int32} {xs : List Int32} (F : Arv Z h a k .char z (xs.map Value.int) (Value.int 0)) (hv : nar .char y = y) (hj : ¬ j < 0 ∧ j < z) (n : Nat) (hn : j.toNatClampNeg = n) (hl : n < xs.length)
    {g : JFrame} (hg : g.method = m) {rest : List Value} (hs : g.stack = .int y :: .int j :: .ref a :: rest) (hd : decode c.code g.pc = .ok (.castore, 1)) :
    ∃ T' h', Stand p l e R s m args below meth c T' (locs ++ [⟨a, j.toNatClampNeg⟩]) cells slots ∧ T'.heap = h' ∧ Wr h h' a j.toNatClampNeg (.int y) ∧ Arv Z h' a k .char z ((xs.set n y).map Value.int) (Value.int 0) ∧ ∀ t, Steps p.tables e below (T'.setTop { g with pc := g.pc + 1, stack := rest }) t → Steps p.tables e below (T.setTop g) t := by
  obtain ⟨cl, Ar, q, S, N, H, I⟩ := F
  obtain ⟨T', h', X', e', W, st⟩ := stC X hx hZ eT Ar (inb_of S hj) hg hs hd
  have q2 : fits .char (.int (nar .char y)) = true := fits_nar_char y
  rw [hv] at W q2
  refine ⟨T', h', X', e', W, ?_, st⟩
  rw [List.map_set]
  exact Arv.set Ar q S N H I q2 W n hn (by rw [List.length_map]; exact hl)
theorem own_bst (X : Stand p l e R s m args below meth c T locs cells slots) (hx : p.tables.exec = Jvm.exec) (hZ : Z.Warmed39 s.vm) (eT : T.heap = h) {k : ClassId} {z j y : Int32} {xs : List Int32} (F : Arv Z h a k .byte z (xs.map Value.int) (Value.int 0)) (hv : nar .byte y = y) (hj : ¬ j < 0 ∧ j < z) (n : Nat) (hn : j.toNatClampNeg = n) (hl : n < xs.length)
    {g : JFrame} (hg : g.method = m) {rest : List Value} (hs : g.stack = .int y :: .int j :: .ref a :: rest) (hd : decode c.code g.pc = .ok (.bastore, 1)) :
    ∃ T' h', Stand p l e R s m args below meth c T' (locs ++ [⟨a, j.toNatClampNeg⟩]) cells slots ∧ T'.heap = h' ∧ Wr h h' a j.toNatClampNeg (.int y) ∧ Arv Z h' a k .byte z ((xs.set n y).map Value.int) (Value.int 0) ∧ ∀ t, Steps p.tables e below (T'.setTop { g with pc := g.pc + 1, stack := rest }) t → Steps p.tables e below (T.setTop g) t := by
  obtain ⟨cl, Ar, q, S, N, H, I⟩ := F
  obtain ⟨T', h', X', e', W, st⟩ := stB X hx hZ eT Ar (inb_of S hj) hg hs hd
  have q2 : fits .byte (.int (nar .byte y)) = true := fits_nar_byte y
  rw [hv] at W q2
  refine ⟨T', h', X', e', W, ?_, st⟩
  rw [List.map_set]
  exact Arv.set Ar q S N H I q2 W n hn (by rw [List.length_map]; exact hl)
theorem own_newC {k : ClassId} {z : Int32} (A : Arr Z h a (newA k .char z) .char) (q : ¬ z < 0) (n : Nat) : Arv Z h a k .char z ((List.replicate n (0 : Int32)).map Value.int) (Value.int 0) :=
  (Arv.new A q).pad fun i => by rw [List.map_replicate]; exact pad_rep [] (Value.int 0) n i
theorem own_newB {k : ClassId} {z : Int32} (A : Arr Z h a (newA k .byte z) .byte) (q : ¬ z < 0) (n : Nat) : Arv Z h a k .byte z ((List.replicate n (0 : Int32)).map Value.int) (Value.int 0) :=
  (Arv.new A q).pad fun i => by rw [List.map_replicate]; exact pad_rep [] (Value.int 0) n i
def own_FinL (s : State) (Q : Option Value → Heap → List Loc → Prop) (C K : Nat) : State → Outcome → Prop := fun U o => ∃ v L, o = .returned v ∧ Q v U.heap L ∧ ReturnedEndW s o U L C K
theorem own_retLW {n0 n : Nat} {vm1 : Vm} (X : Stand p l e R (s.setVm vm1) m args below meth c T locs cells slots) (hS : s.Since vm1 n) (hn' : n ≤ T.heap.size) (hx : p.tables.exec = Jvm.exec) (hlk : meth.locks = false) (hret : meth.sig.returnType = some .boolean) {pc : Nat} {Ls : Array Slot} {z : Int32} {rest : List Value} (hd : decode c.code pc = .ok (.ireturn, 1)) (hz : z = 1) (N : Fr n0 locs) (hc : cells ≤ C) (hk : slots ≤ K) :
    gS p e below (own_FinL s (own_Q0 n0) C K) (T.setTop (mkF m pc Ls (.int z :: rest))) := by
  subst hz
  obtain ⟨fs, hr, hrun, hended, hW⟩ := X.leaveW hS hn' (v := some (.int 1)) (fun h => by rw [hret] at h; cases h)
  exact ⟨_, _, retOut X hx hret (own_nb (Or.inr rfl)) (Or.inl ⟨rfl, Or.inr (Or.inl rfl), _, rfl⟩) hd hr, hrun, hended, _, _, rfl, ⟨rfl, N⟩, own_monoW hW hc hk⟩
/-- two facts about one array agree -/
theorem own_arveq {k k' : ClassId} {ty ty' : FieldType} {z z' : Int32} {vs vs' : List Value} {d d' : Value} (F : Arv Z h a k ty z vs d) (F' : Arv Z h a k' ty' z' vs' d') : z = z' := by
  obtain ⟨c1, A, -, S, N, -⟩ := F
  obtain ⟨c2, A', -, S', N', -⟩ := F'
  cases A.1.symm.trans A'.1
  exact (len_of S N).symm.trans (len_of S' N')
theorem own_arvget {k k' : ClassId} {ty ty' : FieldType} {z z' : Int32} {vs vs' : List Value} {d d' : Value} (F : Arv Z h a k ty z vs d) (F' : Arv Z h a k' ty' z' vs' d') (i : Nat) (hi : i < z.toNatClampNeg) : vs.getD i d = vs'.getD i d' := by
  obtain ⟨c1, A, -, S, N, H, -⟩ := F
  obtain ⟨c2, A', -, S', N', H', -⟩ := F'
  cases A.1.symm.trans A'.1
  have hi' : i < c1.slots.size := by rw [S]; exact hi
  exact Option.some.inj ((H i hi').symm.trans (H' i hi'))
theorem own_difflen {x y b1 b2 : Addr} {C n d : String} {k k' : ClassId} {ty ty' : FieldType} {z z' : Int32} {vs vs' : List Value} {dv dv' : Value} (F : Fld Z h x C n d (.ref b1)) (F' : Fld Z h y C n d (.ref b2)) (V : Arv Z h b1 k ty z vs dv) (V' : Arv Z h b2 k' ty' z' vs' dv') (hz : z ≠ z') : x ≠ y :=
  F.ne F' fun q => by cases q; exact hz (own_arveq V V')
theorem own_fldref {x y b1 b2 : Addr} {C n d : String} (F : Fld Z h x C n d (.ref b1)) (F' : Fld Z h y C n d (.ref b2)) (q : x = y) : b1 = b2 := Classical.byContradiction fun r => F.ne F' (fun z => r (Value.ref.inj z)) q
theorem own_same3 {x y b1 b2 : Addr} {C n d : String} {k k' : ClassId} {y0 y1 y2 w0 w1 w2 : Int32} (F : Fld Z h x C n d (.ref b1)) (F' : Fld Z h y C n d (.ref b2)) (V : Arv Z h b1 k .byte (3 : Int32) (([y0, y1, y2] : List Int32).map Value.int) (Value.int 0)) (V' : Arv Z h b2 k' .byte (3 : Int32) (([w0, w1, w2] : List Int32).map Value.int) (Value.int 0)) (q : x = y) : own_n3 y0 y1 y2 w0 w1 w2 = 1 := by
  obtain rfl := own_fldref F F' q
  have e0 : Value.int y0 = Value.int w0 := own_arvget V V' 0 (by decide)
  have e1 : Value.int y1 = Value.int w1 := own_arvget V V' 1 (by decide)
  have e2 : Value.int y2 = Value.int w2 := own_arvget V V' 2 (by decide)
  simp only [own_n3, if_pos (Value.int.inj e0), if_pos (Value.int.inj e1), if_pos (Value.int.inj e2)]
theorem own_same4 {x y b1 b2 : Addr} {C n d : String} {k k' : ClassId} {y0 y1 y2 y3 w0 w1 w2 w3 : Int32} (F : Fld Z h x C n d (.ref b1)) (F' : Fld Z h y C n d (.ref b2)) (V : Arv Z h b1 k .byte (4 : Int32) (([y0, y1, y2, y3] : List Int32).map Value.int) (Value.int 0)) (V' : Arv Z h b2 k' .byte (4 : Int32) (([w0, w1, w2, w3] : List Int32).map Value.int) (Value.int 0)) (q : x = y) : own_n4 y0 y1 y2 y3 w0 w1 w2 w3 = 1 := by
  obtain rfl := own_fldref F F' q
  have e0 : Value.int y0 = Value.int w0 := own_arvget V V' 0 (by decide)
  have e1 : Value.int y1 = Value.int w1 := own_arvget V V' 1 (by decide)
  have e2 : Value.int y2 = Value.int w2 := own_arvget V V' 2 (by decide)
  have e3 : Value.int y3 = Value.int w3 := own_arvget V V' 3 (by decide)
  simp only [own_n4, if_pos (Value.int.inj e0), if_pos (Value.int.inj e1), if_pos (Value.int.inj e2), if_pos (Value.int.inj e3)]
end Own2
theorem own_wS {Z : State} {a0 : Array Value} (hw : ∀ d ∈ tables_1, d.before a0 Z = true) : ∀ a ∈ Bundle.stringAtoms, a.before a0 Z = true := by
  intro a ha
  have w1 := wO hw 14 rfl
  have w2 := wO hw 13 rfl
  have w3 := wO hw 27 rfl
  have w4 := wO hw 28 rfl
  have w5 := wO hw 29 rfl
  have w6 := wO hw 30 rfl
  have w7 := wO hw 31 rfl
  simp only [Bundle.stringAtoms, Bundle.sN, List.mem_cons, List.not_mem_nil, or_false] at ha
  rcases ha with rfl | rfl | rfl | rfl | rfl | rfl | rfl
  · exact w1
  · exact w2
  · exact w3
  · exact w4
  · exact w5
  · exact w6
  · exact w7
theorem own_notin {a b : String} {l : List String} (h : a ≠ b) (k : a ∉ l) : a ∉ b :: l := fun q => (List.mem_cons.mp q).elim h k
theorem own_tE : (∀ c ∈ "".toList, c.toNat < 256) ∧ "".toList.map (fun c => Value.int (Jvm.Lit.byteI c.toNat.toUInt16)) = (([] : List Int32).map Value.int) := ⟨by decide, by decide⟩
theorem own_tGET : (∀ c ∈ "GET".toList, c.toNat < 256) ∧ "GET".toList.map (fun c => Value.int (Jvm.Lit.byteI c.toNat.toUInt16)) = (([71, 69, 84] : List Int32).map Value.int) := ⟨by decide, by decide⟩
theorem own_tHEAD : (∀ c ∈ "HEAD".toList, c.toNat < 256) ∧ "HEAD".toList.map (fun c => Value.int (Jvm.Lit.byteI c.toNat.toUInt16)) = (([72, 69, 65, 68] : List Int32).map Value.int) := ⟨by decide, by decide⟩
theorem own_ord {args : Array Value} {s : State} {C n d : String} {x : Addr} {k : Int32} (hx : (Term.static C n d).eval args s none [] s = some (.ref x)) (h : (Jvm.Cond.eq (Term.field (Term.static C n d) "java/lang/Enum" "ordinal" "I") (Term.int k)).value args s none s [] = some true) : Fld s s.heap x "java/lang/Enum" "ordinal" "I" (.int k) := by
  obtain ⟨u, w, e1, e2, k1, -⟩ := cmp_v (Or.inl h)
  have e3 : (Term.int k).eval args s none [] s = some (.int k) := Term.int_eval _
  cases e2.symm.trans e3
  have e4 := e1
  rw [fld_at hx] at e4
  refine Fld.start ?_
  rw [e4]
  cases u with
  | int z =>
    have : z = k := by simpa [Cond.value, e1, e3] using h
    rw [this]
  | _ => simp [Kin, Value.isRef] at k1
abbrev oF (p0 : Int32) (p1 : Int64) (p2 vh c0 c1 c2 c3 c4 vw vn : Int32) (a b c d e : Slot) : Array Slot := #[iv p0, lv p1, sN, iv p2, iv vw, iv vh, iv vn, iv c0, iv c1, iv c2, iv c3, iv c4, a, b, c, d, e]
theorem own_ne0 {args : Array Value} {s : State} {t : Term} {z : Int32} (ev : t.eval args s none [] s = some (.int z)) (h : (Jvm.Cond.not (Jvm.Cond.eq t (Term.int 0))).before args s = true) : ¬ z = (0 : Int32) := fun q => by
  subst q
  simp only [Cond.before, Cond.holds, Cond.value, ev] at h
  simp [Term.eval] at h
theorem own_e1 {z : Int32} (h : z = 1) : (1 : Int32) = (if z = (0 : Int32) then (0 : Int32) else (1 : Int32)) := by
  subst h
  decide
theorem own_nf {c w : Int32} (h : (255 : Int32) < c) (hw : ¬ (255 : Int32) < w) : ¬ c = w := fun q => hw (q ▸ h)
theorem own_pn0 : plainName "com/example/noctule/noctule/server/TokenScopeTakesPinLaw" = true := by first | (simp [plainName, overriddenIn]; done) | decide +kernel
theorem d0_0 : decode method_2_code 0 = .ok (.iload_n 0, 1) := by decide +kernel
theorem d0_1 : decode method_2_code 1 = .ok (.ifCond .eq 37, 3) := by decide +kernel
theorem d0_38 : decode method_2_code 38 = .ok (.iload_n 1, 1) := by decide +kernel
theorem d0_39 : decode method_2_code 39 = .ok (.ifCond .ne 6, 3) := by decide +kernel
theorem d0_42 : decode method_2_code 42 = .ok (.bipush 71, 2) := by decide +kernel
theorem d0_44 : decode method_2_code 44 = .ok (.ireturn, 1) := by decide +kernel
theorem d0_45 : decode method_2_code 45 = .ok (.iload_n 1, 1) := by decide +kernel
theorem d0_46 : decode method_2_code 46 = .ok (.iconst 1, 1) := by decide +kernel
theorem d0_47 : decode method_2_code 47 = .ok (.if_icmp .ne 6, 3) := by decide +kernel
theorem d0_50 : decode method_2_code 50 = .ok (.bipush 69, 2) := by decide +kernel
theorem d0_52 : decode method_2_code 52 = .ok (.ireturn, 1) := by decide +kernel
theorem d0_53 : decode method_2_code 53 = .ok (.iload_n 1, 1) := by decide +kernel
theorem d0_54 : decode method_2_code 54 = .ok (.iconst 2, 1) := by decide +kernel
theorem d0_55 : decode method_2_code 55 = .ok (.if_icmp .ne 6, 3) := by decide +kernel
theorem d0_58 : decode method_2_code 58 = .ok (.bipush 84, 2) := by decide +kernel
theorem d0_60 : decode method_2_code 60 = .ok (.ireturn, 1) := by decide +kernel
theorem d0_61 : decode method_2_code 61 = .ok (.bipush 83, 2) := by decide +kernel
theorem d0_63 : decode method_2_code 63 = .ok (.ireturn, 1) := by decide +kernel
theorem d0_4 : decode method_2_code 4 = .ok (.iload_n 1, 1) := by decide +kernel
theorem d0_5 : decode method_2_code 5 = .ok (.ifCond .ne 6, 3) := by decide +kernel
theorem d0_8 : decode method_2_code 8 = .ok (.bipush 72, 2) := by decide +kernel
theorem d0_10 : decode method_2_code 10 = .ok (.ireturn, 1) := by decide +kernel
theorem d0_11 : decode method_2_code 11 = .ok (.iload_n 1, 1) := by decide +kernel
theorem d0_12 : decode method_2_code 12 = .ok (.iconst 1, 1) := by decide +kernel
theorem d0_13 : decode method_2_code 13 = .ok (.if_icmp .ne 6, 3) := by decide +kernel
theorem d0_16 : decode method_2_code 16 = .ok (.bipush 69, 2) := by decide +kernel
theorem d0_18 : decode method_2_code 18 = .ok (.ireturn, 1) := by decide +kernel
theorem d0_19 : decode method_2_code 19 = .ok (.iload_n 1, 1) := by decide +kernel
theorem d0_20 : decode method_2_code 20 = .ok (.iconst 2, 1) := by decide +kernel
theorem d0_21 : decode method_2_code 21 = .ok (.if_icmp .ne 6, 3) := by decide +kernel
theorem d0_24 : decode method_2_code 24 = .ok (.bipush 65, 2) := by decide +kernel
theorem d0_26 : decode method_2_code 26 = .ok (.ireturn, 1) := by decide +kernel
theorem d0_27 : decode method_2_code 27 = .ok (.iload_n 1, 1) := by decide +kernel
theorem d0_28 : decode method_2_code 28 = .ok (.iconst 3, 1) := by decide +kernel
theorem d0_29 : decode method_2_code 29 = .ok (.if_icmp .ne 6, 3) := by decide +kernel
theorem d0_32 : decode method_2_code 32 = .ok (.bipush 68, 2) := by decide +kernel
theorem d0_34 : decode method_2_code 34 = .ok (.ireturn, 1) := by decide +kernel
theorem d0_35 : decode method_2_code 35 = .ok (.bipush 83, 2) := by decide +kernel
theorem d0_37 : decode method_2_code 37 = .ok (.ireturn, 1) := by decide +kernel
abbrev mN0 : MethodName := ⟨"com/example/noctule/noctule/server/TokenScopeTakesPinLaw", "wordChar", "(ZI)C"⟩
abbrev mN1 : MethodName := ⟨"com/example/noctule/noctule/server/TokenScopeTakesPinLaw", "pick", "(IIZC)C"⟩
abbrev mN2 : MethodName := ⟨"java/lang/StringUTF16", "newBytesLength", "(I)I"⟩
abbrev mN3 : MethodName := ⟨"java/lang/StringUTF16", "newBytesFor", "(I)[B"⟩
abbrev mN4 : MethodName := ⟨"java/lang/StringUTF16", "putChar", "([BII)V"⟩
abbrev mN5 : MethodName := ⟨"java/lang/StringUTF16", "getChar", "([BI)C"⟩
abbrev mN6 : MethodName := ⟨"java/lang/StringUTF16", "toBytes", "([CII)[B"⟩
abbrev mN7 : MethodName := ⟨"java/lang/StringUTF16", "compress", "([CI[BII)I"⟩
abbrev mN8 : MethodName := ⟨"java/lang/StringUTF16", "compress", "([CII)[B"⟩
abbrev mN9 : MethodName := ⟨"java/lang/StringUTF16", "coderFromArrayLen", "([BI)B"⟩
abbrev mN10 : MethodName := ⟨"java/lang/String", "<init>", "([CIILjava/lang/Void;)V"⟩
abbrev mN11 : MethodName := ⟨"java/lang/String", "<init>", "([C)V"⟩
abbrev mN12 : MethodName := ⟨"com/example/noctule/noctule/server/TokenScopeTakesPinLaw", "str", "(ICCCCC)Ljava/lang/String;"⟩
abbrev mN13 : MethodName := ⟨"java/lang/StringLatin1", "equals", "([B[B)Z"⟩
abbrev mN14 : MethodName := ⟨"java/lang/String", "equals", "(Ljava/lang/Object;)Z"⟩
abbrev mN15 : MethodName := ⟨"com/example/noctule/noctule/server/TokenScope", "takes", "(Ljava/lang/String;)Z"⟩
theorem own_wc_ef (m : MethodId) (q0 : Int32) (q1 : Int32) : entryFrame m #[(.int q0), (.int q1)] 2 = mkF m 0 #[iv q0, iv q1] [] := by first | (simp [entryFrame, mkF, argsToLocals, Value.category]; done) | rfl
def own_wc_Q (Z : State) (q0 : Int32) (q1 : Int32) (h0 : Heap) (n0 : Nat) (v : Option Value) (h : Heap) (L : List Loc) : Prop := ∃ w : Int32, v = some (.int w) ∧ Fr n0 L ∧ h = h0 ∧ nar .char w = w
set_option maxRecDepth 65536 in
set_option maxHeartbeats 40000000 in
theorem own_wc (l : Launch) (Z : State) (a0 : Array Value) (hw : ∀ d ∈ tables_1, d.before a0 Z = true) (ws : List Jvm.Cond) (q0 : Int32) (q1 : Int32) (h0 : Heap) (n0 : Nat) (Z0 : n0 ≤ h0.size) :
    MetFree l mN0 (head1 (Jvm.Cond.code mN0 method_2_code 2 (some .char) :: ws) ({ frames := 0, cells := 0, slots := 0, locals := 0 } : Room)) (fun aa U => aa = #[(.int q0), (.int q1)] ∧ Z.Warmed39 U.vm ∧ U.heap = h0) (fun _ _ _ _ _ => True) (fun _ U o U' => ∃ v L, o = .returned v ∧ own_wc_Q Z q0 q1 h0 n0 v U'.heap L ∧ FrameEnd U o U' L ({ frames := 0, cells := 0, slots := 0, locals := 0 } : Room).cells ({ frames := 0, cells := 0, slots := 0, locals := 0 } : Room).slots) := by
  refine MetFree.of_bodySF (plainFor_of_name own_pn0) hisR ?_
  intro p e s m args below meth c s₁ Bd hml0 hP hK
  obtain ⟨rfl, hZ, hh⟩ := hP
  have hx := Bd.exec
  have hby := Bd.bytes
  have hlk := Bd.notSynchronized
  have hml : c.maxLocals = 2 := hml0
  have hown : s.vm.findClass "com/example/noctule/noctule/server/TokenScopeTakesPinLaw" = some m.cls := findClass_of_methodNamed Bd.named
  have hnm := (name_of_methodNamed Bd.named Bd.method).1
  have X0 : Stand p l e ({ frames := 0, cells := 0, slots := 0, locals := 0 } : Room) s m #[(.int q0), (.int q1)] below meth c s₁ [] 0 0 := Stand.of_body Bd
  have e0 : s₁.heap = h0 := by rw [← hh, Bd.state]; rfl
  have N0 := Fr.nil n0
  have K0 : Keep h0 h0 [] := Keep.refl h0 _
  show gS p e below (own_Fin s (own_wc_Q Z q0 q1 h0 n0) ({ frames := 0, cells := 0, slots := 0, locals := 0 } : Room).cells ({ frames := 0, cells := 0, slots := 0, locals := 0 } : Room).slots) _
  refine sT (fun t k => castTop (own_wc_ef m q0 q1) k) ?_
  show gM s₁ 0 #[iv q0, iv q1] []
  refine sT (fun t k => XS.iloadN X0.here hx rfl (hb hby d0_0) rfl k) ?_
  show gM s₁ 1 #[iv q0, iv q1] [(.int q0)]
  by_cases hc9 : q0 = (0 : Int32)
  · --
   refine sT (fun t k => XS.ifYes X0.here hx rfl (pc0 := 1) (pc' := 38) rfl (hb hby d0_1) rfl ((if0 _ _).trans (teq hc9).1) (by decide) (by decide) k) ?_
   show gM s₁ 38 #[iv q0, iv q1] []
   refine sT (fun t k => XS.iloadN X0.here hx rfl (hb hby d0_38) rfl k) ?_
   show gM s₁ 39 #[iv q0, iv q1] [(.int q1)]
   by_cases hc10 : q1 = (0 : Int32)
   · --
    refine sT (fun t k => XS.ifNo X0.here hx rfl (hb hby d0_39) rfl ((if0 _ _).trans (teq hc10).2) k) ?_
    show gM s₁ 42 #[iv q0, iv q1] []
    refine sT (fun t k => XS.bipush X0.here hx rfl (hb hby d0_42) k) ?_
    show gM s₁ 44 #[iv q0, iv q1] [(.int 71)]
    refine own_retV X0 hx hlk Bd.returns (w := (.int 71)) (rfl) (Or.inl ⟨rfl, Or.inr (Or.inr (Or.inr (Or.inl rfl))), _, rfl⟩) (hb hby d0_44) ?_ (by decide) (by decide)
    show own_wc_Q Z q0 q1 h0 n0 _ s₁.heap _
    rw [e0]
    exact ⟨(71 : Int32), rfl, N0, rfl, rfl⟩
   · --
    refine sT (fun t k => XS.ifYes X0.here hx rfl (pc0 := 39) (pc' := 45) rfl (hb hby d0_39) rfl ((if0 _ _).trans (feq hc10).2) (by decide) (by decide) k) ?_
    show gM s₁ 45 #[iv q0, iv q1] []
    refine sT (fun t k => XS.iloadN X0.here hx rfl (hb hby d0_45) rfl k) ?_
    show gM s₁ 46 #[iv q0, iv q1] [(.int q1)]
    refine sT (fun t k => XS.iconst X0.here hx rfl (hb hby d0_46) k) ?_
    show gM s₁ 47 #[iv q0, iv q1] [(.int 1), (.int q1)]
    by_cases hc11 : q1 = (1 : Int32)
    · --
     refine sT (fun t k => XS.icmpNo X0.here hx rfl (hb hby d0_47) rfl (teq hc11).2 k) ?_
     show gM s₁ 50 #[iv q0, iv q1] []
     refine sT (fun t k => XS.bipush X0.here hx rfl (hb hby d0_50) k) ?_
     show gM s₁ 52 #[iv q0, iv q1] [(.int 69)]
     refine own_retV X0 hx hlk Bd.returns (w := (.int 69)) (rfl) (Or.inl ⟨rfl, Or.inr (Or.inr (Or.inr (Or.inl rfl))), _, rfl⟩) (hb hby d0_52) ?_ (by decide) (by decide)
     show own_wc_Q Z q0 q1 h0 n0 _ s₁.heap _
     rw [e0]
     exact ⟨(69 : Int32), rfl, N0, rfl, rfl⟩
    · --
     refine sT (fun t k => XS.icmpYes X0.here hx rfl (pc0 := 47) (pc' := 53) rfl (hb hby d0_47) rfl (feq hc11).2 (by decide) (by decide) k) ?_
     show gM s₁ 53 #[iv q0, iv q1] []
     refine sT (fun t k => XS.iloadN X0.here hx rfl (hb hby d0_53) rfl k) ?_
     show gM s₁ 54 #[iv q0, iv q1] [(.int q1)]
     refine sT (fun t k => XS.iconst X0.here hx rfl (hb hby d0_54) k) ?_
     show gM s₁ 55 #[iv q0, iv q1] [(.int 2), (.int q1)]
     by_cases hc12 : q1 = (2 : Int32)
     · --
      refine sT (fun t k => XS.icmpNo X0.here hx rfl (hb hby d0_55) rfl (teq hc12).2 k) ?_
      show gM s₁ 58 #[iv q0, iv q1] []
      refine sT (fun t k => XS.bipush X0.here hx rfl (hb hby d0_58) k) ?_
      show gM s₁ 60 #[iv q0, iv q1] [(.int 84)]
      refine own_retV X0 hx hlk Bd.returns (w := (.int 84)) (rfl) (Or.inl ⟨rfl, Or.inr (Or.inr (Or.inr (Or.inl rfl))), _, rfl⟩) (hb hby d0_60) ?_ (by decide) (by decide)
      show own_wc_Q Z q0 q1 h0 n0 _ s₁.heap _
      rw [e0]
      exact ⟨(84 : Int32), rfl, N0, rfl, rfl⟩
     · --
      refine sT (fun t k => XS.icmpYes X0.here hx rfl (pc0 := 55) (pc' := 61) rfl (hb hby d0_55) rfl (feq hc12).2 (by decide) (by decide) k) ?_
      show gM s₁ 61 #[iv q0, iv q1] []
      refine sT (fun t k => XS.bipush X0.here hx rfl (hb hby d0_61) k) ?_
      show gM s₁ 63 #[iv q0, iv q1] [(.int 83)]
      refine own_retV X0 hx hlk Bd.returns (w := (.int 83)) (rfl) (Or.inl ⟨rfl, Or.inr (Or.inr (Or.inr (Or.inl rfl))), _, rfl⟩) (hb hby d0_63) ?_ (by decide) (by decide)
      show own_wc_Q Z q0 q1 h0 n0 _ s₁.heap _
      rw [e0]
      exact ⟨(83 : Int32), rfl, N0, rfl, rfl⟩
  · --
   refine sT (fun t k => XS.ifNo X0.here hx rfl (hb hby d0_1) rfl ((if0 _ _).trans (feq hc9).1) k) ?_
   show gM s₁ 4 #[iv q0, iv q1] []
   refine sT (fun t k => XS.iloadN X0.here hx rfl (hb hby d0_4) rfl k) ?_
   show gM s₁ 5 #[iv q0, iv q1] [(.int q1)]
   by_cases hc13 : q1 = (0 : Int32)
   · --
    refine sT (fun t k => XS.ifNo X0.here hx rfl (hb hby d0_5) rfl ((if0 _ _).trans (teq hc13).2) k) ?_
    show gM s₁ 8 #[iv q0, iv q1] []
    refine sT (fun t k => XS.bipush X0.here hx rfl (hb hby d0_8) k) ?_
    show gM s₁ 10 #[iv q0, iv q1] [(.int 72)]
    refine own_retV X0 hx hlk Bd.returns (w := (.int 72)) (rfl) (Or.inl ⟨rfl, Or.inr (Or.inr (Or.inr (Or.inl rfl))), _, rfl⟩) (hb hby d0_10) ?_ (by decide) (by decide)
    show own_wc_Q Z q0 q1 h0 n0 _ s₁.heap _
    rw [e0]
    exact ⟨(72 : Int32), rfl, N0, rfl, rfl⟩
   · --
    refine sT (fun t k => XS.ifYes X0.here hx rfl (pc0 := 5) (pc' := 11) rfl (hb hby d0_5) rfl ((if0 _ _).trans (feq hc13).2) (by decide) (by decide) k) ?_
    show gM s₁ 11 #[iv q0, iv q1] []
    refine sT (fun t k => XS.iloadN X0.here hx rfl (hb hby d0_11) rfl k) ?_
    show gM s₁ 12 #[iv q0, iv q1] [(.int q1)]
    refine sT (fun t k => XS.iconst X0.here hx rfl (hb hby d0_12) k) ?_
    show gM s₁ 13 #[iv q0, iv q1] [(.int 1), (.int q1)]
    by_cases hc14 : q1 = (1 : Int32)
    · --
     refine sT (fun t k => XS.icmpNo X0.here hx rfl (hb hby d0_13) rfl (teq hc14).2 k) ?_
     show gM s₁ 16 #[iv q0, iv q1] []
     refine sT (fun t k => XS.bipush X0.here hx rfl (hb hby d0_16) k) ?_
     show gM s₁ 18 #[iv q0, iv q1] [(.int 69)]
     refine own_retV X0 hx hlk Bd.returns (w := (.int 69)) (rfl) (Or.inl ⟨rfl, Or.inr (Or.inr (Or.inr (Or.inl rfl))), _, rfl⟩) (hb hby d0_18) ?_ (by decide) (by decide)
     show own_wc_Q Z q0 q1 h0 n0 _ s₁.heap _
     rw [e0]
     exact ⟨(69 : Int32), rfl, N0, rfl, rfl⟩
    · --
     refine sT (fun t k => XS.icmpYes X0.here hx rfl (pc0 := 13) (pc' := 19) rfl (hb hby d0_13) rfl (feq hc14).2 (by decide) (by decide) k) ?_
     show gM s₁ 19 #[iv q0, iv q1] []
     refine sT (fun t k => XS.iloadN X0.here hx rfl (hb hby d0_19) rfl k) ?_
     show gM s₁ 20 #[iv q0, iv q1] [(.int q1)]
     refine sT (fun t k => XS.iconst X0.here hx rfl (hb hby d0_20) k) ?_
     show gM s₁ 21 #[iv q0, iv q1] [(.int 2), (.int q1)]
     by_cases hc15 : q1 = (2 : Int32)
     · --
      refine sT (fun t k => XS.icmpNo X0.here hx rfl (hb hby d0_21) rfl (teq hc15).2 k) ?_
      show gM s₁ 24 #[iv q0, iv q1] []
      refine sT (fun t k => XS.bipush X0.here hx rfl (hb hby d0_24) k) ?_
      show gM s₁ 26 #[iv q0, iv q1] [(.int 65)]
      refine own_retV X0 hx hlk Bd.returns (w := (.int 65)) (rfl) (Or.inl ⟨rfl, Or.inr (Or.inr (Or.inr (Or.inl rfl))), _, rfl⟩) (hb hby d0_26) ?_ (by decide) (by decide)
      show own_wc_Q Z q0 q1 h0 n0 _ s₁.heap _
      rw [e0]
      exact ⟨(65 : Int32), rfl, N0, rfl, rfl⟩
     · --
      refine sT (fun t k => XS.icmpYes X0.here hx rfl (pc0 := 21) (pc' := 27) rfl (hb hby d0_21) rfl (feq hc15).2 (by decide) (by decide) k) ?_
      show gM s₁ 27 #[iv q0, iv q1] []
      refine sT (fun t k => XS.iloadN X0.here hx rfl (hb hby d0_27) rfl k) ?_
      show gM s₁ 28 #[iv q0, iv q1] [(.int q1)]
      refine sT (fun t k => XS.iconst X0.here hx rfl (hb hby d0_28) k) ?_
      show gM s₁ 29 #[iv q0, iv q1] [(.int 3), (.int q1)]
      by_cases hc16 : q1 = (3 : Int32)
      · --
       refine sT (fun t k => XS.icmpNo X0.here hx rfl (hb hby d0_29) rfl (teq hc16).2 k) ?_
       show gM s₁ 32 #[iv q0, iv q1] []
       refine sT (fun t k => XS.bipush X0.here hx rfl (hb hby d0_32) k) ?_
       show gM s₁ 34 #[iv q0, iv q1] [(.int 68)]
       refine own_retV X0 hx hlk Bd.returns (w := (.int 68)) (rfl) (Or.inl ⟨rfl, Or.inr (Or.inr (Or.inr (Or.inl rfl))), _, rfl⟩) (hb hby d0_34) ?_ (by decide) (by decide)
       show own_wc_Q Z q0 q1 h0 n0 _ s₁.heap _
       rw [e0]
       exact ⟨(68 : Int32), rfl, N0, rfl, rfl⟩
      · --
       refine sT (fun t k => XS.icmpYes X0.here hx rfl (pc0 := 29) (pc' := 35) rfl (hb hby d0_29) rfl (feq hc16).2 (by decide) (by decide) k) ?_
       show gM s₁ 35 #[iv q0, iv q1] []
       refine sT (fun t k => XS.bipush X0.here hx rfl (hb hby d0_35) k) ?_
       show gM s₁ 37 #[iv q0, iv q1] [(.int 83)]
       refine own_retV X0 hx hlk Bd.returns (w := (.int 83)) (rfl) (Or.inl ⟨rfl, Or.inr (Or.inr (Or.inr (Or.inl rfl))), _, rfl⟩) (hb hby d0_37) ?_ (by decide) (by decide)
       show own_wc_Q Z q0 q1 h0 n0 _ s₁.heap _
       rw [e0]
       exact ⟨(83 : Int32), rfl, N0, rfl, rfl⟩
theorem d1_0 : decode method_3_code 0 = .ok (.iload_n 0, 1) := by decide +kernel
theorem d1_1 : decode method_3_code 1 = .ok (.iconst 5, 1) := by decide +kernel
theorem d1_2 : decode method_3_code 2 = .ok (.iload_n 1, 1) := by decide +kernel
theorem d1_3 : decode method_3_code 3 = .ok (.iadd, 1) := by decide +kernel
theorem d1_4 : decode method_3_code 4 = .ok (.iushr, 1) := by decide +kernel
theorem d1_5 : decode method_3_code 5 = .ok (.iconst 1, 1) := by decide +kernel
theorem d1_6 : decode method_3_code 6 = .ok (.iand, 1) := by decide +kernel
theorem d1_7 : decode method_3_code 7 = .ok (.ifCond .eq 5, 3) := by decide +kernel
theorem d1_12 : decode method_3_code 12 = .ok (.iload_n 2, 1) := by decide +kernel
theorem d1_13 : decode method_3_code 13 = .ok (.iload_n 1, 1) := by decide +kernel
theorem own_pd0 : parseMethodDescriptor "(ZI)C" = some ⟨[.boolean, .int], some .char⟩ := by decide +kernel
theorem d1_14 : decode method_3_code 14 = .ok (.invokestatic 7, 3) := by decide +kernel
theorem d1_17 : decode method_3_code 17 = .ok (.ireturn, 1) := by decide +kernel
theorem d1_10 : decode method_3_code 10 = .ok (.iload_n 3, 1) := by decide +kernel
theorem d1_11 : decode method_3_code 11 = .ok (.ireturn, 1) := by decide +kernel
theorem own_pk_ef (m : MethodId) (q0 : Int32) (q1 : Int32) (q2 : Int32) (q3 : Int32) : entryFrame m #[(.int q0), (.int q1), (.int q2), (.int q3)] 4 = mkF m 0 #[iv q0, iv q1, iv q2, iv q3] [] := by first | (simp [entryFrame, mkF, argsToLocals, Value.category]; done) | rfl
def own_pk_Q (Z : State) (q0 : Int32) (q1 : Int32) (q2 : Int32) (q3 : Int32) (h0 : Heap) (n0 : Nat) (v : Option Value) (h : Heap) (L : List Loc) : Prop := ∃ w : Int32, v = some (.int w) ∧ Fr n0 L ∧ h = h0 ∧ nar .char w = w
set_option maxRecDepth 65536 in
set_option maxHeartbeats 40000000 in
theorem own_pk (l : Launch) (Z : State) (a0 : Array Value) (hw : ∀ d ∈ tables_1, d.before a0 Z = true) (ws : List Jvm.Cond) (q0 : Int32) (q1 : Int32) (q2 : Int32) (q3 : Int32) (h0 : Heap) (n0 : Nat) (Z0 : n0 ≤ h0.size) (hq3 : nar .char q3 = q3) :
    MetFree l mN1 (head1 (Jvm.Cond.code mN1 method_3_code 4 (some .char) :: ws) ({ frames := 1, cells := 0, slots := 0, locals := 13 } : Room)) (fun aa U => aa = #[(.int q0), (.int q1), (.int q2), (.int q3)] ∧ Z.Warmed39 U.vm ∧ U.heap = h0) (fun _ _ _ _ _ => True) (fun _ U o U' => ∃ v L, o = .returned v ∧ own_pk_Q Z q0 q1 q2 q3 h0 n0 v U'.heap L ∧ FrameEnd U o U' L ({ frames := 1, cells := 0, slots := 0, locals := 13 } : Room).cells ({ frames := 1, cells := 0, slots := 0, locals := 13 } : Room).slots) := by
  refine MetFree.of_bodySF (plainFor_of_name own_pn0) hisR ?_
  have w3 := wO hw 3 rfl
  have w5 := wO hw 5 rfl
  have w6 := wO hw 6 rfl
  have w7 := wO hw 7 rfl
  intro p e s m args below meth c s₁ Bd hml0 hP hK
  obtain ⟨rfl, hZ, hh⟩ := hP
  have hx := Bd.exec
  have hby := Bd.bytes
  have hlk := Bd.notSynchronized
  have hml : c.maxLocals = 4 := hml0
  have hown : s.vm.findClass "com/example/noctule/noctule/server/TokenScopeTakesPinLaw" = some m.cls := findClass_of_methodNamed Bd.named
  have hnm := (name_of_methodNamed Bd.named Bd.method).1
  have X0 : Stand p l e ({ frames := 1, cells := 0, slots := 0, locals := 13 } : Room) s m #[(.int q0), (.int q1), (.int q2), (.int q3)] below meth c s₁ [] 0 0 := Stand.of_body Bd
  have e0 : s₁.heap = h0 := by rw [← hh, Bd.state]; rfl
  have N0 := Fr.nil n0
  have K0 : Keep h0 h0 [] := Keep.refl h0 _
  show gS p e below (own_Fin s (own_pk_Q Z q0 q1 q2 q3 h0 n0) ({ frames := 1, cells := 0, slots := 0, locals := 13 } : Room).cells ({ frames := 1, cells := 0, slots := 0, locals := 13 } : Room).slots) _
  refine sT (fun t k => castTop (own_pk_ef m q0 q1 q2 q3) k) ?_
  show gM s₁ 0 #[iv q0, iv q1, iv q2, iv q3] []
  refine sT (fun t k => XS.iloadN X0.here hx rfl (hb hby d1_0) rfl k) ?_
  show gM s₁ 1 #[iv q0, iv q1, iv q2, iv q3] [(.int q0)]
  refine sT (fun t k => XS.iconst X0.here hx rfl (hb hby d1_1) k) ?_
  show gM s₁ 2 #[iv q0, iv q1, iv q2, iv q3] [(.int 5), (.int q0)]
  refine sT (fun t k => XS.iloadN X0.here hx rfl (hb hby d1_2) rfl k) ?_
  show gM s₁ 3 #[iv q0, iv q1, iv q2, iv q3] [(.int q1), (.int 5), (.int q0)]
  refine sT (fun t k => XS.iadd X0.here hx rfl (hb hby d1_3) rfl k) ?_
  show gM s₁ 4 #[iv q0, iv q1, iv q2, iv q3] [(.int ((5 : Int32) + q1)), (.int q0)]
  refine sT (fun t k => XS.iushr X0.here hx rfl (hb hby d1_4) rfl k) ?_
  show gM s₁ 5 #[iv q0, iv q1, iv q2, iv q3] [(.int ((q0.toUInt32 >>> (((5 : Int32) + q1) &&& 31).toUInt32).toInt32))]
  refine sT (fun t k => XS.iconst X0.here hx rfl (hb hby d1_5) k) ?_
  show gM s₁ 6 #[iv q0, iv q1, iv q2, iv q3] [(.int 1), (.int ((q0.toUInt32 >>> (((5 : Int32) + q1) &&& 31).toUInt32).toInt32))]
  refine sT (fun t k => XS.iand X0.here hx rfl (hb hby d1_6) rfl k) ?_
  show gM s₁ 7 #[iv q0, iv q1, iv q2, iv q3] [(.int (((q0.toUInt32 >>> (((5 : Int32) + q1) &&& 31).toUInt32).toInt32) &&& (1 : Int32)))]
  by_cases hc19 : (((q0.toUInt32 >>> (((5 : Int32) + q1) &&& 31).toUInt32).toInt32) &&& (1 : Int32)) = (0 : Int32)
  · --
   refine sT (fun t k => XS.ifYes X0.here hx rfl (pc0 := 7) (pc' := 12) rfl (hb hby d1_7) rfl ((if0 _ _).trans (teq hc19).1) (by decide) (by decide) k) ?_
   show gM s₁ 12 #[iv q0, iv q1, iv q2, iv q3] []
   refine sT (fun t k => XS.iloadN X0.here hx rfl (hb hby d1_12) rfl k) ?_
   show gM s₁ 13 #[iv q0, iv q1, iv q2, iv q3] [(.int q2)]
   refine sT (fun t k => XS.iloadN X0.here hx rfl (hb hby d1_13) rfl k) ?_
   show gM s₁ 14 #[iv q0, iv q1, iv q2, iv q3] [(.int q1), (.int q2)]
   obtain ⟨_, _, ⟨T20, L20, k20, n20⟩, -, X20, ⟨Lc20, hQ20, l20, y20, z20⟩, st20⟩ := Jvm.LawKit.callS X0 hx (y := mN0) hown (mvT hZ w5) (mvT hZ w6) (mvT hZ w3) (mvT hZ w7) (by decide) (backOf (W := 0) (own_wc l Z a0 hw [] q2 q1  h0 n0 Z0 ) hZ w7 w3 (by decide) (by decide)) (g := (mkF m 14 #[iv q0, iv q1, iv q2, iv q3] [(.int q1), (.int q2)])) rfl (by rw [hml]; rfl) (argsL := [(.int q2), (.int q1)]) (rest := []) (lenOf own_pd0 rfl) rfl (by show 2 * 0 + _ ≤ _; exact Nat.le_of_eq rfl) (hb hby d1_14) (fun _ hWq => ⟨rfl, e0, (by decide : 0 + 0 ≤ _), (by decide : 0 + 0 ≤ _)⟩)
   dsimp only [Pt.U, Pt.locs, Pt.cells, Pt.slots] at X20 l20 y20 z20 st20 hQ20
   subst y20 z20
   obtain ⟨w_20, rfl, N20q, eh20, f20_0⟩ := hQ20
   have N20 : Fr n0 L20 := by rw [l20]; exact Fr.app N0 N20q
   refine sT st20 ?_
   show gM T20 17 #[iv q0, iv q1, iv q2, iv q3] [(.int w_20)]
   refine own_retV X20 hx hlk Bd.returns (w := (.int w_20)) (congrArg Value.int f20_0) (Or.inl ⟨rfl, Or.inr (Or.inr (Or.inr (Or.inl rfl))), _, rfl⟩) (hb hby d1_17) ?_ (by decide) (by decide)
   show own_pk_Q Z q0 q1 q2 q3 h0 n0 _ T20.heap _
   rw [eh20]
   exact ⟨w_20, rfl, N20, rfl, f20_0⟩
  · --
   refine sT (fun t k => XS.ifNo X0.here hx rfl (hb hby d1_7) rfl ((if0 _ _).trans (feq hc19).1) k) ?_
   show gM s₁ 10 #[iv q0, iv q1, iv q2, iv q3] []
   refine sT (fun t k => XS.iloadN X0.here hx rfl (hb hby d1_10) rfl k) ?_
   show gM s₁ 11 #[iv q0, iv q1, iv q2, iv q3] [(.int q3)]
   refine own_retV X0 hx hlk Bd.returns (w := (.int q3)) (congrArg Value.int hq3) (Or.inl ⟨rfl, Or.inr (Or.inr (Or.inr (Or.inl rfl))), _, rfl⟩) (hb hby d1_11) ?_ (by decide) (by decide)
   show own_pk_Q Z q0 q1 q2 q3 h0 n0 _ s₁.heap _
   rw [e0]
   exact ⟨q3, rfl, N0, rfl, hq3⟩
theorem own_pn1 : plainName "java/lang/StringUTF16" = true := by first | (simp [plainName, overriddenIn]; done) | decide +kernel
theorem d2_0 : decode jdk_52_method_3_code 0 = .ok (.iload_n 0, 1) := by decide +kernel
theorem d2_1 : decode jdk_52_method_3_code 1 = .ok (.ifCond .ge 11, 3) := by decide +kernel
theorem d2_12 : decode jdk_52_method_3_code 12 = .ok (.iload_n 0, 1) := by decide +kernel
theorem d2_13 : decode jdk_52_method_3_code 13 = .ok (.ldc 20, 2) := by decide +kernel
theorem d2_15 : decode jdk_52_method_3_code 15 = .ok (.if_icmp .lt 40, 3) := by decide +kernel
theorem d2_55 : decode jdk_52_method_3_code 55 = .ok (.iload_n 0, 1) := by decide +kernel
theorem d2_56 : decode jdk_52_method_3_code 56 = .ok (.iconst 1, 1) := by decide +kernel
theorem d2_57 : decode jdk_52_method_3_code 57 = .ok (.ishl, 1) := by decide +kernel
theorem d2_58 : decode jdk_52_method_3_code 58 = .ok (.ireturn, 1) := by decide +kernel
theorem own_nl_ef (m : MethodId) (q1 : Int32) : entryFrame m #[(.int q1)] 1 = mkF m 0 #[iv q1] [] := by first | (simp [entryFrame, mkF, argsToLocals, Value.category]; done) | rfl
def own_nl_Q (Z : State) (q1 : Int32) (r : Int32) (h0 : Heap) (n0 : Nat) (v : Option Value) (h : Heap) (L : List Loc) : Prop := v = some (.int r) ∧ Fr n0 L ∧ h = h0
set_option maxRecDepth 65536 in
set_option maxHeartbeats 40000000 in
theorem own_nl (l : Launch) (Z : State) (a0 : Array Value) (hw : ∀ d ∈ tables_1, d.before a0 Z = true) (ws : List Jvm.Cond) (q1 : Int32) (r : Int32) (h0 : Heap) (n0 : Nat) (Z0 : n0 ≤ h0.size) (hq0 : ¬ q1 < (0 : Int32)) (hq1 : q1 < (1073741823 : Int32)) (hr : (q1 <<< ((1 : Int32) &&& 31)) = r) :
    MetFree l mN2 (head1 (Jvm.Cond.code mN2 jdk_52_method_3_code 1 (some .int) :: ws) ({ frames := 0, cells := 0, slots := 0, locals := 0 } : Room)) (fun aa U => aa = #[(.int q1)] ∧ Z.Warmed39 U.vm ∧ U.heap = h0) (fun _ _ _ _ _ => True) (fun _ U o U' => ∃ v L, o = .returned v ∧ own_nl_Q Z q1 r h0 n0 v U'.heap L ∧ FrameEnd U o U' L ({ frames := 0, cells := 0, slots := 0, locals := 0 } : Room).cells ({ frames := 0, cells := 0, slots := 0, locals := 0 } : Room).slots) := by
  refine MetFree.of_bodySF (plainFor_of_name own_pn1) hisR ?_
  have w77 := wO hw 77 rfl
  intro p e s m args below meth c s₁ Bd hml0 hP hK
  obtain ⟨rfl, hZ, hh⟩ := hP
  have hx := Bd.exec
  have hby := Bd.bytes
  have hlk := Bd.notSynchronized
  have hml : c.maxLocals = 1 := hml0
  have hown : s.vm.findClass "java/lang/StringUTF16" = some m.cls := findClass_of_methodNamed Bd.named
  have hnm := (name_of_methodNamed Bd.named Bd.method).1
  have X0 : Stand p l e ({ frames := 0, cells := 0, slots := 0, locals := 0 } : Room) s m #[(.int q1)] below meth c s₁ [] 0 0 := Stand.of_body Bd
  have e0 : s₁.heap = h0 := by rw [← hh, Bd.state]; rfl
  have N0 := Fr.nil n0
  have K0 : Keep h0 h0 [] := Keep.refl h0 _
  show gS p e below (own_Fin s (own_nl_Q Z q1 r h0 n0) ({ frames := 0, cells := 0, slots := 0, locals := 0 } : Room).cells ({ frames := 0, cells := 0, slots := 0, locals := 0 } : Room).slots) _
  refine sT (fun t k => castTop (own_nl_ef m q1) k) ?_
  show gM s₁ 0 #[iv q1] []
  refine sT (fun t k => XS.iloadN X0.here hx rfl (hb hby d2_0) rfl k) ?_
  show gM s₁ 1 #[iv q1] [(.int q1)]
  have hc23 : ¬ (q1 < (0 : Int32)) := hq0
  refine sT (fun t k => XS.ifYes X0.here hx rfl (pc0 := 1) (pc' := 12) rfl (hb hby d2_1) rfl ((if0 _ _).trans (flt hc23).2.1) (by decide) (by decide) k) ?_
  show gM s₁ 12 #[iv q1] []
  refine sT (fun t k => XS.iloadN X0.here hx rfl (hb hby d2_12) rfl k) ?_
  show gM s₁ 13 #[iv q1] [(.int q1)]
  refine sT (fun t k => X0.ldcInt hx hown (mvT hZ w77) (g := (mkF m 13 #[iv q1] [(.int q1)])) rfl (hb hby d2_13) _ k) ?_
  show gM s₁ 15 #[iv q1] [(.int 1073741823), (.int q1)]
  have hc24 : q1 < (1073741823 : Int32) := hq1
  refine sT (fun t k => XS.icmpYes X0.here hx rfl (pc0 := 15) (pc' := 55) rfl (hb hby d2_15) rfl (tlt hc24).1 (by decide) (by decide) k) ?_
  show gM s₁ 55 #[iv q1] []
  refine sT (fun t k => XS.iloadN X0.here hx rfl (hb hby d2_55) rfl k) ?_
  show gM s₁ 56 #[iv q1] [(.int q1)]
  refine sT (fun t k => XS.iconst X0.here hx rfl (hb hby d2_56) k) ?_
  show gM s₁ 57 #[iv q1] [(.int 1), (.int q1)]
  refine sT (fun t k => XS.ishl X0.here hx rfl (hb hby d2_57) rfl k) ?_
  show gM s₁ 58 #[iv q1] [(.int (q1 <<< ((1 : Int32) &&& 31)))]
  refine own_retV X0 hx hlk Bd.returns (w := (.int (q1 <<< ((1 : Int32) &&& 31)))) rfl (Or.inl ⟨rfl, Or.inl rfl, _, rfl⟩) (hb hby d2_58) ?_ (by decide) (by decide)
  show own_nl_Q Z q1 r h0 n0 _ s₁.heap _
  rw [e0]
  exact ⟨(by rw [hr]), N0, rfl⟩
theorem d3_0 : decode jdk_52_method_2_code 0 = .ok (.iload_n 0, 1) := by decide +kernel
theorem own_pd1 : parseMethodDescriptor "(I)I" = some ⟨[.int], some .int⟩ := by decide +kernel
theorem d3_1 : decode jdk_52_method_2_code 1 = .ok (.invokestatic 11, 3) := by decide +kernel
theorem d3_4 : decode jdk_52_method_2_code 4 = .ok (.newarray .byte, 2) := by decide +kernel
theorem d3_6 : decode jdk_52_method_2_code 6 = .ok (.areturn, 1) := by decide +kernel
theorem own_nf1_ef (m : MethodId)  : entryFrame m #[(.int 1)] 1 = mkF m 0 #[iv 1] [] := by first | (simp [entryFrame, mkF, argsToLocals, Value.category]; done) | rfl
def own_nf1_Q (Z : State)  (h0 : Heap) (n0 : Nat) (v : Option Value) (h : Heap) (L : List Loc) : Prop := ∃ bv : Addr, ∃ kb : ClassId, v = some (.ref bv) ∧ Fr n0 L ∧ Keep h0 h [] ∧ h0.size ≤ bv ∧ Arv Z h bv kb .byte (2 : Int32) (([0, 0] : List Int32).map Value.int) (Value.int 0)
set_option maxRecDepth 65536 in
set_option maxHeartbeats 40000000 in
theorem own_nf1 (l : Launch) (Z : State) (a0 : Array Value) (hw : ∀ d ∈ tables_1, d.before a0 Z = true) (ws : List Jvm.Cond)  (h0 : Heap) (n0 : Nat) (Z0 : n0 ≤ h0.size) :
    MetFree l mN3 (head1 (Jvm.Cond.code mN3 jdk_52_method_2_code 1 (some (.array .byte)) :: ws) ({ frames := 1, cells := 1, slots := 2, locals := 12 } : Room)) (fun aa U => aa = #[(.int 1)] ∧ Z.Warmed39 U.vm ∧ U.heap = h0) (fun _ _ _ _ _ => True) (fun _ U o U' => ∃ v L, o = .returned v ∧ own_nf1_Q Z  h0 n0 v U'.heap L ∧ FrameEnd U o U' L ({ frames := 1, cells := 1, slots := 2, locals := 12 } : Room).cells ({ frames := 1, cells := 1, slots := 2, locals := 12 } : Room).slots) := by
  refine MetFree.of_bodySF (plainFor_of_name own_pn1) hisR ?_
  have w27 := wO hw 27 rfl
  have w59 := wO hw 59 rfl
  have w74 := wO hw 74 rfl
  have w75 := wO hw 75 rfl
  have w76 := wO hw 76 rfl
  intro p e s m args below meth c s₁ Bd hml0 hP hK
  obtain ⟨rfl, hZ, hh⟩ := hP
  have hx := Bd.exec
  have hby := Bd.bytes
  have hlk := Bd.notSynchronized
  have hml : c.maxLocals = 1 := hml0
  have hown : s.vm.findClass "java/lang/StringUTF16" = some m.cls := findClass_of_methodNamed Bd.named
  have hnm := (name_of_methodNamed Bd.named Bd.method).1
  have X0 : Stand p l e ({ frames := 1, cells := 1, slots := 2, locals := 12 } : Room) s m #[(.int 1)] below meth c s₁ [] 0 0 := Stand.of_body Bd
  have e0 : s₁.heap = h0 := by rw [← hh, Bd.state]; rfl
  have N0 := Fr.nil n0
  have K0 : Keep h0 h0 [] := Keep.refl h0 _
  show gS p e below (own_Fin s (own_nf1_Q Z  h0 n0) ({ frames := 1, cells := 1, slots := 2, locals := 12 } : Room).cells ({ frames := 1, cells := 1, slots := 2, locals := 12 } : Room).slots) _
  refine sT (fun t k => castTop (own_nf1_ef m ) k) ?_
  show gM s₁ 0 #[iv 1] []
  refine sT (fun t k => XS.iloadN X0.here hx rfl (hb hby d3_0) rfl k) ?_
  show gM s₁ 1 #[iv 1] [(.int 1)]
  obtain ⟨_, _, ⟨T28, L28, k28, n28⟩, -, X28, ⟨Lc28, hQ28, l28, y28, z28⟩, st28⟩ := Jvm.LawKit.callS X0 hx (y := mN2) hown (mvT hZ w74) (mvT hZ w75) (mvT hZ w59) (mvT hZ w76) (by decide) (backOf (W := 0) (own_nl l Z a0 hw [] (1 : Int32) ((2 : Int32)) h0 n0 Z0 (by decide) (by decide) (by decide)) hZ w76 w59 (by decide) (by decide)) (g := (mkF m 1 #[iv 1] [(.int 1)])) rfl (by rw [hml]; rfl) (argsL := [(.int 1)]) (rest := []) (lenOf own_pd1 rfl) rfl (by show 2 * 0 + _ ≤ _; exact Nat.le_of_eq rfl) (hb hby d3_1) (fun _ hWq => ⟨rfl, e0, (by decide : 0 + 0 ≤ _), (by decide : 0 + 0 ≤ _)⟩)
  dsimp only [Pt.U, Pt.locs, Pt.cells, Pt.slots] at X28 l28 y28 z28 st28 hQ28
  subst y28 z28
  obtain ⟨rfl, N28q, eh28⟩ := hQ28
  have N28 : Fr n0 L28 := by rw [l28]; exact Fr.app N0 N28q
  refine sT st28 ?_
  show gM T28 4 #[iv 1] [(.int 2)]
  obtain ⟨T29, h29, k29, X29, e29, E29, A29, st29⟩ := newP (aty := .byte) X28 hx hZ w27 eh28 (g := (mkF m 4 #[iv 1] [(.int 2)])) rfl (hb hby d3_4) rfl (by decide) (cap := 2) (by decide) (by decide) (by decide) (by decide)
  obtain ⟨b29, g29⟩ : ∃ z, z = h0.size := ⟨_, rfl⟩
  rw [← g29] at A29 st29
  have g_b29 : n0 ≤ b29 := Nat.le_trans Z0 (Nat.le_of_eq g29.symm)
  have sz_b29 : h0.size ≤ b29 := Nat.le_trans K0.1 (Nat.le_of_eq g29.symm)
  have V29 : Arv Z h29 b29 k29 .byte (2 : Int32) (([0, 0] : List Int32).map Value.int) (Value.int 0) := own_newB A29 (by decide) 2
  have K30 : Keep h0 h29 [] := K0.ext E29
  refine sT st29 ?_
  show gM T29 6 #[iv 1] [(.ref b29)]
  refine own_retV X29 hx hlk Bd.returns (w := (.ref b29)) rfl (Or.inr (Or.inr (Or.inr (Or.inr ⟨rfl, rfl, rfl⟩)))) (hb hby d3_6) ?_ (by decide) (by decide)
  show own_nf1_Q Z  h0 n0 _ T29.heap _
  rw [e29]
  exact ⟨b29, k29, rfl, N28, K30, sz_b29, V29⟩
theorem own_nf2_ef (m : MethodId)  : entryFrame m #[(.int 2)] 1 = mkF m 0 #[iv 2] [] := by first | (simp [entryFrame, mkF, argsToLocals, Value.category]; done) | rfl
def own_nf2_Q (Z : State)  (h0 : Heap) (n0 : Nat) (v : Option Value) (h : Heap) (L : List Loc) : Prop := ∃ bv : Addr, ∃ kb : ClassId, v = some (.ref bv) ∧ Fr n0 L ∧ Keep h0 h [] ∧ h0.size ≤ bv ∧ Arv Z h bv kb .byte (4 : Int32) (([0, 0, 0, 0] : List Int32).map Value.int) (Value.int 0)
set_option maxRecDepth 65536 in
set_option maxHeartbeats 40000000 in
theorem own_nf2 (l : Launch) (Z : State) (a0 : Array Value) (hw : ∀ d ∈ tables_1, d.before a0 Z = true) (ws : List Jvm.Cond)  (h0 : Heap) (n0 : Nat) (Z0 : n0 ≤ h0.size) :
    MetFree l mN3 (head1 (Jvm.Cond.code mN3 jdk_52_method_2_code 1 (some (.array .byte)) :: ws) ({ frames := 1, cells := 1, slots := 4, locals := 12 } : Room)) (fun aa U => aa = #[(.int 2)] ∧ Z.Warmed39 U.vm ∧ U.heap = h0) (fun _ _ _ _ _ => True) (fun _ U o U' => ∃ v L, o = .returned v ∧ own_nf2_Q Z  h0 n0 v U'.heap L ∧ FrameEnd U o U' L ({ frames := 1, cells := 1, slots := 4, locals := 12 } : Room).cells ({ frames := 1, cells := 1, slots := 4, locals := 12 } : Room).slots) := by
  refine MetFree.of_bodySF (plainFor_of_name own_pn1) hisR ?_
  have w27 := wO hw 27 rfl
  have w59 := wO hw 59 rfl
  have w74 := wO hw 74 rfl
  have w75 := wO hw 75 rfl
  have w76 := wO hw 76 rfl
  intro p e s m args below meth c s₁ Bd hml0 hP hK
  obtain ⟨rfl, hZ, hh⟩ := hP
  have hx := Bd.exec
  have hby := Bd.bytes
  have hlk := Bd.notSynchronized
  have hml : c.maxLocals = 1 := hml0
  have hown : s.vm.findClass "java/lang/StringUTF16" = some m.cls := findClass_of_methodNamed Bd.named
  have hnm := (name_of_methodNamed Bd.named Bd.method).1
  have X0 : Stand p l e ({ frames := 1, cells := 1, slots := 4, locals := 12 } : Room) s m #[(.int 2)] below meth c s₁ [] 0 0 := Stand.of_body Bd
  have e0 : s₁.heap = h0 := by rw [← hh, Bd.state]; rfl
  have N0 := Fr.nil n0
  have K0 : Keep h0 h0 [] := Keep.refl h0 _
  show gS p e below (own_Fin s (own_nf2_Q Z  h0 n0) ({ frames := 1, cells := 1, slots := 4, locals := 12 } : Room).cells ({ frames := 1, cells := 1, slots := 4, locals := 12 } : Room).slots) _
  refine sT (fun t k => castTop (own_nf2_ef m ) k) ?_
  show gM s₁ 0 #[iv 2] []
  refine sT (fun t k => XS.iloadN X0.here hx rfl (hb hby d3_0) rfl k) ?_
  show gM s₁ 1 #[iv 2] [(.int 2)]
  obtain ⟨_, _, ⟨T34, L34, k34, n34⟩, -, X34, ⟨Lc34, hQ34, l34, y34, z34⟩, st34⟩ := Jvm.LawKit.callS X0 hx (y := mN2) hown (mvT hZ w74) (mvT hZ w75) (mvT hZ w59) (mvT hZ w76) (by decide) (backOf (W := 0) (own_nl l Z a0 hw [] (2 : Int32) ((4 : Int32)) h0 n0 Z0 (by decide) (by decide) (by decide)) hZ w76 w59 (by decide) (by decide)) (g := (mkF m 1 #[iv 2] [(.int 2)])) rfl (by rw [hml]; rfl) (argsL := [(.int 2)]) (rest := []) (lenOf own_pd1 rfl) rfl (by show 2 * 0 + _ ≤ _; exact Nat.le_of_eq rfl) (hb hby d3_1) (fun _ hWq => ⟨rfl, e0, (by decide : 0 + 0 ≤ _), (by decide : 0 + 0 ≤ _)⟩)
  dsimp only [Pt.U, Pt.locs, Pt.cells, Pt.slots] at X34 l34 y34 z34 st34 hQ34
  subst y34 z34
  obtain ⟨rfl, N34q, eh34⟩ := hQ34
  have N34 : Fr n0 L34 := by rw [l34]; exact Fr.app N0 N34q
  refine sT st34 ?_
  show gM T34 4 #[iv 2] [(.int 4)]
  obtain ⟨T35, h35, k35, X35, e35, E35, A35, st35⟩ := newP (aty := .byte) X34 hx hZ w27 eh34 (g := (mkF m 4 #[iv 2] [(.int 4)])) rfl (hb hby d3_4) rfl (by decide) (cap := 4) (by decide) (by decide) (by decide) (by decide)
  obtain ⟨b35, g35⟩ : ∃ z, z = h0.size := ⟨_, rfl⟩
  rw [← g35] at A35 st35
  have g_b35 : n0 ≤ b35 := Nat.le_trans Z0 (Nat.le_of_eq g35.symm)
  have sz_b35 : h0.size ≤ b35 := Nat.le_trans K0.1 (Nat.le_of_eq g35.symm)
  have V35 : Arv Z h35 b35 k35 .byte (4 : Int32) (([0, 0, 0, 0] : List Int32).map Value.int) (Value.int 0) := own_newB A35 (by decide) 4
  have K36 : Keep h0 h35 [] := K0.ext E35
  refine sT st35 ?_
  show gM T35 6 #[iv 2] [(.ref b35)]
  refine own_retV X35 hx hlk Bd.returns (w := (.ref b35)) rfl (Or.inr (Or.inr (Or.inr (Or.inr ⟨rfl, rfl, rfl⟩)))) (hb hby d3_6) ?_ (by decide) (by decide)
  show own_nf2_Q Z  h0 n0 _ T35.heap _
  rw [e35]
  exact ⟨b35, k35, rfl, N34, K36, sz_b35, V35⟩
theorem own_nf3_ef (m : MethodId)  : entryFrame m #[(.int 3)] 1 = mkF m 0 #[iv 3] [] := by first | (simp [entryFrame, mkF, argsToLocals, Value.category]; done) | rfl
def own_nf3_Q (Z : State)  (h0 : Heap) (n0 : Nat) (v : Option Value) (h : Heap) (L : List Loc) : Prop := ∃ bv : Addr, ∃ kb : ClassId, v = some (.ref bv) ∧ Fr n0 L ∧ Keep h0 h [] ∧ h0.size ≤ bv ∧ Arv Z h bv kb .byte (6 : Int32) (([0, 0, 0, 0, 0, 0] : List Int32).map Value.int) (Value.int 0)
set_option maxRecDepth 65536 in
set_option maxHeartbeats 40000000 in
theorem own_nf3 (l : Launch) (Z : State) (a0 : Array Value) (hw : ∀ d ∈ tables_1, d.before a0 Z = true) (ws : List Jvm.Cond)  (h0 : Heap) (n0 : Nat) (Z0 : n0 ≤ h0.size) :
    MetFree l mN3 (head1 (Jvm.Cond.code mN3 jdk_52_method_2_code 1 (some (.array .byte)) :: ws) ({ frames := 1, cells := 1, slots := 6, locals := 12 } : Room)) (fun aa U => aa = #[(.int 3)] ∧ Z.Warmed39 U.vm ∧ U.heap = h0) (fun _ _ _ _ _ => True) (fun _ U o U' => ∃ v L, o = .returned v ∧ own_nf3_Q Z  h0 n0 v U'.heap L ∧ FrameEnd U o U' L ({ frames := 1, cells := 1, slots := 6, locals := 12 } : Room).cells ({ frames := 1, cells := 1, slots := 6, locals := 12 } : Room).slots) := by
  refine MetFree.of_bodySF (plainFor_of_name own_pn1) hisR ?_
  have w27 := wO hw 27 rfl
  have w59 := wO hw 59 rfl
  have w74 := wO hw 74 rfl
  have w75 := wO hw 75 rfl
  have w76 := wO hw 76 rfl
  intro p e s m args below meth c s₁ Bd hml0 hP hK
  obtain ⟨rfl, hZ, hh⟩ := hP
  have hx := Bd.exec
  have hby := Bd.bytes
  have hlk := Bd.notSynchronized
  have hml : c.maxLocals = 1 := hml0
  have hown : s.vm.findClass "java/lang/StringUTF16" = some m.cls := findClass_of_methodNamed Bd.named
  have hnm := (name_of_methodNamed Bd.named Bd.method).1
  have X0 : Stand p l e ({ frames := 1, cells := 1, slots := 6, locals := 12 } : Room) s m #[(.int 3)] below meth c s₁ [] 0 0 := Stand.of_body Bd
  have e0 : s₁.heap = h0 := by rw [← hh, Bd.state]; rfl
  have N0 := Fr.nil n0
  have K0 : Keep h0 h0 [] := Keep.refl h0 _
  show gS p e below (own_Fin s (own_nf3_Q Z  h0 n0) ({ frames := 1, cells := 1, slots := 6, locals := 12 } : Room).cells ({ frames := 1, cells := 1, slots := 6, locals := 12 } : Room).slots) _
  refine sT (fun t k => castTop (own_nf3_ef m ) k) ?_
  show gM s₁ 0 #[iv 3] []
  refine sT (fun t k => XS.iloadN X0.here hx rfl (hb hby d3_0) rfl k) ?_
  show gM s₁ 1 #[iv 3] [(.int 3)]
  obtain ⟨_, _, ⟨T40, L40, k40, n40⟩, -, X40, ⟨Lc40, hQ40, l40, y40, z40⟩, st40⟩ := Jvm.LawKit.callS X0 hx (y := mN2) hown (mvT hZ w74) (mvT hZ w75) (mvT hZ w59) (mvT hZ w76) (by decide) (backOf (W := 0) (own_nl l Z a0 hw [] (3 : Int32) ((6 : Int32)) h0 n0 Z0 (by decide) (by decide) (by decide)) hZ w76 w59 (by decide) (by decide)) (g := (mkF m 1 #[iv 3] [(.int 3)])) rfl (by rw [hml]; rfl) (argsL := [(.int 3)]) (rest := []) (lenOf own_pd1 rfl) rfl (by show 2 * 0 + _ ≤ _; exact Nat.le_of_eq rfl) (hb hby d3_1) (fun _ hWq => ⟨rfl, e0, (by decide : 0 + 0 ≤ _), (by decide : 0 + 0 ≤ _)⟩)
  dsimp only [Pt.U, Pt.locs, Pt.cells, Pt.slots] at X40 l40 y40 z40 st40 hQ40
  subst y40 z40
  obtain ⟨rfl, N40q, eh40⟩ := hQ40
  have N40 : Fr n0 L40 := by rw [l40]; exact Fr.app N0 N40q
  refine sT st40 ?_
  show gM T40 4 #[iv 3] [(.int 6)]
  obtain ⟨T41, h41, k41, X41, e41, E41, A41, st41⟩ := newP (aty := .byte) X40 hx hZ w27 eh40 (g := (mkF m 4 #[iv 3] [(.int 6)])) rfl (hb hby d3_4) rfl (by decide) (cap := 6) (by decide) (by decide) (by decide) (by decide)
  obtain ⟨b41, g41⟩ : ∃ z, z = h0.size := ⟨_, rfl⟩
  rw [← g41] at A41 st41
  have g_b41 : n0 ≤ b41 := Nat.le_trans Z0 (Nat.le_of_eq g41.symm)
  have sz_b41 : h0.size ≤ b41 := Nat.le_trans K0.1 (Nat.le_of_eq g41.symm)
  have V41 : Arv Z h41 b41 k41 .byte (6 : Int32) (([0, 0, 0, 0, 0, 0] : List Int32).map Value.int) (Value.int 0) := own_newB A41 (by decide) 6
  have K42 : Keep h0 h41 [] := K0.ext E41
  refine sT st41 ?_
  show gM T41 6 #[iv 3] [(.ref b41)]
  refine own_retV X41 hx hlk Bd.returns (w := (.ref b41)) rfl (Or.inr (Or.inr (Or.inr (Or.inr ⟨rfl, rfl, rfl⟩)))) (hb hby d3_6) ?_ (by decide) (by decide)
  show own_nf3_Q Z  h0 n0 _ T41.heap _
  rw [e41]
  exact ⟨b41, k41, rfl, N40, K42, sz_b41, V41⟩
theorem own_nf4_ef (m : MethodId)  : entryFrame m #[(.int 4)] 1 = mkF m 0 #[iv 4] [] := by first | (simp [entryFrame, mkF, argsToLocals, Value.category]; done) | rfl
def own_nf4_Q (Z : State)  (h0 : Heap) (n0 : Nat) (v : Option Value) (h : Heap) (L : List Loc) : Prop := ∃ bv : Addr, ∃ kb : ClassId, v = some (.ref bv) ∧ Fr n0 L ∧ Keep h0 h [] ∧ h0.size ≤ bv ∧ Arv Z h bv kb .byte (8 : Int32) (([0, 0, 0, 0, 0, 0, 0, 0] : List Int32).map Value.int) (Value.int 0)
set_option maxRecDepth 65536 in
set_option maxHeartbeats 40000000 in
theorem own_nf4 (l : Launch) (Z : State) (a0 : Array Value) (hw : ∀ d ∈ tables_1, d.before a0 Z = true) (ws : List Jvm.Cond)  (h0 : Heap) (n0 : Nat) (Z0 : n0 ≤ h0.size) :
    MetFree l mN3 (head1 (Jvm.Cond.code mN3 jdk_52_method_2_code 1 (some (.array .byte)) :: ws) ({ frames := 1, cells := 1, slots := 8, locals := 12 } : Room)) (fun aa U => aa = #[(.int 4)] ∧ Z.Warmed39 U.vm ∧ U.heap = h0) (fun _ _ _ _ _ => True) (fun _ U o U' => ∃ v L, o = .returned v ∧ own_nf4_Q Z  h0 n0 v U'.heap L ∧ FrameEnd U o U' L ({ frames := 1, cells := 1, slots := 8, locals := 12 } : Room).cells ({ frames := 1, cells := 1, slots := 8, locals := 12 } : Room).slots) := by
  refine MetFree.of_bodySF (plainFor_of_name own_pn1) hisR ?_
  have w27 := wO hw 27 rfl
  have w59 := wO hw 59 rfl
  have w74 := wO hw 74 rfl
  have w75 := wO hw 75 rfl
  have w76 := wO hw 76 rfl
  intro p e s m args below meth c s₁ Bd hml0 hP hK
  obtain ⟨rfl, hZ, hh⟩ := hP
  have hx := Bd.exec
  have hby := Bd.bytes
  have hlk := Bd.notSynchronized
  have hml : c.maxLocals = 1 := hml0
  have hown : s.vm.findClass "java/lang/StringUTF16" = some m.cls := findClass_of_methodNamed Bd.named
  have hnm := (name_of_methodNamed Bd.named Bd.method).1
  have X0 : Stand p l e ({ frames := 1, cells := 1, slots := 8, locals := 12 } : Room) s m #[(.int 4)] below meth c s₁ [] 0 0 := Stand.of_body Bd
  have e0 : s₁.heap = h0 := by rw [← hh, Bd.state]; rfl
  have N0 := Fr.nil n0
  have K0 : Keep h0 h0 [] := Keep.refl h0 _
  show gS p e below (own_Fin s (own_nf4_Q Z  h0 n0) ({ frames := 1, cells := 1, slots := 8, locals := 12 } : Room).cells ({ frames := 1, cells := 1, slots := 8, locals := 12 } : Room).slots) _
  refine sT (fun t k => castTop (own_nf4_ef m ) k) ?_
  show gM s₁ 0 #[iv 4] []
  refine sT (fun t k => XS.iloadN X0.here hx rfl (hb hby d3_0) rfl k) ?_
  show gM s₁ 1 #[iv 4] [(.int 4)]
  obtain ⟨_, _, ⟨T46, L46, k46, n46⟩, -, X46, ⟨Lc46, hQ46, l46, y46, z46⟩, st46⟩ := Jvm.LawKit.callS X0 hx (y := mN2) hown (mvT hZ w74) (mvT hZ w75) (mvT hZ w59) (mvT hZ w76) (by decide) (backOf (W := 0) (own_nl l Z a0 hw [] (4 : Int32) ((8 : Int32)) h0 n0 Z0 (by decide) (by decide) (by decide)) hZ w76 w59 (by decide) (by decide)) (g := (mkF m 1 #[iv 4] [(.int 4)])) rfl (by rw [hml]; rfl) (argsL := [(.int 4)]) (rest := []) (lenOf own_pd1 rfl) rfl (by show 2 * 0 + _ ≤ _; exact Nat.le_of_eq rfl) (hb hby d3_1) (fun _ hWq => ⟨rfl, e0, (by decide : 0 + 0 ≤ _), (by decide : 0 + 0 ≤ _)⟩)
  dsimp only [Pt.U, Pt.locs, Pt.cells, Pt.slots] at X46 l46 y46 z46 st46 hQ46
  subst y46 z46
  obtain ⟨rfl, N46q, eh46⟩ := hQ46
  have N46 : Fr n0 L46 := by rw [l46]; exact Fr.app N0 N46q
  refine sT st46 ?_
  show gM T46 4 #[iv 4] [(.int 8)]
  obtain ⟨T47, h47, k47, X47, e47, E47, A47, st47⟩ := newP (aty := .byte) X46 hx hZ w27 eh46 (g := (mkF m 4 #[iv 4] [(.int 8)])) rfl (hb hby d3_4) rfl (by decide) (cap := 8) (by decide) (by decide) (by decide) (by decide)
  obtain ⟨b47, g47⟩ : ∃ z, z = h0.size := ⟨_, rfl⟩
  rw [← g47] at A47 st47
  have g_b47 : n0 ≤ b47 := Nat.le_trans Z0 (Nat.le_of_eq g47.symm)
  have sz_b47 : h0.size ≤ b47 := Nat.le_trans K0.1 (Nat.le_of_eq g47.symm)
  have V47 : Arv Z h47 b47 k47 .byte (8 : Int32) (([0, 0, 0, 0, 0, 0, 0, 0] : List Int32).map Value.int) (Value.int 0) := own_newB A47 (by decide) 8
  have K48 : Keep h0 h47 [] := K0.ext E47
  refine sT st47 ?_
  show gM T47 6 #[iv 4] [(.ref b47)]
  refine own_retV X47 hx hlk Bd.returns (w := (.ref b47)) rfl (Or.inr (Or.inr (Or.inr (Or.inr ⟨rfl, rfl, rfl⟩)))) (hb hby d3_6) ?_ (by decide) (by decide)
  show own_nf4_Q Z  h0 n0 _ T47.heap _
  rw [e47]
  exact ⟨b47, k47, rfl, N46, K48, sz_b47, V47⟩
theorem own_nf5_ef (m : MethodId)  : entryFrame m #[(.int 5)] 1 = mkF m 0 #[iv 5] [] := by first | (simp [entryFrame, mkF, argsToLocals, Value.category]; done) | rfl
def own_nf5_Q (Z : State)  (h0 : Heap) (n0 : Nat) (v : Option Value) (h : Heap) (L : List Loc) : Prop := ∃ bv : Addr, ∃ kb : ClassId, v = some (.ref bv) ∧ Fr n0 L ∧ Keep h0 h [] ∧ h0.size ≤ bv ∧ Arv Z h bv kb .byte (10 : Int32) (([0, 0, 0, 0, 0, 0, 0, 0, 0, 0] : List Int32).map Value.int) (Value.int 0)
set_option maxRecDepth 65536 in
set_option maxHeartbeats 40000000 in
theorem own_nf5 (l : Launch) (Z : State) (a0 : Array Value) (hw : ∀ d ∈ tables_1, d.before a0 Z = true) (ws : List Jvm.Cond)  (h0 : Heap) (n0 : Nat) (Z0 : n0 ≤ h0.size) :
    MetFree l mN3 (head1 (Jvm.Cond.code mN3 jdk_52_method_2_code 1 (some (.array .byte)) :: ws) ({ frames := 1, cells := 1, slots := 10, locals := 12 } : Room)) (fun aa U => aa = #[(.int 5)] ∧ Z.Warmed39 U.vm ∧ U.heap = h0) (fun _ _ _ _ _ => True) (fun _ U o U' => ∃ v L, o = .returned v ∧ own_nf5_Q Z  h0 n0 v U'.heap L ∧ FrameEnd U o U' L ({ frames := 1, cells := 1, slots := 10, locals := 12 } : Room).cells ({ frames := 1, cells := 1, slots := 10, locals := 12 } : Room).slots) := by
  refine MetFree.of_bodySF (plainFor_of_name own_pn1) hisR ?_
  have w27 := wO hw 27 rfl
  have w59 := wO hw 59 rfl
  have w74 := wO hw 74 rfl
  have w75 := wO hw 75 rfl
  have w76 := wO hw 76 rfl
  intro p e s m args below meth c s₁ Bd hml0 hP hK
  obtain ⟨rfl, hZ, hh⟩ := hP
  have hx := Bd.exec
  have hby := Bd.bytes
  have hlk := Bd.notSynchronized
  have hml : c.maxLocals = 1 := hml0
  have hown : s.vm.findClass "java/lang/StringUTF16" = some m.cls := findClass_of_methodNamed Bd.named
  have hnm := (name_of_methodNamed Bd.named Bd.method).1
  have X0 : Stand p l e ({ frames := 1, cells := 1, slots := 10, locals := 12 } : Room) s m #[(.int 5)] below meth c s₁ [] 0 0 := Stand.of_body Bd
  have e0 : s₁.heap = h0 := by rw [← hh, Bd.state]; rfl
  have N0 := Fr.nil n0
  have K0 : Keep h0 h0 [] := Keep.refl h0 _
  show gS p e below (own_Fin s (own_nf5_Q Z  h0 n0) ({ frames := 1, cells := 1, slots := 10, locals := 12 } : Room).cells ({ frames := 1, cells := 1, slots := 10, locals := 12 } : Room).slots) _
  refine sT (fun t k => castTop (own_nf5_ef m ) k) ?_
  show gM s₁ 0 #[iv 5] []
  refine sT (fun t k => XS.iloadN X0.here hx rfl (hb hby d3_0) rfl k) ?_
  show gM s₁ 1 #[iv 5] [(.int 5)]
  obtain ⟨_, _, ⟨T52, L52, k52, n52⟩, -, X52, ⟨Lc52, hQ52, l52, y52, z52⟩, st52⟩ := Jvm.LawKit.callS X0 hx (y := mN2) hown (mvT hZ w74) (mvT hZ w75) (mvT hZ w59) (mvT hZ w76) (by decide) (backOf (W := 0) (own_nl l Z a0 hw [] (5 : Int32) ((10 : Int32)) h0 n0 Z0 (by decide) (by decide) (by decide)) hZ w76 w59 (by decide) (by decide)) (g := (mkF m 1 #[iv 5] [(.int 5)])) rfl (by rw [hml]; rfl) (argsL := [(.int 5)]) (rest := []) (lenOf own_pd1 rfl) rfl (by show 2 * 0 + _ ≤ _; exact Nat.le_of_eq rfl) (hb hby d3_1) (fun _ hWq => ⟨rfl, e0, (by decide : 0 + 0 ≤ _), (by decide : 0 + 0 ≤ _)⟩)
  dsimp only [Pt.U, Pt.locs, Pt.cells, Pt.slots] at X52 l52 y52 z52 st52 hQ52
  subst y52 z52
  obtain ⟨rfl, N52q, eh52⟩ := hQ52
  have N52 : Fr n0 L52 := by rw [l52]; exact Fr.app N0 N52q
  refine sT st52 ?_
  show gM T52 4 #[iv 5] [(.int 10)]
  obtain ⟨T53, h53, k53, X53, e53, E53, A53, st53⟩ := newP (aty := .byte) X52 hx hZ w27 eh52 (g := (mkF m 4 #[iv 5] [(.int 10)])) rfl (hb hby d3_4) rfl (by decide) (cap := 10) (by decide) (by decide) (by decide) (by decide)
  obtain ⟨b53, g53⟩ : ∃ z, z = h0.size := ⟨_, rfl⟩
  rw [← g53] at A53 st53
  have g_b53 : n0 ≤ b53 := Nat.le_trans Z0 (Nat.le_of_eq g53.symm)
  have sz_b53 : h0.size ≤ b53 := Nat.le_trans K0.1 (Nat.le_of_eq g53.symm)
  have V53 : Arv Z h53 b53 k53 .byte (10 : Int32) (([0, 0, 0, 0, 0, 0, 0, 0, 0, 0] : List Int32).map Value.int) (Value.int 0) := own_newB A53 (by decide) 10
  have K54 : Keep h0 h53 [] := K0.ext E53
  refine sT st53 ?_
  show gM T53 6 #[iv 5] [(.ref b53)]
  refine own_retV X53 hx hlk Bd.returns (w := (.ref b53)) rfl (Or.inr (Or.inr (Or.inr (Or.inr ⟨rfl, rfl, rfl⟩)))) (hb hby d3_6) ?_ (by decide) (by decide)
  show own_nf5_Q Z  h0 n0 _ T53.heap _
  rw [e53]
  exact ⟨b53, k53, rfl, N52, K54, sz_b53, V53⟩
theorem d4_0 : decode jdk_52_method_4_code 0 = .ok (.getstatic 44, 3) := by decide +kernel
theorem d4_3 : decode jdk_52_method_4_code 3 = .ok (.ifCond .ne 25, 3) := by decide +kernel
theorem d4_28 : decode jdk_52_method_4_code 28 = .ok (.iload_n 1, 1) := by decide +kernel
theorem d4_29 : decode jdk_52_method_4_code 29 = .ok (.iconst 1, 1) := by decide +kernel
theorem d4_30 : decode jdk_52_method_4_code 30 = .ok (.ishl, 1) := by decide +kernel
theorem d4_31 : decode jdk_52_method_4_code 31 = .ok (.istore_n 1, 1) := by decide +kernel
theorem d4_32 : decode jdk_52_method_4_code 32 = .ok (.aload_n 0, 1) := by decide +kernel
theorem d4_33 : decode jdk_52_method_4_code 33 = .ok (.iload_n 1, 1) := by decide +kernel
theorem d4_34 : decode jdk_52_method_4_code 34 = .ok (.iinc 1 1, 3) := by decide +kernel
theorem d4_37 : decode jdk_52_method_4_code 37 = .ok (.iload_n 2, 1) := by decide +kernel
theorem d4_38 : decode jdk_52_method_4_code 38 = .ok (.getstatic 59, 3) := by decide +kernel
theorem d4_41 : decode jdk_52_method_4_code 41 = .ok (.ishr, 1) := by decide +kernel
theorem d4_42 : decode jdk_52_method_4_code 42 = .ok (.i2b, 1) := by decide +kernel
theorem d4_43 : decode jdk_52_method_4_code 43 = .ok (.bastore, 1) := by decide +kernel
theorem d4_44 : decode jdk_52_method_4_code 44 = .ok (.aload_n 0, 1) := by decide +kernel
theorem d4_45 : decode jdk_52_method_4_code 45 = .ok (.iload_n 1, 1) := by decide +kernel
theorem d4_46 : decode jdk_52_method_4_code 46 = .ok (.iload_n 2, 1) := by decide +kernel
theorem d4_47 : decode jdk_52_method_4_code 47 = .ok (.getstatic 63, 3) := by decide +kernel
theorem d4_50 : decode jdk_52_method_4_code 50 = .ok (.ishr, 1) := by decide +kernel
theorem d4_51 : decode jdk_52_method_4_code 51 = .ok (.i2b, 1) := by decide +kernel
theorem d4_52 : decode jdk_52_method_4_code 52 = .ok (.bastore, 1) := by decide +kernel
theorem d4_53 : decode jdk_52_method_4_code 53 = .ok (.return_, 1) := by decide +kernel
theorem own_pc_ef (m : MethodId) (a1 : Addr) (q1 : Int32) (q2 : Int32) : entryFrame m #[(.ref a1), (.int q1), (.int q2)] 3 = mkF m 0 #[rv a1, iv q1, iv q2] [] := by first | (simp [entryFrame, mkF, argsToLocals, Value.category]; done) | rfl
def own_pc_Q (Z : State) (a1 : Addr) (q1 : Int32) (q2 : Int32) (zl : Int32) (xs : List Int32) (kb : ClassId) (h0 : Heap) (n0 : Nat) (v : Option Value) (h : Heap) (L : List Loc) : Prop := v = none ∧ Fr n0 L ∧ Keep h0 h [a1] ∧ Arv Z h a1 kb .byte zl (((xs.set ((q1 <<< ((1 : Int32) &&& 31)).toNatClampNeg) ((q2 >>> ((0 : Int32) &&& 31)).toInt8.toInt32)).set (((q1 <<< ((1 : Int32) &&& 31)) + (1 : Int32)).toNatClampNeg) ((q2 >>> ((8 : Int32) &&& 31)).toInt8.toInt32)).map Value.int) (Value.int 0)
set_option maxRecDepth 65536 in
set_option maxHeartbeats 40000000 in
theorem own_pc (l : Launch) (Z : State) (a0 : Array Value) (hw : ∀ d ∈ tables_1, d.before a0 Z = true) (ws : List Jvm.Cond) (a1 : Addr) (q1 : Int32) (q2 : Int32) (zl : Int32) (xs : List Int32) (kb : ClassId) (h0 : Heap) (n0 : Nat) (Z0 : n0 ≤ h0.size) (S__assertionsDisabled : Sta Z Z.heap "java/lang/StringUTF16" "$assertionsDisabled" "Z" (.int 1)) (S_HI_BYTE_SHIFT : Sta Z Z.heap "java/lang/StringUTF16" "HI_BYTE_SHIFT" "I" (.int 0)) (S_LO_BYTE_SHIFT : Sta Z Z.heap "java/lang/StringUTF16" "LO_BYTE_SHIFT" "I" (.int 8)) (Zn : Z.heap.size ≤ n0) (EZ : Ext Z.heap h0) (V_a1 : Arv Z h0 a1 kb .byte zl (xs.map Value.int) (Value.int 0)) (g_a1 : n0 ≤ a1) (hz0 : ¬ (q1 <<< ((1 : Int32) &&& 31)) < 0 ∧ (q1 <<< ((1 : Int32) &&& 31)) < zl) (hz1 : ¬ ((q1 <<< ((1 : Int32) &&& 31)) + (1 : Int32)) < 0 ∧ ((q1 <<< ((1 : Int32) &&& 31)) + (1 : Int32)) < zl) (hl0 : (q1 <<< ((1 : Int32) &&& 31)).toNatClampNeg < xs.length) (hl1 : ((q1 <<< ((1 : Int32) &&& 31)) + (1 : Int32)).toNatClampNeg < xs.length) :
    MetFree l mN4 (head1 (Jvm.Cond.code mN4 jdk_52_method_4_code 3 none :: ws) ({ frames := 0, cells := 0, slots := 0, locals := 0 } : Room)) (fun aa U => aa = #[(.ref a1), (.int q1), (.int q2)] ∧ Z.Warmed39 U.vm ∧ U.heap = h0) (fun _ _ _ _ _ => True) (fun _ U o U' => ∃ v L, o = .returned v ∧ own_pc_Q Z a1 q1 q2 zl xs kb h0 n0 v U'.heap L ∧ FrameEnd U o U' L ({ frames := 0, cells := 0, slots := 0, locals := 0 } : Room).cells ({ frames := 0, cells := 0, slots := 0, locals := 0 } : Room).slots) := by
  refine MetFree.of_bodySF (plainFor_of_name own_pn1) hisR ?_
  have w81 := wO hw 81 rfl
  have w82 := wO hw 82 rfl
  have w83 := wO hw 83 rfl
  intro p e s m args below meth c s₁ Bd hml0 hP hK
  obtain ⟨rfl, hZ, hh⟩ := hP
  have hx := Bd.exec
  have hby := Bd.bytes
  have hlk := Bd.notSynchronized
  have hml : c.maxLocals = 3 := hml0
  have hown : s.vm.findClass "java/lang/StringUTF16" = some m.cls := findClass_of_methodNamed Bd.named
  have hnm := (name_of_methodNamed Bd.named Bd.method).1
  have X0 : Stand p l e ({ frames := 0, cells := 0, slots := 0, locals := 0 } : Room) s m #[(.ref a1), (.int q1), (.int q2)] below meth c s₁ [] 0 0 := Stand.of_body Bd
  have e0 : s₁.heap = h0 := by rw [← hh, Bd.state]; rfl
  have N0 := Fr.nil n0
  have K0 : Keep h0 h0 [a1] := Keep.refl h0 _
  have O0 : Old Z Z.heap.size h0 := ⟨rfl, EZ⟩
  show gS p e below (own_Fin s (own_pc_Q Z a1 q1 q2 zl xs kb h0 n0) ({ frames := 0, cells := 0, slots := 0, locals := 0 } : Room).cells ({ frames := 0, cells := 0, slots := 0, locals := 0 } : Room).slots) _
  refine sT (fun t k => castTop (own_pc_ef m a1 q1 q2) k) ?_
  show gM s₁ 0 #[rv a1, iv q1, iv q2] []
  obtain ⟨T63, X63, e63, st63⟩ := getS2 X0 hx hZ hown (host := "") (Or.inl w81) Via.refl e0 (S__assertionsDisabled.ext O0.2) (g := (mkF m 0 #[rv a1, iv q1, iv q2] [])) rfl (hb hby d4_0)
  refine sT st63 ?_
  show gM T63 3 #[rv a1, iv q1, iv q2] [(.int 1)]
  have hc64 : ¬ ((1 : Int32) = (0 : Int32)) := by decide
  refine sT (fun t k => XS.ifYes X63.here hx rfl (pc0 := 3) (pc' := 28) rfl (hb hby d4_3) rfl ((if0 _ _).trans (feq hc64).2) (by decide) (by decide) k) ?_
  show gM T63 28 #[rv a1, iv q1, iv q2] []
  refine sT (fun t k => XS.iloadN X63.here hx rfl (hb hby d4_28) rfl k) ?_
  show gM T63 29 #[rv a1, iv q1, iv q2] [(.int q1)]
  refine sT (fun t k => XS.iconst X63.here hx rfl (hb hby d4_29) k) ?_
  show gM T63 30 #[rv a1, iv q1, iv q2] [(.int 1), (.int q1)]
  refine sT (fun t k => XS.ishl X63.here hx rfl (hb hby d4_30) rfl k) ?_
  show gM T63 31 #[rv a1, iv q1, iv q2] [(.int (q1 <<< ((1 : Int32) &&& 31)))]
  refine sT (fun t k => XS.istoreN X63.here hx rfl (hb hby d4_31) rfl (l' := #[rv a1, iv (q1 <<< ((1 : Int32) &&& 31)), iv q2]) rfl k) ?_
  show gM T63 32 #[rv a1, iv (q1 <<< ((1 : Int32) &&& 31)), iv q2] []
  refine sT (fun t k => XS.aloadN X63.here hx rfl (hb hby d4_32) rfl rfl k) ?_
  show gM T63 33 #[rv a1, iv (q1 <<< ((1 : Int32) &&& 31)), iv q2] [(.ref a1)]
  refine sT (fun t k => XS.iloadN X63.here hx rfl (hb hby d4_33) rfl k) ?_
  show gM T63 34 #[rv a1, iv (q1 <<< ((1 : Int32) &&& 31)), iv q2] [(.int (q1 <<< ((1 : Int32) &&& 31))), (.ref a1)]
  refine sT (fun t k => XS.iinc X63.here hx rfl (hb hby d4_34) rfl (l' := #[rv a1, iv ((q1 <<< ((1 : Int32) &&& 31)) + (1 : Int32)), iv q2]) rfl k) ?_
  show gM T63 37 #[rv a1, iv ((q1 <<< ((1 : Int32) &&& 31)) + (1 : Int32)), iv q2] [(.int (q1 <<< ((1 : Int32) &&& 31))), (.ref a1)]
  refine sT (fun t k => XS.iloadN X63.here hx rfl (hb hby d4_37) rfl k) ?_
  show gM T63 38 #[rv a1, iv ((q1 <<< ((1 : Int32) &&& 31)) + (1 : Int32)), iv q2] [(.int q2), (.int (q1 <<< ((1 : Int32) &&& 31))), (.ref a1)]
  obtain ⟨T65, X65, e65, st65⟩ := getS2 X63 hx hZ hown (host := "") (Or.inl w82) Via.refl e63 (S_HI_BYTE_SHIFT.ext O0.2) (g := (mkF m 38 #[rv a1, iv ((q1 <<< ((1 : Int32) &&& 31)) + (1 : Int32)), iv q2] [(.int q2), (.int (q1 <<< ((1 : Int32) &&& 31))), (.ref a1)])) rfl (hb hby d4_38)
  refine sT st65 ?_
  show gM T65 41 #[rv a1, iv ((q1 <<< ((1 : Int32) &&& 31)) + (1 : Int32)), iv q2] [(.int 0), (.int q2), (.int (q1 <<< ((1 : Int32) &&& 31))), (.ref a1)]
  refine sT (fun t k => XS.ishr X65.here hx rfl (hb hby d4_41) rfl k) ?_
  show gM T65 42 #[rv a1, iv ((q1 <<< ((1 : Int32) &&& 31)) + (1 : Int32)), iv q2] [(.int (q2 >>> ((0 : Int32) &&& 31))), (.int (q1 <<< ((1 : Int32) &&& 31))), (.ref a1)]
  refine sT (fun t k => XS.i2b X65.here hx rfl (hb hby d4_42) rfl k) ?_
  show gM T65 43 #[rv a1, iv ((q1 <<< ((1 : Int32) &&& 31)) + (1 : Int32)), iv q2] [(.int ((q2 >>> ((0 : Int32) &&& 31)).toInt8.toInt32)), (.int (q1 <<< ((1 : Int32) &&& 31))), (.ref a1)]
  obtain ⟨T66, h66, X66, e66, W66, V66, st66⟩ := own_bst X65 hx hZ e65 V_a1 (j := (q1 <<< ((1 : Int32) &&& 31))) (own_i8 _) (hz0) ((q1 <<< ((1 : Int32) &&& 31)).toNatClampNeg) rfl (hl0) (g := (mkF m 43 #[rv a1, iv ((q1 <<< ((1 : Int32) &&& 31)) + (1 : Int32)), iv q2] [(.int ((q2 >>> ((0 : Int32) &&& 31)).toInt8.toInt32)), (.int (q1 <<< ((1 : Int32) &&& 31))), (.ref a1)])) rfl rfl (hb hby d4_43)
  have V66 : Arv Z h66 a1 kb .byte zl ((xs.set ((q1 <<< ((1 : Int32) &&& 31)).toNatClampNeg) ((q2 >>> ((0 : Int32) &&& 31)).toInt8.toInt32)).map Value.int) (Value.int 0) := V66
  have N66 := Fr.snoc X66 N0 g_a1
  have K67 : Keep h0 h66 [a1] := K0.wr W66 (Or.inl (List.mem_of_getElem? (i := 0) rfl))
  refine sT st66 ?_
  show gM T66 44 #[rv a1, iv ((q1 <<< ((1 : Int32) &&& 31)) + (1 : Int32)), iv q2] []
  refine sT (fun t k => XS.aloadN X66.here hx rfl (hb hby d4_44) rfl rfl k) ?_
  show gM T66 45 #[rv a1, iv ((q1 <<< ((1 : Int32) &&& 31)) + (1 : Int32)), iv q2] [(.ref a1)]
  refine sT (fun t k => XS.iloadN X66.here hx rfl (hb hby d4_45) rfl k) ?_
  show gM T66 46 #[rv a1, iv ((q1 <<< ((1 : Int32) &&& 31)) + (1 : Int32)), iv q2] [(.int ((q1 <<< ((1 : Int32) &&& 31)) + (1 : Int32))), (.ref a1)]
  refine sT (fun t k => XS.iloadN X66.here hx rfl (hb hby d4_46) rfl k) ?_
  show gM T66 47 #[rv a1, iv ((q1 <<< ((1 : Int32) &&& 31)) + (1 : Int32)), iv q2] [(.int q2), (.int ((q1 <<< ((1 : Int32) &&& 31)) + (1 : Int32))), (.ref a1)]
  obtain ⟨T68, X68, e68, st68⟩ := getS2 X66 hx hZ hown (host := "") (Or.inl w83) Via.refl e66 (S_LO_BYTE_SHIFT.ext (O0.wr W66 (Nat.le_trans Zn g_a1)).2) (g := (mkF m 47 #[rv a1, iv ((q1 <<< ((1 : Int32) &&& 31)) + (1 : Int32)), iv q2] [(.int q2), (.int ((q1 <<< ((1 : Int32) &&& 31)) + (1 : Int32))), (.ref a1)])) rfl (hb hby d4_47)
  refine sT st68 ?_
  show gM T68 50 #[rv a1, iv ((q1 <<< ((1 : Int32) &&& 31)) + (1 : Int32)), iv q2] [(.int 8), (.int q2), (.int ((q1 <<< ((1 : Int32) &&& 31)) + (1 : Int32))), (.ref a1)]
  refine sT (fun t k => XS.ishr X68.here hx rfl (hb hby d4_50) rfl k) ?_
  show gM T68 51 #[rv a1, iv ((q1 <<< ((1 : Int32) &&& 31)) + (1 : Int32)), iv q2] [(.int (q2 >>> ((8 : Int32) &&& 31))), (.int ((q1 <<< ((1 : Int32) &&& 31)) + (1 : Int32))), (.ref a1)]
  refine sT (fun t k => XS.i2b X68.here hx rfl (hb hby d4_51) rfl k) ?_
  show gM T68 52 #[rv a1, iv ((q1 <<< ((1 : Int32) &&& 31)) + (1 : Int32)), iv q2] [(.int ((q2 >>> ((8 : Int32) &&& 31)).toInt8.toInt32)), (.int ((q1 <<< ((1 : Int32) &&& 31)) + (1 : Int32))), (.ref a1)]
  obtain ⟨T69, h69, X69, e69, W69, V69, st69⟩ := own_bst X68 hx hZ e68 V66 (j := ((q1 <<< ((1 : Int32) &&& 31)) + (1 : Int32))) (own_i8 _) (hz1) (((q1 <<< ((1 : Int32) &&& 31)) + (1 : Int32)).toNatClampNeg) rfl (by rw [List.length_set]; exact hl1) (g := (mkF m 52 #[rv a1, iv ((q1 <<< ((1 : Int32) &&& 31)) + (1 : Int32)), iv q2] [(.int ((q2 >>> ((8 : Int32) &&& 31)).toInt8.toInt32)), (.int ((q1 <<< ((1 : Int32) &&& 31)) + (1 : Int32))), (.ref a1)])) rfl rfl (hb hby d4_52)
  have V69 : Arv Z h69 a1 kb .byte zl (((xs.set ((q1 <<< ((1 : Int32) &&& 31)).toNatClampNeg) ((q2 >>> ((0 : Int32) &&& 31)).toInt8.toInt32)).set (((q1 <<< ((1 : Int32) &&& 31)) + (1 : Int32)).toNatClampNeg) ((q2 >>> ((8 : Int32) &&& 31)).toInt8.toInt32)).map Value.int) (Value.int 0) := V69
  have N69 := Fr.snoc X69 N66 g_a1
  have K70 : Keep h0 h69 [a1] := K67.wr W69 (Or.inl (List.mem_of_getElem? (i := 0) rfl))
  refine sT st69 ?_
  show gM T69 53 #[rv a1, iv ((q1 <<< ((1 : Int32) &&& 31)) + (1 : Int32)), iv q2] []
  refine own_ret0 X69 hx hlk Bd.returns (hb hby d4_53) ?_ (by decide) (by decide)
  show own_pc_Q Z a1 q1 q2 zl xs kb h0 n0 _ T69.heap _
  rw [e69]
  exact ⟨rfl, N69, K70, V69⟩
theorem d5_0 : decode jdk_52_method_5_code 0 = .ok (.getstatic 44, 3) := by decide +kernel
theorem d5_3 : decode jdk_52_method_5_code 3 = .ok (.ifCond .ne 25, 3) := by decide +kernel
theorem d5_28 : decode jdk_52_method_5_code 28 = .ok (.iload_n 1, 1) := by decide +kernel
theorem d5_29 : decode jdk_52_method_5_code 29 = .ok (.iconst 1, 1) := by decide +kernel
theorem d5_30 : decode jdk_52_method_5_code 30 = .ok (.ishl, 1) := by decide +kernel
theorem d5_31 : decode jdk_52_method_5_code 31 = .ok (.istore_n 1, 1) := by decide +kernel
theorem d5_32 : decode jdk_52_method_5_code 32 = .ok (.aload_n 0, 1) := by decide +kernel
theorem d5_33 : decode jdk_52_method_5_code 33 = .ok (.iload_n 1, 1) := by decide +kernel
theorem d5_34 : decode jdk_52_method_5_code 34 = .ok (.iinc 1 1, 3) := by decide +kernel
theorem d5_37 : decode jdk_52_method_5_code 37 = .ok (.baload, 1) := by decide +kernel
theorem d5_38 : decode jdk_52_method_5_code 38 = .ok (.sipush 255, 3) := by decide +kernel
theorem d5_41 : decode jdk_52_method_5_code 41 = .ok (.iand, 1) := by decide +kernel
theorem d5_42 : decode jdk_52_method_5_code 42 = .ok (.getstatic 59, 3) := by decide +kernel
theorem d5_45 : decode jdk_52_method_5_code 45 = .ok (.ishl, 1) := by decide +kernel
theorem d5_46 : decode jdk_52_method_5_code 46 = .ok (.aload_n 0, 1) := by decide +kernel
theorem d5_47 : decode jdk_52_method_5_code 47 = .ok (.iload_n 1, 1) := by decide +kernel
theorem d5_48 : decode jdk_52_method_5_code 48 = .ok (.baload, 1) := by decide +kernel
theorem d5_49 : decode jdk_52_method_5_code 49 = .ok (.sipush 255, 3) := by decide +kernel
theorem d5_52 : decode jdk_52_method_5_code 52 = .ok (.iand, 1) := by decide +kernel
theorem d5_53 : decode jdk_52_method_5_code 53 = .ok (.getstatic 63, 3) := by decide +kernel
theorem d5_56 : decode jdk_52_method_5_code 56 = .ok (.ishl, 1) := by decide +kernel
theorem d5_57 : decode jdk_52_method_5_code 57 = .ok (.ior, 1) := by decide +kernel
theorem d5_58 : decode jdk_52_method_5_code 58 = .ok (.i2c, 1) := by decide +kernel
theorem d5_59 : decode jdk_52_method_5_code 59 = .ok (.ireturn, 1) := by decide +kernel
theorem own_gc_ef (m : MethodId) (a1 : Addr) (q1 : Int32) : entryFrame m #[(.ref a1), (.int q1)] 2 = mkF m 0 #[rv a1, iv q1] [] := by first | (simp [entryFrame, mkF, argsToLocals, Value.category]; done) | rfl
def own_gc_Q (Z : State) (a1 : Addr) (q1 : Int32) (zl : Int32) (xs : List Int32) (kb : ClassId) (h0 : Heap) (n0 : Nat) (v : Option Value) (h : Heap) (L : List Loc) : Prop := ∃ w : Int32, v = some (.int w) ∧ Fr n0 L ∧ h = h0 ∧ (255 : Int32) < w
set_option maxRecDepth 65536 in
set_option maxHeartbeats 40000000 in
theorem own_gc (l : Launch) (Z : State) (a0 : Array Value) (hw : ∀ d ∈ tables_1, d.before a0 Z = true) (ws : List Jvm.Cond) (a1 : Addr) (q1 : Int32) (zl : Int32) (xs : List Int32) (kb : ClassId) (h0 : Heap) (n0 : Nat) (Z0 : n0 ≤ h0.size) (S__assertionsDisabled : Sta Z Z.heap "java/lang/StringUTF16" "$assertionsDisabled" "Z" (.int 1)) (S_HI_BYTE_SHIFT : Sta Z Z.heap "java/lang/StringUTF16" "HI_BYTE_SHIFT" "I" (.int 0)) (S_LO_BYTE_SHIFT : Sta Z Z.heap "java/lang/StringUTF16" "LO_BYTE_SHIFT" "I" (.int 8)) (Zn : Z.heap.size ≤ n0) (EZ : Ext Z.heap h0) (V_a1 : Arv Z h0 a1 kb .byte zl (xs.map Value.int) (Value.int 0)) (hz0 : ¬ (q1 <<< ((1 : Int32) &&& 31)) < 0 ∧ (q1 <<< ((1 : Int32) &&& 31)) < zl) (hz1 : ¬ ((q1 <<< ((1 : Int32) &&& 31)) + (1 : Int32)) < 0 ∧ ((q1 <<< ((1 : Int32) &&& 31)) + (1 : Int32)) < zl) (hg : (255 : Int32) < own_comb (xs.getD (q1 <<< ((1 : Int32) &&& 31)).toNatClampNeg 0) (xs.getD ((q1 <<< ((1 : Int32) &&& 31)) + (1 : Int32)).toNatClampNeg 0)) :
    MetFree l mN5 (head1 (Jvm.Cond.code mN5 jdk_52_method_5_code 2 (some .char) :: ws) ({ frames := 0, cells := 0, slots := 0, locals := 0 } : Room)) (fun aa U => aa = #[(.ref a1), (.int q1)] ∧ Z.Warmed39 U.vm ∧ U.heap = h0) (fun _ _ _ _ _ => True) (fun _ U o U' => ∃ v L, o = .returned v ∧ own_gc_Q Z a1 q1 zl xs kb h0 n0 v U'.heap L ∧ FrameEnd U o U' L ({ frames := 0, cells := 0, slots := 0, locals := 0 } : Room).cells ({ frames := 0, cells := 0, slots := 0, locals := 0 } : Room).slots) := by
  refine MetFree.of_bodySF (plainFor_of_name own_pn1) hisR ?_
  have w81 := wO hw 81 rfl
  have w82 := wO hw 82 rfl
  have w83 := wO hw 83 rfl
  intro p e s m args below meth c s₁ Bd hml0 hP hK
  obtain ⟨rfl, hZ, hh⟩ := hP
  have hx := Bd.exec
  have hby := Bd.bytes
  have hlk := Bd.notSynchronized
  have hml : c.maxLocals = 2 := hml0
  have hown : s.vm.findClass "java/lang/StringUTF16" = some m.cls := findClass_of_methodNamed Bd.named
  have hnm := (name_of_methodNamed Bd.named Bd.method).1
  have X0 : Stand p l e ({ frames := 0, cells := 0, slots := 0, locals := 0 } : Room) s m #[(.ref a1), (.int q1)] below meth c s₁ [] 0 0 := Stand.of_body Bd
  have e0 : s₁.heap = h0 := by rw [← hh, Bd.state]; rfl
  have N0 := Fr.nil n0
  have K0 : Keep h0 h0 [] := Keep.refl h0 _
  have O0 : Old Z Z.heap.size h0 := ⟨rfl, EZ⟩
  show gS p e below (own_Fin s (own_gc_Q Z a1 q1 zl xs kb h0 n0) ({ frames := 0, cells := 0, slots := 0, locals := 0 } : Room).cells ({ frames := 0, cells := 0, slots := 0, locals := 0 } : Room).slots) _
  refine sT (fun t k => castTop (own_gc_ef m a1 q1) k) ?_
  show gM s₁ 0 #[rv a1, iv q1] []
  obtain ⟨T75, X75, e75, st75⟩ := getS2 X0 hx hZ hown (host := "") (Or.inl w81) Via.refl e0 (S__assertionsDisabled.ext O0.2) (g := (mkF m 0 #[rv a1, iv q1] [])) rfl (hb hby d5_0)
  refine sT st75 ?_
  show gM T75 3 #[rv a1, iv q1] [(.int 1)]
  have hc76 : ¬ ((1 : Int32) = (0 : Int32)) := by decide
  refine sT (fun t k => XS.ifYes X75.here hx rfl (pc0 := 3) (pc' := 28) rfl (hb hby d5_3) rfl ((if0 _ _).trans (feq hc76).2) (by decide) (by decide) k) ?_
  show gM T75 28 #[rv a1, iv q1] []
  refine sT (fun t k => XS.iloadN X75.here hx rfl (hb hby d5_28) rfl k) ?_
  show gM T75 29 #[rv a1, iv q1] [(.int q1)]
  refine sT (fun t k => XS.iconst X75.here hx rfl (hb hby d5_29) k) ?_
  show gM T75 30 #[rv a1, iv q1] [(.int 1), (.int q1)]
  refine sT (fun t k => XS.ishl X75.here hx rfl (hb hby d5_30) rfl k) ?_
  show gM T75 31 #[rv a1, iv q1] [(.int (q1 <<< ((1 : Int32) &&& 31)))]
  refine sT (fun t k => XS.istoreN X75.here hx rfl (hb hby d5_31) rfl (l' := #[rv a1, iv (q1 <<< ((1 : Int32) &&& 31))]) rfl k) ?_
  show gM T75 32 #[rv a1, iv (q1 <<< ((1 : Int32) &&& 31))] []
  refine sT (fun t k => XS.aloadN X75.here hx rfl (hb hby d5_32) rfl rfl k) ?_
  show gM T75 33 #[rv a1, iv (q1 <<< ((1 : Int32) &&& 31))] [(.ref a1)]
  refine sT (fun t k => XS.iloadN X75.here hx rfl (hb hby d5_33) rfl k) ?_
  show gM T75 34 #[rv a1, iv (q1 <<< ((1 : Int32) &&& 31))] [(.int (q1 <<< ((1 : Int32) &&& 31))), (.ref a1)]
  refine sT (fun t k => XS.iinc X75.here hx rfl (hb hby d5_34) rfl (l' := #[rv a1, iv ((q1 <<< ((1 : Int32) &&& 31)) + (1 : Int32))]) rfl k) ?_
  show gM T75 37 #[rv a1, iv ((q1 <<< ((1 : Int32) &&& 31)) + (1 : Int32))] [(.int (q1 <<< ((1 : Int32) &&& 31))), (.ref a1)]
  refine sT (fun t k => own_bal X75 hx hZ e75 V_a1 (hz0) (g := (mkF m 37 #[rv a1, iv ((q1 <<< ((1 : Int32) &&& 31)) + (1 : Int32))] [(.int (q1 <<< ((1 : Int32) &&& 31))), (.ref a1)])) rfl rfl (hb hby d5_37) _ k) ?_
  show gM T75 38 #[rv a1, iv ((q1 <<< ((1 : Int32) &&& 31)) + (1 : Int32))] [(.int (xs.getD (q1 <<< ((1 : Int32) &&& 31)).toNatClampNeg 0))]
  refine sT (fun t k => XS.sipush X75.here hx rfl (hb hby d5_38) k) ?_
  show gM T75 41 #[rv a1, iv ((q1 <<< ((1 : Int32) &&& 31)) + (1 : Int32))] [(.int 255), (.int (xs.getD (q1 <<< ((1 : Int32) &&& 31)).toNatClampNeg 0))]
  refine sT (fun t k => XS.iand X75.here hx rfl (hb hby d5_41) rfl k) ?_
  show gM T75 42 #[rv a1, iv ((q1 <<< ((1 : Int32) &&& 31)) + (1 : Int32))] [(.int ((xs.getD (q1 <<< ((1 : Int32) &&& 31)).toNatClampNeg 0) &&& (255 : Int32)))]
  obtain ⟨T77, X77, e77, st77⟩ := getS2 X75 hx hZ hown (host := "") (Or.inl w82) Via.refl e75 (S_HI_BYTE_SHIFT.ext O0.2) (g := (mkF m 42 #[rv a1, iv ((q1 <<< ((1 : Int32) &&& 31)) + (1 : Int32))] [(.int ((xs.getD (q1 <<< ((1 : Int32) &&& 31)).toNatClampNeg 0) &&& (255 : Int32)))])) rfl (hb hby d5_42)
  refine sT st77 ?_
  show gM T77 45 #[rv a1, iv ((q1 <<< ((1 : Int32) &&& 31)) + (1 : Int32))] [(.int 0), (.int ((xs.getD (q1 <<< ((1 : Int32) &&& 31)).toNatClampNeg 0) &&& (255 : Int32)))]
  refine sT (fun t k => XS.ishl X77.here hx rfl (hb hby d5_45) rfl k) ?_
  show gM T77 46 #[rv a1, iv ((q1 <<< ((1 : Int32) &&& 31)) + (1 : Int32))] [(.int (((xs.getD (q1 <<< ((1 : Int32) &&& 31)).toNatClampNeg 0) &&& (255 : Int32)) <<< ((0 : Int32) &&& 31)))]
  refine sT (fun t k => XS.aloadN X77.here hx rfl (hb hby d5_46) rfl rfl k) ?_
  show gM T77 47 #[rv a1, iv ((q1 <<< ((1 : Int32) &&& 31)) + (1 : Int32))] [(.ref a1), (.int (((xs.getD (q1 <<< ((1 : Int32) &&& 31)).toNatClampNeg 0) &&& (255 : Int32)) <<< ((0 : Int32) &&& 31)))]
  refine sT (fun t k => XS.iloadN X77.here hx rfl (hb hby d5_47) rfl k) ?_
  show gM T77 48 #[rv a1, iv ((q1 <<< ((1 : Int32) &&& 31)) + (1 : Int32))] [(.int ((q1 <<< ((1 : Int32) &&& 31)) + (1 : Int32))), (.ref a1), (.int (((xs.getD (q1 <<< ((1 : Int32) &&& 31)).toNatClampNeg 0) &&& (255 : Int32)) <<< ((0 : Int32) &&& 31)))]
  refine sT (fun t k => own_bal X77 hx hZ e77 V_a1 (hz1) (g := (mkF m 48 #[rv a1, iv ((q1 <<< ((1 : Int32) &&& 31)) + (1 : Int32))] [(.int ((q1 <<< ((1 : Int32) &&& 31)) + (1 : Int32))), (.ref a1), (.int (((xs.getD (q1 <<< ((1 : Int32) &&& 31)).toNatClampNeg 0) &&& (255 : Int32)) <<< ((0 : Int32) &&& 31)))])) rfl rfl (hb hby d5_48) _ k) ?_
  show gM T77 49 #[rv a1, iv ((q1 <<< ((1 : Int32) &&& 31)) + (1 : Int32))] [(.int (xs.getD ((q1 <<< ((1 : Int32) &&& 31)) + (1 : Int32)).toNatClampNeg 0)), (.int (((xs.getD (q1 <<< ((1 : Int32) &&& 31)).toNatClampNeg 0) &&& (255 : Int32)) <<< ((0 : Int32) &&& 31)))]
  refine sT (fun t k => XS.sipush X77.here hx rfl (hb hby d5_49) k) ?_
  show gM T77 52 #[rv a1, iv ((q1 <<< ((1 : Int32) &&& 31)) + (1 : Int32))] [(.int 255), (.int (xs.getD ((q1 <<< ((1 : Int32) &&& 31)) + (1 : Int32)).toNatClampNeg 0)), (.int (((xs.getD (q1 <<< ((1 : Int32) &&& 31)).toNatClampNeg 0) &&& (255 : Int32)) <<< ((0 : Int32) &&& 31)))]
  refine sT (fun t k => XS.iand X77.here hx rfl (hb hby d5_52) rfl k) ?_
  show gM T77 53 #[rv a1, iv ((q1 <<< ((1 : Int32) &&& 31)) + (1 : Int32))] [(.int ((xs.getD ((q1 <<< ((1 : Int32) &&& 31)) + (1 : Int32)).toNatClampNeg 0) &&& (255 : Int32))), (.int (((xs.getD (q1 <<< ((1 : Int32) &&& 31)).toNatClampNeg 0) &&& (255 : Int32)) <<< ((0 : Int32) &&& 31)))]
  obtain ⟨T78, X78, e78, st78⟩ := getS2 X77 hx hZ hown (host := "") (Or.inl w83) Via.refl e77 (S_LO_BYTE_SHIFT.ext O0.2) (g := (mkF m 53 #[rv a1, iv ((q1 <<< ((1 : Int32) &&& 31)) + (1 : Int32))] [(.int ((xs.getD ((q1 <<< ((1 : Int32) &&& 31)) + (1 : Int32)).toNatClampNeg 0) &&& (255 : Int32))), (.int (((xs.getD (q1 <<< ((1 : Int32) &&& 31)).toNatClampNeg 0) &&& (255 : Int32)) <<< ((0 : Int32) &&& 31)))])) rfl (hb hby d5_53)
  refine sT st78 ?_
  show gM T78 56 #[rv a1, iv ((q1 <<< ((1 : Int32) &&& 31)) + (1 : Int32))] [(.int 8), (.int ((xs.getD ((q1 <<< ((1 : Int32) &&& 31)) + (1 : Int32)).toNatClampNeg 0) &&& (255 : Int32))), (.int (((xs.getD (q1 <<< ((1 : Int32) &&& 31)).toNatClampNeg 0) &&& (255 : Int32)) <<< ((0 : Int32) &&& 31)))]
  refine sT (fun t k => XS.ishl X78.here hx rfl (hb hby d5_56) rfl k) ?_
  show gM T78 57 #[rv a1, iv ((q1 <<< ((1 : Int32) &&& 31)) + (1 : Int32))] [(.int (((xs.getD ((q1 <<< ((1 : Int32) &&& 31)) + (1 : Int32)).toNatClampNeg 0) &&& (255 : Int32)) <<< ((8 : Int32) &&& 31))), (.int (((xs.getD (q1 <<< ((1 : Int32) &&& 31)).toNatClampNeg 0) &&& (255 : Int32)) <<< ((0 : Int32) &&& 31)))]
  refine sT (fun t k => XS.ior X78.here hx rfl (hb hby d5_57) rfl k) ?_
  show gM T78 58 #[rv a1, iv ((q1 <<< ((1 : Int32) &&& 31)) + (1 : Int32))] [(.int ((((xs.getD (q1 <<< ((1 : Int32) &&& 31)).toNatClampNeg 0) &&& (255 : Int32)) <<< ((0 : Int32) &&& 31)) ||| (((xs.getD ((q1 <<< ((1 : Int32) &&& 31)) + (1 : Int32)).toNatClampNeg 0) &&& (255 : Int32)) <<< ((8 : Int32) &&& 31))))]
  refine sT (fun t k => XS.i2c X78.here hx rfl (hb hby d5_58) rfl k) ?_
  show gM T78 59 #[rv a1, iv ((q1 <<< ((1 : Int32) &&& 31)) + (1 : Int32))] [(.int (((((xs.getD (q1 <<< ((1 : Int32) &&& 31)).toNatClampNeg 0) &&& (255 : Int32)) <<< ((0 : Int32) &&& 31)) ||| (((xs.getD ((q1 <<< ((1 : Int32) &&& 31)) + (1 : Int32)).toNatClampNeg 0) &&& (255 : Int32)) <<< ((8 : Int32) &&& 31))).toUInt32.toUInt16.toUInt32.toInt32))]
  refine own_retV X78 hx hlk Bd.returns (w := (.int (((((xs.getD (q1 <<< ((1 : Int32) &&& 31)).toNatClampNeg 0) &&& (255 : Int32)) <<< ((0 : Int32) &&& 31)) ||| (((xs.getD ((q1 <<< ((1 : Int32) &&& 31)) + (1 : Int32)).toNatClampNeg 0) &&& (255 : Int32)) <<< ((8 : Int32) &&& 31))).toUInt32.toUInt16.toUInt32.toInt32))) (own_nC _) (Or.inl ⟨rfl, Or.inr (Or.inr (Or.inr (Or.inl rfl))), _, rfl⟩) (hb hby d5_59) ?_ (by decide) (by decide)
  show own_gc_Q Z a1 q1 zl xs kb h0 n0 _ T78.heap _
  rw [e78]
  exact ⟨(((((xs.getD (q1 <<< ((1 : Int32) &&& 31)).toNatClampNeg 0) &&& (255 : Int32)) <<< ((0 : Int32) &&& 31)) ||| (((xs.getD ((q1 <<< ((1 : Int32) &&& 31)) + (1 : Int32)).toNatClampNeg 0) &&& (255 : Int32)) <<< ((8 : Int32) &&& 31))).toUInt32.toUInt16.toUInt32.toInt32), rfl, N0, rfl, hg⟩
theorem d6_0 : decode jdk_52_method_14_code 0 = .ok (.iload_n 2, 1) := by decide +kernel
theorem own_pd2 : parseMethodDescriptor "(I)[B" = some ⟨[.int], some (.array .byte)⟩ := by decide +kernel
theorem d6_1 : decode jdk_52_method_14_code 1 = .ok (.invokestatic 107, 3) := by decide +kernel
theorem d6_4 : decode jdk_52_method_14_code 4 = .ok (.astore_n 3, 1) := by decide +kernel
theorem d6_5 : decode jdk_52_method_14_code 5 = .ok (.iconst 0, 1) := by decide +kernel
theorem d6_6 : decode jdk_52_method_14_code 6 = .ok (.istore 4, 2) := by decide +kernel
theorem d6_8 : decode jdk_52_method_14_code 8 = .ok (.iload 4, 2) := by decide +kernel
theorem d6_10 : decode jdk_52_method_14_code 10 = .ok (.iload_n 2, 1) := by decide +kernel
theorem d6_11 : decode jdk_52_method_14_code 11 = .ok (.if_icmp .ge 21, 3) := by decide +kernel
theorem d6_14 : decode jdk_52_method_14_code 14 = .ok (.aload_n 3, 1) := by decide +kernel
theorem d6_15 : decode jdk_52_method_14_code 15 = .ok (.iload 4, 2) := by decide +kernel
theorem d6_17 : decode jdk_52_method_14_code 17 = .ok (.aload_n 0, 1) := by decide +kernel
theorem d6_18 : decode jdk_52_method_14_code 18 = .ok (.iload_n 1, 1) := by decide +kernel
theorem d6_19 : decode jdk_52_method_14_code 19 = .ok (.caload, 1) := by decide +kernel
theorem own_pd3 : parseMethodDescriptor "([BII)V" = some ⟨[(.array .byte), .int, .int], none⟩ := by decide +kernel
theorem d6_20 : decode jdk_52_method_14_code 20 = .ok (.invokestatic 111, 3) := by decide +kernel
theorem d6_23 : decode jdk_52_method_14_code 23 = .ok (.iinc 1 1, 3) := by decide +kernel
theorem d6_26 : decode jdk_52_method_14_code 26 = .ok (.iinc 4 1, 3) := by decide +kernel
theorem d6_29 : decode jdk_52_method_14_code 29 = .ok (.goto (-21), 3) := by decide +kernel
theorem d6_32 : decode jdk_52_method_14_code 32 = .ok (.aload_n 3, 1) := by decide +kernel
theorem d6_33 : decode jdk_52_method_14_code 33 = .ok (.areturn, 1) := by decide +kernel
theorem own_tb1_ef (m : MethodId) (a1 : Addr) : entryFrame m #[(.ref a1), (.int 0), (.int 1)] 5 = mkF m 0 #[rv a1, iv 0, iv 1, uN, uN] [] := by first | (simp [entryFrame, mkF, argsToLocals, Value.category]; done) | rfl
def own_tb1_Q (Z : State) (a1 : Addr) (c0 : Int32) (ka : ClassId) (h0 : Heap) (n0 : Nat) (v : Option Value) (h : Heap) (L : List Loc) : Prop := ∃ bv : Addr, ∃ kb : ClassId, v = some (.ref bv) ∧ Fr n0 L ∧ Keep h0 h [] ∧ h0.size ≤ bv ∧ Arv Z h bv kb .byte (2 : Int32) (([((c0 >>> ((0 : Int32) &&& 31)).toInt8.toInt32), ((c0 >>> ((8 : Int32) &&& 31)).toInt8.toInt32)] : List Int32).map Value.int) (Value.int 0)
set_option maxRecDepth 65536 in
set_option maxHeartbeats 40000000 in
theorem own_tb1 (l : Launch) (Z : State) (a0 : Array Value) (hw : ∀ d ∈ tables_1, d.before a0 Z = true) (ws : List Jvm.Cond) (a1 : Addr) (c0 : Int32) (ka : ClassId) (h0 : Heap) (n0 : Nat) (Z0 : n0 ≤ h0.size) (S__assertionsDisabled : Sta Z Z.heap "java/lang/StringUTF16" "$assertionsDisabled" "Z" (.int 1)) (S_HI_BYTE_SHIFT : Sta Z Z.heap "java/lang/StringUTF16" "HI_BYTE_SHIFT" "I" (.int 0)) (S_LO_BYTE_SHIFT : Sta Z Z.heap "java/lang/StringUTF16" "LO_BYTE_SHIFT" "I" (.int 8)) (Zn : Z.heap.size ≤ n0) (EZ : Ext Z.heap h0) (V_a1 : Arv Z h0 a1 ka .char (1 : Int32) (([c0] : List Int32).map Value.int) (Value.int 0)) :
    MetFree l mN6 (head1 (Jvm.Cond.code mN6 jdk_52_method_14_code 5 (some (.array .byte)) :: ws) ({ frames := 2, cells := 1, slots := 2, locals := 24 } : Room)) (fun aa U => aa = #[(.ref a1), (.int 0), (.int 1)] ∧ Z.Warmed39 U.vm ∧ U.heap = h0) (fun _ _ _ _ _ => True) (fun _ U o U' => ∃ v L, o = .returned v ∧ own_tb1_Q Z a1 c0 ka h0 n0 v U'.heap L ∧ FrameEnd U o U' L ({ frames := 2, cells := 1, slots := 2, locals := 24 } : Room).cells ({ frames := 2, cells := 1, slots := 2, locals := 24 } : Room).slots) := by
  refine MetFree.of_bodySF (plainFor_of_name own_pn1) hisR ?_
  have w59 := wO hw 59 rfl
  have w71 := wO hw 71 rfl
  have w72 := wO hw 72 rfl
  have w73 := wO hw 73 rfl
  have w78 := wO hw 78 rfl
  have w79 := wO hw 79 rfl
  have w80 := wO hw 80 rfl
  intro p e s m args below meth c s₁ Bd hml0 hP hK
  obtain ⟨rfl, hZ, hh⟩ := hP
  have hx := Bd.exec
  have hby := Bd.bytes
  have hlk := Bd.notSynchronized
  have hml : c.maxLocals = 5 := hml0
  have hown : s.vm.findClass "java/lang/StringUTF16" = some m.cls := findClass_of_methodNamed Bd.named
  have hnm := (name_of_methodNamed Bd.named Bd.method).1
  have X0 : Stand p l e ({ frames := 2, cells := 1, slots := 2, locals := 24 } : Room) s m #[(.ref a1), (.int 0), (.int 1)] below meth c s₁ [] 0 0 := Stand.of_body Bd
  have e0 : s₁.heap = h0 := by rw [← hh, Bd.state]; rfl
  have N0 := Fr.nil n0
  have K0 : Keep h0 h0 [] := Keep.refl h0 _
  have O0 : Old Z Z.heap.size h0 := ⟨rfl, EZ⟩
  show gS p e below (own_Fin s (own_tb1_Q Z a1 c0 ka h0 n0) ({ frames := 2, cells := 1, slots := 2, locals := 24 } : Room).cells ({ frames := 2, cells := 1, slots := 2, locals := 24 } : Room).slots) _
  refine sT (fun t k => castTop (own_tb1_ef m a1) k) ?_
  show gM s₁ 0 #[rv a1, iv 0, iv 1, uN, uN] []
  refine sT (fun t k => XS.iloadN X0.here hx rfl (hb hby d6_0) rfl k) ?_
  show gM s₁ 1 #[rv a1, iv 0, iv 1, uN, uN] [(.int 1)]
  obtain ⟨_, _, ⟨T86, L86, k86, n86⟩, -, X86, ⟨Lc86, hQ86, l86, y86, z86⟩, st86⟩ := Jvm.LawKit.callS X0 hx (y := mN3) hown (mvT hZ w71) (mvT hZ w72) (mvT hZ w59) (mvT hZ w73) (by decide) (backOf (W := 0) (own_nf1 l Z a0 hw []   h0 n0 Z0 ) hZ w73 w59 (by decide) (by decide)) (g := (mkF m 1 #[rv a1, iv 0, iv 1, uN, uN] [(.int 1)])) rfl (by rw [hml]; rfl) (argsL := [(.int 1)]) (rest := []) (lenOf own_pd2 rfl) rfl (by show 2 * 0 + _ ≤ _; exact Nat.le_of_eq rfl) (hb hby d6_1) (fun _ hWq => ⟨rfl, e0, (by decide : 0 + 1 ≤ _), (by decide : 0 + 2 ≤ _)⟩)
  dsimp only [Pt.U, Pt.locs, Pt.cells, Pt.slots] at X86 l86 y86 z86 st86 hQ86
  subst y86 z86
  obtain ⟨bv_86, kb_86, rfl, N86q, K86c, f86_0, f86_1⟩ := hQ86
  have N86 : Fr n0 L86 := by rw [l86]; exact Fr.app N0 N86q
  refine sT st86 ?_
  have K87 : Keep h0 T86.heap [] := K0.trans K86c all0
  have sz_bv_86 : h0.size ≤ bv_86 := Nat.le_trans K0.1 f86_0
  have g_bv_86 : n0 ≤ bv_86 := Nat.le_trans Z0 sz_bv_86
  have ne_a1_bv_86 : a1 ≠ bv_86 := Nat.ne_of_lt (Nat.lt_of_lt_of_le V_a1.lt f86_0)
  show gM T86 4 #[rv a1, iv 0, iv 1, uN, uN] [(.ref bv_86)]
  refine sT (fun t k => XS.astoreN X86.here hx rfl (hb hby d6_4) rfl rfl (l' := #[rv a1, iv 0, iv 1, rv bv_86, uN]) rfl k) ?_
  show gM T86 5 #[rv a1, iv 0, iv 1, rv bv_86, uN] []
  refine sT (fun t k => XS.iconst X86.here hx rfl (hb hby d6_5) k) ?_
  show gM T86 6 #[rv a1, iv 0, iv 1, rv bv_86, uN] [(.int 0)]
  refine sT (fun t k => XS.istore X86.here hx rfl (hb hby d6_6) rfl (l' := #[rv a1, iv 0, iv 1, rv bv_86, iv 0]) rfl k) ?_
  show gM T86 8 #[rv a1, iv 0, iv 1, rv bv_86, iv 0] []
  refine sT (fun t k => XS.iload X86.here hx rfl (hb hby d6_8) rfl k) ?_
  show gM T86 10 #[rv a1, iv 0, iv 1, rv bv_86, iv 0] [(.int 0)]
  refine sT (fun t k => XS.iloadN X86.here hx rfl (hb hby d6_10) rfl k) ?_
  show gM T86 11 #[rv a1, iv 0, iv 1, rv bv_86, iv 0] [(.int 1), (.int 0)]
  have hc88 : (0 : Int32) < (1 : Int32) := by decide
  refine sT (fun t k => XS.icmpNo X86.here hx rfl (hb hby d6_11) rfl (tlt hc88).2.1 k) ?_
  show gM T86 14 #[rv a1, iv 0, iv 1, rv bv_86, iv 0] []
  refine sT (fun t k => XS.aloadN X86.here hx rfl (hb hby d6_14) rfl rfl k) ?_
  show gM T86 15 #[rv a1, iv 0, iv 1, rv bv_86, iv 0] [(.ref bv_86)]
  refine sT (fun t k => XS.iload X86.here hx rfl (hb hby d6_15) rfl k) ?_
  show gM T86 17 #[rv a1, iv 0, iv 1, rv bv_86, iv 0] [(.int 0), (.ref bv_86)]
  refine sT (fun t k => XS.aloadN X86.here hx rfl (hb hby d6_17) rfl rfl k) ?_
  show gM T86 18 #[rv a1, iv 0, iv 1, rv bv_86, iv 0] [(.ref a1), (.int 0), (.ref bv_86)]
  refine sT (fun t k => XS.iloadN X86.here hx rfl (hb hby d6_18) rfl k) ?_
  show gM T86 19 #[rv a1, iv 0, iv 1, rv bv_86, iv 0] [(.int 0), (.ref a1), (.int 0), (.ref bv_86)]
  refine sT (fun t k => own_cal X86 hx hZ rfl (V_a1.keep K86c nin0) ⟨by decide, by decide⟩ (g := (mkF m 19 #[rv a1, iv 0, iv 1, rv bv_86, iv 0] [(.int 0), (.ref a1), (.int 0), (.ref bv_86)])) rfl rfl (hb hby d6_19) _ k) ?_
  show gM T86 20 #[rv a1, iv 0, iv 1, rv bv_86, iv 0] [(.int c0), (.int 0), (.ref bv_86)]
  obtain ⟨_, _, ⟨T89, L89, k89, n89⟩, -, X89, ⟨Lc89, hQ89, l89, y89, z89⟩, st89⟩ := Jvm.LawKit.callS X86 hx (y := mN4) hown (mvT hZ w78) (mvT hZ w79) (mvT hZ w59) (mvT hZ w80) (by decide) (backOf (W := 0) (own_pc l Z a0 hw [] bv_86 (0 : Int32) c0 ((2 : Int32)) (([0, 0] : List Int32)) (kb_86) T86.heap n0 (Nat.le_trans Z0 K86c.1) S__assertionsDisabled S_HI_BYTE_SHIFT S_LO_BYTE_SHIFT Zn (O0.keep K86c all0).2 f86_1 g_bv_86 (⟨by decide, by decide⟩) (⟨by decide, by decide⟩) (Nat.le_of_ble_eq_true rfl) (Nat.le_of_ble_eq_true rfl)) hZ w80 w59 (by decide) (by decide)) (g := (mkF m 20 #[rv a1, iv 0, iv 1, rv bv_86, iv 0] [(.int c0), (.int 0), (.ref bv_86)])) rfl (by rw [hml]; rfl) (argsL := [(.ref bv_86), (.int 0), (.int c0)]) (rest := []) (lenOf own_pd3 rfl) rfl (by show 2 * 0 + _ ≤ _; exact Nat.le_of_eq rfl) (hb hby d6_20) (fun _ hWq => ⟨rfl, rfl, (by decide : 1 + 0 ≤ _), (by decide : 2 + 0 ≤ _)⟩)
  dsimp only [Pt.U, Pt.locs, Pt.cells, Pt.slots] at X89 l89 y89 z89 st89 hQ89
  subst y89 z89
  obtain ⟨rfl, N89q, K89c, f89_0⟩ := hQ89
  have N89 : Fr n0 L89 := by rw [l89]; exact Fr.app N86 N89q
  refine sT st89 ?_
  have K90 : Keep h0 T89.heap [] := K87.trans K89c (allS (Or.inr sz_bv_86) all0)
  show gM T89 23 #[rv a1, iv 0, iv 1, rv bv_86, iv 0] []
  have V91 : Arv Z T89.heap bv_86 kb_86 .byte (2 : Int32) (([((c0 >>> ((0 : Int32) &&& 31)).toInt8.toInt32), ((c0 >>> ((8 : Int32) &&& 31)).toInt8.toInt32)] : List Int32).map Value.int) (Value.int 0) := f89_0
  refine sT (fun t k => XS.iinc X89.here hx rfl (hb hby d6_23) rfl (l' := #[rv a1, iv 1, iv 1, rv bv_86, iv 0]) rfl k) ?_
  show gM T89 26 #[rv a1, iv 1, iv 1, rv bv_86, iv 0] []
  refine sT (fun t k => XS.iinc X89.here hx rfl (hb hby d6_26) rfl (l' := #[rv a1, iv 1, iv 1, rv bv_86, iv 1]) rfl k) ?_
  show gM T89 29 #[rv a1, iv 1, iv 1, rv bv_86, iv 1] []
  refine sT (fun t k => XS.goto X89.here hx rfl (pc0 := 29) (pc' := 8) rfl (hb hby d6_29) (by decide) (by decide) k) ?_
  show gM T89 8 #[rv a1, iv 1, iv 1, rv bv_86, iv 1] []
  refine sT (fun t k => XS.iload X89.here hx rfl (hb hby d6_8) rfl k) ?_
  show gM T89 10 #[rv a1, iv 1, iv 1, rv bv_86, iv 1] [(.int 1)]
  refine sT (fun t k => XS.iloadN X89.here hx rfl (hb hby d6_10) rfl k) ?_
  show gM T89 11 #[rv a1, iv 1, iv 1, rv bv_86, iv 1] [(.int 1), (.int 1)]
  have hc92 : ¬ ((1 : Int32) < (1 : Int32)) := by decide
  refine sT (fun t k => XS.icmpYes X89.here hx rfl (pc0 := 11) (pc' := 32) rfl (hb hby d6_11) rfl (flt hc92).2.1 (by decide) (by decide) k) ?_
  show gM T89 32 #[rv a1, iv 1, iv 1, rv bv_86, iv 1] []
  refine sT (fun t k => XS.aloadN X89.here hx rfl (hb hby d6_32) rfl rfl k) ?_
  show gM T89 33 #[rv a1, iv 1, iv 1, rv bv_86, iv 1] [(.ref bv_86)]
  refine own_retV X89 hx hlk Bd.returns (w := (.ref bv_86)) rfl (Or.inr (Or.inr (Or.inr (Or.inr ⟨rfl, rfl, rfl⟩)))) (hb hby d6_33) ?_ (by decide) (by decide)
  show own_tb1_Q Z a1 c0 ka h0 n0 _ T89.heap _
  exact ⟨bv_86, kb_86, rfl, N89, K90, sz_bv_86, V91⟩
theorem d7_0 : decode jdk_52_method_21_code 0 = .ok (.iconst 0, 1) := by decide +kernel
theorem d7_1 : decode jdk_52_method_21_code 1 = .ok (.istore 5, 2) := by decide +kernel
theorem d7_3 : decode jdk_52_method_21_code 3 = .ok (.iload 5, 2) := by decide +kernel
theorem d7_5 : decode jdk_52_method_21_code 5 = .ok (.iload 4, 2) := by decide +kernel
theorem d7_7 : decode jdk_52_method_21_code 7 = .ok (.if_icmp .ge 37, 3) := by decide +kernel
theorem d7_10 : decode jdk_52_method_21_code 10 = .ok (.aload_n 0, 1) := by decide +kernel
theorem d7_11 : decode jdk_52_method_21_code 11 = .ok (.iload_n 1, 1) := by decide +kernel
theorem d7_12 : decode jdk_52_method_21_code 12 = .ok (.caload, 1) := by decide +kernel
theorem d7_13 : decode jdk_52_method_21_code 13 = .ok (.istore 6, 2) := by decide +kernel
theorem d7_15 : decode jdk_52_method_21_code 15 = .ok (.iload 6, 2) := by decide +kernel
theorem d7_17 : decode jdk_52_method_21_code 17 = .ok (.sipush 255, 3) := by decide +kernel
theorem d7_20 : decode jdk_52_method_21_code 20 = .ok (.if_icmp .le 6, 3) := by decide +kernel
theorem d7_23 : decode jdk_52_method_21_code 23 = .ok (.iload 5, 2) := by decide +kernel
theorem d7_25 : decode jdk_52_method_21_code 25 = .ok (.ireturn, 1) := by decide +kernel
theorem d7_26 : decode jdk_52_method_21_code 26 = .ok (.aload_n 2, 1) := by decide +kernel
theorem d7_27 : decode jdk_52_method_21_code 27 = .ok (.iload_n 3, 1) := by decide +kernel
theorem d7_28 : decode jdk_52_method_21_code 28 = .ok (.iload 6, 2) := by decide +kernel
theorem d7_30 : decode jdk_52_method_21_code 30 = .ok (.i2b, 1) := by decide +kernel
theorem d7_31 : decode jdk_52_method_21_code 31 = .ok (.bastore, 1) := by decide +kernel
theorem d7_32 : decode jdk_52_method_21_code 32 = .ok (.iinc 1 1, 3) := by decide +kernel
theorem d7_35 : decode jdk_52_method_21_code 35 = .ok (.iinc 3 1, 3) := by decide +kernel
theorem d7_38 : decode jdk_52_method_21_code 38 = .ok (.iinc 5 1, 3) := by decide +kernel
theorem d7_41 : decode jdk_52_method_21_code 41 = .ok (.goto (-38), 3) := by decide +kernel
theorem d7_44 : decode jdk_52_method_21_code 44 = .ok (.iload 4, 2) := by decide +kernel
theorem d7_46 : decode jdk_52_method_21_code 46 = .ok (.ireturn, 1) := by decide +kernel
theorem own_ci1_ef (m : MethodId) (a1 : Addr) (a2 : Addr) : entryFrame m #[(.ref a1), (.int 0), (.ref a2), (.int 0), (.int 1)] 7 = mkF m 0 #[rv a1, iv 0, rv a2, iv 0, iv 1, uN, uN] [] := by first | (simp [entryFrame, mkF, argsToLocals, Value.category]; done) | rfl
def own_ci1_Q (Z : State) (a1 : Addr) (a2 : Addr) (c0 : Int32) (ka : ClassId) (kb : ClassId) (h0 : Heap) (n0 : Nat) (v : Option Value) (h : Heap) (L : List Loc) : Prop := ∃ r : Int32, ∃ ys : List Int32, v = some (.int r) ∧ Fr n0 L ∧ Keep h0 h [a2] ∧ Arv Z h a2 kb .byte (1 : Int32) (ys.map Value.int) (Value.int 0) ∧ ((r = (1 : Int32) ∧ ys = ([(c0.toInt8.toInt32)] : List Int32) ∧ ¬ (255 : Int32) < c0) ∨ (r = (0 : Int32) ∧ (255 : Int32) < c0))
set_option maxRecDepth 65536 in
set_option maxHeartbeats 40000000 in
theorem own_ci1 (l : Launch) (Z : State) (a0 : Array Value) (hw : ∀ d ∈ tables_1, d.before a0 Z = true) (ws : List Jvm.Cond) (a1 : Addr) (a2 : Addr) (c0 : Int32) (ka : ClassId) (kb : ClassId) (h0 : Heap) (n0 : Nat) (Z0 : n0 ≤ h0.size) (V_a1 : Arv Z h0 a1 ka .char (1 : Int32) (([c0] : List Int32).map Value.int) (Value.int 0)) (V_a2 : Arv Z h0 a2 kb .byte (1 : Int32) (([0] : List Int32).map Value.int) (Value.int 0)) (g_a2 : n0 ≤ a2) (ne_a1_a2 : a1 ≠ a2) :
    MetFree l mN7 (head1 (Jvm.Cond.code mN7 jdk_52_method_21_code 7 (some .int) :: ws) ({ frames := 0, cells := 0, slots := 0, locals := 0 } : Room)) (fun aa U => aa = #[(.ref a1), (.int 0), (.ref a2), (.int 0), (.int 1)] ∧ Z.Warmed39 U.vm ∧ U.heap = h0) (fun _ _ _ _ _ => True) (fun _ U o U' => ∃ v L, o = .returned v ∧ own_ci1_Q Z a1 a2 c0 ka kb h0 n0 v U'.heap L ∧ FrameEnd U o U' L ({ frames := 0, cells := 0, slots := 0, locals := 0 } : Room).cells ({ frames := 0, cells := 0, slots := 0, locals := 0 } : Room).slots) := by
  refine MetFree.of_bodySF (plainFor_of_name own_pn1) hisR ?_
  intro p e s m args below meth c s₁ Bd hml0 hP hK
  obtain ⟨rfl, hZ, hh⟩ := hP
  have hx := Bd.exec
  have hby := Bd.bytes
  have hlk := Bd.notSynchronized
  have hml : c.maxLocals = 7 := hml0
  have hown : s.vm.findClass "java/lang/StringUTF16" = some m.cls := findClass_of_methodNamed Bd.named
  have hnm := (name_of_methodNamed Bd.named Bd.method).1
  have X0 : Stand p l e ({ frames := 0, cells := 0, slots := 0, locals := 0 } : Room) s m #[(.ref a1), (.int 0), (.ref a2), (.int 0), (.int 1)] below meth c s₁ [] 0 0 := Stand.of_body Bd
  have e0 : s₁.heap = h0 := by rw [← hh, Bd.state]; rfl
  have N0 := Fr.nil n0
  have K0 : Keep h0 h0 [a2] := Keep.refl h0 _
  show gS p e below (own_Fin s (own_ci1_Q Z a1 a2 c0 ka kb h0 n0) ({ frames := 0, cells := 0, slots := 0, locals := 0 } : Room).cells ({ frames := 0, cells := 0, slots := 0, locals := 0 } : Room).slots) _
  refine sT (fun t k => castTop (own_ci1_ef m a1 a2) k) ?_
  show gM s₁ 0 #[rv a1, iv 0, rv a2, iv 0, iv 1, uN, uN] []
  refine sT (fun t k => XS.iconst X0.here hx rfl (hb hby d7_0) k) ?_
  show gM s₁ 1 #[rv a1, iv 0, rv a2, iv 0, iv 1, uN, uN] [(.int 0)]
  refine sT (fun t k => XS.istore X0.here hx rfl (hb hby d7_1) rfl (l' := #[rv a1, iv 0, rv a2, iv 0, iv 1, iv 0, uN]) rfl k) ?_
  show gM s₁ 3 #[rv a1, iv 0, rv a2, iv 0, iv 1, iv 0, uN] []
  refine sT (fun t k => XS.iload X0.here hx rfl (hb hby d7_3) rfl k) ?_
  show gM s₁ 5 #[rv a1, iv 0, rv a2, iv 0, iv 1, iv 0, uN] [(.int 0)]
  refine sT (fun t k => XS.iload X0.here hx rfl (hb hby d7_5) rfl k) ?_
  show gM s₁ 7 #[rv a1, iv 0, rv a2, iv 0, iv 1, iv 0, uN] [(.int 1), (.int 0)]
  have hc98 : (0 : Int32) < (1 : Int32) := by decide
  refine sT (fun t k => XS.icmpNo X0.here hx rfl (hb hby d7_7) rfl (tlt hc98).2.1 k) ?_
  show gM s₁ 10 #[rv a1, iv 0, rv a2, iv 0, iv 1, iv 0, uN] []
  refine sT (fun t k => XS.aloadN X0.here hx rfl (hb hby d7_10) rfl rfl k) ?_
  show gM s₁ 11 #[rv a1, iv 0, rv a2, iv 0, iv 1, iv 0, uN] [(.ref a1)]
  refine sT (fun t k => XS.iloadN X0.here hx rfl (hb hby d7_11) rfl k) ?_
  show gM s₁ 12 #[rv a1, iv 0, rv a2, iv 0, iv 1, iv 0, uN] [(.int 0), (.ref a1)]
  refine sT (fun t k => own_cal X0 hx hZ e0 V_a1 ⟨by decide, by decide⟩ (g := (mkF m 12 #[rv a1, iv 0, rv a2, iv 0, iv 1, iv 0, uN] [(.int 0), (.ref a1)])) rfl rfl (hb hby d7_12) _ k) ?_
  show gM s₁ 13 #[rv a1, iv 0, rv a2, iv 0, iv 1, iv 0, uN] [(.int c0)]
  refine sT (fun t k => XS.istore X0.here hx rfl (hb hby d7_13) rfl (l' := #[rv a1, iv 0, rv a2, iv 0, iv 1, iv 0, iv c0]) rfl k) ?_
  show gM s₁ 15 #[rv a1, iv 0, rv a2, iv 0, iv 1, iv 0, iv c0] []
  refine sT (fun t k => XS.iload X0.here hx rfl (hb hby d7_15) rfl k) ?_
  show gM s₁ 17 #[rv a1, iv 0, rv a2, iv 0, iv 1, iv 0, iv c0] [(.int c0)]
  refine sT (fun t k => XS.sipush X0.here hx rfl (hb hby d7_17) k) ?_
  show gM s₁ 20 #[rv a1, iv 0, rv a2, iv 0, iv 1, iv 0, iv c0] [(.int 255), (.int c0)]
  by_cases hc99 : (255 : Int32) < c0
  · --
   refine sT (fun t k => XS.icmpNo X0.here hx rfl (hb hby d7_20) rfl (tlt hc99).2.2.2 k) ?_
   show gM s₁ 23 #[rv a1, iv 0, rv a2, iv 0, iv 1, iv 0, iv c0] []
   refine sT (fun t k => XS.iload X0.here hx rfl (hb hby d7_23) rfl k) ?_
   show gM s₁ 25 #[rv a1, iv 0, rv a2, iv 0, iv 1, iv 0, iv c0] [(.int 0)]
   refine own_retV X0 hx hlk Bd.returns (w := (.int 0)) rfl (Or.inl ⟨rfl, Or.inl rfl, _, rfl⟩) (hb hby d7_25) ?_ (by decide) (by decide)
   show own_ci1_Q Z a1 a2 c0 ka kb h0 n0 _ s₁.heap _
   rw [e0]
   exact ⟨(0 : Int32), ([0] : List Int32), rfl, N0, K0, V_a2, (Or.inr ⟨rfl, hc99⟩)⟩
  · --
   refine sT (fun t k => XS.icmpYes X0.here hx rfl (pc0 := 20) (pc' := 26) rfl (hb hby d7_20) rfl (flt hc99).2.2.2 (by decide) (by decide) k) ?_
   show gM s₁ 26 #[rv a1, iv 0, rv a2, iv 0, iv 1, iv 0, iv c0] []
   refine sT (fun t k => XS.aloadN X0.here hx rfl (hb hby d7_26) rfl rfl k) ?_
   show gM s₁ 27 #[rv a1, iv 0, rv a2, iv 0, iv 1, iv 0, iv c0] [(.ref a2)]
   refine sT (fun t k => XS.iloadN X0.here hx rfl (hb hby d7_27) rfl k) ?_
   show gM s₁ 28 #[rv a1, iv 0, rv a2, iv 0, iv 1, iv 0, iv c0] [(.int 0), (.ref a2)]
   refine sT (fun t k => XS.iload X0.here hx rfl (hb hby d7_28) rfl k) ?_
   show gM s₁ 30 #[rv a1, iv 0, rv a2, iv 0, iv 1, iv 0, iv c0] [(.int c0), (.int 0), (.ref a2)]
   refine sT (fun t k => XS.i2b X0.here hx rfl (hb hby d7_30) rfl k) ?_
   show gM s₁ 31 #[rv a1, iv 0, rv a2, iv 0, iv 1, iv 0, iv c0] [(.int (c0.toInt8.toInt32)), (.int 0), (.ref a2)]
   obtain ⟨T100, h100, X100, e100, W100, V100, st100⟩ := own_bst X0 hx hZ e0 V_a2 (j := (0 : Int32)) (own_i8 _) ⟨by decide, by decide⟩ (0) rfl (Nat.le_of_ble_eq_true rfl) (g := (mkF m 31 #[rv a1, iv 0, rv a2, iv 0, iv 1, iv 0, iv c0] [(.int (c0.toInt8.toInt32)), (.int 0), (.ref a2)])) rfl rfl (hb hby d7_31)
   have V100 : Arv Z h100 a2 kb .byte (1 : Int32) (([(c0.toInt8.toInt32)] : List Int32).map Value.int) (Value.int 0) := V100
   have N100 := Fr.snoc X100 N0 g_a2
   have K101 : Keep h0 h100 [a2] := K0.wr W100 (Or.inl (List.mem_of_getElem? (i := 0) rfl))
   refine sT st100 ?_
   show gM T100 32 #[rv a1, iv 0, rv a2, iv 0, iv 1, iv 0, iv c0] []
   refine sT (fun t k => XS.iinc X100.here hx rfl (hb hby d7_32) rfl (l' := #[rv a1, iv 1, rv a2, iv 0, iv 1, iv 0, iv c0]) rfl k) ?_
   show gM T100 35 #[rv a1, iv 1, rv a2, iv 0, iv 1, iv 0, iv c0] []
   refine sT (fun t k => XS.iinc X100.here hx rfl (hb hby d7_35) rfl (l' := #[rv a1, iv 1, rv a2, iv 1, iv 1, iv 0, iv c0]) rfl k) ?_
   show gM T100 38 #[rv a1, iv 1, rv a2, iv 1, iv 1, iv 0, iv c0] []
   refine sT (fun t k => XS.iinc X100.here hx rfl (hb hby d7_38) rfl (l' := #[rv a1, iv 1, rv a2, iv 1, iv 1, iv 1, iv c0]) rfl k) ?_
   show gM T100 41 #[rv a1, iv 1, rv a2, iv 1, iv 1, iv 1, iv c0] []
   refine sT (fun t k => XS.goto X100.here hx rfl (pc0 := 41) (pc' := 3) rfl (hb hby d7_41) (by decide) (by decide) k) ?_
   show gM T100 3 #[rv a1, iv 1, rv a2, iv 1, iv 1, iv 1, iv c0] []
   refine sT (fun t k => XS.iload X100.here hx rfl (hb hby d7_3) rfl k) ?_
   show gM T100 5 #[rv a1, iv 1, rv a2, iv 1, iv 1, iv 1, iv c0] [(.int 1)]
   refine sT (fun t k => XS.iload X100.here hx rfl (hb hby d7_5) rfl k) ?_
   show gM T100 7 #[rv a1, iv 1, rv a2, iv 1, iv 1, iv 1, iv c0] [(.int 1), (.int 1)]
   have hc102 : ¬ ((1 : Int32) < (1 : Int32)) := by decide
   refine sT (fun t k => XS.icmpYes X100.here hx rfl (pc0 := 7) (pc' := 44) rfl (hb hby d7_7) rfl (flt hc102).2.1 (by decide) (by decide) k) ?_
   show gM T100 44 #[rv a1, iv 1, rv a2, iv 1, iv 1, iv 1, iv c0] []
   refine sT (fun t k => XS.iload X100.here hx rfl (hb hby d7_44) rfl k) ?_
   show gM T100 46 #[rv a1, iv 1, rv a2, iv 1, iv 1, iv 1, iv c0] [(.int 1)]
   refine own_retV X100 hx hlk Bd.returns (w := (.int 1)) rfl (Or.inl ⟨rfl, Or.inl rfl, _, rfl⟩) (hb hby d7_46) ?_ (by decide) (by decide)
   show own_ci1_Q Z a1 a2 c0 ka kb h0 n0 _ T100.heap _
   rw [e100]
   exact ⟨(1 : Int32), ([(c0.toInt8.toInt32)] : List Int32), rfl, N100, K101, V100, (Or.inl ⟨rfl, rfl, hc99⟩)⟩
theorem d8_0 : decode jdk_52_method_16_code 0 = .ok (.iload_n 2, 1) := by decide +kernel
theorem d8_1 : decode jdk_52_method_16_code 1 = .ok (.newarray .byte, 2) := by decide +kernel
theorem d8_3 : decode jdk_52_method_16_code 3 = .ok (.astore_n 3, 1) := by decide +kernel
theorem d8_4 : decode jdk_52_method_16_code 4 = .ok (.aload_n 0, 1) := by decide +kernel
theorem d8_5 : decode jdk_52_method_16_code 5 = .ok (.iload_n 1, 1) := by decide +kernel
theorem d8_6 : decode jdk_52_method_16_code 6 = .ok (.aload_n 3, 1) := by decide +kernel
theorem d8_7 : decode jdk_52_method_16_code 7 = .ok (.iconst 0, 1) := by decide +kernel
theorem d8_8 : decode jdk_52_method_16_code 8 = .ok (.iload_n 2, 1) := by decide +kernel
theorem own_pd4 : parseMethodDescriptor "([CI[BII)I" = some ⟨[(.array .char), .int, (.array .byte), .int, .int], some .int⟩ := by decide +kernel
theorem d8_9 : decode jdk_52_method_16_code 9 = .ok (.invokestatic 115, 3) := by decide +kernel
theorem d8_12 : decode jdk_52_method_16_code 12 = .ok (.istore 4, 2) := by decide +kernel
theorem d8_14 : decode jdk_52_method_16_code 14 = .ok (.iload 4, 2) := by decide +kernel
theorem d8_16 : decode jdk_52_method_16_code 16 = .ok (.iload_n 2, 1) := by decide +kernel
theorem d8_17 : decode jdk_52_method_16_code 17 = .ok (.if_icmp .eq 40, 3) := by decide +kernel
theorem d8_57 : decode jdk_52_method_16_code 57 = .ok (.aload_n 3, 1) := by decide +kernel
theorem d8_58 : decode jdk_52_method_16_code 58 = .ok (.areturn, 1) := by decide +kernel
theorem d8_20 : decode jdk_52_method_16_code 20 = .ok (.aload_n 0, 1) := by decide +kernel
theorem d8_21 : decode jdk_52_method_16_code 21 = .ok (.iload_n 1, 1) := by decide +kernel
theorem d8_22 : decode jdk_52_method_16_code 22 = .ok (.iload_n 2, 1) := by decide +kernel
theorem own_pd5 : parseMethodDescriptor "([CII)[B" = some ⟨[(.array .char), .int, .int], some (.array .byte)⟩ := by decide +kernel
theorem d8_23 : decode jdk_52_method_16_code 23 = .ok (.invokestatic 119, 3) := by decide +kernel
theorem d8_26 : decode jdk_52_method_16_code 26 = .ok (.astore 5, 2) := by decide +kernel
theorem d8_28 : decode jdk_52_method_16_code 28 = .ok (.aload 5, 2) := by decide +kernel
theorem d8_30 : decode jdk_52_method_16_code 30 = .ok (.iload 4, 2) := by decide +kernel
theorem own_pd6 : parseMethodDescriptor "([BI)C" = some ⟨[(.array .byte), .int], some .char⟩ := by decide +kernel
theorem d8_32 : decode jdk_52_method_16_code 32 = .ok (.invokestatic 71, 3) := by decide +kernel
theorem d8_35 : decode jdk_52_method_16_code 35 = .ok (.sipush 255, 3) := by decide +kernel
theorem d8_38 : decode jdk_52_method_16_code 38 = .ok (.if_icmp .gt 16, 3) := by decide +kernel
theorem d8_54 : decode jdk_52_method_16_code 54 = .ok (.aload 5, 2) := by decide +kernel
theorem d8_56 : decode jdk_52_method_16_code 56 = .ok (.areturn, 1) := by decide +kernel
theorem own_co1_ef (m : MethodId) (a1 : Addr) : entryFrame m #[(.ref a1), (.int 0), (.int 1)] 6 = mkF m 0 #[rv a1, iv 0, iv 1, uN, uN, uN] [] := by first | (simp [entryFrame, mkF, argsToLocals, Value.category]; done) | rfl
def own_co1_Q (Z : State) (a1 : Addr) (c0 : Int32) (ka : ClassId) (h0 : Heap) (n0 : Nat) (v : Option Value) (h : Heap) (L : List Loc) : Prop := ∃ bv : Addr, ∃ kb : ClassId, ∃ zl : Int32, ∃ ys : List Int32, v = some (.ref bv) ∧ Fr n0 L ∧ Keep h0 h [] ∧ h0.size ≤ bv ∧ Arv Z h bv kb .byte zl (ys.map Value.int) (Value.int 0) ∧ ((zl = (1 : Int32) ∧ ys = ([(c0.toInt8.toInt32)] : List Int32) ∧ ¬ (255 : Int32) < c0) ∨ (zl = (2 : Int32) ∧ ((255 : Int32) < c0)))
set_option maxRecDepth 65536 in
set_option maxHeartbeats 40000000 in
theorem own_co1 (l : Launch) (Z : State) (a0 : Array Value) (hw : ∀ d ∈ tables_1, d.before a0 Z = true) (ws : List Jvm.Cond) (a1 : Addr) (c0 : Int32) (ka : ClassId) (h0 : Heap) (n0 : Nat) (Z0 : n0 ≤ h0.size) (S__assertionsDisabled : Sta Z Z.heap "java/lang/StringUTF16" "$assertionsDisabled" "Z" (.int 1)) (S_HI_BYTE_SHIFT : Sta Z Z.heap "java/lang/StringUTF16" "HI_BYTE_SHIFT" "I" (.int 0)) (S_LO_BYTE_SHIFT : Sta Z Z.heap "java/lang/StringUTF16" "LO_BYTE_SHIFT" "I" (.int 8)) (Zn : Z.heap.size ≤ n0) (EZ : Ext Z.heap h0) (V_a1 : Arv Z h0 a1 ka .char (1 : Int32) (([c0] : List Int32).map Value.int) (Value.int 0)) (hN0 : nar .char c0 = c0) :
    MetFree l mN8 (head1 (Jvm.Cond.code mN8 jdk_52_method_16_code 6 (some (.array .byte)) :: ws) ({ frames := 3, cells := 2, slots := 3, locals := 40 } : Room)) (fun aa U => aa = #[(.ref a1), (.int 0), (.int 1)] ∧ Z.Warmed39 U.vm ∧ U.heap = h0) (fun _ _ _ _ _ => True) (fun _ U o U' => ∃ v L, o = .returned v ∧ own_co1_Q Z a1 c0 ka h0 n0 v U'.heap L ∧ FrameEnd U o U' L ({ frames := 3, cells := 2, slots := 3, locals := 40 } : Room).cells ({ frames := 3, cells := 2, slots := 3, locals := 40 } : Room).slots) := by
  refine MetFree.of_bodySF (plainFor_of_name own_pn1) hisR ?_
  have w27 := wO hw 27 rfl
  have w59 := wO hw 59 rfl
  have w61 := wO hw 61 rfl
  have w62 := wO hw 62 rfl
  have w63 := wO hw 63 rfl
  have w68 := wO hw 68 rfl
  have w69 := wO hw 69 rfl
  have w70 := wO hw 70 rfl
  have w84 := wO hw 84 rfl
  have w85 := wO hw 85 rfl
  have w86 := wO hw 86 rfl
  intro p e s m args below meth c s₁ Bd hml0 hP hK
  obtain ⟨rfl, hZ, hh⟩ := hP
  have hx := Bd.exec
  have hby := Bd.bytes
  have hlk := Bd.notSynchronized
  have hml : c.maxLocals = 6 := hml0
  have hown : s.vm.findClass "java/lang/StringUTF16" = some m.cls := findClass_of_methodNamed Bd.named
  have hnm := (name_of_methodNamed Bd.named Bd.method).1
  have X0 : Stand p l e ({ frames := 3, cells := 2, slots := 3, locals := 40 } : Room) s m #[(.ref a1), (.int 0), (.int 1)] below meth c s₁ [] 0 0 := Stand.of_body Bd
  have e0 : s₁.heap = h0 := by rw [← hh, Bd.state]; rfl
  have N0 := Fr.nil n0
  have K0 : Keep h0 h0 [] := Keep.refl h0 _
  have O0 : Old Z Z.heap.size h0 := ⟨rfl, EZ⟩
  show gS p e below (own_Fin s (own_co1_Q Z a1 c0 ka h0 n0) ({ frames := 3, cells := 2, slots := 3, locals := 40 } : Room).cells ({ frames := 3, cells := 2, slots := 3, locals := 40 } : Room).slots) _
  refine sT (fun t k => castTop (own_co1_ef m a1) k) ?_
  show gM s₁ 0 #[rv a1, iv 0, iv 1, uN, uN, uN] []
  refine sT (fun t k => XS.iloadN X0.here hx rfl (hb hby d8_0) rfl k) ?_
  show gM s₁ 1 #[rv a1, iv 0, iv 1, uN, uN, uN] [(.int 1)]
  obtain ⟨T113, h113, k113, X113, e113, E113, A113, st113⟩ := newP (aty := .byte) X0 hx hZ w27 e0 (g := (mkF m 1 #[rv a1, iv 0, iv 1, uN, uN, uN] [(.int 1)])) rfl (hb hby d8_1) rfl (by decide) (cap := 1) (by decide) (by decide) (by decide) (by decide)
  obtain ⟨b113, g113⟩ : ∃ z, z = h0.size := ⟨_, rfl⟩
  rw [← g113] at A113 st113
  have ne_a1_b113 : a1 ≠ b113 := Nat.ne_of_lt (Nat.lt_of_lt_of_le V_a1.lt (Nat.le_of_eq g113.symm))
  have g_b113 : n0 ≤ b113 := Nat.le_trans Z0 (Nat.le_of_eq g113.symm)
  have sz_b113 : h0.size ≤ b113 := Nat.le_trans K0.1 (Nat.le_of_eq g113.symm)
  have V113 : Arv Z h113 b113 k113 .byte (1 : Int32) (([0] : List Int32).map Value.int) (Value.int 0) := own_newB A113 (by decide) 1
  have K114 : Keep h0 h113 [] := K0.ext E113
  refine sT st113 ?_
  show gM T113 3 #[rv a1, iv 0, iv 1, uN, uN, uN] [(.ref b113)]
  refine sT (fun t k => XS.astoreN X113.here hx rfl (hb hby d8_3) rfl rfl (l' := #[rv a1, iv 0, iv 1, rv b113, uN, uN]) rfl k) ?_
  show gM T113 4 #[rv a1, iv 0, iv 1, rv b113, uN, uN] []
  refine sT (fun t k => XS.aloadN X113.here hx rfl (hb hby d8_4) rfl rfl k) ?_
  show gM T113 5 #[rv a1, iv 0, iv 1, rv b113, uN, uN] [(.ref a1)]
  refine sT (fun t k => XS.iloadN X113.here hx rfl (hb hby d8_5) rfl k) ?_
  show gM T113 6 #[rv a1, iv 0, iv 1, rv b113, uN, uN] [(.int 0), (.ref a1)]
  refine sT (fun t k => XS.aloadN X113.here hx rfl (hb hby d8_6) rfl rfl k) ?_
  show gM T113 7 #[rv a1, iv 0, iv 1, rv b113, uN, uN] [(.ref b113), (.int 0), (.ref a1)]
  refine sT (fun t k => XS.iconst X113.here hx rfl (hb hby d8_7) k) ?_
  show gM T113 8 #[rv a1, iv 0, iv 1, rv b113, uN, uN] [(.int 0), (.ref b113), (.int 0), (.ref a1)]
  refine sT (fun t k => XS.iloadN X113.here hx rfl (hb hby d8_8) rfl k) ?_
  show gM T113 9 #[rv a1, iv 0, iv 1, rv b113, uN, uN] [(.int 1), (.int 0), (.ref b113), (.int 0), (.ref a1)]
  obtain ⟨_, _, ⟨T115, L115, k115, n115⟩, -, X115, ⟨Lc115, hQ115, l115, y115, z115⟩, st115⟩ := Jvm.LawKit.callS X113 hx (y := mN7) hown (mvT hZ w61) (mvT hZ w62) (mvT hZ w59) (mvT hZ w63) (by decide) (backOf (W := 0) (own_ci1 l Z a0 hw [] a1 b113 (c0) (ka) (k113) h113 n0 (Nat.le_trans Z0 E113.1) (V_a1.ext E113) V113 g_b113 ne_a1_b113) hZ w63 w59 (by decide) (by decide)) (g := (mkF m 9 #[rv a1, iv 0, iv 1, rv b113, uN, uN] [(.int 1), (.int 0), (.ref b113), (.int 0), (.ref a1)])) rfl (by rw [hml]; rfl) (argsL := [(.ref a1), (.int 0), (.ref b113), (.int 0), (.int 1)]) (rest := []) (lenOf own_pd4 rfl) rfl (by show 2 * 0 + _ ≤ _; exact Nat.le_of_eq rfl) (hb hby d8_9) (fun _ hWq => ⟨rfl, e113, (by decide : 1 + 0 ≤ _), (by decide : 1 + 0 ≤ _)⟩)
  dsimp only [Pt.U, Pt.locs, Pt.cells, Pt.slots] at X115 l115 y115 z115 st115 hQ115
  subst y115 z115
  obtain ⟨r_115, ys_115, rfl, N115q, K115c, f115_0, f115_1⟩ := hQ115
  have N115 : Fr n0 L115 := by rw [l115]; exact Fr.app N0 N115q
  refine sT st115 ?_
  have K116 : Keep h0 T115.heap [] := K114.trans K115c (allS (Or.inr sz_b113) all0)
  show gM T115 12 #[rv a1, iv 0, iv 1, rv b113, uN, uN] [(.int r_115)]
  rcases f115_1 with ⟨rfl, rfl, hle⟩ | hbad
  · --
   show gM T115 12 #[rv a1, iv 0, iv 1, rv b113, uN, uN] [(.int 1)]
   refine sT (fun t k => XS.istore X115.here hx rfl (hb hby d8_12) rfl (l' := #[rv a1, iv 0, iv 1, rv b113, iv 1, uN]) rfl k) ?_
   show gM T115 14 #[rv a1, iv 0, iv 1, rv b113, iv 1, uN] []
   refine sT (fun t k => XS.iload X115.here hx rfl (hb hby d8_14) rfl k) ?_
   show gM T115 16 #[rv a1, iv 0, iv 1, rv b113, iv 1, uN] [(.int 1)]
   refine sT (fun t k => XS.iloadN X115.here hx rfl (hb hby d8_16) rfl k) ?_
   show gM T115 17 #[rv a1, iv 0, iv 1, rv b113, iv 1, uN] [(.int 1), (.int 1)]
   have hc117 : (1 : Int32) = (1 : Int32) := rfl
   refine sT (fun t k => XS.icmpYes X115.here hx rfl (pc0 := 17) (pc' := 57) rfl (hb hby d8_17) rfl (teq hc117).1 (by decide) (by decide) k) ?_
   show gM T115 57 #[rv a1, iv 0, iv 1, rv b113, iv 1, uN] []
   refine sT (fun t k => XS.aloadN X115.here hx rfl (hb hby d8_57) rfl rfl k) ?_
   show gM T115 58 #[rv a1, iv 0, iv 1, rv b113, iv 1, uN] [(.ref b113)]
   refine own_retV X115 hx hlk Bd.returns (w := (.ref b113)) rfl (Or.inr (Or.inr (Or.inr (Or.inr ⟨rfl, rfl, rfl⟩)))) (hb hby d8_58) ?_ (by decide) (by decide)
   show own_co1_Q Z a1 c0 ka h0 n0 _ T115.heap _
   exact ⟨b113, k113, 1, ([(c0.toInt8.toInt32)] : List Int32), rfl, N115, K116, sz_b113, f115_0, (Or.inl ⟨rfl, rfl, hle⟩)⟩
  · --
   have hr : (¬ r_115 = (1 : Int32)) ∧ (¬ (r_115 <<< ((1 : Int32) &&& 31)) < 0 ∧ (r_115 <<< ((1 : Int32) &&& 31)) < (2 : Int32)) ∧ (¬ ((r_115 <<< ((1 : Int32) &&& 31)) + (1 : Int32)) < 0 ∧ ((r_115 <<< ((1 : Int32) &&& 31)) + (1 : Int32)) < (2 : Int32)) ∧ ((255 : Int32) < own_comb (([((c0 >>> ((0 : Int32) &&& 31)).toInt8.toInt32), ((c0 >>> ((8 : Int32) &&& 31)).toInt8.toInt32)] : List Int32).getD (r_115 <<< ((1 : Int32) &&& 31)).toNatClampNeg 0) (([((c0 >>> ((0 : Int32) &&& 31)).toInt8.toInt32), ((c0 >>> ((8 : Int32) &&& 31)).toInt8.toInt32)] : List Int32).getD ((r_115 <<< ((1 : Int32) &&& 31)) + (1 : Int32)).toNatClampNeg 0)) ∧ ((255 : Int32) < c0) := by
    obtain ⟨rfl, hg⟩ := hbad
    exact ⟨by decide, ⟨by decide, by decide⟩, ⟨by decide, by decide⟩, own_gt hN0 hg, hg⟩
   clear hbad
   show gM T115 12 #[rv a1, iv 0, iv 1, rv b113, uN, uN] [(.int r_115)]
   refine sT (fun t k => XS.istore X115.here hx rfl (hb hby d8_12) rfl (l' := #[rv a1, iv 0, iv 1, rv b113, iv r_115, uN]) rfl k) ?_
   show gM T115 14 #[rv a1, iv 0, iv 1, rv b113, iv r_115, uN] []
   refine sT (fun t k => XS.iload X115.here hx rfl (hb hby d8_14) rfl k) ?_
   show gM T115 16 #[rv a1, iv 0, iv 1, rv b113, iv r_115, uN] [(.int r_115)]
   refine sT (fun t k => XS.iloadN X115.here hx rfl (hb hby d8_16) rfl k) ?_
   show gM T115 17 #[rv a1, iv 0, iv 1, rv b113, iv r_115, uN] [(.int 1), (.int r_115)]
   have hc118 : ¬ (r_115 = (1 : Int32)) := hr.1
   refine sT (fun t k => XS.icmpNo X115.here hx rfl (hb hby d8_17) rfl (feq hc118).1 k) ?_
   show gM T115 20 #[rv a1, iv 0, iv 1, rv b113, iv r_115, uN] []
   refine sT (fun t k => XS.aloadN X115.here hx rfl (hb hby d8_20) rfl rfl k) ?_
   show gM T115 21 #[rv a1, iv 0, iv 1, rv b113, iv r_115, uN] [(.ref a1)]
   refine sT (fun t k => XS.iloadN X115.here hx rfl (hb hby d8_21) rfl k) ?_
   show gM T115 22 #[rv a1, iv 0, iv 1, rv b113, iv r_115, uN] [(.int 0), (.ref a1)]
   refine sT (fun t k => XS.iloadN X115.here hx rfl (hb hby d8_22) rfl k) ?_
   show gM T115 23 #[rv a1, iv 0, iv 1, rv b113, iv r_115, uN] [(.int 1), (.int 0), (.ref a1)]
   obtain ⟨_, _, ⟨T119, L119, k119, n119⟩, -, X119, ⟨Lc119, hQ119, l119, y119, z119⟩, st119⟩ := Jvm.LawKit.callS X115 hx (y := mN6) hown (mvT hZ w68) (mvT hZ w69) (mvT hZ w59) (mvT hZ w70) (by decide) (backOf (W := 0) (own_tb1 l Z a0 hw [] a1 (c0) (ka) T115.heap n0 (Nat.le_trans (Nat.le_trans Z0 E113.1) K115c.1) S__assertionsDisabled S_HI_BYTE_SHIFT S_LO_BYTE_SHIFT Zn ((O0.ext E113).keep K115c (allS (Nat.le_trans Zn g_b113) all0)).2 ((V_a1.ext E113).keep K115c (ninS ne_a1_b113 nin0))) hZ w70 w59 (by decide) (by decide)) (g := (mkF m 23 #[rv a1, iv 0, iv 1, rv b113, iv r_115, uN] [(.int 1), (.int 0), (.ref a1)])) rfl (by rw [hml]; rfl) (argsL := [(.ref a1), (.int 0), (.int 1)]) (rest := []) (lenOf own_pd5 rfl) rfl (by show 2 * 0 + _ ≤ _; exact Nat.le_of_eq rfl) (hb hby d8_23) (fun _ hWq => ⟨rfl, rfl, (by decide : 1 + 1 ≤ _), (by decide : 1 + 2 ≤ _)⟩)
   dsimp only [Pt.U, Pt.locs, Pt.cells, Pt.slots] at X119 l119 y119 z119 st119 hQ119
   subst y119 z119
   obtain ⟨bv_119, kb_119, rfl, N119q, K119c, f119_0, f119_1⟩ := hQ119
   have N119 : Fr n0 L119 := by rw [l119]; exact Fr.app N115 N119q
   refine sT st119 ?_
   have K120 : Keep h0 T119.heap [] := K116.trans K119c all0
   have sz_bv_119 : h0.size ≤ bv_119 := Nat.le_trans K116.1 f119_0
   have g_bv_119 : n0 ≤ bv_119 := Nat.le_trans Z0 sz_bv_119
   have ne_a1_bv_119 : a1 ≠ bv_119 := Nat.ne_of_lt (Nat.lt_of_lt_of_le ((V_a1.ext E113).keep K115c (ninS ne_a1_b113 nin0)).lt f119_0)
   have ne_b113_bv_119 : b113 ≠ bv_119 := Nat.ne_of_lt (Nat.lt_of_lt_of_le f115_0.lt f119_0)
   show gM T119 26 #[rv a1, iv 0, iv 1, rv b113, iv r_115, uN] [(.ref bv_119)]
   refine sT (fun t k => XS.astore X119.here hx rfl (hb hby d8_26) rfl rfl (l' := #[rv a1, iv 0, iv 1, rv b113, iv r_115, rv bv_119]) rfl k) ?_
   show gM T119 28 #[rv a1, iv 0, iv 1, rv b113, iv r_115, rv bv_119] []
   refine sT (fun t k => XS.aload X119.here hx rfl (hb hby d8_28) rfl rfl k) ?_
   show gM T119 30 #[rv a1, iv 0, iv 1, rv b113, iv r_115, rv bv_119] [(.ref bv_119)]
   refine sT (fun t k => XS.iload X119.here hx rfl (hb hby d8_30) rfl k) ?_
   show gM T119 32 #[rv a1, iv 0, iv 1, rv b113, iv r_115, rv bv_119] [(.int r_115), (.ref bv_119)]
   obtain ⟨_, _, ⟨T121, L121, k121, n121⟩, -, X121, ⟨Lc121, hQ121, l121, y121, z121⟩, st121⟩ := Jvm.LawKit.callS X119 hx (y := mN5) hown (mvT hZ w84) (mvT hZ w85) (mvT hZ w59) (mvT hZ w86) (by decide) (backOf (W := 0) (own_gc l Z a0 hw [] bv_119 r_115 ((2 : Int32)) (([((c0 >>> ((0 : Int32) &&& 31)).toInt8.toInt32), ((c0 >>> ((8 : Int32) &&& 31)).toInt8.toInt32)] : List Int32)) (kb_119) T119.heap n0 (Nat.le_trans (Nat.le_trans (Nat.le_trans Z0 E113.1) K115c.1) K119c.1) S__assertionsDisabled S_HI_BYTE_SHIFT S_LO_BYTE_SHIFT Zn (((O0.ext E113).keep K115c (allS (Nat.le_trans Zn g_b113) all0)).keep K119c all0).2 f119_1 hr.2.1 hr.2.2.1 hr.2.2.2.1) hZ w86 w59 (by decide) (by decide)) (g := (mkF m 32 #[rv a1, iv 0, iv 1, rv b113, iv r_115, rv bv_119] [(.int r_115), (.ref bv_119)])) rfl (by rw [hml]; rfl) (argsL := [(.ref bv_119), (.int r_115)]) (rest := []) (lenOf own_pd6 rfl) rfl (by show 2 * 0 + _ ≤ _; exact Nat.le_of_eq rfl) (hb hby d8_32) (fun _ hWq => ⟨rfl, rfl, (by decide : 2 + 0 ≤ _), (by decide : 3 + 0 ≤ _)⟩)
   dsimp only [Pt.U, Pt.locs, Pt.cells, Pt.slots] at X121 l121 y121 z121 st121 hQ121
   subst y121 z121
   obtain ⟨w_121, rfl, N121q, eh121, f121_0⟩ := hQ121
   have N121 : Fr n0 L121 := by rw [l121]; exact Fr.app N119 N121q
   refine sT st121 ?_
   show gM T121 35 #[rv a1, iv 0, iv 1, rv b113, iv r_115, rv bv_119] [(.int w_121)]
   refine sT (fun t k => XS.sipush X121.here hx rfl (hb hby d8_35) k) ?_
   show gM T121 38 #[rv a1, iv 0, iv 1, rv b113, iv r_115, rv bv_119] [(.int 255), (.int w_121)]
   have hc122 : (255 : Int32) < w_121 := f121_0
   refine sT (fun t k => XS.icmpYes X121.here hx rfl (pc0 := 38) (pc' := 54) rfl (hb hby d8_38) rfl (tlt hc122).2.2.1 (by decide) (by decide) k) ?_
   show gM T121 54 #[rv a1, iv 0, iv 1, rv b113, iv r_115, rv bv_119] []
   refine sT (fun t k => XS.aload X121.here hx rfl (hb hby d8_54) rfl rfl k) ?_
   show gM T121 56 #[rv a1, iv 0, iv 1, rv b113, iv r_115, rv bv_119] [(.ref bv_119)]
   refine own_retV X121 hx hlk Bd.returns (w := (.ref bv_119)) rfl (Or.inr (Or.inr (Or.inr (Or.inr ⟨rfl, rfl, rfl⟩)))) (hb hby d8_56) ?_ (by decide) (by decide)
   show own_co1_Q Z a1 c0 ka h0 n0 _ T121.heap _
   rw [eh121]
   exact ⟨bv_119, kb_119, 2, ([((c0 >>> ((0 : Int32) &&& 31)).toInt8.toInt32), ((c0 >>> ((8 : Int32) &&& 31)).toInt8.toInt32)] : List Int32), rfl, N121, K120, sz_bv_119, f119_1, (Or.inr ⟨rfl, hr.2.2.2.2⟩)⟩
theorem own_tb2_ef (m : MethodId) (a1 : Addr) : entryFrame m #[(.ref a1), (.int 0), (.int 2)] 5 = mkF m 0 #[rv a1, iv 0, iv 2, uN, uN] [] := by first | (simp [entryFrame, mkF, argsToLocals, Value.category]; done) | rfl
def own_tb2_Q (Z : State) (a1 : Addr) (c0 : Int32) (c1 : Int32) (ka : ClassId) (h0 : Heap) (n0 : Nat) (v : Option Value) (h : Heap) (L : List Loc) : Prop := ∃ bv : Addr, ∃ kb : ClassId, v = some (.ref bv) ∧ Fr n0 L ∧ Keep h0 h [] ∧ h0.size ≤ bv ∧ Arv Z h bv kb .byte (4 : Int32) (([((c0 >>> ((0 : Int32) &&& 31)).toInt8.toInt32), ((c0 >>> ((8 : Int32) &&& 31)).toInt8.toInt32), ((c1 >>> ((0 : Int32) &&& 31)).toInt8.toInt32), ((c1 >>> ((8 : Int32) &&& 31)).toInt8.toInt32)] : List Int32).map Value.int) (Value.int 0)
set_option maxRecDepth 65536 in
set_option maxHeartbeats 40000000 in
theorem own_tb2 (l : Launch) (Z : State) (a0 : Array Value) (hw : ∀ d ∈ tables_1, d.before a0 Z = true) (ws : List Jvm.Cond) (a1 : Addr) (c0 : Int32) (c1 : Int32) (ka : ClassId) (h0 : Heap) (n0 : Nat) (Z0 : n0 ≤ h0.size) (S__assertionsDisabled : Sta Z Z.heap "java/lang/StringUTF16" "$assertionsDisabled" "Z" (.int 1)) (S_HI_BYTE_SHIFT : Sta Z Z.heap "java/lang/StringUTF16" "HI_BYTE_SHIFT" "I" (.int 0)) (S_LO_BYTE_SHIFT : Sta Z Z.heap "java/lang/StringUTF16" "LO_BYTE_SHIFT" "I" (.int 8)) (Zn : Z.heap.size ≤ n0) (EZ : Ext Z.heap h0) (V_a1 : Arv Z h0 a1 ka .char (2 : Int32) (([c0, c1] : List Int32).map Value.int) (Value.int 0)) :
    MetFree l mN6 (head1 (Jvm.Cond.code mN6 jdk_52_method_14_code 5 (some (.array .byte)) :: ws) ({ frames := 2, cells := 1, slots := 4, locals := 24 } : Room)) (fun aa U => aa = #[(.ref a1), (.int 0), (.int 2)] ∧ Z.Warmed39 U.vm ∧ U.heap = h0) (fun _ _ _ _ _ => True) (fun _ U o U' => ∃ v L, o = .returned v ∧ own_tb2_Q Z a1 c0 c1 ka h0 n0 v U'.heap L ∧ FrameEnd U o U' L ({ frames := 2, cells := 1, slots := 4, locals := 24 } : Room).cells ({ frames := 2, cells := 1, slots := 4, locals := 24 } : Room).slots) := by
  refine MetFree.of_bodySF (plainFor_of_name own_pn1) hisR ?_
  have w59 := wO hw 59 rfl
  have w71 := wO hw 71 rfl
  have w72 := wO hw 72 rfl
  have w73 := wO hw 73 rfl
  have w78 := wO hw 78 rfl
  have w79 := wO hw 79 rfl
  have w80 := wO hw 80 rfl
  intro p e s m args below meth c s₁ Bd hml0 hP hK
  obtain ⟨rfl, hZ, hh⟩ := hP
  have hx := Bd.exec
  have hby := Bd.bytes
  have hlk := Bd.notSynchronized
  have hml : c.maxLocals = 5 := hml0
  have hown : s.vm.findClass "java/lang/StringUTF16" = some m.cls := findClass_of_methodNamed Bd.named
  have hnm := (name_of_methodNamed Bd.named Bd.method).1
  have X0 : Stand p l e ({ frames := 2, cells := 1, slots := 4, locals := 24 } : Room) s m #[(.ref a1), (.int 0), (.int 2)] below meth c s₁ [] 0 0 := Stand.of_body Bd
  have e0 : s₁.heap = h0 := by rw [← hh, Bd.state]; rfl
  have N0 := Fr.nil n0
  have K0 : Keep h0 h0 [] := Keep.refl h0 _
  have O0 : Old Z Z.heap.size h0 := ⟨rfl, EZ⟩
  show gS p e below (own_Fin s (own_tb2_Q Z a1 c0 c1 ka h0 n0) ({ frames := 2, cells := 1, slots := 4, locals := 24 } : Room).cells ({ frames := 2, cells := 1, slots := 4, locals := 24 } : Room).slots) _
  refine sT (fun t k => castTop (own_tb2_ef m a1) k) ?_
  show gM s₁ 0 #[rv a1, iv 0, iv 2, uN, uN] []
  refine sT (fun t k => XS.iloadN X0.here hx rfl (hb hby d6_0) rfl k) ?_
  show gM s₁ 1 #[rv a1, iv 0, iv 2, uN, uN] [(.int 2)]
  obtain ⟨_, _, ⟨T134, L134, k134, n134⟩, -, X134, ⟨Lc134, hQ134, l134, y134, z134⟩, st134⟩ := Jvm.LawKit.callS X0 hx (y := mN3) hown (mvT hZ w71) (mvT hZ w72) (mvT hZ w59) (mvT hZ w73) (by decide) (backOf (W := 0) (own_nf2 l Z a0 hw []   h0 n0 Z0 ) hZ w73 w59 (by decide) (by decide)) (g := (mkF m 1 #[rv a1, iv 0, iv 2, uN, uN] [(.int 2)])) rfl (by rw [hml]; rfl) (argsL := [(.int 2)]) (rest := []) (lenOf own_pd2 rfl) rfl (by show 2 * 0 + _ ≤ _; exact Nat.le_of_eq rfl) (hb hby d6_1) (fun _ hWq => ⟨rfl, e0, (by decide : 0 + 1 ≤ _), (by decide : 0 + 4 ≤ _)⟩)
  dsimp only [Pt.U, Pt.locs, Pt.cells, Pt.slots] at X134 l134 y134 z134 st134 hQ134
  subst y134 z134
  obtain ⟨bv_134, kb_134, rfl, N134q, K134c, f134_0, f134_1⟩ := hQ134
  have N134 : Fr n0 L134 := by rw [l134]; exact Fr.app N0 N134q
  refine sT st134 ?_
  have K135 : Keep h0 T134.heap [] := K0.trans K134c all0
  have sz_bv_134 : h0.size ≤ bv_134 := Nat.le_trans K0.1 f134_0
  have g_bv_134 : n0 ≤ bv_134 := Nat.le_trans Z0 sz_bv_134
  have ne_a1_bv_134 : a1 ≠ bv_134 := Nat.ne_of_lt (Nat.lt_of_lt_of_le V_a1.lt f134_0)
  show gM T134 4 #[rv a1, iv 0, iv 2, uN, uN] [(.ref bv_134)]
  refine sT (fun t k => XS.astoreN X134.here hx rfl (hb hby d6_4) rfl rfl (l' := #[rv a1, iv 0, iv 2, rv bv_134, uN]) rfl k) ?_
  show gM T134 5 #[rv a1, iv 0, iv 2, rv bv_134, uN] []
  refine sT (fun t k => XS.iconst X134.here hx rfl (hb hby d6_5) k) ?_
  show gM T134 6 #[rv a1, iv 0, iv 2, rv bv_134, uN] [(.int 0)]
  refine sT (fun t k => XS.istore X134.here hx rfl (hb hby d6_6) rfl (l' := #[rv a1, iv 0, iv 2, rv bv_134, iv 0]) rfl k) ?_
  show gM T134 8 #[rv a1, iv 0, iv 2, rv bv_134, iv 0] []
  refine sT (fun t k => XS.iload X134.here hx rfl (hb hby d6_8) rfl k) ?_
  show gM T134 10 #[rv a1, iv 0, iv 2, rv bv_134, iv 0] [(.int 0)]
  refine sT (fun t k => XS.iloadN X134.here hx rfl (hb hby d6_10) rfl k) ?_
  show gM T134 11 #[rv a1, iv 0, iv 2, rv bv_134, iv 0] [(.int 2), (.int 0)]
  have hc136 : (0 : Int32) < (2 : Int32) := by decide
  refine sT (fun t k => XS.icmpNo X134.here hx rfl (hb hby d6_11) rfl (tlt hc136).2.1 k) ?_
  show gM T134 14 #[rv a1, iv 0, iv 2, rv bv_134, iv 0] []
  refine sT (fun t k => XS.aloadN X134.here hx rfl (hb hby d6_14) rfl rfl k) ?_
  show gM T134 15 #[rv a1, iv 0, iv 2, rv bv_134, iv 0] [(.ref bv_134)]
  refine sT (fun t k => XS.iload X134.here hx rfl (hb hby d6_15) rfl k) ?_
  show gM T134 17 #[rv a1, iv 0, iv 2, rv bv_134, iv 0] [(.int 0), (.ref bv_134)]
  refine sT (fun t k => XS.aloadN X134.here hx rfl (hb hby d6_17) rfl rfl k) ?_
  show gM T134 18 #[rv a1, iv 0, iv 2, rv bv_134, iv 0] [(.ref a1), (.int 0), (.ref bv_134)]
  refine sT (fun t k => XS.iloadN X134.here hx rfl (hb hby d6_18) rfl k) ?_
  show gM T134 19 #[rv a1, iv 0, iv 2, rv bv_134, iv 0] [(.int 0), (.ref a1), (.int 0), (.ref bv_134)]
  refine sT (fun t k => own_cal X134 hx hZ rfl (V_a1.keep K134c nin0) ⟨by decide, by decide⟩ (g := (mkF m 19 #[rv a1, iv 0, iv 2, rv bv_134, iv 0] [(.int 0), (.ref a1), (.int 0), (.ref bv_134)])) rfl rfl (hb hby d6_19) _ k) ?_
  show gM T134 20 #[rv a1, iv 0, iv 2, rv bv_134, iv 0] [(.int c0), (.int 0), (.ref bv_134)]
  obtain ⟨_, _, ⟨T137, L137, k137, n137⟩, -, X137, ⟨Lc137, hQ137, l137, y137, z137⟩, st137⟩ := Jvm.LawKit.callS X134 hx (y := mN4) hown (mvT hZ w78) (mvT hZ w79) (mvT hZ w59) (mvT hZ w80) (by decide) (backOf (W := 0) (own_pc l Z a0 hw [] bv_134 (0 : Int32) c0 ((4 : Int32)) (([0, 0, 0, 0] : List Int32)) (kb_134) T134.heap n0 (Nat.le_trans Z0 K134c.1) S__assertionsDisabled S_HI_BYTE_SHIFT S_LO_BYTE_SHIFT Zn (O0.keep K134c all0).2 f134_1 g_bv_134 (⟨by decide, by decide⟩) (⟨by decide, by decide⟩) (Nat.le_of_ble_eq_true rfl) (Nat.le_of_ble_eq_true rfl)) hZ w80 w59 (by decide) (by decide)) (g := (mkF m 20 #[rv a1, iv 0, iv 2, rv bv_134, iv 0] [(.int c0), (.int 0), (.ref bv_134)])) rfl (by rw [hml]; rfl) (argsL := [(.ref bv_134), (.int 0), (.int c0)]) (rest := []) (lenOf own_pd3 rfl) rfl (by show 2 * 0 + _ ≤ _; exact Nat.le_of_eq rfl) (hb hby d6_20) (fun _ hWq => ⟨rfl, rfl, (by decide : 1 + 0 ≤ _), (by decide : 4 + 0 ≤ _)⟩)
  dsimp only [Pt.U, Pt.locs, Pt.cells, Pt.slots] at X137 l137 y137 z137 st137 hQ137
  subst y137 z137
  obtain ⟨rfl, N137q, K137c, f137_0⟩ := hQ137
  have N137 : Fr n0 L137 := by rw [l137]; exact Fr.app N134 N137q
  refine sT st137 ?_
  have K138 : Keep h0 T137.heap [] := K135.trans K137c (allS (Or.inr sz_bv_134) all0)
  show gM T137 23 #[rv a1, iv 0, iv 2, rv bv_134, iv 0] []
  have V139 : Arv Z T137.heap bv_134 kb_134 .byte (4 : Int32) (([((c0 >>> ((0 : Int32) &&& 31)).toInt8.toInt32), ((c0 >>> ((8 : Int32) &&& 31)).toInt8.toInt32), 0, 0] : List Int32).map Value.int) (Value.int 0) := f137_0
  refine sT (fun t k => XS.iinc X137.here hx rfl (hb hby d6_23) rfl (l' := #[rv a1, iv 1, iv 2, rv bv_134, iv 0]) rfl k) ?_
  show gM T137 26 #[rv a1, iv 1, iv 2, rv bv_134, iv 0] []
  refine sT (fun t k => XS.iinc X137.here hx rfl (hb hby d6_26) rfl (l' := #[rv a1, iv 1, iv 2, rv bv_134, iv 1]) rfl k) ?_
  show gM T137 29 #[rv a1, iv 1, iv 2, rv bv_134, iv 1] []
  refine sT (fun t k => XS.goto X137.here hx rfl (pc0 := 29) (pc' := 8) rfl (hb hby d6_29) (by decide) (by decide) k) ?_
  show gM T137 8 #[rv a1, iv 1, iv 2, rv bv_134, iv 1] []
  refine sT (fun t k => XS.iload X137.here hx rfl (hb hby d6_8) rfl k) ?_
  show gM T137 10 #[rv a1, iv 1, iv 2, rv bv_134, iv 1] [(.int 1)]
  refine sT (fun t k => XS.iloadN X137.here hx rfl (hb hby d6_10) rfl k) ?_
  show gM T137 11 #[rv a1, iv 1, iv 2, rv bv_134, iv 1] [(.int 2), (.int 1)]
  have hc140 : (1 : Int32) < (2 : Int32) := by decide
  refine sT (fun t k => XS.icmpNo X137.here hx rfl (hb hby d6_11) rfl (tlt hc140).2.1 k) ?_
  show gM T137 14 #[rv a1, iv 1, iv 2, rv bv_134, iv 1] []
  refine sT (fun t k => XS.aloadN X137.here hx rfl (hb hby d6_14) rfl rfl k) ?_
  show gM T137 15 #[rv a1, iv 1, iv 2, rv bv_134, iv 1] [(.ref bv_134)]
  refine sT (fun t k => XS.iload X137.here hx rfl (hb hby d6_15) rfl k) ?_
  show gM T137 17 #[rv a1, iv 1, iv 2, rv bv_134, iv 1] [(.int 1), (.ref bv_134)]
  refine sT (fun t k => XS.aloadN X137.here hx rfl (hb hby d6_17) rfl rfl k) ?_
  show gM T137 18 #[rv a1, iv 1, iv 2, rv bv_134, iv 1] [(.ref a1), (.int 1), (.ref bv_134)]
  refine sT (fun t k => XS.iloadN X137.here hx rfl (hb hby d6_18) rfl k) ?_
  show gM T137 19 #[rv a1, iv 1, iv 2, rv bv_134, iv 1] [(.int 1), (.ref a1), (.int 1), (.ref bv_134)]
  refine sT (fun t k => own_cal X137 hx hZ rfl ((V_a1.keep K134c nin0).keep K137c (ninS ne_a1_bv_134 nin0)) ⟨by decide, by decide⟩ (g := (mkF m 19 #[rv a1, iv 1, iv 2, rv bv_134, iv 1] [(.int 1), (.ref a1), (.int 1), (.ref bv_134)])) rfl rfl (hb hby d6_19) _ k) ?_
  show gM T137 20 #[rv a1, iv 1, iv 2, rv bv_134, iv 1] [(.int c1), (.int 1), (.ref bv_134)]
  obtain ⟨_, _, ⟨T141, L141, k141, n141⟩, -, X141, ⟨Lc141, hQ141, l141, y141, z141⟩, st141⟩ := Jvm.LawKit.callS X137 hx (y := mN4) hown (mvT hZ w78) (mvT hZ w79) (mvT hZ w59) (mvT hZ w80) (by decide) (backOf (W := 0) (own_pc l Z a0 hw [] bv_134 (1 : Int32) c1 ((4 : Int32)) (([((c0 >>> ((0 : Int32) &&& 31)).toInt8.toInt32), ((c0 >>> ((8 : Int32) &&& 31)).toInt8.toInt32), 0, 0] : List Int32)) (kb_134) T137.heap n0 (Nat.le_trans (Nat.le_trans Z0 K134c.1) K137c.1) S__assertionsDisabled S_HI_BYTE_SHIFT S_LO_BYTE_SHIFT Zn ((O0.keep K134c all0).keep K137c (allS (Nat.le_trans Zn g_bv_134) all0)).2 V139 g_bv_134 (⟨by decide, by decide⟩) (⟨by decide, by decide⟩) (Nat.le_of_ble_eq_true rfl) (Nat.le_of_ble_eq_true rfl)) hZ w80 w59 (by decide) (by decide)) (g := (mkF m 20 #[rv a1, iv 1, iv 2, rv bv_134, iv 1] [(.int c1), (.int 1), (.ref bv_134)])) rfl (by rw [hml]; rfl) (argsL := [(.ref bv_134), (.int 1), (.int c1)]) (rest := []) (lenOf own_pd3 rfl) rfl (by show 2 * 0 + _ ≤ _; exact Nat.le_of_eq rfl) (hb hby d6_20) (fun _ hWq => ⟨rfl, rfl, (by decide : 1 + 0 ≤ _), (by decide : 4 + 0 ≤ _)⟩)
  dsimp only [Pt.U, Pt.locs, Pt.cells, Pt.slots] at X141 l141 y141 z141 st141 hQ141
  subst y141 z141
  obtain ⟨rfl, N141q, K141c, f141_0⟩ := hQ141
  have N141 : Fr n0 L141 := by rw [l141]; exact Fr.app N137 N141q
  refine sT st141 ?_
  have K142 : Keep h0 T141.heap [] := K138.trans K141c (allS (Or.inr sz_bv_134) all0)
  show gM T141 23 #[rv a1, iv 1, iv 2, rv bv_134, iv 1] []
  have V143 : Arv Z T141.heap bv_134 kb_134 .byte (4 : Int32) (([((c0 >>> ((0 : Int32) &&& 31)).toInt8.toInt32), ((c0 >>> ((8 : Int32) &&& 31)).toInt8.toInt32), ((c1 >>> ((0 : Int32) &&& 31)).toInt8.toInt32), ((c1 >>> ((8 : Int32) &&& 31)).toInt8.toInt32)] : List Int32).map Value.int) (Value.int 0) := f141_0
  refine sT (fun t k => XS.iinc X141.here hx rfl (hb hby d6_23) rfl (l' := #[rv a1, iv 2, iv 2, rv bv_134, iv 1]) rfl k) ?_
  show gM T141 26 #[rv a1, iv 2, iv 2, rv bv_134, iv 1] []
  refine sT (fun t k => XS.iinc X141.here hx rfl (hb hby d6_26) rfl (l' := #[rv a1, iv 2, iv 2, rv bv_134, iv 2]) rfl k) ?_
  show gM T141 29 #[rv a1, iv 2, iv 2, rv bv_134, iv 2] []
  refine sT (fun t k => XS.goto X141.here hx rfl (pc0 := 29) (pc' := 8) rfl (hb hby d6_29) (by decide) (by decide) k) ?_
  show gM T141 8 #[rv a1, iv 2, iv 2, rv bv_134, iv 2] []
  refine sT (fun t k => XS.iload X141.here hx rfl (hb hby d6_8) rfl k) ?_
  show gM T141 10 #[rv a1, iv 2, iv 2, rv bv_134, iv 2] [(.int 2)]
  refine sT (fun t k => XS.iloadN X141.here hx rfl (hb hby d6_10) rfl k) ?_
  show gM T141 11 #[rv a1, iv 2, iv 2, rv bv_134, iv 2] [(.int 2), (.int 2)]
  have hc144 : ¬ ((2 : Int32) < (2 : Int32)) := by decide
  refine sT (fun t k => XS.icmpYes X141.here hx rfl (pc0 := 11) (pc' := 32) rfl (hb hby d6_11) rfl (flt hc144).2.1 (by decide) (by decide) k) ?_
  show gM T141 32 #[rv a1, iv 2, iv 2, rv bv_134, iv 2] []
  refine sT (fun t k => XS.aloadN X141.here hx rfl (hb hby d6_32) rfl rfl k) ?_
  show gM T141 33 #[rv a1, iv 2, iv 2, rv bv_134, iv 2] [(.ref bv_134)]
  refine own_retV X141 hx hlk Bd.returns (w := (.ref bv_134)) rfl (Or.inr (Or.inr (Or.inr (Or.inr ⟨rfl, rfl, rfl⟩)))) (hb hby d6_33) ?_ (by decide) (by decide)
  show own_tb2_Q Z a1 c0 c1 ka h0 n0 _ T141.heap _
  exact ⟨bv_134, kb_134, rfl, N141, K142, sz_bv_134, V143⟩
theorem own_ci2_ef (m : MethodId) (a1 : Addr) (a2 : Addr) : entryFrame m #[(.ref a1), (.int 0), (.ref a2), (.int 0), (.int 2)] 7 = mkF m 0 #[rv a1, iv 0, rv a2, iv 0, iv 2, uN, uN] [] := by first | (simp [entryFrame, mkF, argsToLocals, Value.category]; done) | rfl
def own_ci2_Q (Z : State) (a1 : Addr) (a2 : Addr) (c0 : Int32) (c1 : Int32) (ka : ClassId) (kb : ClassId) (h0 : Heap) (n0 : Nat) (v : Option Value) (h : Heap) (L : List Loc) : Prop := ∃ r : Int32, ∃ ys : List Int32, v = some (.int r) ∧ Fr n0 L ∧ Keep h0 h [a2] ∧ Arv Z h a2 kb .byte (2 : Int32) (ys.map Value.int) (Value.int 0) ∧ ((r = (2 : Int32) ∧ ys = ([(c0.toInt8.toInt32), (c1.toInt8.toInt32)] : List Int32) ∧ ¬ (255 : Int32) < c0 ∧ ¬ (255 : Int32) < c1) ∨ (r = (0 : Int32) ∧ (255 : Int32) < c0) ∨ (r = (1 : Int32) ∧ (255 : Int32) < c1))
set_option maxRecDepth 65536 in
set_option maxHeartbeats 40000000 in
theorem own_ci2 (l : Launch) (Z : State) (a0 : Array Value) (hw : ∀ d ∈ tables_1, d.before a0 Z = true) (ws : List Jvm.Cond) (a1 : Addr) (a2 : Addr) (c0 : Int32) (c1 : Int32) (ka : ClassId) (kb : ClassId) (h0 : Heap) (n0 : Nat) (Z0 : n0 ≤ h0.size) (V_a1 : Arv Z h0 a1 ka .char (2 : Int32) (([c0, c1] : List Int32).map Value.int) (Value.int 0)) (V_a2 : Arv Z h0 a2 kb .byte (2 : Int32) (([0, 0] : List Int32).map Value.int) (Value.int 0)) (g_a2 : n0 ≤ a2) (ne_a1_a2 : a1 ≠ a2) :
    MetFree l mN7 (head1 (Jvm.Cond.code mN7 jdk_52_method_21_code 7 (some .int) :: ws) ({ frames := 0, cells := 0, slots := 0, locals := 0 } : Room)) (fun aa U => aa = #[(.ref a1), (.int 0), (.ref a2), (.int 0), (.int 2)] ∧ Z.Warmed39 U.vm ∧ U.heap = h0) (fun _ _ _ _ _ => True) (fun _ U o U' => ∃ v L, o = .returned v ∧ own_ci2_Q Z a1 a2 c0 c1 ka kb h0 n0 v U'.heap L ∧ FrameEnd U o U' L ({ frames := 0, cells := 0, slots := 0, locals := 0 } : Room).cells ({ frames := 0, cells := 0, slots := 0, locals := 0 } : Room).slots) := by
  refine MetFree.of_bodySF (plainFor_of_name own_pn1) hisR ?_
  intro p e s m args below meth c s₁ Bd hml0 hP hK
  obtain ⟨rfl, hZ, hh⟩ := hP
  have hx := Bd.exec
  have hby := Bd.bytes
  have hlk := Bd.notSynchronized
  have hml : c.maxLocals = 7 := hml0
  have hown : s.vm.findClass "java/lang/StringUTF16" = some m.cls := findClass_of_methodNamed Bd.named
  have hnm := (name_of_methodNamed Bd.named Bd.method).1
  have X0 : Stand p l e ({ frames := 0, cells := 0, slots := 0, locals := 0 } : Room) s m #[(.ref a1), (.int 0), (.ref a2), (.int 0), (.int 2)] below meth c s₁ [] 0 0 := Stand.of_body Bd
  have e0 : s₁.heap = h0 := by rw [← hh, Bd.state]; rfl
  have N0 := Fr.nil n0
  have K0 : Keep h0 h0 [a2] := Keep.refl h0 _
  show gS p e below (own_Fin s (own_ci2_Q Z a1 a2 c0 c1 ka kb h0 n0) ({ frames := 0, cells := 0, slots := 0, locals := 0 } : Room).cells ({ frames := 0, cells := 0, slots := 0, locals := 0 } : Room).slots) _
  refine sT (fun t k => castTop (own_ci2_ef m a1 a2) k) ?_
  show gM s₁ 0 #[rv a1, iv 0, rv a2, iv 0, iv 2, uN, uN] []
  refine sT (fun t k => XS.iconst X0.here hx rfl (hb hby d7_0) k) ?_
  show gM s₁ 1 #[rv a1, iv 0, rv a2, iv 0, iv 2, uN, uN] [(.int 0)]
  refine sT (fun t k => XS.istore X0.here hx rfl (hb hby d7_1) rfl (l' := #[rv a1, iv 0, rv a2, iv 0, iv 2, iv 0, uN]) rfl k) ?_
  show gM s₁ 3 #[rv a1, iv 0, rv a2, iv 0, iv 2, iv 0, uN] []
  refine sT (fun t k => XS.iload X0.here hx rfl (hb hby d7_3) rfl k) ?_
  show gM s₁ 5 #[rv a1, iv 0, rv a2, iv 0, iv 2, iv 0, uN] [(.int 0)]
  refine sT (fun t k => XS.iload X0.here hx rfl (hb hby d7_5) rfl k) ?_
  show gM s₁ 7 #[rv a1, iv 0, rv a2, iv 0, iv 2, iv 0, uN] [(.int 2), (.int 0)]
  have hc154 : (0 : Int32) < (2 : Int32) := by decide
  refine sT (fun t k => XS.icmpNo X0.here hx rfl (hb hby d7_7) rfl (tlt hc154).2.1 k) ?_
  show gM s₁ 10 #[rv a1, iv 0, rv a2, iv 0, iv 2, iv 0, uN] []
  refine sT (fun t k => XS.aloadN X0.here hx rfl (hb hby d7_10) rfl rfl k) ?_
  show gM s₁ 11 #[rv a1, iv 0, rv a2, iv 0, iv 2, iv 0, uN] [(.ref a1)]
  refine sT (fun t k => XS.iloadN X0.here hx rfl (hb hby d7_11) rfl k) ?_
  show gM s₁ 12 #[rv a1, iv 0, rv a2, iv 0, iv 2, iv 0, uN] [(.int 0), (.ref a1)]
  refine sT (fun t k => own_cal X0 hx hZ e0 V_a1 ⟨by decide, by decide⟩ (g := (mkF m 12 #[rv a1, iv 0, rv a2, iv 0, iv 2, iv 0, uN] [(.int 0), (.ref a1)])) rfl rfl (hb hby d7_12) _ k) ?_
  show gM s₁ 13 #[rv a1, iv 0, rv a2, iv 0, iv 2, iv 0, uN] [(.int c0)]
  refine sT (fun t k => XS.istore X0.here hx rfl (hb hby d7_13) rfl (l' := #[rv a1, iv 0, rv a2, iv 0, iv 2, iv 0, iv c0]) rfl k) ?_
  show gM s₁ 15 #[rv a1, iv 0, rv a2, iv 0, iv 2, iv 0, iv c0] []
  refine sT (fun t k => XS.iload X0.here hx rfl (hb hby d7_15) rfl k) ?_
  show gM s₁ 17 #[rv a1, iv 0, rv a2, iv 0, iv 2, iv 0, iv c0] [(.int c0)]
  refine sT (fun t k => XS.sipush X0.here hx rfl (hb hby d7_17) k) ?_
  show gM s₁ 20 #[rv a1, iv 0, rv a2, iv 0, iv 2, iv 0, iv c0] [(.int 255), (.int c0)]
  by_cases hc155 : (255 : Int32) < c0
  · --
   refine sT (fun t k => XS.icmpNo X0.here hx rfl (hb hby d7_20) rfl (tlt hc155).2.2.2 k) ?_
   show gM s₁ 23 #[rv a1, iv 0, rv a2, iv 0, iv 2, iv 0, iv c0] []
   refine sT (fun t k => XS.iload X0.here hx rfl (hb hby d7_23) rfl k) ?_
   show gM s₁ 25 #[rv a1, iv 0, rv a2, iv 0, iv 2, iv 0, iv c0] [(.int 0)]
   refine own_retV X0 hx hlk Bd.returns (w := (.int 0)) rfl (Or.inl ⟨rfl, Or.inl rfl, _, rfl⟩) (hb hby d7_25) ?_ (by decide) (by decide)
   show own_ci2_Q Z a1 a2 c0 c1 ka kb h0 n0 _ s₁.heap _
   rw [e0]
   exact ⟨(0 : Int32), ([0, 0] : List Int32), rfl, N0, K0, V_a2, (Or.inr (Or.inl ⟨rfl, hc155⟩))⟩
  · --
   refine sT (fun t k => XS.icmpYes X0.here hx rfl (pc0 := 20) (pc' := 26) rfl (hb hby d7_20) rfl (flt hc155).2.2.2 (by decide) (by decide) k) ?_
   show gM s₁ 26 #[rv a1, iv 0, rv a2, iv 0, iv 2, iv 0, iv c0] []
   refine sT (fun t k => XS.aloadN X0.here hx rfl (hb hby d7_26) rfl rfl k) ?_
   show gM s₁ 27 #[rv a1, iv 0, rv a2, iv 0, iv 2, iv 0, iv c0] [(.ref a2)]
   refine sT (fun t k => XS.iloadN X0.here hx rfl (hb hby d7_27) rfl k) ?_
   show gM s₁ 28 #[rv a1, iv 0, rv a2, iv 0, iv 2, iv 0, iv c0] [(.int 0), (.ref a2)]
   refine sT (fun t k => XS.iload X0.here hx rfl (hb hby d7_28) rfl k) ?_
   show gM s₁ 30 #[rv a1, iv 0, rv a2, iv 0, iv 2, iv 0, iv c0] [(.int c0), (.int 0), (.ref a2)]
   refine sT (fun t k => XS.i2b X0.here hx rfl (hb hby d7_30) rfl k) ?_
   show gM s₁ 31 #[rv a1, iv 0, rv a2, iv 0, iv 2, iv 0, iv c0] [(.int (c0.toInt8.toInt32)), (.int 0), (.ref a2)]
   obtain ⟨T156, h156, X156, e156, W156, V156, st156⟩ := own_bst X0 hx hZ e0 V_a2 (j := (0 : Int32)) (own_i8 _) ⟨by decide, by decide⟩ (0) rfl (Nat.le_of_ble_eq_true rfl) (g := (mkF m 31 #[rv a1, iv 0, rv a2, iv 0, iv 2, iv 0, iv c0] [(.int (c0.toInt8.toInt32)), (.int 0), (.ref a2)])) rfl rfl (hb hby d7_31)
   have V156 : Arv Z h156 a2 kb .byte (2 : Int32) (([(c0.toInt8.toInt32), 0] : List Int32).map Value.int) (Value.int 0) := V156
   have N156 := Fr.snoc X156 N0 g_a2
   have K157 : Keep h0 h156 [a2] := K0.wr W156 (Or.inl (List.mem_of_getElem? (i := 0) rfl))
   refine sT st156 ?_
   show gM T156 32 #[rv a1, iv 0, rv a2, iv 0, iv 2, iv 0, iv c0] []
   refine sT (fun t k => XS.iinc X156.here hx rfl (hb hby d7_32) rfl (l' := #[rv a1, iv 1, rv a2, iv 0, iv 2, iv 0, iv c0]) rfl k) ?_
   show gM T156 35 #[rv a1, iv 1, rv a2, iv 0, iv 2, iv 0, iv c0] []
   refine sT (fun t k => XS.iinc X156.here hx rfl (hb hby d7_35) rfl (l' := #[rv a1, iv 1, rv a2, iv 1, iv 2, iv 0, iv c0]) rfl k) ?_
   show gM T156 38 #[rv a1, iv 1, rv a2, iv 1, iv 2, iv 0, iv c0] []
   refine sT (fun t k => XS.iinc X156.here hx rfl (hb hby d7_38) rfl (l' := #[rv a1, iv 1, rv a2, iv 1, iv 2, iv 1, iv c0]) rfl k) ?_
   show gM T156 41 #[rv a1, iv 1, rv a2, iv 1, iv 2, iv 1, iv c0] []
   refine sT (fun t k => XS.goto X156.here hx rfl (pc0 := 41) (pc' := 3) rfl (hb hby d7_41) (by decide) (by decide) k) ?_
   show gM T156 3 #[rv a1, iv 1, rv a2, iv 1, iv 2, iv 1, iv c0] []
   refine sT (fun t k => XS.iload X156.here hx rfl (hb hby d7_3) rfl k) ?_
   show gM T156 5 #[rv a1, iv 1, rv a2, iv 1, iv 2, iv 1, iv c0] [(.int 1)]
   refine sT (fun t k => XS.iload X156.here hx rfl (hb hby d7_5) rfl k) ?_
   show gM T156 7 #[rv a1, iv 1, rv a2, iv 1, iv 2, iv 1, iv c0] [(.int 2), (.int 1)]
   have hc158 : (1 : Int32) < (2 : Int32) := by decide
   refine sT (fun t k => XS.icmpNo X156.here hx rfl (hb hby d7_7) rfl (tlt hc158).2.1 k) ?_
   show gM T156 10 #[rv a1, iv 1, rv a2, iv 1, iv 2, iv 1, iv c0] []
   refine sT (fun t k => XS.aloadN X156.here hx rfl (hb hby d7_10) rfl rfl k) ?_
   show gM T156 11 #[rv a1, iv 1, rv a2, iv 1, iv 2, iv 1, iv c0] [(.ref a1)]
   refine sT (fun t k => XS.iloadN X156.here hx rfl (hb hby d7_11) rfl k) ?_
   show gM T156 12 #[rv a1, iv 1, rv a2, iv 1, iv 2, iv 1, iv c0] [(.int 1), (.ref a1)]
   refine sT (fun t k => own_cal X156 hx hZ e156 (V_a1.other W156 ne_a1_a2) ⟨by decide, by decide⟩ (g := (mkF m 12 #[rv a1, iv 1, rv a2, iv 1, iv 2, iv 1, iv c0] [(.int 1), (.ref a1)])) rfl rfl (hb hby d7_12) _ k) ?_
   show gM T156 13 #[rv a1, iv 1, rv a2, iv 1, iv 2, iv 1, iv c0] [(.int c1)]
   refine sT (fun t k => XS.istore X156.here hx rfl (hb hby d7_13) rfl (l' := #[rv a1, iv 1, rv a2, iv 1, iv 2, iv 1, iv c1]) rfl k) ?_
   show gM T156 15 #[rv a1, iv 1, rv a2, iv 1, iv 2, iv 1, iv c1] []
   refine sT (fun t k => XS.iload X156.here hx rfl (hb hby d7_15) rfl k) ?_
   show gM T156 17 #[rv a1, iv 1, rv a2, iv 1, iv 2, iv 1, iv c1] [(.int c1)]
   refine sT (fun t k => XS.sipush X156.here hx rfl (hb hby d7_17) k) ?_
   show gM T156 20 #[rv a1, iv 1, rv a2, iv 1, iv 2, iv 1, iv c1] [(.int 255), (.int c1)]
   by_cases hc159 : (255 : Int32) < c1
   · --
    refine sT (fun t k => XS.icmpNo X156.here hx rfl (hb hby d7_20) rfl (tlt hc159).2.2.2 k) ?_
    show gM T156 23 #[rv a1, iv 1, rv a2, iv 1, iv 2, iv 1, iv c1] []
    refine sT (fun t k => XS.iload X156.here hx rfl (hb hby d7_23) rfl k) ?_
    show gM T156 25 #[rv a1, iv 1, rv a2, iv 1, iv 2, iv 1, iv c1] [(.int 1)]
    refine own_retV X156 hx hlk Bd.returns (w := (.int 1)) rfl (Or.inl ⟨rfl, Or.inl rfl, _, rfl⟩) (hb hby d7_25) ?_ (by decide) (by decide)
    show own_ci2_Q Z a1 a2 c0 c1 ka kb h0 n0 _ T156.heap _
    rw [e156]
    exact ⟨(1 : Int32), ([(c0.toInt8.toInt32), 0] : List Int32), rfl, N156, K157, V156, (Or.inr (Or.inr ⟨rfl, hc159⟩))⟩
   · --
    refine sT (fun t k => XS.icmpYes X156.here hx rfl (pc0 := 20) (pc' := 26) rfl (hb hby d7_20) rfl (flt hc159).2.2.2 (by decide) (by decide) k) ?_
    show gM T156 26 #[rv a1, iv 1, rv a2, iv 1, iv 2, iv 1, iv c1] []
    refine sT (fun t k => XS.aloadN X156.here hx rfl (hb hby d7_26) rfl rfl k) ?_
    show gM T156 27 #[rv a1, iv 1, rv a2, iv 1, iv 2, iv 1, iv c1] [(.ref a2)]
    refine sT (fun t k => XS.iloadN X156.here hx rfl (hb hby d7_27) rfl k) ?_
    show gM T156 28 #[rv a1, iv 1, rv a2, iv 1, iv 2, iv 1, iv c1] [(.int 1), (.ref a2)]
    refine sT (fun t k => XS.iload X156.here hx rfl (hb hby d7_28) rfl k) ?_
    show gM T156 30 #[rv a1, iv 1, rv a2, iv 1, iv 2, iv 1, iv c1] [(.int c1), (.int 1), (.ref a2)]
    refine sT (fun t k => XS.i2b X156.here hx rfl (hb hby d7_30) rfl k) ?_
    show gM T156 31 #[rv a1, iv 1, rv a2, iv 1, iv 2, iv 1, iv c1] [(.int (c1.toInt8.toInt32)), (.int 1), (.ref a2)]
    obtain ⟨T160, h160, X160, e160, W160, V160, st160⟩ := own_bst X156 hx hZ e156 V156 (j := (1 : Int32)) (own_i8 _) ⟨by decide, by decide⟩ (1) rfl (Nat.le_of_ble_eq_true rfl) (g := (mkF m 31 #[rv a1, iv 1, rv a2, iv 1, iv 2, iv 1, iv c1] [(.int (c1.toInt8.toInt32)), (.int 1), (.ref a2)])) rfl rfl (hb hby d7_31)
    have V160 : Arv Z h160 a2 kb .byte (2 : Int32) (([(c0.toInt8.toInt32), (c1.toInt8.toInt32)] : List Int32).map Value.int) (Value.int 0) := V160
    have N160 := Fr.snoc X160 N156 g_a2
    have K161 : Keep h0 h160 [a2] := K157.wr W160 (Or.inl (List.mem_of_getElem? (i := 0) rfl))
    refine sT st160 ?_
    show gM T160 32 #[rv a1, iv 1, rv a2, iv 1, iv 2, iv 1, iv c1] []
    refine sT (fun t k => XS.iinc X160.here hx rfl (hb hby d7_32) rfl (l' := #[rv a1, iv 2, rv a2, iv 1, iv 2, iv 1, iv c1]) rfl k) ?_
    show gM T160 35 #[rv a1, iv 2, rv a2, iv 1, iv 2, iv 1, iv c1] []
    refine sT (fun t k => XS.iinc X160.here hx rfl (hb hby d7_35) rfl (l' := #[rv a1, iv 2, rv a2, iv 2, iv 2, iv 1, iv c1]) rfl k) ?_
    show gM T160 38 #[rv a1, iv 2, rv a2, iv 2, iv 2, iv 1, iv c1] []
    refine sT (fun t k => XS.iinc X160.here hx rfl (hb hby d7_38) rfl (l' := #[rv a1, iv 2, rv a2, iv 2, iv 2, iv 2, iv c1]) rfl k) ?_
    show gM T160 41 #[rv a1, iv 2, rv a2, iv 2, iv 2, iv 2, iv c1] []
    refine sT (fun t k => XS.goto X160.here hx rfl (pc0 := 41) (pc' := 3) rfl (hb hby d7_41) (by decide) (by decide) k) ?_
    show gM T160 3 #[rv a1, iv 2, rv a2, iv 2, iv 2, iv 2, iv c1] []
    refine sT (fun t k => XS.iload X160.here hx rfl (hb hby d7_3) rfl k) ?_
    show gM T160 5 #[rv a1, iv 2, rv a2, iv 2, iv 2, iv 2, iv c1] [(.int 2)]
    refine sT (fun t k => XS.iload X160.here hx rfl (hb hby d7_5) rfl k) ?_
    show gM T160 7 #[rv a1, iv 2, rv a2, iv 2, iv 2, iv 2, iv c1] [(.int 2), (.int 2)]
    have hc162 : ¬ ((2 : Int32) < (2 : Int32)) := by decide
    refine sT (fun t k => XS.icmpYes X160.here hx rfl (pc0 := 7) (pc' := 44) rfl (hb hby d7_7) rfl (flt hc162).2.1 (by decide) (by decide) k) ?_
    show gM T160 44 #[rv a1, iv 2, rv a2, iv 2, iv 2, iv 2, iv c1] []
    refine sT (fun t k => XS.iload X160.here hx rfl (hb hby d7_44) rfl k) ?_
    show gM T160 46 #[rv a1, iv 2, rv a2, iv 2, iv 2, iv 2, iv c1] [(.int 2)]
    refine own_retV X160 hx hlk Bd.returns (w := (.int 2)) rfl (Or.inl ⟨rfl, Or.inl rfl, _, rfl⟩) (hb hby d7_46) ?_ (by decide) (by decide)
    show own_ci2_Q Z a1 a2 c0 c1 ka kb h0 n0 _ T160.heap _
    rw [e160]
    exact ⟨(2 : Int32), ([(c0.toInt8.toInt32), (c1.toInt8.toInt32)] : List Int32), rfl, N160, K161, V160, (Or.inl ⟨rfl, rfl, hc155, hc159⟩)⟩
theorem own_co2_ef (m : MethodId) (a1 : Addr) : entryFrame m #[(.ref a1), (.int 0), (.int 2)] 6 = mkF m 0 #[rv a1, iv 0, iv 2, uN, uN, uN] [] := by first | (simp [entryFrame, mkF, argsToLocals, Value.category]; done) | rfl
def own_co2_Q (Z : State) (a1 : Addr) (c0 : Int32) (c1 : Int32) (ka : ClassId) (h0 : Heap) (n0 : Nat) (v : Option Value) (h : Heap) (L : List Loc) : Prop := ∃ bv : Addr, ∃ kb : ClassId, ∃ zl : Int32, ∃ ys : List Int32, v = some (.ref bv) ∧ Fr n0 L ∧ Keep h0 h [] ∧ h0.size ≤ bv ∧ Arv Z h bv kb .byte zl (ys.map Value.int) (Value.int 0) ∧ ((zl = (2 : Int32) ∧ ys = ([(c0.toInt8.toInt32), (c1.toInt8.toInt32)] : List Int32) ∧ ¬ (255 : Int32) < c0 ∧ ¬ (255 : Int32) < c1) ∨ (zl = (4 : Int32) ∧ ((255 : Int32) < c0 ∨ (255 : Int32) < c1)))
set_option maxRecDepth 65536 in
set_option maxHeartbeats 40000000 in
theorem own_co2 (l : Launch) (Z : State) (a0 : Array Value) (hw : ∀ d ∈ tables_1, d.before a0 Z = true) (ws : List Jvm.Cond) (a1 : Addr) (c0 : Int32) (c1 : Int32) (ka : ClassId) (h0 : Heap) (n0 : Nat) (Z0 : n0 ≤ h0.size) (S__assertionsDisabled : Sta Z Z.heap "java/lang/StringUTF16" "$assertionsDisabled" "Z" (.int 1)) (S_HI_BYTE_SHIFT : Sta Z Z.heap "java/lang/StringUTF16" "HI_BYTE_SHIFT" "I" (.int 0)) (S_LO_BYTE_SHIFT : Sta Z Z.heap "java/lang/StringUTF16" "LO_BYTE_SHIFT" "I" (.int 8)) (Zn : Z.heap.size ≤ n0) (EZ : Ext Z.heap h0) (V_a1 : Arv Z h0 a1 ka .char (2 : Int32) (([c0, c1] : List Int32).map Value.int) (Value.int 0)) (hN0 : nar .char c0 = c0) (hN1 : nar .char c1 = c1) :
    MetFree l mN8 (head1 (Jvm.Cond.code mN8 jdk_52_method_16_code 6 (some (.array .byte)) :: ws) ({ frames := 3, cells := 2, slots := 6, locals := 40 } : Room)) (fun aa U => aa = #[(.ref a1), (.int 0), (.int 2)] ∧ Z.Warmed39 U.vm ∧ U.heap = h0) (fun _ _ _ _ _ => True) (fun _ U o U' => ∃ v L, o = .returned v ∧ own_co2_Q Z a1 c0 c1 ka h0 n0 v U'.heap L ∧ FrameEnd U o U' L ({ frames := 3, cells := 2, slots := 6, locals := 40 } : Room).cells ({ frames := 3, cells := 2, slots := 6, locals := 40 } : Room).slots) := by
  refine MetFree.of_bodySF (plainFor_of_name own_pn1) hisR ?_
  have w27 := wO hw 27 rfl
  have w59 := wO hw 59 rfl
  have w61 := wO hw 61 rfl
  have w62 := wO hw 62 rfl
  have w63 := wO hw 63 rfl
  have w68 := wO hw 68 rfl
  have w69 := wO hw 69 rfl
  have w70 := wO hw 70 rfl
  have w84 := wO hw 84 rfl
  have w85 := wO hw 85 rfl
  have w86 := wO hw 86 rfl
  intro p e s m args below meth c s₁ Bd hml0 hP hK
  obtain ⟨rfl, hZ, hh⟩ := hP
  have hx := Bd.exec
  have hby := Bd.bytes
  have hlk := Bd.notSynchronized
  have hml : c.maxLocals = 6 := hml0
  have hown : s.vm.findClass "java/lang/StringUTF16" = some m.cls := findClass_of_methodNamed Bd.named
  have hnm := (name_of_methodNamed Bd.named Bd.method).1
  have X0 : Stand p l e ({ frames := 3, cells := 2, slots := 6, locals := 40 } : Room) s m #[(.ref a1), (.int 0), (.int 2)] below meth c s₁ [] 0 0 := Stand.of_body Bd
  have e0 : s₁.heap = h0 := by rw [← hh, Bd.state]; rfl
  have N0 := Fr.nil n0
  have K0 : Keep h0 h0 [] := Keep.refl h0 _
  have O0 : Old Z Z.heap.size h0 := ⟨rfl, EZ⟩
  show gS p e below (own_Fin s (own_co2_Q Z a1 c0 c1 ka h0 n0) ({ frames := 3, cells := 2, slots := 6, locals := 40 } : Room).cells ({ frames := 3, cells := 2, slots := 6, locals := 40 } : Room).slots) _
  refine sT (fun t k => castTop (own_co2_ef m a1) k) ?_
  show gM s₁ 0 #[rv a1, iv 0, iv 2, uN, uN, uN] []
  refine sT (fun t k => XS.iloadN X0.here hx rfl (hb hby d8_0) rfl k) ?_
  show gM s₁ 1 #[rv a1, iv 0, iv 2, uN, uN, uN] [(.int 2)]
  obtain ⟨T173, h173, k173, X173, e173, E173, A173, st173⟩ := newP (aty := .byte) X0 hx hZ w27 e0 (g := (mkF m 1 #[rv a1, iv 0, iv 2, uN, uN, uN] [(.int 2)])) rfl (hb hby d8_1) rfl (by decide) (cap := 2) (by decide) (by decide) (by decide) (by decide)
  obtain ⟨b173, g173⟩ : ∃ z, z = h0.size := ⟨_, rfl⟩
  rw [← g173] at A173 st173
  have ne_a1_b173 : a1 ≠ b173 := Nat.ne_of_lt (Nat.lt_of_lt_of_le V_a1.lt (Nat.le_of_eq g173.symm))
  have g_b173 : n0 ≤ b173 := Nat.le_trans Z0 (Nat.le_of_eq g173.symm)
  have sz_b173 : h0.size ≤ b173 := Nat.le_trans K0.1 (Nat.le_of_eq g173.symm)
  have V173 : Arv Z h173 b173 k173 .byte (2 : Int32) (([0, 0] : List Int32).map Value.int) (Value.int 0) := own_newB A173 (by decide) 2
  have K174 : Keep h0 h173 [] := K0.ext E173
  refine sT st173 ?_
  show gM T173 3 #[rv a1, iv 0, iv 2, uN, uN, uN] [(.ref b173)]
  refine sT (fun t k => XS.astoreN X173.here hx rfl (hb hby d8_3) rfl rfl (l' := #[rv a1, iv 0, iv 2, rv b173, uN, uN]) rfl k) ?_
  show gM T173 4 #[rv a1, iv 0, iv 2, rv b173, uN, uN] []
  refine sT (fun t k => XS.aloadN X173.here hx rfl (hb hby d8_4) rfl rfl k) ?_
  show gM T173 5 #[rv a1, iv 0, iv 2, rv b173, uN, uN] [(.ref a1)]
  refine sT (fun t k => XS.iloadN X173.here hx rfl (hb hby d8_5) rfl k) ?_
  show gM T173 6 #[rv a1, iv 0, iv 2, rv b173, uN, uN] [(.int 0), (.ref a1)]
  refine sT (fun t k => XS.aloadN X173.here hx rfl (hb hby d8_6) rfl rfl k) ?_
  show gM T173 7 #[rv a1, iv 0, iv 2, rv b173, uN, uN] [(.ref b173), (.int 0), (.ref a1)]
  refine sT (fun t k => XS.iconst X173.here hx rfl (hb hby d8_7) k) ?_
  show gM T173 8 #[rv a1, iv 0, iv 2, rv b173, uN, uN] [(.int 0), (.ref b173), (.int 0), (.ref a1)]
  refine sT (fun t k => XS.iloadN X173.here hx rfl (hb hby d8_8) rfl k) ?_
  show gM T173 9 #[rv a1, iv 0, iv 2, rv b173, uN, uN] [(.int 2), (.int 0), (.ref b173), (.int 0), (.ref a1)]
  obtain ⟨_, _, ⟨T175, L175, k175, n175⟩, -, X175, ⟨Lc175, hQ175, l175, y175, z175⟩, st175⟩ := Jvm.LawKit.callS X173 hx (y := mN7) hown (mvT hZ w61) (mvT hZ w62) (mvT hZ w59) (mvT hZ w63) (by decide) (backOf (W := 0) (own_ci2 l Z a0 hw [] a1 b173 (c0) (c1) (ka) (k173) h173 n0 (Nat.le_trans Z0 E173.1) (V_a1.ext E173) V173 g_b173 ne_a1_b173) hZ w63 w59 (by decide) (by decide)) (g := (mkF m 9 #[rv a1, iv 0, iv 2, rv b173, uN, uN] [(.int 2), (.int 0), (.ref b173), (.int 0), (.ref a1)])) rfl (by rw [hml]; rfl) (argsL := [(.ref a1), (.int 0), (.ref b173), (.int 0), (.int 2)]) (rest := []) (lenOf own_pd4 rfl) rfl (by show 2 * 0 + _ ≤ _; exact Nat.le_of_eq rfl) (hb hby d8_9) (fun _ hWq => ⟨rfl, e173, (by decide : 1 + 0 ≤ _), (by decide : 2 + 0 ≤ _)⟩)
  dsimp only [Pt.U, Pt.locs, Pt.cells, Pt.slots] at X175 l175 y175 z175 st175 hQ175
  subst y175 z175
  obtain ⟨r_175, ys_175, rfl, N175q, K175c, f175_0, f175_1⟩ := hQ175
  have N175 : Fr n0 L175 := by rw [l175]; exact Fr.app N0 N175q
  refine sT st175 ?_
  have K176 : Keep h0 T175.heap [] := K174.trans K175c (allS (Or.inr sz_b173) all0)
  show gM T175 12 #[rv a1, iv 0, iv 2, rv b173, uN, uN] [(.int r_175)]
  rcases f175_1 with ⟨rfl, rfl, hle⟩ | hbad
  · --
   show gM T175 12 #[rv a1, iv 0, iv 2, rv b173, uN, uN] [(.int 2)]
   refine sT (fun t k => XS.istore X175.here hx rfl (hb hby d8_12) rfl (l' := #[rv a1, iv 0, iv 2, rv b173, iv 2, uN]) rfl k) ?_
   show gM T175 14 #[rv a1, iv 0, iv 2, rv b173, iv 2, uN] []
   refine sT (fun t k => XS.iload X175.here hx rfl (hb hby d8_14) rfl k) ?_
   show gM T175 16 #[rv a1, iv 0, iv 2, rv b173, iv 2, uN] [(.int 2)]
   refine sT (fun t k => XS.iloadN X175.here hx rfl (hb hby d8_16) rfl k) ?_
   show gM T175 17 #[rv a1, iv 0, iv 2, rv b173, iv 2, uN] [(.int 2), (.int 2)]
   have hc177 : (2 : Int32) = (2 : Int32) := rfl
   refine sT (fun t k => XS.icmpYes X175.here hx rfl (pc0 := 17) (pc' := 57) rfl (hb hby d8_17) rfl (teq hc177).1 (by decide) (by decide) k) ?_
   show gM T175 57 #[rv a1, iv 0, iv 2, rv b173, iv 2, uN] []
   refine sT (fun t k => XS.aloadN X175.here hx rfl (hb hby d8_57) rfl rfl k) ?_
   show gM T175 58 #[rv a1, iv 0, iv 2, rv b173, iv 2, uN] [(.ref b173)]
   refine own_retV X175 hx hlk Bd.returns (w := (.ref b173)) rfl (Or.inr (Or.inr (Or.inr (Or.inr ⟨rfl, rfl, rfl⟩)))) (hb hby d8_58) ?_ (by decide) (by decide)
   show own_co2_Q Z a1 c0 c1 ka h0 n0 _ T175.heap _
   exact ⟨b173, k173, 2, ([(c0.toInt8.toInt32), (c1.toInt8.toInt32)] : List Int32), rfl, N175, K176, sz_b173, f175_0, (Or.inl ⟨rfl, rfl, hle⟩)⟩
  · --
   have hr : (¬ r_175 = (2 : Int32)) ∧ (¬ (r_175 <<< ((1 : Int32) &&& 31)) < 0 ∧ (r_175 <<< ((1 : Int32) &&& 31)) < (4 : Int32)) ∧ (¬ ((r_175 <<< ((1 : Int32) &&& 31)) + (1 : Int32)) < 0 ∧ ((r_175 <<< ((1 : Int32) &&& 31)) + (1 : Int32)) < (4 : Int32)) ∧ ((255 : Int32) < own_comb (([((c0 >>> ((0 : Int32) &&& 31)).toInt8.toInt32), ((c0 >>> ((8 : Int32) &&& 31)).toInt8.toInt32), ((c1 >>> ((0 : Int32) &&& 31)).toInt8.toInt32), ((c1 >>> ((8 : Int32) &&& 31)).toInt8.toInt32)] : List Int32).getD (r_175 <<< ((1 : Int32) &&& 31)).toNatClampNeg 0) (([((c0 >>> ((0 : Int32) &&& 31)).toInt8.toInt32), ((c0 >>> ((8 : Int32) &&& 31)).toInt8.toInt32), ((c1 >>> ((0 : Int32) &&& 31)).toInt8.toInt32), ((c1 >>> ((8 : Int32) &&& 31)).toInt8.toInt32)] : List Int32).getD ((r_175 <<< ((1 : Int32) &&& 31)) + (1 : Int32)).toNatClampNeg 0)) ∧ ((255 : Int32) < c0 ∨ (255 : Int32) < c1) := by
    rcases hbad with ⟨rfl, hg⟩ | ⟨rfl, hg⟩
    · exact ⟨by decide, ⟨by decide, by decide⟩, ⟨by decide, by decide⟩, own_gt hN0 hg, (Or.inl hg)⟩
    · exact ⟨by decide, ⟨by decide, by decide⟩, ⟨by decide, by decide⟩, own_gt hN1 hg, (Or.inr hg)⟩
   clear hbad
   show gM T175 12 #[rv a1, iv 0, iv 2, rv b173, uN, uN] [(.int r_175)]
   refine sT (fun t k => XS.istore X175.here hx rfl (hb hby d8_12) rfl (l' := #[rv a1, iv 0, iv 2, rv b173, iv r_175, uN]) rfl k) ?_
   show gM T175 14 #[rv a1, iv 0, iv 2, rv b173, iv r_175, uN] []
   refine sT (fun t k => XS.iload X175.here hx rfl (hb hby d8_14) rfl k) ?_
   show gM T175 16 #[rv a1, iv 0, iv 2, rv b173, iv r_175, uN] [(.int r_175)]
   refine sT (fun t k => XS.iloadN X175.here hx rfl (hb hby d8_16) rfl k) ?_
   show gM T175 17 #[rv a1, iv 0, iv 2, rv b173, iv r_175, uN] [(.int 2), (.int r_175)]
   have hc178 : ¬ (r_175 = (2 : Int32)) := hr.1
   refine sT (fun t k => XS.icmpNo X175.here hx rfl (hb hby d8_17) rfl (feq hc178).1 k) ?_
   show gM T175 20 #[rv a1, iv 0, iv 2, rv b173, iv r_175, uN] []
   refine sT (fun t k => XS.aloadN X175.here hx rfl (hb hby d8_20) rfl rfl k) ?_
   show gM T175 21 #[rv a1, iv 0, iv 2, rv b173, iv r_175, uN] [(.ref a1)]
   refine sT (fun t k => XS.iloadN X175.here hx rfl (hb hby d8_21) rfl k) ?_
   show gM T175 22 #[rv a1, iv 0, iv 2, rv b173, iv r_175, uN] [(.int 0), (.ref a1)]
   refine sT (fun t k => XS.iloadN X175.here hx rfl (hb hby d8_22) rfl k) ?_
   show gM T175 23 #[rv a1, iv 0, iv 2, rv b173, iv r_175, uN] [(.int 2), (.int 0), (.ref a1)]
   obtain ⟨_, _, ⟨T179, L179, k179, n179⟩, -, X179, ⟨Lc179, hQ179, l179, y179, z179⟩, st179⟩ := Jvm.LawKit.callS X175 hx (y := mN6) hown (mvT hZ w68) (mvT hZ w69) (mvT hZ w59) (mvT hZ w70) (by decide) (backOf (W := 0) (own_tb2 l Z a0 hw [] a1 (c0) (c1) (ka) T175.heap n0 (Nat.le_trans (Nat.le_trans Z0 E173.1) K175c.1) S__assertionsDisabled S_HI_BYTE_SHIFT S_LO_BYTE_SHIFT Zn ((O0.ext E173).keep K175c (allS (Nat.le_trans Zn g_b173) all0)).2 ((V_a1.ext E173).keep K175c (ninS ne_a1_b173 nin0))) hZ w70 w59 (by decide) (by decide)) (g := (mkF m 23 #[rv a1, iv 0, iv 2, rv b173, iv r_175, uN] [(.int 2), (.int 0), (.ref a1)])) rfl (by rw [hml]; rfl) (argsL := [(.ref a1), (.int 0), (.int 2)]) (rest := []) (lenOf own_pd5 rfl) rfl (by show 2 * 0 + _ ≤ _; exact Nat.le_of_eq rfl) (hb hby d8_23) (fun _ hWq => ⟨rfl, rfl, (by decide : 1 + 1 ≤ _), (by decide : 2 + 4 ≤ _)⟩)
   dsimp only [Pt.U, Pt.locs, Pt.cells, Pt.slots] at X179 l179 y179 z179 st179 hQ179
   subst y179 z179
   obtain ⟨bv_179, kb_179, rfl, N179q, K179c, f179_0, f179_1⟩ := hQ179
   have N179 : Fr n0 L179 := by rw [l179]; exact Fr.app N175 N179q
   refine sT st179 ?_
   have K180 : Keep h0 T179.heap [] := K176.trans K179c all0
   have sz_bv_179 : h0.size ≤ bv_179 := Nat.le_trans K176.1 f179_0
   have g_bv_179 : n0 ≤ bv_179 := Nat.le_trans Z0 sz_bv_179
   have ne_b173_bv_179 : b173 ≠ bv_179 := Nat.ne_of_lt (Nat.lt_of_lt_of_le f175_0.lt f179_0)
   have ne_a1_bv_179 : a1 ≠ bv_179 := Nat.ne_of_lt (Nat.lt_of_lt_of_le ((V_a1.ext E173).keep K175c (ninS ne_a1_b173 nin0)).lt f179_0)
   show gM T179 26 #[rv a1, iv 0, iv 2, rv b173, iv r_175, uN] [(.ref bv_179)]
   refine sT (fun t k => XS.astore X179.here hx rfl (hb hby d8_26) rfl rfl (l' := #[rv a1, iv 0, iv 2, rv b173, iv r_175, rv bv_179]) rfl k) ?_
   show gM T179 28 #[rv a1, iv 0, iv 2, rv b173, iv r_175, rv bv_179] []
   refine sT (fun t k => XS.aload X179.here hx rfl (hb hby d8_28) rfl rfl k) ?_
   show gM T179 30 #[rv a1, iv 0, iv 2, rv b173, iv r_175, rv bv_179] [(.ref bv_179)]
   refine sT (fun t k => XS.iload X179.here hx rfl (hb hby d8_30) rfl k) ?_
   show gM T179 32 #[rv a1, iv 0, iv 2, rv b173, iv r_175, rv bv_179] [(.int r_175), (.ref bv_179)]
   obtain ⟨_, _, ⟨T181, L181, k181, n181⟩, -, X181, ⟨Lc181, hQ181, l181, y181, z181⟩, st181⟩ := Jvm.LawKit.callS X179 hx (y := mN5) hown (mvT hZ w84) (mvT hZ w85) (mvT hZ w59) (mvT hZ w86) (by decide) (backOf (W := 0) (own_gc l Z a0 hw [] bv_179 r_175 ((4 : Int32)) (([((c0 >>> ((0 : Int32) &&& 31)).toInt8.toInt32), ((c0 >>> ((8 : Int32) &&& 31)).toInt8.toInt32), ((c1 >>> ((0 : Int32) &&& 31)).toInt8.toInt32), ((c1 >>> ((8 : Int32) &&& 31)).toInt8.toInt32)] : List Int32)) (kb_179) T179.heap n0 (Nat.le_trans (Nat.le_trans (Nat.le_trans Z0 E173.1) K175c.1) K179c.1) S__assertionsDisabled S_HI_BYTE_SHIFT S_LO_BYTE_SHIFT Zn (((O0.ext E173).keep K175c (allS (Nat.le_trans Zn g_b173) all0)).keep K179c all0).2 f179_1 hr.2.1 hr.2.2.1 hr.2.2.2.1) hZ w86 w59 (by decide) (by decide)) (g := (mkF m 32 #[rv a1, iv 0, iv 2, rv b173, iv r_175, rv bv_179] [(.int r_175), (.ref bv_179)])) rfl (by rw [hml]; rfl) (argsL := [(.ref bv_179), (.int r_175)]) (rest := []) (lenOf own_pd6 rfl) rfl (by show 2 * 0 + _ ≤ _; exact Nat.le_of_eq rfl) (hb hby d8_32) (fun _ hWq => ⟨rfl, rfl, (by decide : 2 + 0 ≤ _), (by decide : 6 + 0 ≤ _)⟩)
   dsimp only [Pt.U, Pt.locs, Pt.cells, Pt.slots] at X181 l181 y181 z181 st181 hQ181
   subst y181 z181
   obtain ⟨w_181, rfl, N181q, eh181, f181_0⟩ := hQ181
   have N181 : Fr n0 L181 := by rw [l181]; exact Fr.app N179 N181q
   refine sT st181 ?_
   show gM T181 35 #[rv a1, iv 0, iv 2, rv b173, iv r_175, rv bv_179] [(.int w_181)]
   refine sT (fun t k => XS.sipush X181.here hx rfl (hb hby d8_35) k) ?_
   show gM T181 38 #[rv a1, iv 0, iv 2, rv b173, iv r_175, rv bv_179] [(.int 255), (.int w_181)]
   have hc182 : (255 : Int32) < w_181 := f181_0
   refine sT (fun t k => XS.icmpYes X181.here hx rfl (pc0 := 38) (pc' := 54) rfl (hb hby d8_38) rfl (tlt hc182).2.2.1 (by decide) (by decide) k) ?_
   show gM T181 54 #[rv a1, iv 0, iv 2, rv b173, iv r_175, rv bv_179] []
   refine sT (fun t k => XS.aload X181.here hx rfl (hb hby d8_54) rfl rfl k) ?_
   show gM T181 56 #[rv a1, iv 0, iv 2, rv b173, iv r_175, rv bv_179] [(.ref bv_179)]
   refine own_retV X181 hx hlk Bd.returns (w := (.ref bv_179)) rfl (Or.inr (Or.inr (Or.inr (Or.inr ⟨rfl, rfl, rfl⟩)))) (hb hby d8_56) ?_ (by decide) (by decide)
   show own_co2_Q Z a1 c0 c1 ka h0 n0 _ T181.heap _
   rw [eh181]
   exact ⟨bv_179, kb_179, 4, ([((c0 >>> ((0 : Int32) &&& 31)).toInt8.toInt32), ((c0 >>> ((8 : Int32) &&& 31)).toInt8.toInt32), ((c1 >>> ((0 : Int32) &&& 31)).toInt8.toInt32), ((c1 >>> ((8 : Int32) &&& 31)).toInt8.toInt32)] : List Int32), rfl, N181, K180, sz_bv_179, f179_1, (Or.inr ⟨rfl, hr.2.2.2.2⟩)⟩
theorem own_tb3_ef (m : MethodId) (a1 : Addr) : entryFrame m #[(.ref a1), (.int 0), (.int 3)] 5 = mkF m 0 #[rv a1, iv 0, iv 3, uN, uN] [] := by first | (simp [entryFrame, mkF, argsToLocals, Value.category]; done) | rfl
def own_tb3_Q (Z : State) (a1 : Addr) (c0 : Int32) (c1 : Int32) (c2 : Int32) (ka : ClassId) (h0 : Heap) (n0 : Nat) (v : Option Value) (h : Heap) (L : List Loc) : Prop := ∃ bv : Addr, ∃ kb : ClassId, v = some (.ref bv) ∧ Fr n0 L ∧ Keep h0 h [] ∧ h0.size ≤ bv ∧ Arv Z h bv kb .byte (6 : Int32) (([((c0 >>> ((0 : Int32) &&& 31)).toInt8.toInt32), ((c0 >>> ((8 : Int32) &&& 31)).toInt8.toInt32), ((c1 >>> ((0 : Int32) &&& 31)).toInt8.toInt32), ((c1 >>> ((8 : Int32) &&& 31)).toInt8.toInt32), ((c2 >>> ((0 : Int32) &&& 31)).toInt8.toInt32), ((c2 >>> ((8 : Int32) &&& 31)).toInt8.toInt32)] : List Int32).map Value.int) (Value.int 0)
set_option maxRecDepth 65536 in
set_option maxHeartbeats 40000000 in
theorem own_tb3 (l : Launch) (Z : State) (a0 : Array Value) (hw : ∀ d ∈ tables_1, d.before a0 Z = true) (ws : List Jvm.Cond) (a1 : Addr) (c0 : Int32) (c1 : Int32) (c2 : Int32) (ka : ClassId) (h0 : Heap) (n0 : Nat) (Z0 : n0 ≤ h0.size) (S__assertionsDisabled : Sta Z Z.heap "java/lang/StringUTF16" "$assertionsDisabled" "Z" (.int 1)) (S_HI_BYTE_SHIFT : Sta Z Z.heap "java/lang/StringUTF16" "HI_BYTE_SHIFT" "I" (.int 0)) (S_LO_BYTE_SHIFT : Sta Z Z.heap "java/lang/StringUTF16" "LO_BYTE_SHIFT" "I" (.int 8)) (Zn : Z.heap.size ≤ n0) (EZ : Ext Z.heap h0) (V_a1 : Arv Z h0 a1 ka .char (3 : Int32) (([c0, c1, c2] : List Int32).map Value.int) (Value.int 0)) :
    MetFree l mN6 (head1 (Jvm.Cond.code mN6 jdk_52_method_14_code 5 (some (.array .byte)) :: ws) ({ frames := 2, cells := 1, slots := 6, locals := 24 } : Room)) (fun aa U => aa = #[(.ref a1), (.int 0), (.int 3)] ∧ Z.Warmed39 U.vm ∧ U.heap = h0) (fun _ _ _ _ _ => True) (fun _ U o U' => ∃ v L, o = .returned v ∧ own_tb3_Q Z a1 c0 c1 c2 ka h0 n0 v U'.heap L ∧ FrameEnd U o U' L ({ frames := 2, cells := 1, slots := 6, locals := 24 } : Room).cells ({ frames := 2, cells := 1, slots := 6, locals := 24 } : Room).slots) := by
  refine MetFree.of_bodySF (plainFor_of_name own_pn1) hisR ?_
  have w59 := wO hw 59 rfl
  have w71 := wO hw 71 rfl
  have w72 := wO hw 72 rfl
  have w73 := wO hw 73 rfl
  have w78 := wO hw 78 rfl
  have w79 := wO hw 79 rfl
  have w80 := wO hw 80 rfl
  intro p e s m args below meth c s₁ Bd hml0 hP hK
  obtain ⟨rfl, hZ, hh⟩ := hP
  have hx := Bd.exec
  have hby := Bd.bytes
  have hlk := Bd.notSynchronized
  have hml : c.maxLocals = 5 := hml0
  have hown : s.vm.findClass "java/lang/StringUTF16" = some m.cls := findClass_of_methodNamed Bd.named
  have hnm := (name_of_methodNamed Bd.named Bd.method).1
  have X0 : Stand p l e ({ frames := 2, cells := 1, slots := 6, locals := 24 } : Room) s m #[(.ref a1), (.int 0), (.int 3)] below meth c s₁ [] 0 0 := Stand.of_body Bd
  have e0 : s₁.heap = h0 := by rw [← hh, Bd.state]; rfl
  have N0 := Fr.nil n0
  have K0 : Keep h0 h0 [] := Keep.refl h0 _
  have O0 : Old Z Z.heap.size h0 := ⟨rfl, EZ⟩
  show gS p e below (own_Fin s (own_tb3_Q Z a1 c0 c1 c2 ka h0 n0) ({ frames := 2, cells := 1, slots := 6, locals := 24 } : Room).cells ({ frames := 2, cells := 1, slots := 6, locals := 24 } : Room).slots) _
  refine sT (fun t k => castTop (own_tb3_ef m a1) k) ?_
  show gM s₁ 0 #[rv a1, iv 0, iv 3, uN, uN] []
  refine sT (fun t k => XS.iloadN X0.here hx rfl (hb hby d6_0) rfl k) ?_
  show gM s₁ 1 #[rv a1, iv 0, iv 3, uN, uN] [(.int 3)]
  obtain ⟨_, _, ⟨T198, L198, k198, n198⟩, -, X198, ⟨Lc198, hQ198, l198, y198, z198⟩, st198⟩ := Jvm.LawKit.callS X0 hx (y := mN3) hown (mvT hZ w71) (mvT hZ w72) (mvT hZ w59) (mvT hZ w73) (by decide) (backOf (W := 0) (own_nf3 l Z a0 hw []   h0 n0 Z0 ) hZ w73 w59 (by decide) (by decide)) (g := (mkF m 1 #[rv a1, iv 0, iv 3, uN, uN] [(.int 3)])) rfl (by rw [hml]; rfl) (argsL := [(.int 3)]) (rest := []) (lenOf own_pd2 rfl) rfl (by show 2 * 0 + _ ≤ _; exact Nat.le_of_eq rfl) (hb hby d6_1) (fun _ hWq => ⟨rfl, e0, (by decide : 0 + 1 ≤ _), (by decide : 0 + 6 ≤ _)⟩)
  dsimp only [Pt.U, Pt.locs, Pt.cells, Pt.slots] at X198 l198 y198 z198 st198 hQ198
  subst y198 z198
  obtain ⟨bv_198, kb_198, rfl, N198q, K198c, f198_0, f198_1⟩ := hQ198
  have N198 : Fr n0 L198 := by rw [l198]; exact Fr.app N0 N198q
  refine sT st198 ?_
  have K199 : Keep h0 T198.heap [] := K0.trans K198c all0
  have sz_bv_198 : h0.size ≤ bv_198 := Nat.le_trans K0.1 f198_0
  have g_bv_198 : n0 ≤ bv_198 := Nat.le_trans Z0 sz_bv_198
  have ne_a1_bv_198 : a1 ≠ bv_198 := Nat.ne_of_lt (Nat.lt_of_lt_of_le V_a1.lt f198_0)
  show gM T198 4 #[rv a1, iv 0, iv 3, uN, uN] [(.ref bv_198)]
  refine sT (fun t k => XS.astoreN X198.here hx rfl (hb hby d6_4) rfl rfl (l' := #[rv a1, iv 0, iv 3, rv bv_198, uN]) rfl k) ?_
  show gM T198 5 #[rv a1, iv 0, iv 3, rv bv_198, uN] []
  refine sT (fun t k => XS.iconst X198.here hx rfl (hb hby d6_5) k) ?_
  show gM T198 6 #[rv a1, iv 0, iv 3, rv bv_198, uN] [(.int 0)]
  refine sT (fun t k => XS.istore X198.here hx rfl (hb hby d6_6) rfl (l' := #[rv a1, iv 0, iv 3, rv bv_198, iv 0]) rfl k) ?_
  show gM T198 8 #[rv a1, iv 0, iv 3, rv bv_198, iv 0] []
  refine sT (fun t k => XS.iload X198.here hx rfl (hb hby d6_8) rfl k) ?_
  show gM T198 10 #[rv a1, iv 0, iv 3, rv bv_198, iv 0] [(.int 0)]
  refine sT (fun t k => XS.iloadN X198.here hx rfl (hb hby d6_10) rfl k) ?_
  show gM T198 11 #[rv a1, iv 0, iv 3, rv bv_198, iv 0] [(.int 3), (.int 0)]
  have hc200 : (0 : Int32) < (3 : Int32) := by decide
  refine sT (fun t k => XS.icmpNo X198.here hx rfl (hb hby d6_11) rfl (tlt hc200).2.1 k) ?_
  show gM T198 14 #[rv a1, iv 0, iv 3, rv bv_198, iv 0] []
  refine sT (fun t k => XS.aloadN X198.here hx rfl (hb hby d6_14) rfl rfl k) ?_
  show gM T198 15 #[rv a1, iv 0, iv 3, rv bv_198, iv 0] [(.ref bv_198)]
  refine sT (fun t k => XS.iload X198.here hx rfl (hb hby d6_15) rfl k) ?_
  show gM T198 17 #[rv a1, iv 0, iv 3, rv bv_198, iv 0] [(.int 0), (.ref bv_198)]
  refine sT (fun t k => XS.aloadN X198.here hx rfl (hb hby d6_17) rfl rfl k) ?_
  show gM T198 18 #[rv a1, iv 0, iv 3, rv bv_198, iv 0] [(.ref a1), (.int 0), (.ref bv_198)]
  refine sT (fun t k => XS.iloadN X198.here hx rfl (hb hby d6_18) rfl k) ?_
  show gM T198 19 #[rv a1, iv 0, iv 3, rv bv_198, iv 0] [(.int 0), (.ref a1), (.int 0), (.ref bv_198)]
  refine sT (fun t k => own_cal X198 hx hZ rfl (V_a1.keep K198c nin0) ⟨by decide, by decide⟩ (g := (mkF m 19 #[rv a1, iv 0, iv 3, rv bv_198, iv 0] [(.int 0), (.ref a1), (.int 0), (.ref bv_198)])) rfl rfl (hb hby d6_19) _ k) ?_
  show gM T198 20 #[rv a1, iv 0, iv 3, rv bv_198, iv 0] [(.int c0), (.int 0), (.ref bv_198)]
  obtain ⟨_, _, ⟨T201, L201, k201, n201⟩, -, X201, ⟨Lc201, hQ201, l201, y201, z201⟩, st201⟩ := Jvm.LawKit.callS X198 hx (y := mN4) hown (mvT hZ w78) (mvT hZ w79) (mvT hZ w59) (mvT hZ w80) (by decide) (backOf (W := 0) (own_pc l Z a0 hw [] bv_198 (0 : Int32) c0 ((6 : Int32)) (([0, 0, 0, 0, 0, 0] : List Int32)) (kb_198) T198.heap n0 (Nat.le_trans Z0 K198c.1) S__assertionsDisabled S_HI_BYTE_SHIFT S_LO_BYTE_SHIFT Zn (O0.keep K198c all0).2 f198_1 g_bv_198 (⟨by decide, by decide⟩) (⟨by decide, by decide⟩) (Nat.le_of_ble_eq_true rfl) (Nat.le_of_ble_eq_true rfl)) hZ w80 w59 (by decide) (by decide)) (g := (mkF m 20 #[rv a1, iv 0, iv 3, rv bv_198, iv 0] [(.int c0), (.int 0), (.ref bv_198)])) rfl (by rw [hml]; rfl) (argsL := [(.ref bv_198), (.int 0), (.int c0)]) (rest := []) (lenOf own_pd3 rfl) rfl (by show 2 * 0 + _ ≤ _; exact Nat.le_of_eq rfl) (hb hby d6_20) (fun _ hWq => ⟨rfl, rfl, (by decide : 1 + 0 ≤ _), (by decide : 6 + 0 ≤ _)⟩)
  dsimp only [Pt.U, Pt.locs, Pt.cells, Pt.slots] at X201 l201 y201 z201 st201 hQ201
  subst y201 z201
  obtain ⟨rfl, N201q, K201c, f201_0⟩ := hQ201
  have N201 : Fr n0 L201 := by rw [l201]; exact Fr.app N198 N201q
  refine sT st201 ?_
  have K202 : Keep h0 T201.heap [] := K199.trans K201c (allS (Or.inr sz_bv_198) all0)
  show gM T201 23 #[rv a1, iv 0, iv 3, rv bv_198, iv 0] []
  have V203 : Arv Z T201.heap bv_198 kb_198 .byte (6 : Int32) (([((c0 >>> ((0 : Int32) &&& 31)).toInt8.toInt32), ((c0 >>> ((8 : Int32) &&& 31)).toInt8.toInt32), 0, 0, 0, 0] : List Int32).map Value.int) (Value.int 0) := f201_0
  refine sT (fun t k => XS.iinc X201.here hx rfl (hb hby d6_23) rfl (l' := #[rv a1, iv 1, iv 3, rv bv_198, iv 0]) rfl k) ?_
  show gM T201 26 #[rv a1, iv 1, iv 3, rv bv_198, iv 0] []
  refine sT (fun t k => XS.iinc X201.here hx rfl (hb hby d6_26) rfl (l' := #[rv a1, iv 1, iv 3, rv bv_198, iv 1]) rfl k) ?_
  show gM T201 29 #[rv a1, iv 1, iv 3, rv bv_198, iv 1] []
  refine sT (fun t k => XS.goto X201.here hx rfl (pc0 := 29) (pc' := 8) rfl (hb hby d6_29) (by decide) (by decide) k) ?_
  show gM T201 8 #[rv a1, iv 1, iv 3, rv bv_198, iv 1] []
  refine sT (fun t k => XS.iload X201.here hx rfl (hb hby d6_8) rfl k) ?_
  show gM T201 10 #[rv a1, iv 1, iv 3, rv bv_198, iv 1] [(.int 1)]
  refine sT (fun t k => XS.iloadN X201.here hx rfl (hb hby d6_10) rfl k) ?_
  show gM T201 11 #[rv a1, iv 1, iv 3, rv bv_198, iv 1] [(.int 3), (.int 1)]
  have hc204 : (1 : Int32) < (3 : Int32) := by decide
  refine sT (fun t k => XS.icmpNo X201.here hx rfl (hb hby d6_11) rfl (tlt hc204).2.1 k) ?_
  show gM T201 14 #[rv a1, iv 1, iv 3, rv bv_198, iv 1] []
  refine sT (fun t k => XS.aloadN X201.here hx rfl (hb hby d6_14) rfl rfl k) ?_
  show gM T201 15 #[rv a1, iv 1, iv 3, rv bv_198, iv 1] [(.ref bv_198)]
  refine sT (fun t k => XS.iload X201.here hx rfl (hb hby d6_15) rfl k) ?_
  show gM T201 17 #[rv a1, iv 1, iv 3, rv bv_198, iv 1] [(.int 1), (.ref bv_198)]
  refine sT (fun t k => XS.aloadN X201.here hx rfl (hb hby d6_17) rfl rfl k) ?_
  show gM T201 18 #[rv a1, iv 1, iv 3, rv bv_198, iv 1] [(.ref a1), (.int 1), (.ref bv_198)]
  refine sT (fun t k => XS.iloadN X201.here hx rfl (hb hby d6_18) rfl k) ?_
  show gM T201 19 #[rv a1, iv 1, iv 3, rv bv_198, iv 1] [(.int 1), (.ref a1), (.int 1), (.ref bv_198)]
  refine sT (fun t k => own_cal X201 hx hZ rfl ((V_a1.keep K198c nin0).keep K201c (ninS ne_a1_bv_198 nin0)) ⟨by decide, by decide⟩ (g := (mkF m 19 #[rv a1, iv 1, iv 3, rv bv_198, iv 1] [(.int 1), (.ref a1), (.int 1), (.ref bv_198)])) rfl rfl (hb hby d6_19) _ k) ?_
  show gM T201 20 #[rv a1, iv 1, iv 3, rv bv_198, iv 1] [(.int c1), (.int 1), (.ref bv_198)]
  obtain ⟨_, _, ⟨T205, L205, k205, n205⟩, -, X205, ⟨Lc205, hQ205, l205, y205, z205⟩, st205⟩ := Jvm.LawKit.callS X201 hx (y := mN4) hown (mvT hZ w78) (mvT hZ w79) (mvT hZ w59) (mvT hZ w80) (by decide) (backOf (W := 0) (own_pc l Z a0 hw [] bv_198 (1 : Int32) c1 ((6 : Int32)) (([((c0 >>> ((0 : Int32) &&& 31)).toInt8.toInt32), ((c0 >>> ((8 : Int32) &&& 31)).toInt8.toInt32), 0, 0, 0, 0] : List Int32)) (kb_198) T201.heap n0 (Nat.le_trans (Nat.le_trans Z0 K198c.1) K201c.1) S__assertionsDisabled S_HI_BYTE_SHIFT S_LO_BYTE_SHIFT Zn ((O0.keep K198c all0).keep K201c (allS (Nat.le_trans Zn g_bv_198) all0)).2 V203 g_bv_198 (⟨by decide, by decide⟩) (⟨by decide, by decide⟩) (Nat.le_of_ble_eq_true rfl) (Nat.le_of_ble_eq_true rfl)) hZ w80 w59 (by decide) (by decide)) (g := (mkF m 20 #[rv a1, iv 1, iv 3, rv bv_198, iv 1] [(.int c1), (.int 1), (.ref bv_198)])) rfl (by rw [hml]; rfl) (argsL := [(.ref bv_198), (.int 1), (.int c1)]) (rest := []) (lenOf own_pd3 rfl) rfl (by show 2 * 0 + _ ≤ _; exact Nat.le_of_eq rfl) (hb hby d6_20) (fun _ hWq => ⟨rfl, rfl, (by decide : 1 + 0 ≤ _), (by decide : 6 + 0 ≤ _)⟩)
  dsimp only [Pt.U, Pt.locs, Pt.cells, Pt.slots] at X205 l205 y205 z205 st205 hQ205
  subst y205 z205
  obtain ⟨rfl, N205q, K205c, f205_0⟩ := hQ205
  have N205 : Fr n0 L205 := by rw [l205]; exact Fr.app N201 N205q
  refine sT st205 ?_
  have K206 : Keep h0 T205.heap [] := K202.trans K205c (allS (Or.inr sz_bv_198) all0)
  show gM T205 23 #[rv a1, iv 1, iv 3, rv bv_198, iv 1] []
  have V207 : Arv Z T205.heap bv_198 kb_198 .byte (6 : Int32) (([((c0 >>> ((0 : Int32) &&& 31)).toInt8.toInt32), ((c0 >>> ((8 : Int32) &&& 31)).toInt8.toInt32), ((c1 >>> ((0 : Int32) &&& 31)).toInt8.toInt32), ((c1 >>> ((8 : Int32) &&& 31)).toInt8.toInt32), 0, 0] : List Int32).map Value.int) (Value.int 0) := f205_0
  refine sT (fun t k => XS.iinc X205.here hx rfl (hb hby d6_23) rfl (l' := #[rv a1, iv 2, iv 3, rv bv_198, iv 1]) rfl k) ?_
  show gM T205 26 #[rv a1, iv 2, iv 3, rv bv_198, iv 1] []
  refine sT (fun t k => XS.iinc X205.here hx rfl (hb hby d6_26) rfl (l' := #[rv a1, iv 2, iv 3, rv bv_198, iv 2]) rfl k) ?_
  show gM T205 29 #[rv a1, iv 2, iv 3, rv bv_198, iv 2] []
  refine sT (fun t k => XS.goto X205.here hx rfl (pc0 := 29) (pc' := 8) rfl (hb hby d6_29) (by decide) (by decide) k) ?_
  show gM T205 8 #[rv a1, iv 2, iv 3, rv bv_198, iv 2] []
  refine sT (fun t k => XS.iload X205.here hx rfl (hb hby d6_8) rfl k) ?_
  show gM T205 10 #[rv a1, iv 2, iv 3, rv bv_198, iv 2] [(.int 2)]
  refine sT (fun t k => XS.iloadN X205.here hx rfl (hb hby d6_10) rfl k) ?_
  show gM T205 11 #[rv a1, iv 2, iv 3, rv bv_198, iv 2] [(.int 3), (.int 2)]
  have hc208 : (2 : Int32) < (3 : Int32) := by decide
  refine sT (fun t k => XS.icmpNo X205.here hx rfl (hb hby d6_11) rfl (tlt hc208).2.1 k) ?_
  show gM T205 14 #[rv a1, iv 2, iv 3, rv bv_198, iv 2] []
  refine sT (fun t k => XS.aloadN X205.here hx rfl (hb hby d6_14) rfl rfl k) ?_
  show gM T205 15 #[rv a1, iv 2, iv 3, rv bv_198, iv 2] [(.ref bv_198)]
  refine sT (fun t k => XS.iload X205.here hx rfl (hb hby d6_15) rfl k) ?_
  show gM T205 17 #[rv a1, iv 2, iv 3, rv bv_198, iv 2] [(.int 2), (.ref bv_198)]
  refine sT (fun t k => XS.aloadN X205.here hx rfl (hb hby d6_17) rfl rfl k) ?_
  show gM T205 18 #[rv a1, iv 2, iv 3, rv bv_198, iv 2] [(.ref a1), (.int 2), (.ref bv_198)]
  refine sT (fun t k => XS.iloadN X205.here hx rfl (hb hby d6_18) rfl k) ?_
  show gM T205 19 #[rv a1, iv 2, iv 3, rv bv_198, iv 2] [(.int 2), (.ref a1), (.int 2), (.ref bv_198)]
  refine sT (fun t k => own_cal X205 hx hZ rfl (((V_a1.keep K198c nin0).keep K201c (ninS ne_a1_bv_198 nin0)).keep K205c (ninS ne_a1_bv_198 nin0)) ⟨by decide, by decide⟩ (g := (mkF m 19 #[rv a1, iv 2, iv 3, rv bv_198, iv 2] [(.int 2), (.ref a1), (.int 2), (.ref bv_198)])) rfl rfl (hb hby d6_19) _ k) ?_
  show gM T205 20 #[rv a1, iv 2, iv 3, rv bv_198, iv 2] [(.int c2), (.int 2), (.ref bv_198)]
  obtain ⟨_, _, ⟨T209, L209, k209, n209⟩, -, X209, ⟨Lc209, hQ209, l209, y209, z209⟩, st209⟩ := Jvm.LawKit.callS X205 hx (y := mN4) hown (mvT hZ w78) (mvT hZ w79) (mvT hZ w59) (mvT hZ w80) (by decide) (backOf (W := 0) (own_pc l Z a0 hw [] bv_198 (2 : Int32) c2 ((6 : Int32)) (([((c0 >>> ((0 : Int32) &&& 31)).toInt8.toInt32), ((c0 >>> ((8 : Int32) &&& 31)).toInt8.toInt32), ((c1 >>> ((0 : Int32) &&& 31)).toInt8.toInt32), ((c1 >>> ((8 : Int32) &&& 31)).toInt8.toInt32), 0, 0] : List Int32)) (kb_198) T205.heap n0 (Nat.le_trans (Nat.le_trans (Nat.le_trans Z0 K198c.1) K201c.1) K205c.1) S__assertionsDisabled S_HI_BYTE_SHIFT S_LO_BYTE_SHIFT Zn (((O0.keep K198c all0).keep K201c (allS (Nat.le_trans Zn g_bv_198) all0)).keep K205c (allS (Nat.le_trans Zn g_bv_198) all0)).2 V207 g_bv_198 (⟨by decide, by decide⟩) (⟨by decide, by decide⟩) (Nat.le_of_ble_eq_true rfl) (Nat.le_of_ble_eq_true rfl)) hZ w80 w59 (by decide) (by decide)) (g := (mkF m 20 #[rv a1, iv 2, iv 3, rv bv_198, iv 2] [(.int c2), (.int 2), (.ref bv_198)])) rfl (by rw [hml]; rfl) (argsL := [(.ref bv_198), (.int 2), (.int c2)]) (rest := []) (lenOf own_pd3 rfl) rfl (by show 2 * 0 + _ ≤ _; exact Nat.le_of_eq rfl) (hb hby d6_20) (fun _ hWq => ⟨rfl, rfl, (by decide : 1 + 0 ≤ _), (by decide : 6 + 0 ≤ _)⟩)
  dsimp only [Pt.U, Pt.locs, Pt.cells, Pt.slots] at X209 l209 y209 z209 st209 hQ209
  subst y209 z209
  obtain ⟨rfl, N209q, K209c, f209_0⟩ := hQ209
  have N209 : Fr n0 L209 := by rw [l209]; exact Fr.app N205 N209q
  refine sT st209 ?_
  have K210 : Keep h0 T209.heap [] := K206.trans K209c (allS (Or.inr sz_bv_198) all0)
  show gM T209 23 #[rv a1, iv 2, iv 3, rv bv_198, iv 2] []
  have V211 : Arv Z T209.heap bv_198 kb_198 .byte (6 : Int32) (([((c0 >>> ((0 : Int32) &&& 31)).toInt8.toInt32), ((c0 >>> ((8 : Int32) &&& 31)).toInt8.toInt32), ((c1 >>> ((0 : Int32) &&& 31)).toInt8.toInt32), ((c1 >>> ((8 : Int32) &&& 31)).toInt8.toInt32), ((c2 >>> ((0 : Int32) &&& 31)).toInt8.toInt32), ((c2 >>> ((8 : Int32) &&& 31)).toInt8.toInt32)] : List Int32).map Value.int) (Value.int 0) := f209_0
  refine sT (fun t k => XS.iinc X209.here hx rfl (hb hby d6_23) rfl (l' := #[rv a1, iv 3, iv 3, rv bv_198, iv 2]) rfl k) ?_
  show gM T209 26 #[rv a1, iv 3, iv 3, rv bv_198, iv 2] []
  refine sT (fun t k => XS.iinc X209.here hx rfl (hb hby d6_26) rfl (l' := #[rv a1, iv 3, iv 3, rv bv_198, iv 3]) rfl k) ?_
  show gM T209 29 #[rv a1, iv 3, iv 3, rv bv_198, iv 3] []
  refine sT (fun t k => XS.goto X209.here hx rfl (pc0 := 29) (pc' := 8) rfl (hb hby d6_29) (by decide) (by decide) k) ?_
  show gM T209 8 #[rv a1, iv 3, iv 3, rv bv_198, iv 3] []
  refine sT (fun t k => XS.iload X209.here hx rfl (hb hby d6_8) rfl k) ?_
  show gM T209 10 #[rv a1, iv 3, iv 3, rv bv_198, iv 3] [(.int 3)]
  refine sT (fun t k => XS.iloadN X209.here hx rfl (hb hby d6_10) rfl k) ?_
  show gM T209 11 #[rv a1, iv 3, iv 3, rv bv_198, iv 3] [(.int 3), (.int 3)]
  have hc212 : ¬ ((3 : Int32) < (3 : Int32)) := by decide
  refine sT (fun t k => XS.icmpYes X209.here hx rfl (pc0 := 11) (pc' := 32) rfl (hb hby d6_11) rfl (flt hc212).2.1 (by decide) (by decide) k) ?_
  show gM T209 32 #[rv a1, iv 3, iv 3, rv bv_198, iv 3] []
  refine sT (fun t k => XS.aloadN X209.here hx rfl (hb hby d6_32) rfl rfl k) ?_
  show gM T209 33 #[rv a1, iv 3, iv 3, rv bv_198, iv 3] [(.ref bv_198)]
  refine own_retV X209 hx hlk Bd.returns (w := (.ref bv_198)) rfl (Or.inr (Or.inr (Or.inr (Or.inr ⟨rfl, rfl, rfl⟩)))) (hb hby d6_33) ?_ (by decide) (by decide)
  show own_tb3_Q Z a1 c0 c1 c2 ka h0 n0 _ T209.heap _
  exact ⟨bv_198, kb_198, rfl, N209, K210, sz_bv_198, V211⟩
theorem own_ci3_ef (m : MethodId) (a1 : Addr) (a2 : Addr) : entryFrame m #[(.ref a1), (.int 0), (.ref a2), (.int 0), (.int 3)] 7 = mkF m 0 #[rv a1, iv 0, rv a2, iv 0, iv 3, uN, uN] [] := by first | (simp [entryFrame, mkF, argsToLocals, Value.category]; done) | rfl
def own_ci3_Q (Z : State) (a1 : Addr) (a2 : Addr) (c0 : Int32) (c1 : Int32) (c2 : Int32) (ka : ClassId) (kb : ClassId) (h0 : Heap) (n0 : Nat) (v : Option Value) (h : Heap) (L : List Loc) : Prop := ∃ r : Int32, ∃ ys : List Int32, v = some (.int r) ∧ Fr n0 L ∧ Keep h0 h [a2] ∧ Arv Z h a2 kb .byte (3 : Int32) (ys.map Value.int) (Value.int 0) ∧ ((r = (3 : Int32) ∧ ys = ([(c0.toInt8.toInt32), (c1.toInt8.toInt32), (c2.toInt8.toInt32)] : List Int32) ∧ ¬ (255 : Int32) < c0 ∧ ¬ (255 : Int32) < c1 ∧ ¬ (255 : Int32) < c2) ∨ (r = (0 : Int32) ∧ (255 : Int32) < c0) ∨ (r = (1 : Int32) ∧ (255 : Int32) < c1) ∨ (r = (2 : Int32) ∧ (255 : Int32) < c2))
set_option maxRecDepth 65536 in
set_option maxHeartbeats 40000000 in
theorem own_ci3 (l : Launch) (Z : State) (a0 : Array Value) (hw : ∀ d ∈ tables_1, d.before a0 Z = true) (ws : List Jvm.Cond) (a1 : Addr) (a2 : Addr) (c0 : Int32) (c1 : Int32) (c2 : Int32) (ka : ClassId) (kb : ClassId) (h0 : Heap) (n0 : Nat) (Z0 : n0 ≤ h0.size) (V_a1 : Arv Z h0 a1 ka .char (3 : Int32) (([c0, c1, c2] : List Int32).map Value.int) (Value.int 0)) (V_a2 : Arv Z h0 a2 kb .byte (3 : Int32) (([0, 0, 0] : List Int32).map Value.int) (Value.int 0)) (g_a2 : n0 ≤ a2) (ne_a1_a2 : a1 ≠ a2) :
    MetFree l mN7 (head1 (Jvm.Cond.code mN7 jdk_52_method_21_code 7 (some .int) :: ws) ({ frames := 0, cells := 0, slots := 0, locals := 0 } : Room)) (fun aa U => aa = #[(.ref a1), (.int 0), (.ref a2), (.int 0), (.int 3)] ∧ Z.Warmed39 U.vm ∧ U.heap = h0) (fun _ _ _ _ _ => True) (fun _ U o U' => ∃ v L, o = .returned v ∧ own_ci3_Q Z a1 a2 c0 c1 c2 ka kb h0 n0 v U'.heap L ∧ FrameEnd U o U' L ({ frames := 0, cells := 0, slots := 0, locals := 0 } : Room).cells ({ frames := 0, cells := 0, slots := 0, locals := 0 } : Room).slots) := by
  refine MetFree.of_bodySF (plainFor_of_name own_pn1) hisR ?_
  intro p e s m args below meth c s₁ Bd hml0 hP hK
  obtain ⟨rfl, hZ, hh⟩ := hP
  have hx := Bd.exec
  have hby := Bd.bytes
  have hlk := Bd.notSynchronized
  have hml : c.maxLocals = 7 := hml0
  have hown : s.vm.findClass "java/lang/StringUTF16" = some m.cls := findClass_of_methodNamed Bd.named
  have hnm := (name_of_methodNamed Bd.named Bd.method).1
  have X0 : Stand p l e ({ frames := 0, cells := 0, slots := 0, locals := 0 } : Room) s m #[(.ref a1), (.int 0), (.ref a2), (.int 0), (.int 3)] below meth c s₁ [] 0 0 := Stand.of_body Bd
  have e0 : s₁.heap = h0 := by rw [← hh, Bd.state]; rfl
  have N0 := Fr.nil n0
  have K0 : Keep h0 h0 [a2] := Keep.refl h0 _
  show gS p e below (own_Fin s (own_ci3_Q Z a1 a2 c0 c1 c2 ka kb h0 n0) ({ frames := 0, cells := 0, slots := 0, locals := 0 } : Room).cells ({ frames := 0, cells := 0, slots := 0, locals := 0 } : Room).slots) _
  refine sT (fun t k => castTop (own_ci3_ef m a1 a2) k) ?_
  show gM s₁ 0 #[rv a1, iv 0, rv a2, iv 0, iv 3, uN, uN] []
  refine sT (fun t k => XS.iconst X0.here hx rfl (hb hby d7_0) k) ?_
  show gM s₁ 1 #[rv a1, iv 0, rv a2, iv 0, iv 3, uN, uN] [(.int 0)]
  refine sT (fun t k => XS.istore X0.here hx rfl (hb hby d7_1) rfl (l' := #[rv a1, iv 0, rv a2, iv 0, iv 3, iv 0, uN]) rfl k) ?_
  show gM s₁ 3 #[rv a1, iv 0, rv a2, iv 0, iv 3, iv 0, uN] []
  refine sT (fun t k => XS.iload X0.here hx rfl (hb hby d7_3) rfl k) ?_
  show gM s₁ 5 #[rv a1, iv 0, rv a2, iv 0, iv 3, iv 0, uN] [(.int 0)]
  refine sT (fun t k => XS.iload X0.here hx rfl (hb hby d7_5) rfl k) ?_
  show gM s₁ 7 #[rv a1, iv 0, rv a2, iv 0, iv 3, iv 0, uN] [(.int 3), (.int 0)]
  have hc226 : (0 : Int32) < (3 : Int32) := by decide
  refine sT (fun t k => XS.icmpNo X0.here hx rfl (hb hby d7_7) rfl (tlt hc226).2.1 k) ?_
  show gM s₁ 10 #[rv a1, iv 0, rv a2, iv 0, iv 3, iv 0, uN] []
  refine sT (fun t k => XS.aloadN X0.here hx rfl (hb hby d7_10) rfl rfl k) ?_
  show gM s₁ 11 #[rv a1, iv 0, rv a2, iv 0, iv 3, iv 0, uN] [(.ref a1)]
  refine sT (fun t k => XS.iloadN X0.here hx rfl (hb hby d7_11) rfl k) ?_
  show gM s₁ 12 #[rv a1, iv 0, rv a2, iv 0, iv 3, iv 0, uN] [(.int 0), (.ref a1)]
  refine sT (fun t k => own_cal X0 hx hZ e0 V_a1 ⟨by decide, by decide⟩ (g := (mkF m 12 #[rv a1, iv 0, rv a2, iv 0, iv 3, iv 0, uN] [(.int 0), (.ref a1)])) rfl rfl (hb hby d7_12) _ k) ?_
  show gM s₁ 13 #[rv a1, iv 0, rv a2, iv 0, iv 3, iv 0, uN] [(.int c0)]
  refine sT (fun t k => XS.istore X0.here hx rfl (hb hby d7_13) rfl (l' := #[rv a1, iv 0, rv a2, iv 0, iv 3, iv 0, iv c0]) rfl k) ?_
  show gM s₁ 15 #[rv a1, iv 0, rv a2, iv 0, iv 3, iv 0, iv c0] []
  refine sT (fun t k => XS.iload X0.here hx rfl (hb hby d7_15) rfl k) ?_
  show gM s₁ 17 #[rv a1, iv 0, rv a2, iv 0, iv 3, iv 0, iv c0] [(.int c0)]
  refine sT (fun t k => XS.sipush X0.here hx rfl (hb hby d7_17) k) ?_
  show gM s₁ 20 #[rv a1, iv 0, rv a2, iv 0, iv 3, iv 0, iv c0] [(.int 255), (.int c0)]
  by_cases hc227 : (255 : Int32) < c0
  · --
   refine sT (fun t k => XS.icmpNo X0.here hx rfl (hb hby d7_20) rfl (tlt hc227).2.2.2 k) ?_
   show gM s₁ 23 #[rv a1, iv 0, rv a2, iv 0, iv 3, iv 0, iv c0] []
   refine sT (fun t k => XS.iload X0.here hx rfl (hb hby d7_23) rfl k) ?_
   show gM s₁ 25 #[rv a1, iv 0, rv a2, iv 0, iv 3, iv 0, iv c0] [(.int 0)]
   refine own_retV X0 hx hlk Bd.returns (w := (.int 0)) rfl (Or.inl ⟨rfl, Or.inl rfl, _, rfl⟩) (hb hby d7_25) ?_ (by decide) (by decide)
   show own_ci3_Q Z a1 a2 c0 c1 c2 ka kb h0 n0 _ s₁.heap _
   rw [e0]
   exact ⟨(0 : Int32), ([0, 0, 0] : List Int32), rfl, N0, K0, V_a2, (Or.inr (Or.inl ⟨rfl, hc227⟩))⟩
  · --
   refine sT (fun t k => XS.icmpYes X0.here hx rfl (pc0 := 20) (pc' := 26) rfl (hb hby d7_20) rfl (flt hc227).2.2.2 (by decide) (by decide) k) ?_
   show gM s₁ 26 #[rv a1, iv 0, rv a2, iv 0, iv 3, iv 0, iv c0] []
   refine sT (fun t k => XS.aloadN X0.here hx rfl (hb hby d7_26) rfl rfl k) ?_
   show gM s₁ 27 #[rv a1, iv 0, rv a2, iv 0, iv 3, iv 0, iv c0] [(.ref a2)]
   refine sT (fun t k => XS.iloadN X0.here hx rfl (hb hby d7_27) rfl k) ?_
   show gM s₁ 28 #[rv a1, iv 0, rv a2, iv 0, iv 3, iv 0, iv c0] [(.int 0), (.ref a2)]
   refine sT (fun t k => XS.iload X0.here hx rfl (hb hby d7_28) rfl k) ?_
   show gM s₁ 30 #[rv a1, iv 0, rv a2, iv 0, iv 3, iv 0, iv c0] [(.int c0), (.int 0), (.ref a2)]
   refine sT (fun t k => XS.i2b X0.here hx rfl (hb hby d7_30) rfl k) ?_
   show gM s₁ 31 #[rv a1, iv 0, rv a2, iv 0, iv 3, iv 0, iv c0] [(.int (c0.toInt8.toInt32)), (.int 0), (.ref a2)]
   obtain ⟨T228, h228, X228, e228, W228, V228, st228⟩ := own_bst X0 hx hZ e0 V_a2 (j := (0 : Int32)) (own_i8 _) ⟨by decide, by decide⟩ (0) rfl (Nat.le_of_ble_eq_true rfl) (g := (mkF m 31 #[rv a1, iv 0, rv a2, iv 0, iv 3, iv 0, iv c0] [(.int (c0.toInt8.toInt32)), (.int 0), (.ref a2)])) rfl rfl (hb hby d7_31)
   have V228 : Arv Z h228 a2 kb .byte (3 : Int32) (([(c0.toInt8.toInt32), 0, 0] : List Int32).map Value.int) (Value.int 0) := V228
   have N228 := Fr.snoc X228 N0 g_a2
   have K229 : Keep h0 h228 [a2] := K0.wr W228 (Or.inl (List.mem_of_getElem? (i := 0) rfl))
   refine sT st228 ?_
   show gM T228 32 #[rv a1, iv 0, rv a2, iv 0, iv 3, iv 0, iv c0] []
   refine sT (fun t k => XS.iinc X228.here hx rfl (hb hby d7_32) rfl (l' := #[rv a1, iv 1, rv a2, iv 0, iv 3, iv 0, iv c0]) rfl k) ?_
   show gM T228 35 #[rv a1, iv 1, rv a2, iv 0, iv 3, iv 0, iv c0] []
   refine sT (fun t k => XS.iinc X228.here hx rfl (hb hby d7_35) rfl (l' := #[rv a1, iv 1, rv a2, iv 1, iv 3, iv 0, iv c0]) rfl k) ?_
   show gM T228 38 #[rv a1, iv 1, rv a2, iv 1, iv 3, iv 0, iv c0] []
   refine sT (fun t k => XS.iinc X228.here hx rfl (hb hby d7_38) rfl (l' := #[rv a1, iv 1, rv a2, iv 1, iv 3, iv 1, iv c0]) rfl k) ?_
   show gM T228 41 #[rv a1, iv 1, rv a2, iv 1, iv 3, iv 1, iv c0] []
   refine sT (fun t k => XS.goto X228.here hx rfl (pc0 := 41) (pc' := 3) rfl (hb hby d7_41) (by decide) (by decide) k) ?_
   show gM T228 3 #[rv a1, iv 1, rv a2, iv 1, iv 3, iv 1, iv c0] []
   refine sT (fun t k => XS.iload X228.here hx rfl (hb hby d7_3) rfl k) ?_
   show gM T228 5 #[rv a1, iv 1, rv a2, iv 1, iv 3, iv 1, iv c0] [(.int 1)]
   refine sT (fun t k => XS.iload X228.here hx rfl (hb hby d7_5) rfl k) ?_
   show gM T228 7 #[rv a1, iv 1, rv a2, iv 1, iv 3, iv 1, iv c0] [(.int 3), (.int 1)]
   have hc230 : (1 : Int32) < (3 : Int32) := by decide
   refine sT (fun t k => XS.icmpNo X228.here hx rfl (hb hby d7_7) rfl (tlt hc230).2.1 k) ?_
   show gM T228 10 #[rv a1, iv 1, rv a2, iv 1, iv 3, iv 1, iv c0] []
   refine sT (fun t k => XS.aloadN X228.here hx rfl (hb hby d7_10) rfl rfl k) ?_
   show gM T228 11 #[rv a1, iv 1, rv a2, iv 1, iv 3, iv 1, iv c0] [(.ref a1)]
   refine sT (fun t k => XS.iloadN X228.here hx rfl (hb hby d7_11) rfl k) ?_
   show gM T228 12 #[rv a1, iv 1, rv a2, iv 1, iv 3, iv 1, iv c0] [(.int 1), (.ref a1)]
   refine sT (fun t k => own_cal X228 hx hZ e228 (V_a1.other W228 ne_a1_a2) ⟨by decide, by decide⟩ (g := (mkF m 12 #[rv a1, iv 1, rv a2, iv 1, iv 3, iv 1, iv c0] [(.int 1), (.ref a1)])) rfl rfl (hb hby d7_12) _ k) ?_
   show gM T228 13 #[rv a1, iv 1, rv a2, iv 1, iv 3, iv 1, iv c0] [(.int c1)]
   refine sT (fun t k => XS.istore X228.here hx rfl (hb hby d7_13) rfl (l' := #[rv a1, iv 1, rv a2, iv 1, iv 3, iv 1, iv c1]) rfl k) ?_
   show gM T228 15 #[rv a1, iv 1, rv a2, iv 1, iv 3, iv 1, iv c1] []
   refine sT (fun t k => XS.iload X228.here hx rfl (hb hby d7_15) rfl k) ?_
   show gM T228 17 #[rv a1, iv 1, rv a2, iv 1, iv 3, iv 1, iv c1] [(.int c1)]
   refine sT (fun t k => XS.sipush X228.here hx rfl (hb hby d7_17) k) ?_
   show gM T228 20 #[rv a1, iv 1, rv a2, iv 1, iv 3, iv 1, iv c1] [(.int 255), (.int c1)]
   by_cases hc231 : (255 : Int32) < c1
   · --
    refine sT (fun t k => XS.icmpNo X228.here hx rfl (hb hby d7_20) rfl (tlt hc231).2.2.2 k) ?_
    show gM T228 23 #[rv a1, iv 1, rv a2, iv 1, iv 3, iv 1, iv c1] []
    refine sT (fun t k => XS.iload X228.here hx rfl (hb hby d7_23) rfl k) ?_
    show gM T228 25 #[rv a1, iv 1, rv a2, iv 1, iv 3, iv 1, iv c1] [(.int 1)]
    refine own_retV X228 hx hlk Bd.returns (w := (.int 1)) rfl (Or.inl ⟨rfl, Or.inl rfl, _, rfl⟩) (hb hby d7_25) ?_ (by decide) (by decide)
    show own_ci3_Q Z a1 a2 c0 c1 c2 ka kb h0 n0 _ T228.heap _
    rw [e228]
    exact ⟨(1 : Int32), ([(c0.toInt8.toInt32), 0, 0] : List Int32), rfl, N228, K229, V228, (Or.inr (Or.inr (Or.inl ⟨rfl, hc231⟩)))⟩
   · --
    refine sT (fun t k => XS.icmpYes X228.here hx rfl (pc0 := 20) (pc' := 26) rfl (hb hby d7_20) rfl (flt hc231).2.2.2 (by decide) (by decide) k) ?_
    show gM T228 26 #[rv a1, iv 1, rv a2, iv 1, iv 3, iv 1, iv c1] []
    refine sT (fun t k => XS.aloadN X228.here hx rfl (hb hby d7_26) rfl rfl k) ?_
    show gM T228 27 #[rv a1, iv 1, rv a2, iv 1, iv 3, iv 1, iv c1] [(.ref a2)]
    refine sT (fun t k => XS.iloadN X228.here hx rfl (hb hby d7_27) rfl k) ?_
    show gM T228 28 #[rv a1, iv 1, rv a2, iv 1, iv 3, iv 1, iv c1] [(.int 1), (.ref a2)]
    refine sT (fun t k => XS.iload X228.here hx rfl (hb hby d7_28) rfl k) ?_
    show gM T228 30 #[rv a1, iv 1, rv a2, iv 1, iv 3, iv 1, iv c1] [(.int c1), (.int 1), (.ref a2)]
    refine sT (fun t k => XS.i2b X228.here hx rfl (hb hby d7_30) rfl k) ?_
    show gM T228 31 #[rv a1, iv 1, rv a2, iv 1, iv 3, iv 1, iv c1] [(.int (c1.toInt8.toInt32)), (.int 1), (.ref a2)]
    obtain ⟨T232, h232, X232, e232, W232, V232, st232⟩ := own_bst X228 hx hZ e228 V228 (j := (1 : Int32)) (own_i8 _) ⟨by decide, by decide⟩ (1) rfl (Nat.le_of_ble_eq_true rfl) (g := (mkF m 31 #[rv a1, iv 1, rv a2, iv 1, iv 3, iv 1, iv c1] [(.int (c1.toInt8.toInt32)), (.int 1), (.ref a2)])) rfl rfl (hb hby d7_31)
    have V232 : Arv Z h232 a2 kb .byte (3 : Int32) (([(c0.toInt8.toInt32), (c1.toInt8.toInt32), 0] : List Int32).map Value.int) (Value.int 0) := V232
    have N232 := Fr.snoc X232 N228 g_a2
    have K233 : Keep h0 h232 [a2] := K229.wr W232 (Or.inl (List.mem_of_getElem? (i := 0) rfl))
    refine sT st232 ?_
    show gM T232 32 #[rv a1, iv 1, rv a2, iv 1, iv 3, iv 1, iv c1] []
    refine sT (fun t k => XS.iinc X232.here hx rfl (hb hby d7_32) rfl (l' := #[rv a1, iv 2, rv a2, iv 1, iv 3, iv 1, iv c1]) rfl k) ?_
    show gM T232 35 #[rv a1, iv 2, rv a2, iv 1, iv 3, iv 1, iv c1] []
    refine sT (fun t k => XS.iinc X232.here hx rfl (hb hby d7_35) rfl (l' := #[rv a1, iv 2, rv a2, iv 2, iv 3, iv 1, iv c1]) rfl k) ?_
    show gM T232 38 #[rv a1, iv 2, rv a2, iv 2, iv 3, iv 1, iv c1] []
    refine sT (fun t k => XS.iinc X232.here hx rfl (hb hby d7_38) rfl (l' := #[rv a1, iv 2, rv a2, iv 2, iv 3, iv 2, iv c1]) rfl k) ?_
    show gM T232 41 #[rv a1, iv 2, rv a2, iv 2, iv 3, iv 2, iv c1] []
    refine sT (fun t k => XS.goto X232.here hx rfl (pc0 := 41) (pc' := 3) rfl (hb hby d7_41) (by decide) (by decide) k) ?_
    show gM T232 3 #[rv a1, iv 2, rv a2, iv 2, iv 3, iv 2, iv c1] []
    refine sT (fun t k => XS.iload X232.here hx rfl (hb hby d7_3) rfl k) ?_
    show gM T232 5 #[rv a1, iv 2, rv a2, iv 2, iv 3, iv 2, iv c1] [(.int 2)]
    refine sT (fun t k => XS.iload X232.here hx rfl (hb hby d7_5) rfl k) ?_
    show gM T232 7 #[rv a1, iv 2, rv a2, iv 2, iv 3, iv 2, iv c1] [(.int 3), (.int 2)]
    have hc234 : (2 : Int32) < (3 : Int32) := by decide
    refine sT (fun t k => XS.icmpNo X232.here hx rfl (hb hby d7_7) rfl (tlt hc234).2.1 k) ?_
    show gM T232 10 #[rv a1, iv 2, rv a2, iv 2, iv 3, iv 2, iv c1] []
    refine sT (fun t k => XS.aloadN X232.here hx rfl (hb hby d7_10) rfl rfl k) ?_
    show gM T232 11 #[rv a1, iv 2, rv a2, iv 2, iv 3, iv 2, iv c1] [(.ref a1)]
    refine sT (fun t k => XS.iloadN X232.here hx rfl (hb hby d7_11) rfl k) ?_
    show gM T232 12 #[rv a1, iv 2, rv a2, iv 2, iv 3, iv 2, iv c1] [(.int 2), (.ref a1)]
    refine sT (fun t k => own_cal X232 hx hZ e232 ((V_a1.other W228 ne_a1_a2).other W232 ne_a1_a2) ⟨by decide, by decide⟩ (g := (mkF m 12 #[rv a1, iv 2, rv a2, iv 2, iv 3, iv 2, iv c1] [(.int 2), (.ref a1)])) rfl rfl (hb hby d7_12) _ k) ?_
    show gM T232 13 #[rv a1, iv 2, rv a2, iv 2, iv 3, iv 2, iv c1] [(.int c2)]
    refine sT (fun t k => XS.istore X232.here hx rfl (hb hby d7_13) rfl (l' := #[rv a1, iv 2, rv a2, iv 2, iv 3, iv 2, iv c2]) rfl k) ?_
    show gM T232 15 #[rv a1, iv 2, rv a2, iv 2, iv 3, iv 2, iv c2] []
    refine sT (fun t k => XS.iload X232.here hx rfl (hb hby d7_15) rfl k) ?_
    show gM T232 17 #[rv a1, iv 2, rv a2, iv 2, iv 3, iv 2, iv c2] [(.int c2)]
    refine sT (fun t k => XS.sipush X232.here hx rfl (hb hby d7_17) k) ?_
    show gM T232 20 #[rv a1, iv 2, rv a2, iv 2, iv 3, iv 2, iv c2] [(.int 255), (.int c2)]
    by_cases hc235 : (255 : Int32) < c2
    · --
     refine sT (fun t k => XS.icmpNo X232.here hx rfl (hb hby d7_20) rfl (tlt hc235).2.2.2 k) ?_
     show gM T232 23 #[rv a1, iv 2, rv a2, iv 2, iv 3, iv 2, iv c2] []
     refine sT (fun t k => XS.iload X232.here hx rfl (hb hby d7_23) rfl k) ?_
     show gM T232 25 #[rv a1, iv 2, rv a2, iv 2, iv 3, iv 2, iv c2] [(.int 2)]
     refine own_retV X232 hx hlk Bd.returns (w := (.int 2)) rfl (Or.inl ⟨rfl, Or.inl rfl, _, rfl⟩) (hb hby d7_25) ?_ (by decide) (by decide)
     show own_ci3_Q Z a1 a2 c0 c1 c2 ka kb h0 n0 _ T232.heap _
     rw [e232]
     exact ⟨(2 : Int32), ([(c0.toInt8.toInt32), (c1.toInt8.toInt32), 0] : List Int32), rfl, N232, K233, V232, (Or.inr (Or.inr (Or.inr ⟨rfl, hc235⟩)))⟩
    · --
     refine sT (fun t k => XS.icmpYes X232.here hx rfl (pc0 := 20) (pc' := 26) rfl (hb hby d7_20) rfl (flt hc235).2.2.2 (by decide) (by decide) k) ?_
     show gM T232 26 #[rv a1, iv 2, rv a2, iv 2, iv 3, iv 2, iv c2] []
     refine sT (fun t k => XS.aloadN X232.here hx rfl (hb hby d7_26) rfl rfl k) ?_
     show gM T232 27 #[rv a1, iv 2, rv a2, iv 2, iv 3, iv 2, iv c2] [(.ref a2)]
     refine sT (fun t k => XS.iloadN X232.here hx rfl (hb hby d7_27) rfl k) ?_
     show gM T232 28 #[rv a1, iv 2, rv a2, iv 2, iv 3, iv 2, iv c2] [(.int 2), (.ref a2)]
     refine sT (fun t k => XS.iload X232.here hx rfl (hb hby d7_28) rfl k) ?_
     show gM T232 30 #[rv a1, iv 2, rv a2, iv 2, iv 3, iv 2, iv c2] [(.int c2), (.int 2), (.ref a2)]
     refine sT (fun t k => XS.i2b X232.here hx rfl (hb hby d7_30) rfl k) ?_
     show gM T232 31 #[rv a1, iv 2, rv a2, iv 2, iv 3, iv 2, iv c2] [(.int (c2.toInt8.toInt32)), (.int 2), (.ref a2)]
     obtain ⟨T236, h236, X236, e236, W236, V236, st236⟩ := own_bst X232 hx hZ e232 V232 (j := (2 : Int32)) (own_i8 _) ⟨by decide, by decide⟩ (2) rfl (Nat.le_of_ble_eq_true rfl) (g := (mkF m 31 #[rv a1, iv 2, rv a2, iv 2, iv 3, iv 2, iv c2] [(.int (c2.toInt8.toInt32)), (.int 2), (.ref a2)])) rfl rfl (hb hby d7_31)
     have V236 : Arv Z h236 a2 kb .byte (3 : Int32) (([(c0.toInt8.toInt32), (c1.toInt8.toInt32), (c2.toInt8.toInt32)] : List Int32).map Value.int) (Value.int 0) := V236
     have N236 := Fr.snoc X236 N232 g_a2
     have K237 : Keep h0 h236 [a2] := K233.wr W236 (Or.inl (List.mem_of_getElem? (i := 0) rfl))
     refine sT st236 ?_
     show gM T236 32 #[rv a1, iv 2, rv a2, iv 2, iv 3, iv 2, iv c2] []
     refine sT (fun t k => XS.iinc X236.here hx rfl (hb hby d7_32) rfl (l' := #[rv a1, iv 3, rv a2, iv 2, iv 3, iv 2, iv c2]) rfl k) ?_
     show gM T236 35 #[rv a1, iv 3, rv a2, iv 2, iv 3, iv 2, iv c2] []
     refine sT (fun t k => XS.iinc X236.here hx rfl (hb hby d7_35) rfl (l' := #[rv a1, iv 3, rv a2, iv 3, iv 3, iv 2, iv c2]) rfl k) ?_
     show gM T236 38 #[rv a1, iv 3, rv a2, iv 3, iv 3, iv 2, iv c2] []
     refine sT (fun t k => XS.iinc X236.here hx rfl (hb hby d7_38) rfl (l' := #[rv a1, iv 3, rv a2, iv 3, iv 3, iv 3, iv c2]) rfl k) ?_
     show gM T236 41 #[rv a1, iv 3, rv a2, iv 3, iv 3, iv 3, iv c2] []
     refine sT (fun t k => XS.goto X236.here hx rfl (pc0 := 41) (pc' := 3) rfl (hb hby d7_41) (by decide) (by decide) k) ?_
     show gM T236 3 #[rv a1, iv 3, rv a2, iv 3, iv 3, iv 3, iv c2] []
     refine sT (fun t k => XS.iload X236.here hx rfl (hb hby d7_3) rfl k) ?_
     show gM T236 5 #[rv a1, iv 3, rv a2, iv 3, iv 3, iv 3, iv c2] [(.int 3)]
     refine sT (fun t k => XS.iload X236.here hx rfl (hb hby d7_5) rfl k) ?_
     show gM T236 7 #[rv a1, iv 3, rv a2, iv 3, iv 3, iv 3, iv c2] [(.int 3), (.int 3)]
     have hc238 : ¬ ((3 : Int32) < (3 : Int32)) := by decide
     refine sT (fun t k => XS.icmpYes X236.here hx rfl (pc0 := 7) (pc' := 44) rfl (hb hby d7_7) rfl (flt hc238).2.1 (by decide) (by decide) k) ?_
     show gM T236 44 #[rv a1, iv 3, rv a2, iv 3, iv 3, iv 3, iv c2] []
     refine sT (fun t k => XS.iload X236.here hx rfl (hb hby d7_44) rfl k) ?_
     show gM T236 46 #[rv a1, iv 3, rv a2, iv 3, iv 3, iv 3, iv c2] [(.int 3)]
     refine own_retV X236 hx hlk Bd.returns (w := (.int 3)) rfl (Or.inl ⟨rfl, Or.inl rfl, _, rfl⟩) (hb hby d7_46) ?_ (by decide) (by decide)
     show own_ci3_Q Z a1 a2 c0 c1 c2 ka kb h0 n0 _ T236.heap _
     rw [e236]
     exact ⟨(3 : Int32), ([(c0.toInt8.toInt32), (c1.toInt8.toInt32), (c2.toInt8.toInt32)] : List Int32), rfl, N236, K237, V236, (Or.inl ⟨rfl, rfl, hc227, hc231, hc235⟩)⟩
theorem own_co3_ef (m : MethodId) (a1 : Addr) : entryFrame m #[(.ref a1), (.int 0), (.int 3)] 6 = mkF m 0 #[rv a1, iv 0, iv 3, uN, uN, uN] [] := by first | (simp [entryFrame, mkF, argsToLocals, Value.category]; done) | rfl
def own_co3_Q (Z : State) (a1 : Addr) (c0 : Int32) (c1 : Int32) (c2 : Int32) (ka : ClassId) (h0 : Heap) (n0 : Nat) (v : Option Value) (h : Heap) (L : List Loc) : Prop := ∃ bv : Addr, ∃ kb : ClassId, ∃ zl : Int32, ∃ ys : List Int32, v = some (.ref bv) ∧ Fr n0 L ∧ Keep h0 h [] ∧ h0.size ≤ bv ∧ Arv Z h bv kb .byte zl (ys.map Value.int) (Value.int 0) ∧ ((zl = (3 : Int32) ∧ ys = ([(c0.toInt8.toInt32), (c1.toInt8.toInt32), (c2.toInt8.toInt32)] : List Int32) ∧ ¬ (255 : Int32) < c0 ∧ ¬ (255 : Int32) < c1 ∧ ¬ (255 : Int32) < c2) ∨ (zl = (6 : Int32) ∧ ((255 : Int32) < c0 ∨ (255 : Int32) < c1 ∨ (255 : Int32) < c2)))
set_option maxRecDepth 65536 in
set_option maxHeartbeats 40000000 in
theorem own_co3 (l : Launch) (Z : State) (a0 : Array Value) (hw : ∀ d ∈ tables_1, d.before a0 Z = true) (ws : List Jvm.Cond) (a1 : Addr) (c0 : Int32) (c1 : Int32) (c2 : Int32) (ka : ClassId) (h0 : Heap) (n0 : Nat) (Z0 : n0 ≤ h0.size) (S__assertionsDisabled : Sta Z Z.heap "java/lang/StringUTF16" "$assertionsDisabled" "Z" (.int 1)) (S_HI_BYTE_SHIFT : Sta Z Z.heap "java/lang/StringUTF16" "HI_BYTE_SHIFT" "I" (.int 0)) (S_LO_BYTE_SHIFT : Sta Z Z.heap "java/lang/StringUTF16" "LO_BYTE_SHIFT" "I" (.int 8)) (Zn : Z.heap.size ≤ n0) (EZ : Ext Z.heap h0) (V_a1 : Arv Z h0 a1 ka .char (3 : Int32) (([c0, c1, c2] : List Int32).map Value.int) (Value.int 0)) (hN0 : nar .char c0 = c0) (hN1 : nar .char c1 = c1) (hN2 : nar .char c2 = c2) :
    MetFree l mN8 (head1 (Jvm.Cond.code mN8 jdk_52_method_16_code 6 (some (.array .byte)) :: ws) ({ frames := 3, cells := 2, slots := 9, locals := 40 } : Room)) (fun aa U => aa = #[(.ref a1), (.int 0), (.int 3)] ∧ Z.Warmed39 U.vm ∧ U.heap = h0) (fun _ _ _ _ _ => True) (fun _ U o U' => ∃ v L, o = .returned v ∧ own_co3_Q Z a1 c0 c1 c2 ka h0 n0 v U'.heap L ∧ FrameEnd U o U' L ({ frames := 3, cells := 2, slots := 9, locals := 40 } : Room).cells ({ frames := 3, cells := 2, slots := 9, locals := 40 } : Room).slots) := by
  refine MetFree.of_bodySF (plainFor_of_name own_pn1) hisR ?_
  have w27 := wO hw 27 rfl
  have w59 := wO hw 59 rfl
  have w61 := wO hw 61 rfl
  have w62 := wO hw 62 rfl
  have w63 := wO hw 63 rfl
  have w68 := wO hw 68 rfl
  have w69 := wO hw 69 rfl
  have w70 := wO hw 70 rfl
  have w84 := wO hw 84 rfl
  have w85 := wO hw 85 rfl
  have w86 := wO hw 86 rfl
  intro p e s m args below meth c s₁ Bd hml0 hP hK
  obtain ⟨rfl, hZ, hh⟩ := hP
  have hx := Bd.exec
  have hby := Bd.bytes
  have hlk := Bd.notSynchronized
  have hml : c.maxLocals = 6 := hml0
  have hown : s.vm.findClass "java/lang/StringUTF16" = some m.cls := findClass_of_methodNamed Bd.named
  have hnm := (name_of_methodNamed Bd.named Bd.method).1
  have X0 : Stand p l e ({ frames := 3, cells := 2, slots := 9, locals := 40 } : Room) s m #[(.ref a1), (.int 0), (.int 3)] below meth c s₁ [] 0 0 := Stand.of_body Bd
  have e0 : s₁.heap = h0 := by rw [← hh, Bd.state]; rfl
  have N0 := Fr.nil n0
  have K0 : Keep h0 h0 [] := Keep.refl h0 _
  have O0 : Old Z Z.heap.size h0 := ⟨rfl, EZ⟩
  show gS p e below (own_Fin s (own_co3_Q Z a1 c0 c1 c2 ka h0 n0) ({ frames := 3, cells := 2, slots := 9, locals := 40 } : Room).cells ({ frames := 3, cells := 2, slots := 9, locals := 40 } : Room).slots) _
  refine sT (fun t k => castTop (own_co3_ef m a1) k) ?_
  show gM s₁ 0 #[rv a1, iv 0, iv 3, uN, uN, uN] []
  refine sT (fun t k => XS.iloadN X0.here hx rfl (hb hby d8_0) rfl k) ?_
  show gM s₁ 1 #[rv a1, iv 0, iv 3, uN, uN, uN] [(.int 3)]
  obtain ⟨T249, h249, k249, X249, e249, E249, A249, st249⟩ := newP (aty := .byte) X0 hx hZ w27 e0 (g := (mkF m 1 #[rv a1, iv 0, iv 3, uN, uN, uN] [(.int 3)])) rfl (hb hby d8_1) rfl (by decide) (cap := 3) (by decide) (by decide) (by decide) (by decide)
  obtain ⟨b249, g249⟩ : ∃ z, z = h0.size := ⟨_, rfl⟩
  rw [← g249] at A249 st249
  have ne_a1_b249 : a1 ≠ b249 := Nat.ne_of_lt (Nat.lt_of_lt_of_le V_a1.lt (Nat.le_of_eq g249.symm))
  have g_b249 : n0 ≤ b249 := Nat.le_trans Z0 (Nat.le_of_eq g249.symm)
  have sz_b249 : h0.size ≤ b249 := Nat.le_trans K0.1 (Nat.le_of_eq g249.symm)
  have V249 : Arv Z h249 b249 k249 .byte (3 : Int32) (([0, 0, 0] : List Int32).map Value.int) (Value.int 0) := own_newB A249 (by decide) 3
  have K250 : Keep h0 h249 [] := K0.ext E249
  refine sT st249 ?_
  show gM T249 3 #[rv a1, iv 0, iv 3, uN, uN, uN] [(.ref b249)]
  refine sT (fun t k => XS.astoreN X249.here hx rfl (hb hby d8_3) rfl rfl (l' := #[rv a1, iv 0, iv 3, rv b249, uN, uN]) rfl k) ?_
  show gM T249 4 #[rv a1, iv 0, iv 3, rv b249, uN, uN] []
  refine sT (fun t k => XS.aloadN X249.here hx rfl (hb hby d8_4) rfl rfl k) ?_
  show gM T249 5 #[rv a1, iv 0, iv 3, rv b249, uN, uN] [(.ref a1)]
  refine sT (fun t k => XS.iloadN X249.here hx rfl (hb hby d8_5) rfl k) ?_
  show gM T249 6 #[rv a1, iv 0, iv 3, rv b249, uN, uN] [(.int 0), (.ref a1)]
  refine sT (fun t k => XS.aloadN X249.here hx rfl (hb hby d8_6) rfl rfl k) ?_
  show gM T249 7 #[rv a1, iv 0, iv 3, rv b249, uN, uN] [(.ref b249), (.int 0), (.ref a1)]
  refine sT (fun t k => XS.iconst X249.here hx rfl (hb hby d8_7) k) ?_
  show gM T249 8 #[rv a1, iv 0, iv 3, rv b249, uN, uN] [(.int 0), (.ref b249), (.int 0), (.ref a1)]
  refine sT (fun t k => XS.iloadN X249.here hx rfl (hb hby d8_8) rfl k) ?_
  show gM T249 9 #[rv a1, iv 0, iv 3, rv b249, uN, uN] [(.int 3), (.int 0), (.ref b249), (.int 0), (.ref a1)]
  obtain ⟨_, _, ⟨T251, L251, k251, n251⟩, -, X251, ⟨Lc251, hQ251, l251, y251, z251⟩, st251⟩ := Jvm.LawKit.callS X249 hx (y := mN7) hown (mvT hZ w61) (mvT hZ w62) (mvT hZ w59) (mvT hZ w63) (by decide) (backOf (W := 0) (own_ci3 l Z a0 hw [] a1 b249 (c0) (c1) (c2) (ka) (k249) h249 n0 (Nat.le_trans Z0 E249.1) (V_a1.ext E249) V249 g_b249 ne_a1_b249) hZ w63 w59 (by decide) (by decide)) (g := (mkF m 9 #[rv a1, iv 0, iv 3, rv b249, uN, uN] [(.int 3), (.int 0), (.ref b249), (.int 0), (.ref a1)])) rfl (by rw [hml]; rfl) (argsL := [(.ref a1), (.int 0), (.ref b249), (.int 0), (.int 3)]) (rest := []) (lenOf own_pd4 rfl) rfl (by show 2 * 0 + _ ≤ _; exact Nat.le_of_eq rfl) (hb hby d8_9) (fun _ hWq => ⟨rfl, e249, (by decide : 1 + 0 ≤ _), (by decide : 3 + 0 ≤ _)⟩)
  dsimp only [Pt.U, Pt.locs, Pt.cells, Pt.slots] at X251 l251 y251 z251 st251 hQ251
  subst y251 z251
  obtain ⟨r_251, ys_251, rfl, N251q, K251c, f251_0, f251_1⟩ := hQ251
  have N251 : Fr n0 L251 := by rw [l251]; exact Fr.app N0 N251q
  refine sT st251 ?_
  have K252 : Keep h0 T251.heap [] := K250.trans K251c (allS (Or.inr sz_b249) all0)
  show gM T251 12 #[rv a1, iv 0, iv 3, rv b249, uN, uN] [(.int r_251)]
  rcases f251_1 with ⟨rfl, rfl, hle⟩ | hbad
  · --
   show gM T251 12 #[rv a1, iv 0, iv 3, rv b249, uN, uN] [(.int 3)]
   refine sT (fun t k => XS.istore X251.here hx rfl (hb hby d8_12) rfl (l' := #[rv a1, iv 0, iv 3, rv b249, iv 3, uN]) rfl k) ?_
   show gM T251 14 #[rv a1, iv 0, iv 3, rv b249, iv 3, uN] []
   refine sT (fun t k => XS.iload X251.here hx rfl (hb hby d8_14) rfl k) ?_
   show gM T251 16 #[rv a1, iv 0, iv 3, rv b249, iv 3, uN] [(.int 3)]
   refine sT (fun t k => XS.iloadN X251.here hx rfl (hb hby d8_16) rfl k) ?_
   show gM T251 17 #[rv a1, iv 0, iv 3, rv b249, iv 3, uN] [(.int 3), (.int 3)]
   have hc253 : (3 : Int32) = (3 : Int32) := rfl
   refine sT (fun t k => XS.icmpYes X251.here hx rfl (pc0 := 17) (pc' := 57) rfl (hb hby d8_17) rfl (teq hc253).1 (by decide) (by decide) k) ?_
   show gM T251 57 #[rv a1, iv 0, iv 3, rv b249, iv 3, uN] []
   refine sT (fun t k => XS.aloadN X251.here hx rfl (hb hby d8_57) rfl rfl k) ?_
   show gM T251 58 #[rv a1, iv 0, iv 3, rv b249, iv 3, uN] [(.ref b249)]
   refine own_retV X251 hx hlk Bd.returns (w := (.ref b249)) rfl (Or.inr (Or.inr (Or.inr (Or.inr ⟨rfl, rfl, rfl⟩)))) (hb hby d8_58) ?_ (by decide) (by decide)
   show own_co3_Q Z a1 c0 c1 c2 ka h0 n0 _ T251.heap _
   exact ⟨b249, k249, 3, ([(c0.toInt8.toInt32), (c1.toInt8.toInt32), (c2.toInt8.toInt32)] : List Int32), rfl, N251, K252, sz_b249, f251_0, (Or.inl ⟨rfl, rfl, hle⟩)⟩
  · --
   have hr : (¬ r_251 = (3 : Int32)) ∧ (¬ (r_251 <<< ((1 : Int32) &&& 31)) < 0 ∧ (r_251 <<< ((1 : Int32) &&& 31)) < (6 : Int32)) ∧ (¬ ((r_251 <<< ((1 : Int32) &&& 31)) + (1 : Int32)) < 0 ∧ ((r_251 <<< ((1 : Int32) &&& 31)) + (1 : Int32)) < (6 : Int32)) ∧ ((255 : Int32) < own_comb (([((c0 >>> ((0 : Int32) &&& 31)).toInt8.toInt32), ((c0 >>> ((8 : Int32) &&& 31)).toInt8.toInt32), ((c1 >>> ((0 : Int32) &&& 31)).toInt8.toInt32), ((c1 >>> ((8 : Int32) &&& 31)).toInt8.toInt32), ((c2 >>> ((0 : Int32) &&& 31)).toInt8.toInt32), ((c2 >>> ((8 : Int32) &&& 31)).toInt8.toInt32)] : List Int32).getD (r_251 <<< ((1 : Int32) &&& 31)).toNatClampNeg 0) (([((c0 >>> ((0 : Int32) &&& 31)).toInt8.toInt32), ((c0 >>> ((8 : Int32) &&& 31)).toInt8.toInt32), ((c1 >>> ((0 : Int32) &&& 31)).toInt8.toInt32), ((c1 >>> ((8 : Int32) &&& 31)).toInt8.toInt32), ((c2 >>> ((0 : Int32) &&& 31)).toInt8.toInt32), ((c2 >>> ((8 : Int32) &&& 31)).toInt8.toInt32)] : List Int32).getD ((r_251 <<< ((1 : Int32) &&& 31)) + (1 : Int32)).toNatClampNeg 0)) ∧ ((255 : Int32) < c0 ∨ (255 : Int32) < c1 ∨ (255 : Int32) < c2) := by
    rcases hbad with ⟨rfl, hg⟩ | ⟨rfl, hg⟩ | ⟨rfl, hg⟩
    · exact ⟨by decide, ⟨by decide, by decide⟩, ⟨by decide, by decide⟩, own_gt hN0 hg, (Or.inl hg)⟩
    · exact ⟨by decide, ⟨by decide, by decide⟩, ⟨by decide, by decide⟩, own_gt hN1 hg, (Or.inr (Or.inl hg))⟩
    · exact ⟨by decide, ⟨by decide, by decide⟩, ⟨by decide, by decide⟩, own_gt hN2 hg, (Or.inr (Or.inr hg))⟩
   clear hbad
   show gM T251 12 #[rv a1, iv 0, iv 3, rv b249, uN, uN] [(.int r_251)]
   refine sT (fun t k => XS.istore X251.here hx rfl (hb hby d8_12) rfl (l' := #[rv a1, iv 0, iv 3, rv b249, iv r_251, uN]) rfl k) ?_
   show gM T251 14 #[rv a1, iv 0, iv 3, rv b249, iv r_251, uN] []
   refine sT (fun t k => XS.iload X251.here hx rfl (hb hby d8_14) rfl k) ?_
   show gM T251 16 #[rv a1, iv 0, iv 3, rv b249, iv r_251, uN] [(.int r_251)]
   refine sT (fun t k => XS.iloadN X251.here hx rfl (hb hby d8_16) rfl k) ?_
   show gM T251 17 #[rv a1, iv 0, iv 3, rv b249, iv r_251, uN] [(.int 3), (.int r_251)]
   have hc254 : ¬ (r_251 = (3 : Int32)) := hr.1
   refine sT (fun t k => XS.icmpNo X251.here hx rfl (hb hby d8_17) rfl (feq hc254).1 k) ?_
   show gM T251 20 #[rv a1, iv 0, iv 3, rv b249, iv r_251, uN] []
   refine sT (fun t k => XS.aloadN X251.here hx rfl (hb hby d8_20) rfl rfl k) ?_
   show gM T251 21 #[rv a1, iv 0, iv 3, rv b249, iv r_251, uN] [(.ref a1)]
   refine sT (fun t k => XS.iloadN X251.here hx rfl (hb hby d8_21) rfl k) ?_
   show gM T251 22 #[rv a1, iv 0, iv 3, rv b249, iv r_251, uN] [(.int 0), (.ref a1)]
   refine sT (fun t k => XS.iloadN X251.here hx rfl (hb hby d8_22) rfl k) ?_
   show gM T251 23 #[rv a1, iv 0, iv 3, rv b249, iv r_251, uN] [(.int 3), (.int 0), (.ref a1)]
   obtain ⟨_, _, ⟨T255, L255, k255, n255⟩, -, X255, ⟨Lc255, hQ255, l255, y255, z255⟩, st255⟩ := Jvm.LawKit.callS X251 hx (y := mN6) hown (mvT hZ w68) (mvT hZ w69) (mvT hZ w59) (mvT hZ w70) (by decide) (backOf (W := 0) (own_tb3 l Z a0 hw [] a1 (c0) (c1) (c2) (ka) T251.heap n0 (Nat.le_trans (Nat.le_trans Z0 E249.1) K251c.1) S__assertionsDisabled S_HI_BYTE_SHIFT S_LO_BYTE_SHIFT Zn ((O0.ext E249).keep K251c (allS (Nat.le_trans Zn g_b249) all0)).2 ((V_a1.ext E249).keep K251c (ninS ne_a1_b249 nin0))) hZ w70 w59 (by decide) (by decide)) (g := (mkF m 23 #[rv a1, iv 0, iv 3, rv b249, iv r_251, uN] [(.int 3), (.int 0), (.ref a1)])) rfl (by rw [hml]; rfl) (argsL := [(.ref a1), (.int 0), (.int 3)]) (rest := []) (lenOf own_pd5 rfl) rfl (by show 2 * 0 + _ ≤ _; exact Nat.le_of_eq rfl) (hb hby d8_23) (fun _ hWq => ⟨rfl, rfl, (by decide : 1 + 1 ≤ _), (by decide : 3 + 6 ≤ _)⟩)
   dsimp only [Pt.U, Pt.locs, Pt.cells, Pt.slots] at X255 l255 y255 z255 st255 hQ255
   subst y255 z255
   obtain ⟨bv_255, kb_255, rfl, N255q, K255c, f255_0, f255_1⟩ := hQ255
   have N255 : Fr n0 L255 := by rw [l255]; exact Fr.app N251 N255q
   refine sT st255 ?_
   have K256 : Keep h0 T255.heap [] := K252.trans K255c all0
   have sz_bv_255 : h0.size ≤ bv_255 := Nat.le_trans K252.1 f255_0
   have g_bv_255 : n0 ≤ bv_255 := Nat.le_trans Z0 sz_bv_255
   have ne_b249_bv_255 : b249 ≠ bv_255 := Nat.ne_of_lt (Nat.lt_of_lt_of_le f251_0.lt f255_0)
   have ne_a1_bv_255 : a1 ≠ bv_255 := Nat.ne_of_lt (Nat.lt_of_lt_of_le ((V_a1.ext E249).keep K251c (ninS ne_a1_b249 nin0)).lt f255_0)
   show gM T255 26 #[rv a1, iv 0, iv 3, rv b249, iv r_251, uN] [(.ref bv_255)]
   refine sT (fun t k => XS.astore X255.here hx rfl (hb hby d8_26) rfl rfl (l' := #[rv a1, iv 0, iv 3, rv b249, iv r_251, rv bv_255]) rfl k) ?_
   show gM T255 28 #[rv a1, iv 0, iv 3, rv b249, iv r_251, rv bv_255] []
   refine sT (fun t k => XS.aload X255.here hx rfl (hb hby d8_28) rfl rfl k) ?_
   show gM T255 30 #[rv a1, iv 0, iv 3, rv b249, iv r_251, rv bv_255] [(.ref bv_255)]
   refine sT (fun t k => XS.iload X255.here hx rfl (hb hby d8_30) rfl k) ?_
   show gM T255 32 #[rv a1, iv 0, iv 3, rv b249, iv r_251, rv bv_255] [(.int r_251), (.ref bv_255)]
   obtain ⟨_, _, ⟨T257, L257, k257, n257⟩, -, X257, ⟨Lc257, hQ257, l257, y257, z257⟩, st257⟩ := Jvm.LawKit.callS X255 hx (y := mN5) hown (mvT hZ w84) (mvT hZ w85) (mvT hZ w59) (mvT hZ w86) (by decide) (backOf (W := 0) (own_gc l Z a0 hw [] bv_255 r_251 ((6 : Int32)) (([((c0 >>> ((0 : Int32) &&& 31)).toInt8.toInt32), ((c0 >>> ((8 : Int32) &&& 31)).toInt8.toInt32), ((c1 >>> ((0 : Int32) &&& 31)).toInt8.toInt32), ((c1 >>> ((8 : Int32) &&& 31)).toInt8.toInt32), ((c2 >>> ((0 : Int32) &&& 31)).toInt8.toInt32), ((c2 >>> ((8 : Int32) &&& 31)).toInt8.toInt32)] : List Int32)) (kb_255) T255.heap n0 (Nat.le_trans (Nat.le_trans (Nat.le_trans Z0 E249.1) K251c.1) K255c.1) S__assertionsDisabled S_HI_BYTE_SHIFT S_LO_BYTE_SHIFT Zn (((O0.ext E249).keep K251c (allS (Nat.le_trans Zn g_b249) all0)).keep K255c all0).2 f255_1 hr.2.1 hr.2.2.1 hr.2.2.2.1) hZ w86 w59 (by decide) (by decide)) (g := (mkF m 32 #[rv a1, iv 0, iv 3, rv b249, iv r_251, rv bv_255] [(.int r_251), (.ref bv_255)])) rfl (by rw [hml]; rfl) (argsL := [(.ref bv_255), (.int r_251)]) (rest := []) (lenOf own_pd6 rfl) rfl (by show 2 * 0 + _ ≤ _; exact Nat.le_of_eq rfl) (hb hby d8_32) (fun _ hWq => ⟨rfl, rfl, (by decide : 2 + 0 ≤ _), (by decide : 9 + 0 ≤ _)⟩)
   dsimp only [Pt.U, Pt.locs, Pt.cells, Pt.slots] at X257 l257 y257 z257 st257 hQ257
   subst y257 z257
   obtain ⟨w_257, rfl, N257q, eh257, f257_0⟩ := hQ257
   have N257 : Fr n0 L257 := by rw [l257]; exact Fr.app N255 N257q
   refine sT st257 ?_
   show gM T257 35 #[rv a1, iv 0, iv 3, rv b249, iv r_251, rv bv_255] [(.int w_257)]
   refine sT (fun t k => XS.sipush X257.here hx rfl (hb hby d8_35) k) ?_
   show gM T257 38 #[rv a1, iv 0, iv 3, rv b249, iv r_251, rv bv_255] [(.int 255), (.int w_257)]
   have hc258 : (255 : Int32) < w_257 := f257_0
   refine sT (fun t k => XS.icmpYes X257.here hx rfl (pc0 := 38) (pc' := 54) rfl (hb hby d8_38) rfl (tlt hc258).2.2.1 (by decide) (by decide) k) ?_
   show gM T257 54 #[rv a1, iv 0, iv 3, rv b249, iv r_251, rv bv_255] []
   refine sT (fun t k => XS.aload X257.here hx rfl (hb hby d8_54) rfl rfl k) ?_
   show gM T257 56 #[rv a1, iv 0, iv 3, rv b249, iv r_251, rv bv_255] [(.ref bv_255)]
   refine own_retV X257 hx hlk Bd.returns (w := (.ref bv_255)) rfl (Or.inr (Or.inr (Or.inr (Or.inr ⟨rfl, rfl, rfl⟩)))) (hb hby d8_56) ?_ (by decide) (by decide)
   show own_co3_Q Z a1 c0 c1 c2 ka h0 n0 _ T257.heap _
   rw [eh257]
   exact ⟨bv_255, kb_255, 6, ([((c0 >>> ((0 : Int32) &&& 31)).toInt8.toInt32), ((c0 >>> ((8 : Int32) &&& 31)).toInt8.toInt32), ((c1 >>> ((0 : Int32) &&& 31)).toInt8.toInt32), ((c1 >>> ((8 : Int32) &&& 31)).toInt8.toInt32), ((c2 >>> ((0 : Int32) &&& 31)).toInt8.toInt32), ((c2 >>> ((8 : Int32) &&& 31)).toInt8.toInt32)] : List Int32), rfl, N257, K256, sz_bv_255, f255_1, (Or.inr ⟨rfl, hr.2.2.2.2⟩)⟩
theorem own_tb4_ef (m : MethodId) (a1 : Addr) : entryFrame m #[(.ref a1), (.int 0), (.int 4)] 5 = mkF m 0 #[rv a1, iv 0, iv 4, uN, uN] [] := by first | (simp [entryFrame, mkF, argsToLocals, Value.category]; done) | rfl
def own_tb4_Q (Z : State) (a1 : Addr) (c0 : Int32) (c1 : Int32) (c2 : Int32) (c3 : Int32) (ka : ClassId) (h0 : Heap) (n0 : Nat) (v : Option Value) (h : Heap) (L : List Loc) : Prop := ∃ bv : Addr, ∃ kb : ClassId, v = some (.ref bv) ∧ Fr n0 L ∧ Keep h0 h [] ∧ h0.size ≤ bv ∧ Arv Z h bv kb .byte (8 : Int32) (([((c0 >>> ((0 : Int32) &&& 31)).toInt8.toInt32), ((c0 >>> ((8 : Int32) &&& 31)).toInt8.toInt32), ((c1 >>> ((0 : Int32) &&& 31)).toInt8.toInt32), ((c1 >>> ((8 : Int32) &&& 31)).toInt8.toInt32), ((c2 >>> ((0 : Int32) &&& 31)).toInt8.toInt32), ((c2 >>> ((8 : Int32) &&& 31)).toInt8.toInt32), ((c3 >>> ((0 : Int32) &&& 31)).toInt8.toInt32), ((c3 >>> ((8 : Int32) &&& 31)).toInt8.toInt32)] : List Int32).map Value.int) (Value.int 0)
set_option maxRecDepth 65536 in
set_option maxHeartbeats 40000000 in
theorem own_tb4 (l : Launch) (Z : State) (a0 : Array Value) (hw : ∀ d ∈ tables_1, d.before a0 Z = true) (ws : List Jvm.Cond) (a1 : Addr) (c0 : Int32) (c1 : Int32) (c2 : Int32) (c3 : Int32) (ka : ClassId) (h0 : Heap) (n0 : Nat) (Z0 : n0 ≤ h0.size) (S__assertionsDisabled : Sta Z Z.heap "java/lang/StringUTF16" "$assertionsDisabled" "Z" (.int 1)) (S_HI_BYTE_SHIFT : Sta Z Z.heap "java/lang/StringUTF16" "HI_BYTE_SHIFT" "I" (.int 0)) (S_LO_BYTE_SHIFT : Sta Z Z.heap "java/lang/StringUTF16" "LO_BYTE_SHIFT" "I" (.int 8)) (Zn : Z.heap.size ≤ n0) (EZ : Ext Z.heap h0) (V_a1 : Arv Z h0 a1 ka .char (4 : Int32) (([c0, c1, c2, c3] : List Int32).map Value.int) (Value.int 0)) :
    MetFree l mN6 (head1 (Jvm.Cond.code mN6 jdk_52_method_14_code 5 (some (.array .byte)) :: ws) ({ frames := 2, cells := 1, slots := 8, locals := 24 } : Room)) (fun aa U => aa = #[(.ref a1), (.int 0), (.int 4)] ∧ Z.Warmed39 U.vm ∧ U.heap = h0) (fun _ _ _ _ _ => True) (fun _ U o U' => ∃ v L, o = .returned v ∧ own_tb4_Q Z a1 c0 c1 c2 c3 ka h0 n0 v U'.heap L ∧ FrameEnd U o U' L ({ frames := 2, cells := 1, slots := 8, locals := 24 } : Room).cells ({ frames := 2, cells := 1, slots := 8, locals := 24 } : Room).slots) := by
  refine MetFree.of_bodySF (plainFor_of_name own_pn1) hisR ?_
  have w59 := wO hw 59 rfl
  have w71 := wO hw 71 rfl
  have w72 := wO hw 72 rfl
  have w73 := wO hw 73 rfl
  have w78 := wO hw 78 rfl
  have w79 := wO hw 79 rfl
  have w80 := wO hw 80 rfl
  intro p e s m args below meth c s₁ Bd hml0 hP hK
  obtain ⟨rfl, hZ, hh⟩ := hP
  have hx := Bd.exec
  have hby := Bd.bytes
  have hlk := Bd.notSynchronized
  have hml : c.maxLocals = 5 := hml0
  have hown : s.vm.findClass "java/lang/StringUTF16" = some m.cls := findClass_of_methodNamed Bd.named
  have hnm := (name_of_methodNamed Bd.named Bd.method).1
  have X0 : Stand p l e ({ frames := 2, cells := 1, slots := 8, locals := 24 } : Room) s m #[(.ref a1), (.int 0), (.int 4)] below meth c s₁ [] 0 0 := Stand.of_body Bd
  have e0 : s₁.heap = h0 := by rw [← hh, Bd.state]; rfl
  have N0 := Fr.nil n0
  have K0 : Keep h0 h0 [] := Keep.refl h0 _
  have O0 : Old Z Z.heap.size h0 := ⟨rfl, EZ⟩
  show gS p e below (own_Fin s (own_tb4_Q Z a1 c0 c1 c2 c3 ka h0 n0) ({ frames := 2, cells := 1, slots := 8, locals := 24 } : Room).cells ({ frames := 2, cells := 1, slots := 8, locals := 24 } : Room).slots) _
  refine sT (fun t k => castTop (own_tb4_ef m a1) k) ?_
  show gM s₁ 0 #[rv a1, iv 0, iv 4, uN, uN] []
  refine sT (fun t k => XS.iloadN X0.here hx rfl (hb hby d6_0) rfl k) ?_
  show gM s₁ 1 #[rv a1, iv 0, iv 4, uN, uN] [(.int 4)]
  obtain ⟨_, _, ⟨T278, L278, k278, n278⟩, -, X278, ⟨Lc278, hQ278, l278, y278, z278⟩, st278⟩ := Jvm.LawKit.callS X0 hx (y := mN3) hown (mvT hZ w71) (mvT hZ w72) (mvT hZ w59) (mvT hZ w73) (by decide) (backOf (W := 0) (own_nf4 l Z a0 hw []   h0 n0 Z0 ) hZ w73 w59 (by decide) (by decide)) (g := (mkF m 1 #[rv a1, iv 0, iv 4, uN, uN] [(.int 4)])) rfl (by rw [hml]; rfl) (argsL := [(.int 4)]) (rest := []) (lenOf own_pd2 rfl) rfl (by show 2 * 0 + _ ≤ _; exact Nat.le_of_eq rfl) (hb hby d6_1) (fun _ hWq => ⟨rfl, e0, (by decide : 0 + 1 ≤ _), (by decide : 0 + 8 ≤ _)⟩)
  dsimp only [Pt.U, Pt.locs, Pt.cells, Pt.slots] at X278 l278 y278 z278 st278 hQ278
  subst y278 z278
  obtain ⟨bv_278, kb_278, rfl, N278q, K278c, f278_0, f278_1⟩ := hQ278
  have N278 : Fr n0 L278 := by rw [l278]; exact Fr.app N0 N278q
  refine sT st278 ?_
  have K279 : Keep h0 T278.heap [] := K0.trans K278c all0
  have sz_bv_278 : h0.size ≤ bv_278 := Nat.le_trans K0.1 f278_0
  have g_bv_278 : n0 ≤ bv_278 := Nat.le_trans Z0 sz_bv_278
  have ne_a1_bv_278 : a1 ≠ bv_278 := Nat.ne_of_lt (Nat.lt_of_lt_of_le V_a1.lt f278_0)
  show gM T278 4 #[rv a1, iv 0, iv 4, uN, uN] [(.ref bv_278)]
  refine sT (fun t k => XS.astoreN X278.here hx rfl (hb hby d6_4) rfl rfl (l' := #[rv a1, iv 0, iv 4, rv bv_278, uN]) rfl k) ?_
  show gM T278 5 #[rv a1, iv 0, iv 4, rv bv_278, uN] []
  refine sT (fun t k => XS.iconst X278.here hx rfl (hb hby d6_5) k) ?_
  show gM T278 6 #[rv a1, iv 0, iv 4, rv bv_278, uN] [(.int 0)]
  refine sT (fun t k => XS.istore X278.here hx rfl (hb hby d6_6) rfl (l' := #[rv a1, iv 0, iv 4, rv bv_278, iv 0]) rfl k) ?_
  show gM T278 8 #[rv a1, iv 0, iv 4, rv bv_278, iv 0] []
  refine sT (fun t k => XS.iload X278.here hx rfl (hb hby d6_8) rfl k) ?_
  show gM T278 10 #[rv a1, iv 0, iv 4, rv bv_278, iv 0] [(.int 0)]
  refine sT (fun t k => XS.iloadN X278.here hx rfl (hb hby d6_10) rfl k) ?_
  show gM T278 11 #[rv a1, iv 0, iv 4, rv bv_278, iv 0] [(.int 4), (.int 0)]
  have hc280 : (0 : Int32) < (4 : Int32) := by decide
  refine sT (fun t k => XS.icmpNo X278.here hx rfl (hb hby d6_11) rfl (tlt hc280).2.1 k) ?_
  show gM T278 14 #[rv a1, iv 0, iv 4, rv bv_278, iv 0] []
  refine sT (fun t k => XS.aloadN X278.here hx rfl (hb hby d6_14) rfl rfl k) ?_
  show gM T278 15 #[rv a1, iv 0, iv 4, rv bv_278, iv 0] [(.ref bv_278)]
  refine sT (fun t k => XS.iload X278.here hx rfl (hb hby d6_15) rfl k) ?_
  show gM T278 17 #[rv a1, iv 0, iv 4, rv bv_278, iv 0] [(.int 0), (.ref bv_278)]
  refine sT (fun t k => XS.aloadN X278.here hx rfl (hb hby d6_17) rfl rfl k) ?_
  show gM T278 18 #[rv a1, iv 0, iv 4, rv bv_278, iv 0] [(.ref a1), (.int 0), (.ref bv_278)]
  refine sT (fun t k => XS.iloadN X278.here hx rfl (hb hby d6_18) rfl k) ?_
  show gM T278 19 #[rv a1, iv 0, iv 4, rv bv_278, iv 0] [(.int 0), (.ref a1), (.int 0), (.ref bv_278)]
  refine sT (fun t k => own_cal X278 hx hZ rfl (V_a1.keep K278c nin0) ⟨by decide, by decide⟩ (g := (mkF m 19 #[rv a1, iv 0, iv 4, rv bv_278, iv 0] [(.int 0), (.ref a1), (.int 0), (.ref bv_278)])) rfl rfl (hb hby d6_19) _ k) ?_
  show gM T278 20 #[rv a1, iv 0, iv 4, rv bv_278, iv 0] [(.int c0), (.int 0), (.ref bv_278)]
  obtain ⟨_, _, ⟨T281, L281, k281, n281⟩, -, X281, ⟨Lc281, hQ281, l281, y281, z281⟩, st281⟩ := Jvm.LawKit.callS X278 hx (y := mN4) hown (mvT hZ w78) (mvT hZ w79) (mvT hZ w59) (mvT hZ w80) (by decide) (backOf (W := 0) (own_pc l Z a0 hw [] bv_278 (0 : Int32) c0 ((8 : Int32)) (([0, 0, 0, 0, 0, 0, 0, 0] : List Int32)) (kb_278) T278.heap n0 (Nat.le_trans Z0 K278c.1) S__assertionsDisabled S_HI_BYTE_SHIFT S_LO_BYTE_SHIFT Zn (O0.keep K278c all0).2 f278_1 g_bv_278 (⟨by decide, by decide⟩) (⟨by decide, by decide⟩) (Nat.le_of_ble_eq_true rfl) (Nat.le_of_ble_eq_true rfl)) hZ w80 w59 (by decide) (by decide)) (g := (mkF m 20 #[rv a1, iv 0, iv 4, rv bv_278, iv 0] [(.int c0), (.int 0), (.ref bv_278)])) rfl (by rw [hml]; rfl) (argsL := [(.ref bv_278), (.int 0), (.int c0)]) (rest := []) (lenOf own_pd3 rfl) rfl (by show 2 * 0 + _ ≤ _; exact Nat.le_of_eq rfl) (hb hby d6_20) (fun _ hWq => ⟨rfl, rfl, (by decide : 1 + 0 ≤ _), (by decide : 8 + 0 ≤ _)⟩)
  dsimp only [Pt.U, Pt.locs, Pt.cells, Pt.slots] at X281 l281 y281 z281 st281 hQ281
  subst y281 z281
  obtain ⟨rfl, N281q, K281c, f281_0⟩ := hQ281
  have N281 : Fr n0 L281 := by rw [l281]; exact Fr.app N278 N281q
  refine sT st281 ?_
  have K282 : Keep h0 T281.heap [] := K279.trans K281c (allS (Or.inr sz_bv_278) all0)
  show gM T281 23 #[rv a1, iv 0, iv 4, rv bv_278, iv 0] []
  have V283 : Arv Z T281.heap bv_278 kb_278 .byte (8 : Int32) (([((c0 >>> ((0 : Int32) &&& 31)).toInt8.toInt32), ((c0 >>> ((8 : Int32) &&& 31)).toInt8.toInt32), 0, 0, 0, 0, 0, 0] : List Int32).map Value.int) (Value.int 0) := f281_0
  refine sT (fun t k => XS.iinc X281.here hx rfl (hb hby d6_23) rfl (l' := #[rv a1, iv 1, iv 4, rv bv_278, iv 0]) rfl k) ?_
  show gM T281 26 #[rv a1, iv 1, iv 4, rv bv_278, iv 0] []
  refine sT (fun t k => XS.iinc X281.here hx rfl (hb hby d6_26) rfl (l' := #[rv a1, iv 1, iv 4, rv bv_278, iv 1]) rfl k) ?_
  show gM T281 29 #[rv a1, iv 1, iv 4, rv bv_278, iv 1] []
  refine sT (fun t k => XS.goto X281.here hx rfl (pc0 := 29) (pc' := 8) rfl (hb hby d6_29) (by decide) (by decide) k) ?_
  show gM T281 8 #[rv a1, iv 1, iv 4, rv bv_278, iv 1] []
  refine sT (fun t k => XS.iload X281.here hx rfl (hb hby d6_8) rfl k) ?_
  show gM T281 10 #[rv a1, iv 1, iv 4, rv bv_278, iv 1] [(.int 1)]
  refine sT (fun t k => XS.iloadN X281.here hx rfl (hb hby d6_10) rfl k) ?_
  show gM T281 11 #[rv a1, iv 1, iv 4, rv bv_278, iv 1] [(.int 4), (.int 1)]
  have hc284 : (1 : Int32) < (4 : Int32) := by decide
  refine sT (fun t k => XS.icmpNo X281.here hx rfl (hb hby d6_11) rfl (tlt hc284).2.1 k) ?_
  show gM T281 14 #[rv a1, iv 1, iv 4, rv bv_278, iv 1] []
  refine sT (fun t k => XS.aloadN X281.here hx rfl (hb hby d6_14) rfl rfl k) ?_
  show gM T281 15 #[rv a1, iv 1, iv 4, rv bv_278, iv 1] [(.ref bv_278)]
  refine sT (fun t k => XS.iload X281.here hx rfl (hb hby d6_15) rfl k) ?_
  show gM T281 17 #[rv a1, iv 1, iv 4, rv bv_278, iv 1] [(.int 1), (.ref bv_278)]
  refine sT (fun t k => XS.aloadN X281.here hx rfl (hb hby d6_17) rfl rfl k) ?_
  show gM T281 18 #[rv a1, iv 1, iv 4, rv bv_278, iv 1] [(.ref a1), (.int 1), (.ref bv_278)]
  refine sT (fun t k => XS.iloadN X281.here hx rfl (hb hby d6_18) rfl k) ?_
  show gM T281 19 #[rv a1, iv 1, iv 4, rv bv_278, iv 1] [(.int 1), (.ref a1), (.int 1), (.ref bv_278)]
  refine sT (fun t k => own_cal X281 hx hZ rfl ((V_a1.keep K278c nin0).keep K281c (ninS ne_a1_bv_278 nin0)) ⟨by decide, by decide⟩ (g := (mkF m 19 #[rv a1, iv 1, iv 4, rv bv_278, iv 1] [(.int 1), (.ref a1), (.int 1), (.ref bv_278)])) rfl rfl (hb hby d6_19) _ k) ?_
  show gM T281 20 #[rv a1, iv 1, iv 4, rv bv_278, iv 1] [(.int c1), (.int 1), (.ref bv_278)]
  obtain ⟨_, _, ⟨T285, L285, k285, n285⟩, -, X285, ⟨Lc285, hQ285, l285, y285, z285⟩, st285⟩ := Jvm.LawKit.callS X281 hx (y := mN4) hown (mvT hZ w78) (mvT hZ w79) (mvT hZ w59) (mvT hZ w80) (by decide) (backOf (W := 0) (own_pc l Z a0 hw [] bv_278 (1 : Int32) c1 ((8 : Int32)) (([((c0 >>> ((0 : Int32) &&& 31)).toInt8.toInt32), ((c0 >>> ((8 : Int32) &&& 31)).toInt8.toInt32), 0, 0, 0, 0, 0, 0] : List Int32)) (kb_278) T281.heap n0 (Nat.le_trans (Nat.le_trans Z0 K278c.1) K281c.1) S__assertionsDisabled S_HI_BYTE_SHIFT S_LO_BYTE_SHIFT Zn ((O0.keep K278c all0).keep K281c (allS (Nat.le_trans Zn g_bv_278) all0)).2 V283 g_bv_278 (⟨by decide, by decide⟩) (⟨by decide, by decide⟩) (Nat.le_of_ble_eq_true rfl) (Nat.le_of_ble_eq_true rfl)) hZ w80 w59 (by decide) (by decide)) (g := (mkF m 20 #[rv a1, iv 1, iv 4, rv bv_278, iv 1] [(.int c1), (.int 1), (.ref bv_278)])) rfl (by rw [hml]; rfl) (argsL := [(.ref bv_278), (.int 1), (.int c1)]) (rest := []) (lenOf own_pd3 rfl) rfl (by show 2 * 0 + _ ≤ _; exact Nat.le_of_eq rfl) (hb hby d6_20) (fun _ hWq => ⟨rfl, rfl, (by decide : 1 + 0 ≤ _), (by decide : 8 + 0 ≤ _)⟩)
  dsimp only [Pt.U, Pt.locs, Pt.cells, Pt.slots] at X285 l285 y285 z285 st285 hQ285
  subst y285 z285
  obtain ⟨rfl, N285q, K285c, f285_0⟩ := hQ285
  have N285 : Fr n0 L285 := by rw [l285]; exact Fr.app N281 N285q
  refine sT st285 ?_
  have K286 : Keep h0 T285.heap [] := K282.trans K285c (allS (Or.inr sz_bv_278) all0)
  show gM T285 23 #[rv a1, iv 1, iv 4, rv bv_278, iv 1] []
  have V287 : Arv Z T285.heap bv_278 kb_278 .byte (8 : Int32) (([((c0 >>> ((0 : Int32) &&& 31)).toInt8.toInt32), ((c0 >>> ((8 : Int32) &&& 31)).toInt8.toInt32), ((c1 >>> ((0 : Int32) &&& 31)).toInt8.toInt32), ((c1 >>> ((8 : Int32) &&& 31)).toInt8.toInt32), 0, 0, 0, 0] : List Int32).map Value.int) (Value.int 0) := f285_0
  refine sT (fun t k => XS.iinc X285.here hx rfl (hb hby d6_23) rfl (l' := #[rv a1, iv 2, iv 4, rv bv_278, iv 1]) rfl k) ?_
  show gM T285 26 #[rv a1, iv 2, iv 4, rv bv_278, iv 1] []
  refine sT (fun t k => XS.iinc X285.here hx rfl (hb hby d6_26) rfl (l' := #[rv a1, iv 2, iv 4, rv bv_278, iv 2]) rfl k) ?_
  show gM T285 29 #[rv a1, iv 2, iv 4, rv bv_278, iv 2] []
  refine sT (fun t k => XS.goto X285.here hx rfl (pc0 := 29) (pc' := 8) rfl (hb hby d6_29) (by decide) (by decide) k) ?_
  show gM T285 8 #[rv a1, iv 2, iv 4, rv bv_278, iv 2] []
  refine sT (fun t k => XS.iload X285.here hx rfl (hb hby d6_8) rfl k) ?_
  show gM T285 10 #[rv a1, iv 2, iv 4, rv bv_278, iv 2] [(.int 2)]
  refine sT (fun t k => XS.iloadN X285.here hx rfl (hb hby d6_10) rfl k) ?_
  show gM T285 11 #[rv a1, iv 2, iv 4, rv bv_278, iv 2] [(.int 4), (.int 2)]
  have hc288 : (2 : Int32) < (4 : Int32) := by decide
  refine sT (fun t k => XS.icmpNo X285.here hx rfl (hb hby d6_11) rfl (tlt hc288).2.1 k) ?_
  show gM T285 14 #[rv a1, iv 2, iv 4, rv bv_278, iv 2] []
  refine sT (fun t k => XS.aloadN X285.here hx rfl (hb hby d6_14) rfl rfl k) ?_
  show gM T285 15 #[rv a1, iv 2, iv 4, rv bv_278, iv 2] [(.ref bv_278)]
  refine sT (fun t k => XS.iload X285.here hx rfl (hb hby d6_15) rfl k) ?_
  show gM T285 17 #[rv a1, iv 2, iv 4, rv bv_278, iv 2] [(.int 2), (.ref bv_278)]
  refine sT (fun t k => XS.aloadN X285.here hx rfl (hb hby d6_17) rfl rfl k) ?_
  show gM T285 18 #[rv a1, iv 2, iv 4, rv bv_278, iv 2] [(.ref a1), (.int 2), (.ref bv_278)]
  refine sT (fun t k => XS.iloadN X285.here hx rfl (hb hby d6_18) rfl k) ?_
  show gM T285 19 #[rv a1, iv 2, iv 4, rv bv_278, iv 2] [(.int 2), (.ref a1), (.int 2), (.ref bv_278)]
  refine sT (fun t k => own_cal X285 hx hZ rfl (((V_a1.keep K278c nin0).keep K281c (ninS ne_a1_bv_278 nin0)).keep K285c (ninS ne_a1_bv_278 nin0)) ⟨by decide, by decide⟩ (g := (mkF m 19 #[rv a1, iv 2, iv 4, rv bv_278, iv 2] [(.int 2), (.ref a1), (.int 2), (.ref bv_278)])) rfl rfl (hb hby d6_19) _ k) ?_
  show gM T285 20 #[rv a1, iv 2, iv 4, rv bv_278, iv 2] [(.int c2), (.int 2), (.ref bv_278)]
  obtain ⟨_, _, ⟨T289, L289, k289, n289⟩, -, X289, ⟨Lc289, hQ289, l289, y289, z289⟩, st289⟩ := Jvm.LawKit.callS X285 hx (y := mN4) hown (mvT hZ w78) (mvT hZ w79) (mvT hZ w59) (mvT hZ w80) (by decide) (backOf (W := 0) (own_pc l Z a0 hw [] bv_278 (2 : Int32) c2 ((8 : Int32)) (([((c0 >>> ((0 : Int32) &&& 31)).toInt8.toInt32), ((c0 >>> ((8 : Int32) &&& 31)).toInt8.toInt32), ((c1 >>> ((0 : Int32) &&& 31)).toInt8.toInt32), ((c1 >>> ((8 : Int32) &&& 31)).toInt8.toInt32), 0, 0, 0, 0] : List Int32)) (kb_278) T285.heap n0 (Nat.le_trans (Nat.le_trans (Nat.le_trans Z0 K278c.1) K281c.1) K285c.1) S__assertionsDisabled S_HI_BYTE_SHIFT S_LO_BYTE_SHIFT Zn (((O0.keep K278c all0).keep K281c (allS (Nat.le_trans Zn g_bv_278) all0)).keep K285c (allS (Nat.le_trans Zn g_bv_278) all0)).2 V287 g_bv_278 (⟨by decide, by decide⟩) (⟨by decide, by decide⟩) (Nat.le_of_ble_eq_true rfl) (Nat.le_of_ble_eq_true rfl)) hZ w80 w59 (by decide) (by decide)) (g := (mkF m 20 #[rv a1, iv 2, iv 4, rv bv_278, iv 2] [(.int c2), (.int 2), (.ref bv_278)])) rfl (by rw [hml]; rfl) (argsL := [(.ref bv_278), (.int 2), (.int c2)]) (rest := []) (lenOf own_pd3 rfl) rfl (by show 2 * 0 + _ ≤ _; exact Nat.le_of_eq rfl) (hb hby d6_20) (fun _ hWq => ⟨rfl, rfl, (by decide : 1 + 0 ≤ _), (by decide : 8 + 0 ≤ _)⟩)
  dsimp only [Pt.U, Pt.locs, Pt.cells, Pt.slots] at X289 l289 y289 z289 st289 hQ289
  subst y289 z289
  obtain ⟨rfl, N289q, K289c, f289_0⟩ := hQ289
  have N289 : Fr n0 L289 := by rw [l289]; exact Fr.app N285 N289q
  refine sT st289 ?_
  have K290 : Keep h0 T289.heap [] := K286.trans K289c (allS (Or.inr sz_bv_278) all0)
  show gM T289 23 #[rv a1, iv 2, iv 4, rv bv_278, iv 2] []
  have V291 : Arv Z T289.heap bv_278 kb_278 .byte (8 : Int32) (([((c0 >>> ((0 : Int32) &&& 31)).toInt8.toInt32), ((c0 >>> ((8 : Int32) &&& 31)).toInt8.toInt32), ((c1 >>> ((0 : Int32) &&& 31)).toInt8.toInt32), ((c1 >>> ((8 : Int32) &&& 31)).toInt8.toInt32), ((c2 >>> ((0 : Int32) &&& 31)).toInt8.toInt32), ((c2 >>> ((8 : Int32) &&& 31)).toInt8.toInt32), 0, 0] : List Int32).map Value.int) (Value.int 0) := f289_0
  refine sT (fun t k => XS.iinc X289.here hx rfl (hb hby d6_23) rfl (l' := #[rv a1, iv 3, iv 4, rv bv_278, iv 2]) rfl k) ?_
  show gM T289 26 #[rv a1, iv 3, iv 4, rv bv_278, iv 2] []
  refine sT (fun t k => XS.iinc X289.here hx rfl (hb hby d6_26) rfl (l' := #[rv a1, iv 3, iv 4, rv bv_278, iv 3]) rfl k) ?_
  show gM T289 29 #[rv a1, iv 3, iv 4, rv bv_278, iv 3] []
  refine sT (fun t k => XS.goto X289.here hx rfl (pc0 := 29) (pc' := 8) rfl (hb hby d6_29) (by decide) (by decide) k) ?_
  show gM T289 8 #[rv a1, iv 3, iv 4, rv bv_278, iv 3] []
  refine sT (fun t k => XS.iload X289.here hx rfl (hb hby d6_8) rfl k) ?_
  show gM T289 10 #[rv a1, iv 3, iv 4, rv bv_278, iv 3] [(.int 3)]
  refine sT (fun t k => XS.iloadN X289.here hx rfl (hb hby d6_10) rfl k) ?_
  show gM T289 11 #[rv a1, iv 3, iv 4, rv bv_278, iv 3] [(.int 4), (.int 3)]
  have hc292 : (3 : Int32) < (4 : Int32) := by decide
  refine sT (fun t k => XS.icmpNo X289.here hx rfl (hb hby d6_11) rfl (tlt hc292).2.1 k) ?_
  show gM T289 14 #[rv a1, iv 3, iv 4, rv bv_278, iv 3] []
  refine sT (fun t k => XS.aloadN X289.here hx rfl (hb hby d6_14) rfl rfl k) ?_
  show gM T289 15 #[rv a1, iv 3, iv 4, rv bv_278, iv 3] [(.ref bv_278)]
  refine sT (fun t k => XS.iload X289.here hx rfl (hb hby d6_15) rfl k) ?_
  show gM T289 17 #[rv a1, iv 3, iv 4, rv bv_278, iv 3] [(.int 3), (.ref bv_278)]
  refine sT (fun t k => XS.aloadN X289.here hx rfl (hb hby d6_17) rfl rfl k) ?_
  show gM T289 18 #[rv a1, iv 3, iv 4, rv bv_278, iv 3] [(.ref a1), (.int 3), (.ref bv_278)]
  refine sT (fun t k => XS.iloadN X289.here hx rfl (hb hby d6_18) rfl k) ?_
  show gM T289 19 #[rv a1, iv 3, iv 4, rv bv_278, iv 3] [(.int 3), (.ref a1), (.int 3), (.ref bv_278)]
  refine sT (fun t k => own_cal X289 hx hZ rfl ((((V_a1.keep K278c nin0).keep K281c (ninS ne_a1_bv_278 nin0)).keep K285c (ninS ne_a1_bv_278 nin0)).keep K289c (ninS ne_a1_bv_278 nin0)) ⟨by decide, by decide⟩ (g := (mkF m 19 #[rv a1, iv 3, iv 4, rv bv_278, iv 3] [(.int 3), (.ref a1), (.int 3), (.ref bv_278)])) rfl rfl (hb hby d6_19) _ k) ?_
  show gM T289 20 #[rv a1, iv 3, iv 4, rv bv_278, iv 3] [(.int c3), (.int 3), (.ref bv_278)]
  obtain ⟨_, _, ⟨T293, L293, k293, n293⟩, -, X293, ⟨Lc293, hQ293, l293, y293, z293⟩, st293⟩ := Jvm.LawKit.callS X289 hx (y := mN4) hown (mvT hZ w78) (mvT hZ w79) (mvT hZ w59) (mvT hZ w80) (by decide) (backOf (W := 0) (own_pc l Z a0 hw [] bv_278 (3 : Int32) c3 ((8 : Int32)) (([((c0 >>> ((0 : Int32) &&& 31)).toInt8.toInt32), ((c0 >>> ((8 : Int32) &&& 31)).toInt8.toInt32), ((c1 >>> ((0 : Int32) &&& 31)).toInt8.toInt32), ((c1 >>> ((8 : Int32) &&& 31)).toInt8.toInt32), ((c2 >>> ((0 : Int32) &&& 31)).toInt8.toInt32), ((c2 >>> ((8 : Int32) &&& 31)).toInt8.toInt32), 0, 0] : List Int32)) (kb_278) T289.heap n0 (Nat.le_trans (Nat.le_trans (Nat.le_trans (Nat.le_trans Z0 K278c.1) K281c.1) K285c.1) K289c.1) S__assertionsDisabled S_HI_BYTE_SHIFT S_LO_BYTE_SHIFT Zn ((((O0.keep K278c all0).keep K281c (allS (Nat.le_trans Zn g_bv_278) all0)).keep K285c (allS (Nat.le_trans Zn g_bv_278) all0)).keep K289c (allS (Nat.le_trans Zn g_bv_278) all0)).2 V291 g_bv_278 (⟨by decide, by decide⟩) (⟨by decide, by decide⟩) (Nat.le_of_ble_eq_true rfl) (Nat.le_of_ble_eq_true rfl)) hZ w80 w59 (by decide) (by decide)) (g := (mkF m 20 #[rv a1, iv 3, iv 4, rv bv_278, iv 3] [(.int c3), (.int 3), (.ref bv_278)])) rfl (by rw [hml]; rfl) (argsL := [(.ref bv_278), (.int 3), (.int c3)]) (rest := []) (lenOf own_pd3 rfl) rfl (by show 2 * 0 + _ ≤ _; exact Nat.le_of_eq rfl) (hb hby d6_20) (fun _ hWq => ⟨rfl, rfl, (by decide : 1 + 0 ≤ _), (by decide : 8 + 0 ≤ _)⟩)
  dsimp only [Pt.U, Pt.locs, Pt.cells, Pt.slots] at X293 l293 y293 z293 st293 hQ293
  subst y293 z293
  obtain ⟨rfl, N293q, K293c, f293_0⟩ := hQ293
  have N293 : Fr n0 L293 := by rw [l293]; exact Fr.app N289 N293q
  refine sT st293 ?_
  have K294 : Keep h0 T293.heap [] := K290.trans K293c (allS (Or.inr sz_bv_278) all0)
  show gM T293 23 #[rv a1, iv 3, iv 4, rv bv_278, iv 3] []
  have V295 : Arv Z T293.heap bv_278 kb_278 .byte (8 : Int32) (([((c0 >>> ((0 : Int32) &&& 31)).toInt8.toInt32), ((c0 >>> ((8 : Int32) &&& 31)).toInt8.toInt32), ((c1 >>> ((0 : Int32) &&& 31)).toInt8.toInt32), ((c1 >>> ((8 : Int32) &&& 31)).toInt8.toInt32), ((c2 >>> ((0 : Int32) &&& 31)).toInt8.toInt32), ((c2 >>> ((8 : Int32) &&& 31)).toInt8.toInt32), ((c3 >>> ((0 : Int32) &&& 31)).toInt8.toInt32), ((c3 >>> ((8 : Int32) &&& 31)).toInt8.toInt32)] : List Int32).map Value.int) (Value.int 0) := f293_0
  refine sT (fun t k => XS.iinc X293.here hx rfl (hb hby d6_23) rfl (l' := #[rv a1, iv 4, iv 4, rv bv_278, iv 3]) rfl k) ?_
  show gM T293 26 #[rv a1, iv 4, iv 4, rv bv_278, iv 3] []
  refine sT (fun t k => XS.iinc X293.here hx rfl (hb hby d6_26) rfl (l' := #[rv a1, iv 4, iv 4, rv bv_278, iv 4]) rfl k) ?_
  show gM T293 29 #[rv a1, iv 4, iv 4, rv bv_278, iv 4] []
  refine sT (fun t k => XS.goto X293.here hx rfl (pc0 := 29) (pc' := 8) rfl (hb hby d6_29) (by decide) (by decide) k) ?_
  show gM T293 8 #[rv a1, iv 4, iv 4, rv bv_278, iv 4] []
  refine sT (fun t k => XS.iload X293.here hx rfl (hb hby d6_8) rfl k) ?_
  show gM T293 10 #[rv a1, iv 4, iv 4, rv bv_278, iv 4] [(.int 4)]
  refine sT (fun t k => XS.iloadN X293.here hx rfl (hb hby d6_10) rfl k) ?_
  show gM T293 11 #[rv a1, iv 4, iv 4, rv bv_278, iv 4] [(.int 4), (.int 4)]
  have hc296 : ¬ ((4 : Int32) < (4 : Int32)) := by decide
  refine sT (fun t k => XS.icmpYes X293.here hx rfl (pc0 := 11) (pc' := 32) rfl (hb hby d6_11) rfl (flt hc296).2.1 (by decide) (by decide) k) ?_
  show gM T293 32 #[rv a1, iv 4, iv 4, rv bv_278, iv 4] []
  refine sT (fun t k => XS.aloadN X293.here hx rfl (hb hby d6_32) rfl rfl k) ?_
  show gM T293 33 #[rv a1, iv 4, iv 4, rv bv_278, iv 4] [(.ref bv_278)]
  refine own_retV X293 hx hlk Bd.returns (w := (.ref bv_278)) rfl (Or.inr (Or.inr (Or.inr (Or.inr ⟨rfl, rfl, rfl⟩)))) (hb hby d6_33) ?_ (by decide) (by decide)
  show own_tb4_Q Z a1 c0 c1 c2 c3 ka h0 n0 _ T293.heap _
  exact ⟨bv_278, kb_278, rfl, N293, K294, sz_bv_278, V295⟩
theorem own_ci4_ef (m : MethodId) (a1 : Addr) (a2 : Addr) : entryFrame m #[(.ref a1), (.int 0), (.ref a2), (.int 0), (.int 4)] 7 = mkF m 0 #[rv a1, iv 0, rv a2, iv 0, iv 4, uN, uN] [] := by first | (simp [entryFrame, mkF, argsToLocals, Value.category]; done) | rfl
def own_ci4_Q (Z : State) (a1 : Addr) (a2 : Addr) (c0 : Int32) (c1 : Int32) (c2 : Int32) (c3 : Int32) (ka : ClassId) (kb : ClassId) (h0 : Heap) (n0 : Nat) (v : Option Value) (h : Heap) (L : List Loc) : Prop := ∃ r : Int32, ∃ ys : List Int32, v = some (.int r) ∧ Fr n0 L ∧ Keep h0 h [a2] ∧ Arv Z h a2 kb .byte (4 : Int32) (ys.map Value.int) (Value.int 0) ∧ ((r = (4 : Int32) ∧ ys = ([(c0.toInt8.toInt32), (c1.toInt8.toInt32), (c2.toInt8.toInt32), (c3.toInt8.toInt32)] : List Int32) ∧ ¬ (255 : Int32) < c0 ∧ ¬ (255 : Int32) < c1 ∧ ¬ (255 : Int32) < c2 ∧ ¬ (255 : Int32) < c3) ∨ (r = (0 : Int32) ∧ (255 : Int32) < c0) ∨ (r = (1 : Int32) ∧ (255 : Int32) < c1) ∨ (r = (2 : Int32) ∧ (255 : Int32) < c2) ∨ (r = (3 : Int32) ∧ (255 : Int32) < c3))
set_option maxRecDepth 65536 in
set_option maxHeartbeats 40000000 in
theorem own_ci4 (l : Launch) (Z : State) (a0 : Array Value) (hw : ∀ d ∈ tables_1, d.before a0 Z = true) (ws : List Jvm.Cond) (a1 : Addr) (a2 : Addr) (c0 : Int32) (c1 : Int32) (c2 : Int32) (c3 : Int32) (ka : ClassId) (kb : ClassId) (h0 : Heap) (n0 : Nat) (Z0 : n0 ≤ h0.size) (V_a1 : Arv Z h0 a1 ka .char (4 : Int32) (([c0, c1, c2, c3] : List Int32).map Value.int) (Value.int 0)) (V_a2 : Arv Z h0 a2 kb .byte (4 : Int32) (([0, 0, 0, 0] : List Int32).map Value.int) (Value.int 0)) (g_a2 : n0 ≤ a2) (ne_a1_a2 : a1 ≠ a2) :
    MetFree l mN7 (head1 (Jvm.Cond.code mN7 jdk_52_method_21_code 7 (some .int) :: ws) ({ frames := 0, cells := 0, slots := 0, locals := 0 } : Room)) (fun aa U => aa = #[(.ref a1), (.int 0), (.ref a2), (.int 0), (.int 4)] ∧ Z.Warmed39 U.vm ∧ U.heap = h0) (fun _ _ _ _ _ => True) (fun _ U o U' => ∃ v L, o = .returned v ∧ own_ci4_Q Z a1 a2 c0 c1 c2 c3 ka kb h0 n0 v U'.heap L ∧ FrameEnd U o U' L ({ frames := 0, cells := 0, slots := 0, locals := 0 } : Room).cells ({ frames := 0, cells := 0, slots := 0, locals := 0 } : Room).slots) := by
  refine MetFree.of_bodySF (plainFor_of_name own_pn1) hisR ?_
  intro p e s m args below meth c s₁ Bd hml0 hP hK
  obtain ⟨rfl, hZ, hh⟩ := hP
  have hx := Bd.exec
  have hby := Bd.bytes
  have hlk := Bd.notSynchronized
  have hml : c.maxLocals = 7 := hml0
  have hown : s.vm.findClass "java/lang/StringUTF16" = some m.cls := findClass_of_methodNamed Bd.named
  have hnm := (name_of_methodNamed Bd.named Bd.method).1
  have X0 : Stand p l e ({ frames := 0, cells := 0, slots := 0, locals := 0 } : Room) s m #[(.ref a1), (.int 0), (.ref a2), (.int 0), (.int 4)] below meth c s₁ [] 0 0 := Stand.of_body Bd
  have e0 : s₁.heap = h0 := by rw [← hh, Bd.state]; rfl
  have N0 := Fr.nil n0
  have K0 : Keep h0 h0 [a2] := Keep.refl h0 _
  show gS p e below (own_Fin s (own_ci4_Q Z a1 a2 c0 c1 c2 c3 ka kb h0 n0) ({ frames := 0, cells := 0, slots := 0, locals := 0 } : Room).cells ({ frames := 0, cells := 0, slots := 0, locals := 0 } : Room).slots) _
  refine sT (fun t k => castTop (own_ci4_ef m a1 a2) k) ?_
  show gM s₁ 0 #[rv a1, iv 0, rv a2, iv 0, iv 4, uN, uN] []
  refine sT (fun t k => XS.iconst X0.here hx rfl (hb hby d7_0) k) ?_
  show gM s₁ 1 #[rv a1, iv 0, rv a2, iv 0, iv 4, uN, uN] [(.int 0)]
  refine sT (fun t k => XS.istore X0.here hx rfl (hb hby d7_1) rfl (l' := #[rv a1, iv 0, rv a2, iv 0, iv 4, iv 0, uN]) rfl k) ?_
  show gM s₁ 3 #[rv a1, iv 0, rv a2, iv 0, iv 4, iv 0, uN] []
  refine sT (fun t k => XS.iload X0.here hx rfl (hb hby d7_3) rfl k) ?_
  show gM s₁ 5 #[rv a1, iv 0, rv a2, iv 0, iv 4, iv 0, uN] [(.int 0)]
  refine sT (fun t k => XS.iload X0.here hx rfl (hb hby d7_5) rfl k) ?_
  show gM s₁ 7 #[rv a1, iv 0, rv a2, iv 0, iv 4, iv 0, uN] [(.int 4), (.int 0)]
  have hc314 : (0 : Int32) < (4 : Int32) := by decide
  refine sT (fun t k => XS.icmpNo X0.here hx rfl (hb hby d7_7) rfl (tlt hc314).2.1 k) ?_
  show gM s₁ 10 #[rv a1, iv 0, rv a2, iv 0, iv 4, iv 0, uN] []
  refine sT (fun t k => XS.aloadN X0.here hx rfl (hb hby d7_10) rfl rfl k) ?_
  show gM s₁ 11 #[rv a1, iv 0, rv a2, iv 0, iv 4, iv 0, uN] [(.ref a1)]
  refine sT (fun t k => XS.iloadN X0.here hx rfl (hb hby d7_11) rfl k) ?_
  show gM s₁ 12 #[rv a1, iv 0, rv a2, iv 0, iv 4, iv 0, uN] [(.int 0), (.ref a1)]
  refine sT (fun t k => own_cal X0 hx hZ e0 V_a1 ⟨by decide, by decide⟩ (g := (mkF m 12 #[rv a1, iv 0, rv a2, iv 0, iv 4, iv 0, uN] [(.int 0), (.ref a1)])) rfl rfl (hb hby d7_12) _ k) ?_
  show gM s₁ 13 #[rv a1, iv 0, rv a2, iv 0, iv 4, iv 0, uN] [(.int c0)]
  refine sT (fun t k => XS.istore X0.here hx rfl (hb hby d7_13) rfl (l' := #[rv a1, iv 0, rv a2, iv 0, iv 4, iv 0, iv c0]) rfl k) ?_
  show gM s₁ 15 #[rv a1, iv 0, rv a2, iv 0, iv 4, iv 0, iv c0] []
  refine sT (fun t k => XS.iload X0.here hx rfl (hb hby d7_15) rfl k) ?_
  show gM s₁ 17 #[rv a1, iv 0, rv a2, iv 0, iv 4, iv 0, iv c0] [(.int c0)]
  refine sT (fun t k => XS.sipush X0.here hx rfl (hb hby d7_17) k) ?_
  show gM s₁ 20 #[rv a1, iv 0, rv a2, iv 0, iv 4, iv 0, iv c0] [(.int 255), (.int c0)]
  by_cases hc315 : (255 : Int32) < c0
  · --
   refine sT (fun t k => XS.icmpNo X0.here hx rfl (hb hby d7_20) rfl (tlt hc315).2.2.2 k) ?_
   show gM s₁ 23 #[rv a1, iv 0, rv a2, iv 0, iv 4, iv 0, iv c0] []
   refine sT (fun t k => XS.iload X0.here hx rfl (hb hby d7_23) rfl k) ?_
   show gM s₁ 25 #[rv a1, iv 0, rv a2, iv 0, iv 4, iv 0, iv c0] [(.int 0)]
   refine own_retV X0 hx hlk Bd.returns (w := (.int 0)) rfl (Or.inl ⟨rfl, Or.inl rfl, _, rfl⟩) (hb hby d7_25) ?_ (by decide) (by decide)
   show own_ci4_Q Z a1 a2 c0 c1 c2 c3 ka kb h0 n0 _ s₁.heap _
   rw [e0]
   exact ⟨(0 : Int32), ([0, 0, 0, 0] : List Int32), rfl, N0, K0, V_a2, (Or.inr (Or.inl ⟨rfl, hc315⟩))⟩
  · --
   refine sT (fun t k => XS.icmpYes X0.here hx rfl (pc0 := 20) (pc' := 26) rfl (hb hby d7_20) rfl (flt hc315).2.2.2 (by decide) (by decide) k) ?_
   show gM s₁ 26 #[rv a1, iv 0, rv a2, iv 0, iv 4, iv 0, iv c0] []
   refine sT (fun t k => XS.aloadN X0.here hx rfl (hb hby d7_26) rfl rfl k) ?_
   show gM s₁ 27 #[rv a1, iv 0, rv a2, iv 0, iv 4, iv 0, iv c0] [(.ref a2)]
   refine sT (fun t k => XS.iloadN X0.here hx rfl (hb hby d7_27) rfl k) ?_
   show gM s₁ 28 #[rv a1, iv 0, rv a2, iv 0, iv 4, iv 0, iv c0] [(.int 0), (.ref a2)]
   refine sT (fun t k => XS.iload X0.here hx rfl (hb hby d7_28) rfl k) ?_
   show gM s₁ 30 #[rv a1, iv 0, rv a2, iv 0, iv 4, iv 0, iv c0] [(.int c0), (.int 0), (.ref a2)]
   refine sT (fun t k => XS.i2b X0.here hx rfl (hb hby d7_30) rfl k) ?_
   show gM s₁ 31 #[rv a1, iv 0, rv a2, iv 0, iv 4, iv 0, iv c0] [(.int (c0.toInt8.toInt32)), (.int 0), (.ref a2)]
   obtain ⟨T316, h316, X316, e316, W316, V316, st316⟩ := own_bst X0 hx hZ e0 V_a2 (j := (0 : Int32)) (own_i8 _) ⟨by decide, by decide⟩ (0) rfl (Nat.le_of_ble_eq_true rfl) (g := (mkF m 31 #[rv a1, iv 0, rv a2, iv 0, iv 4, iv 0, iv c0] [(.int (c0.toInt8.toInt32)), (.int 0), (.ref a2)])) rfl rfl (hb hby d7_31)
   have V316 : Arv Z h316 a2 kb .byte (4 : Int32) (([(c0.toInt8.toInt32), 0, 0, 0] : List Int32).map Value.int) (Value.int 0) := V316
   have N316 := Fr.snoc X316 N0 g_a2
   have K317 : Keep h0 h316 [a2] := K0.wr W316 (Or.inl (List.mem_of_getElem? (i := 0) rfl))
   refine sT st316 ?_
   show gM T316 32 #[rv a1, iv 0, rv a2, iv 0, iv 4, iv 0, iv c0] []
   refine sT (fun t k => XS.iinc X316.here hx rfl (hb hby d7_32) rfl (l' := #[rv a1, iv 1, rv a2, iv 0, iv 4, iv 0, iv c0]) rfl k) ?_
   show gM T316 35 #[rv a1, iv 1, rv a2, iv 0, iv 4, iv 0, iv c0] []
   refine sT (fun t k => XS.iinc X316.here hx rfl (hb hby d7_35) rfl (l' := #[rv a1, iv 1, rv a2, iv 1, iv 4, iv 0, iv c0]) rfl k) ?_
   show gM T316 38 #[rv a1, iv 1, rv a2, iv 1, iv 4, iv 0, iv c0] []
   refine sT (fun t k => XS.iinc X316.here hx rfl (hb hby d7_38) rfl (l' := #[rv a1, iv 1, rv a2, iv 1, iv 4, iv 1, iv c0]) rfl k) ?_
   show gM T316 41 #[rv a1, iv 1, rv a2, iv 1, iv 4, iv 1, iv c0] []
   refine sT (fun t k => XS.goto X316.here hx rfl (pc0 := 41) (pc' := 3) rfl (hb hby d7_41) (by decide) (by decide) k) ?_
   show gM T316 3 #[rv a1, iv 1, rv a2, iv 1, iv 4, iv 1, iv c0] []
   refine sT (fun t k => XS.iload X316.here hx rfl (hb hby d7_3) rfl k) ?_
   show gM T316 5 #[rv a1, iv 1, rv a2, iv 1, iv 4, iv 1, iv c0] [(.int 1)]
   refine sT (fun t k => XS.iload X316.here hx rfl (hb hby d7_5) rfl k) ?_
   show gM T316 7 #[rv a1, iv 1, rv a2, iv 1, iv 4, iv 1, iv c0] [(.int 4), (.int 1)]
   have hc318 : (1 : Int32) < (4 : Int32) := by decide
   refine sT (fun t k => XS.icmpNo X316.here hx rfl (hb hby d7_7) rfl (tlt hc318).2.1 k) ?_
   show gM T316 10 #[rv a1, iv 1, rv a2, iv 1, iv 4, iv 1, iv c0] []
   refine sT (fun t k => XS.aloadN X316.here hx rfl (hb hby d7_10) rfl rfl k) ?_
   show gM T316 11 #[rv a1, iv 1, rv a2, iv 1, iv 4, iv 1, iv c0] [(.ref a1)]
   refine sT (fun t k => XS.iloadN X316.here hx rfl (hb hby d7_11) rfl k) ?_
   show gM T316 12 #[rv a1, iv 1, rv a2, iv 1, iv 4, iv 1, iv c0] [(.int 1), (.ref a1)]
   refine sT (fun t k => own_cal X316 hx hZ e316 (V_a1.other W316 ne_a1_a2) ⟨by decide, by decide⟩ (g := (mkF m 12 #[rv a1, iv 1, rv a2, iv 1, iv 4, iv 1, iv c0] [(.int 1), (.ref a1)])) rfl rfl (hb hby d7_12) _ k) ?_
   show gM T316 13 #[rv a1, iv 1, rv a2, iv 1, iv 4, iv 1, iv c0] [(.int c1)]
   refine sT (fun t k => XS.istore X316.here hx rfl (hb hby d7_13) rfl (l' := #[rv a1, iv 1, rv a2, iv 1, iv 4, iv 1, iv c1]) rfl k) ?_
   show gM T316 15 #[rv a1, iv 1, rv a2, iv 1, iv 4, iv 1, iv c1] []
   refine sT (fun t k => XS.iload X316.here hx rfl (hb hby d7_15) rfl k) ?_
   show gM T316 17 #[rv a1, iv 1, rv a2, iv 1, iv 4, iv 1, iv c1] [(.int c1)]
   refine sT (fun t k => XS.sipush X316.here hx rfl (hb hby d7_17) k) ?_
   show gM T316 20 #[rv a1, iv 1, rv a2, iv 1, iv 4, iv 1, iv c1] [(.int 255), (.int c1)]
   by_cases hc319 : (255 : Int32) < c1
   · --
    refine sT (fun t k => XS.icmpNo X316.here hx rfl (hb hby d7_20) rfl (tlt hc319).2.2.2 k) ?_
    show gM T316 23 #[rv a1, iv 1, rv a2, iv 1, iv 4, iv 1, iv c1] []
    refine sT (fun t k => XS.iload X316.here hx rfl (hb hby d7_23) rfl k) ?_
    show gM T316 25 #[rv a1, iv 1, rv a2, iv 1, iv 4, iv 1, iv c1] [(.int 1)]
    refine own_retV X316 hx hlk Bd.returns (w := (.int 1)) rfl (Or.inl ⟨rfl, Or.inl rfl, _, rfl⟩) (hb hby d7_25) ?_ (by decide) (by decide)
    show own_ci4_Q Z a1 a2 c0 c1 c2 c3 ka kb h0 n0 _ T316.heap _
    rw [e316]
    exact ⟨(1 : Int32), ([(c0.toInt8.toInt32), 0, 0, 0] : List Int32), rfl, N316, K317, V316, (Or.inr (Or.inr (Or.inl ⟨rfl, hc319⟩)))⟩
   · --
    refine sT (fun t k => XS.icmpYes X316.here hx rfl (pc0 := 20) (pc' := 26) rfl (hb hby d7_20) rfl (flt hc319).2.2.2 (by decide) (by decide) k) ?_
    show gM T316 26 #[rv a1, iv 1, rv a2, iv 1, iv 4, iv 1, iv c1] []
    refine sT (fun t k => XS.aloadN X316.here hx rfl (hb hby d7_26) rfl rfl k) ?_
    show gM T316 27 #[rv a1, iv 1, rv a2, iv 1, iv 4, iv 1, iv c1] [(.ref a2)]
    refine sT (fun t k => XS.iloadN X316.here hx rfl (hb hby d7_27) rfl k) ?_
    show gM T316 28 #[rv a1, iv 1, rv a2, iv 1, iv 4, iv 1, iv c1] [(.int 1), (.ref a2)]
    refine sT (fun t k => XS.iload X316.here hx rfl (hb hby d7_28) rfl k) ?_
    show gM T316 30 #[rv a1, iv 1, rv a2, iv 1, iv 4, iv 1, iv c1] [(.int c1), (.int 1), (.ref a2)]
    refine sT (fun t k => XS.i2b X316.here hx rfl (hb hby d7_30) rfl k) ?_
    show gM T316 31 #[rv a1, iv 1, rv a2, iv 1, iv 4, iv 1, iv c1] [(.int (c1.toInt8.toInt32)), (.int 1), (.ref a2)]
    obtain ⟨T320, h320, X320, e320, W320, V320, st320⟩ := own_bst X316 hx hZ e316 V316 (j := (1 : Int32)) (own_i8 _) ⟨by decide, by decide⟩ (1) rfl (Nat.le_of_ble_eq_true rfl) (g := (mkF m 31 #[rv a1, iv 1, rv a2, iv 1, iv 4, iv 1, iv c1] [(.int (c1.toInt8.toInt32)), (.int 1), (.ref a2)])) rfl rfl (hb hby d7_31)
    have V320 : Arv Z h320 a2 kb .byte (4 : Int32) (([(c0.toInt8.toInt32), (c1.toInt8.toInt32), 0, 0] : List Int32).map Value.int) (Value.int 0) := V320
    have N320 := Fr.snoc X320 N316 g_a2
    have K321 : Keep h0 h320 [a2] := K317.wr W320 (Or.inl (List.mem_of_getElem? (i := 0) rfl))
    refine sT st320 ?_
    show gM T320 32 #[rv a1, iv 1, rv a2, iv 1, iv 4, iv 1, iv c1] []
    refine sT (fun t k => XS.iinc X320.here hx rfl (hb hby d7_32) rfl (l' := #[rv a1, iv 2, rv a2, iv 1, iv 4, iv 1, iv c1]) rfl k) ?_
    show gM T320 35 #[rv a1, iv 2, rv a2, iv 1, iv 4, iv 1, iv c1] []
    refine sT (fun t k => XS.iinc X320.here hx rfl (hb hby d7_35) rfl (l' := #[rv a1, iv 2, rv a2, iv 2, iv 4, iv 1, iv c1]) rfl k) ?_
    show gM T320 38 #[rv a1, iv 2, rv a2, iv 2, iv 4, iv 1, iv c1] []
    refine sT (fun t k => XS.iinc X320.here hx rfl (hb hby d7_38) rfl (l' := #[rv a1, iv 2, rv a2, iv 2, iv 4, iv 2, iv c1]) rfl k) ?_
    show gM T320 41 #[rv a1, iv 2, rv a2, iv 2, iv 4, iv 2, iv c1] []
    refine sT (fun t k => XS.goto X320.here hx rfl (pc0 := 41) (pc' := 3) rfl (hb hby d7_41) (by decide) (by decide) k) ?_
    show gM T320 3 #[rv a1, iv 2, rv a2, iv 2, iv 4, iv 2, iv c1] []
    refine sT (fun t k => XS.iload X320.here hx rfl (hb hby d7_3) rfl k) ?_
    show gM T320 5 #[rv a1, iv 2, rv a2, iv 2, iv 4, iv 2, iv c1] [(.int 2)]
    refine sT (fun t k => XS.iload X320.here hx rfl (hb hby d7_5) rfl k) ?_
    show gM T320 7 #[rv a1, iv 2, rv a2, iv 2, iv 4, iv 2, iv c1] [(.int 4), (.int 2)]
    have hc322 : (2 : Int32) < (4 : Int32) := by decide
    refine sT (fun t k => XS.icmpNo X320.here hx rfl (hb hby d7_7) rfl (tlt hc322).2.1 k) ?_
    show gM T320 10 #[rv a1, iv 2, rv a2, iv 2, iv 4, iv 2, iv c1] []
    refine sT (fun t k => XS.aloadN X320.here hx rfl (hb hby d7_10) rfl rfl k) ?_
    show gM T320 11 #[rv a1, iv 2, rv a2, iv 2, iv 4, iv 2, iv c1] [(.ref a1)]
    refine sT (fun t k => XS.iloadN X320.here hx rfl (hb hby d7_11) rfl k) ?_
    show gM T320 12 #[rv a1, iv 2, rv a2, iv 2, iv 4, iv 2, iv c1] [(.int 2), (.ref a1)]
    refine sT (fun t k => own_cal X320 hx hZ e320 ((V_a1.other W316 ne_a1_a2).other W320 ne_a1_a2) ⟨by decide, by decide⟩ (g := (mkF m 12 #[rv a1, iv 2, rv a2, iv 2, iv 4, iv 2, iv c1] [(.int 2), (.ref a1)])) rfl rfl (hb hby d7_12) _ k) ?_
    show gM T320 13 #[rv a1, iv 2, rv a2, iv 2, iv 4, iv 2, iv c1] [(.int c2)]
    refine sT (fun t k => XS.istore X320.here hx rfl (hb hby d7_13) rfl (l' := #[rv a1, iv 2, rv a2, iv 2, iv 4, iv 2, iv c2]) rfl k) ?_
    show gM T320 15 #[rv a1, iv 2, rv a2, iv 2, iv 4, iv 2, iv c2] []
    refine sT (fun t k => XS.iload X320.here hx rfl (hb hby d7_15) rfl k) ?_
    show gM T320 17 #[rv a1, iv 2, rv a2, iv 2, iv 4, iv 2, iv c2] [(.int c2)]
    refine sT (fun t k => XS.sipush X320.here hx rfl (hb hby d7_17) k) ?_
    show gM T320 20 #[rv a1, iv 2, rv a2, iv 2, iv 4, iv 2, iv c2] [(.int 255), (.int c2)]
    by_cases hc323 : (255 : Int32) < c2
    · --
     refine sT (fun t k => XS.icmpNo X320.here hx rfl (hb hby d7_20) rfl (tlt hc323).2.2.2 k) ?_
     show gM T320 23 #[rv a1, iv 2, rv a2, iv 2, iv 4, iv 2, iv c2] []
     refine sT (fun t k => XS.iload X320.here hx rfl (hb hby d7_23) rfl k) ?_
     show gM T320 25 #[rv a1, iv 2, rv a2, iv 2, iv 4, iv 2, iv c2] [(.int 2)]
     refine own_retV X320 hx hlk Bd.returns (w := (.int 2)) rfl (Or.inl ⟨rfl, Or.inl rfl, _, rfl⟩) (hb hby d7_25) ?_ (by decide) (by decide)
     show own_ci4_Q Z a1 a2 c0 c1 c2 c3 ka kb h0 n0 _ T320.heap _
     rw [e320]
     exact ⟨(2 : Int32), ([(c0.toInt8.toInt32), (c1.toInt8.toInt32), 0, 0] : List Int32), rfl, N320, K321, V320, (Or.inr (Or.inr (Or.inr (Or.inl ⟨rfl, hc323⟩))))⟩
    · --
     refine sT (fun t k => XS.icmpYes X320.here hx rfl (pc0 := 20) (pc' := 26) rfl (hb hby d7_20) rfl (flt hc323).2.2.2 (by decide) (by decide) k) ?_
     show gM T320 26 #[rv a1, iv 2, rv a2, iv 2, iv 4, iv 2, iv c2] []
     refine sT (fun t k => XS.aloadN X320.here hx rfl (hb hby d7_26) rfl rfl k) ?_
     show gM T320 27 #[rv a1, iv 2, rv a2, iv 2, iv 4, iv 2, iv c2] [(.ref a2)]
     refine sT (fun t k => XS.iloadN X320.here hx rfl (hb hby d7_27) rfl k) ?_
     show gM T320 28 #[rv a1, iv 2, rv a2, iv 2, iv 4, iv 2, iv c2] [(.int 2), (.ref a2)]
     refine sT (fun t k => XS.iload X320.here hx rfl (hb hby d7_28) rfl k) ?_
     show gM T320 30 #[rv a1, iv 2, rv a2, iv 2, iv 4, iv 2, iv c2] [(.int c2), (.int 2), (.ref a2)]
     refine sT (fun t k => XS.i2b X320.here hx rfl (hb hby d7_30) rfl k) ?_
     show gM T320 31 #[rv a1, iv 2, rv a2, iv 2, iv 4, iv 2, iv c2] [(.int (c2.toInt8.toInt32)), (.int 2), (.ref a2)]
     obtain ⟨T324, h324, X324, e324, W324, V324, st324⟩ := own_bst X320 hx hZ e320 V320 (j := (2 : Int32)) (own_i8 _) ⟨by decide, by decide⟩ (2) rfl (Nat.le_of_ble_eq_true rfl) (g := (mkF m 31 #[rv a1, iv 2, rv a2, iv 2, iv 4, iv 2, iv c2] [(.int (c2.toInt8.toInt32)), (.int 2), (.ref a2)])) rfl rfl (hb hby d7_31)
     have V324 : Arv Z h324 a2 kb .byte (4 : Int32) (([(c0.toInt8.toInt32), (c1.toInt8.toInt32), (c2.toInt8.toInt32), 0] : List Int32).map Value.int) (Value.int 0) := V324
     have N324 := Fr.snoc X324 N320 g_a2
     have K325 : Keep h0 h324 [a2] := K321.wr W324 (Or.inl (List.mem_of_getElem? (i := 0) rfl))
     refine sT st324 ?_
     show gM T324 32 #[rv a1, iv 2, rv a2, iv 2, iv 4, iv 2, iv c2] []
     refine sT (fun t k => XS.iinc X324.here hx rfl (hb hby d7_32) rfl (l' := #[rv a1, iv 3, rv a2, iv 2, iv 4, iv 2, iv c2]) rfl k) ?_
     show gM T324 35 #[rv a1, iv 3, rv a2, iv 2, iv 4, iv 2, iv c2] []
     refine sT (fun t k => XS.iinc X324.here hx rfl (hb hby d7_35) rfl (l' := #[rv a1, iv 3, rv a2, iv 3, iv 4, iv 2, iv c2]) rfl k) ?_
     show gM T324 38 #[rv a1, iv 3, rv a2, iv 3, iv 4, iv 2, iv c2] []
     refine sT (fun t k => XS.iinc X324.here hx rfl (hb hby d7_38) rfl (l' := #[rv a1, iv 3, rv a2, iv 3, iv 4, iv 3, iv c2]) rfl k) ?_
     show gM T324 41 #[rv a1, iv 3, rv a2, iv 3, iv 4, iv 3, iv c2] []
     refine sT (fun t k => XS.goto X324.here hx rfl (pc0 := 41) (pc' := 3) rfl (hb hby d7_41) (by decide) (by decide) k) ?_
     show gM T324 3 #[rv a1, iv 3, rv a2, iv 3, iv 4, iv 3, iv c2] []
     refine sT (fun t k => XS.iload X324.here hx rfl (hb hby d7_3) rfl k) ?_
     show gM T324 5 #[rv a1, iv 3, rv a2, iv 3, iv 4, iv 3, iv c2] [(.int 3)]
     refine sT (fun t k => XS.iload X324.here hx rfl (hb hby d7_5) rfl k) ?_
     show gM T324 7 #[rv a1, iv 3, rv a2, iv 3, iv 4, iv 3, iv c2] [(.int 4), (.int 3)]
     have hc326 : (3 : Int32) < (4 : Int32) := by decide
     refine sT (fun t k => XS.icmpNo X324.here hx rfl (hb hby d7_7) rfl (tlt hc326).2.1 k) ?_
     show gM T324 10 #[rv a1, iv 3, rv a2, iv 3, iv 4, iv 3, iv c2] []
     refine sT (fun t k => XS.aloadN X324.here hx rfl (hb hby d7_10) rfl rfl k) ?_
     show gM T324 11 #[rv a1, iv 3, rv a2, iv 3, iv 4, iv 3, iv c2] [(.ref a1)]
     refine sT (fun t k => XS.iloadN X324.here hx rfl (hb hby d7_11) rfl k) ?_
     show gM T324 12 #[rv a1, iv 3, rv a2, iv 3, iv 4, iv 3, iv c2] [(.int 3), (.ref a1)]
     refine sT (fun t k => own_cal X324 hx hZ e324 (((V_a1.other W316 ne_a1_a2).other W320 ne_a1_a2).other W324 ne_a1_a2) ⟨by decide, by decide⟩ (g := (mkF m 12 #[rv a1, iv 3, rv a2, iv 3, iv 4, iv 3, iv c2] [(.int 3), (.ref a1)])) rfl rfl (hb hby d7_12) _ k) ?_
     show gM T324 13 #[rv a1, iv 3, rv a2, iv 3, iv 4, iv 3, iv c2] [(.int c3)]
     refine sT (fun t k => XS.istore X324.here hx rfl (hb hby d7_13) rfl (l' := #[rv a1, iv 3, rv a2, iv 3, iv 4, iv 3, iv c3]) rfl k) ?_
     show gM T324 15 #[rv a1, iv 3, rv a2, iv 3, iv 4, iv 3, iv c3] []
     refine sT (fun t k => XS.iload X324.here hx rfl (hb hby d7_15) rfl k) ?_
     show gM T324 17 #[rv a1, iv 3, rv a2, iv 3, iv 4, iv 3, iv c3] [(.int c3)]
     refine sT (fun t k => XS.sipush X324.here hx rfl (hb hby d7_17) k) ?_
     show gM T324 20 #[rv a1, iv 3, rv a2, iv 3, iv 4, iv 3, iv c3] [(.int 255), (.int c3)]
     by_cases hc327 : (255 : Int32) < c3
     · --
      refine sT (fun t k => XS.icmpNo X324.here hx rfl (hb hby d7_20) rfl (tlt hc327).2.2.2 k) ?_
      show gM T324 23 #[rv a1, iv 3, rv a2, iv 3, iv 4, iv 3, iv c3] []
      refine sT (fun t k => XS.iload X324.here hx rfl (hb hby d7_23) rfl k) ?_
      show gM T324 25 #[rv a1, iv 3, rv a2, iv 3, iv 4, iv 3, iv c3] [(.int 3)]
      refine own_retV X324 hx hlk Bd.returns (w := (.int 3)) rfl (Or.inl ⟨rfl, Or.inl rfl, _, rfl⟩) (hb hby d7_25) ?_ (by decide) (by decide)
      show own_ci4_Q Z a1 a2 c0 c1 c2 c3 ka kb h0 n0 _ T324.heap _
      rw [e324]
      exact ⟨(3 : Int32), ([(c0.toInt8.toInt32), (c1.toInt8.toInt32), (c2.toInt8.toInt32), 0] : List Int32), rfl, N324, K325, V324, (Or.inr (Or.inr (Or.inr (Or.inr ⟨rfl, hc327⟩))))⟩
     · --
      refine sT (fun t k => XS.icmpYes X324.here hx rfl (pc0 := 20) (pc' := 26) rfl (hb hby d7_20) rfl (flt hc327).2.2.2 (by decide) (by decide) k) ?_
      show gM T324 26 #[rv a1, iv 3, rv a2, iv 3, iv 4, iv 3, iv c3] []
      refine sT (fun t k => XS.aloadN X324.here hx rfl (hb hby d7_26) rfl rfl k) ?_
      show gM T324 27 #[rv a1, iv 3, rv a2, iv 3, iv 4, iv 3, iv c3] [(.ref a2)]
      refine sT (fun t k => XS.iloadN X324.here hx rfl (hb hby d7_27) rfl k) ?_
      show gM T324 28 #[rv a1, iv 3, rv a2, iv 3, iv 4, iv 3, iv c3] [(.int 3), (.ref a2)]
      refine sT (fun t k => XS.iload X324.here hx rfl (hb hby d7_28) rfl k) ?_
      show gM T324 30 #[rv a1, iv 3, rv a2, iv 3, iv 4, iv 3, iv c3] [(.int c3), (.int 3), (.ref a2)]
      refine sT (fun t k => XS.i2b X324.here hx rfl (hb hby d7_30) rfl k) ?_
      show gM T324 31 #[rv a1, iv 3, rv a2, iv 3, iv 4, iv 3, iv c3] [(.int (c3.toInt8.toInt32)), (.int 3), (.ref a2)]
      obtain ⟨T328, h328, X328, e328, W328, V328, st328⟩ := own_bst X324 hx hZ e324 V324 (j := (3 : Int32)) (own_i8 _) ⟨by decide, by decide⟩ (3) rfl (Nat.le_of_ble_eq_true rfl) (g := (mkF m 31 #[rv a1, iv 3, rv a2, iv 3, iv 4, iv 3, iv c3] [(.int (c3.toInt8.toInt32)), (.int 3), (.ref a2)])) rfl rfl (hb hby d7_31)
      have V328 : Arv Z h328 a2 kb .byte (4 : Int32) (([(c0.toInt8.toInt32), (c1.toInt8.toInt32), (c2.toInt8.toInt32), (c3.toInt8.toInt32)] : List Int32).map Value.int) (Value.int 0) := V328
      have N328 := Fr.snoc X328 N324 g_a2
      have K329 : Keep h0 h328 [a2] := K325.wr W328 (Or.inl (List.mem_of_getElem? (i := 0) rfl))
      refine sT st328 ?_
      show gM T328 32 #[rv a1, iv 3, rv a2, iv 3, iv 4, iv 3, iv c3] []
      refine sT (fun t k => XS.iinc X328.here hx rfl (hb hby d7_32) rfl (l' := #[rv a1, iv 4, rv a2, iv 3, iv 4, iv 3, iv c3]) rfl k) ?_
      show gM T328 35 #[rv a1, iv 4, rv a2, iv 3, iv 4, iv 3, iv c3] []
      refine sT (fun t k => XS.iinc X328.here hx rfl (hb hby d7_35) rfl (l' := #[rv a1, iv 4, rv a2, iv 4, iv 4, iv 3, iv c3]) rfl k) ?_
      show gM T328 38 #[rv a1, iv 4, rv a2, iv 4, iv 4, iv 3, iv c3] []
      refine sT (fun t k => XS.iinc X328.here hx rfl (hb hby d7_38) rfl (l' := #[rv a1, iv 4, rv a2, iv 4, iv 4, iv 4, iv c3]) rfl k) ?_
      show gM T328 41 #[rv a1, iv 4, rv a2, iv 4, iv 4, iv 4, iv c3] []
      refine sT (fun t k => XS.goto X328.here hx rfl (pc0 := 41) (pc' := 3) rfl (hb hby d7_41) (by decide) (by decide) k) ?_
      show gM T328 3 #[rv a1, iv 4, rv a2, iv 4, iv 4, iv 4, iv c3] []
      refine sT (fun t k => XS.iload X328.here hx rfl (hb hby d7_3) rfl k) ?_
      show gM T328 5 #[rv a1, iv 4, rv a2, iv 4, iv 4, iv 4, iv c3] [(.int 4)]
      refine sT (fun t k => XS.iload X328.here hx rfl (hb hby d7_5) rfl k) ?_
      show gM T328 7 #[rv a1, iv 4, rv a2, iv 4, iv 4, iv 4, iv c3] [(.int 4), (.int 4)]
      have hc330 : ¬ ((4 : Int32) < (4 : Int32)) := by decide
      refine sT (fun t k => XS.icmpYes X328.here hx rfl (pc0 := 7) (pc' := 44) rfl (hb hby d7_7) rfl (flt hc330).2.1 (by decide) (by decide) k) ?_
      show gM T328 44 #[rv a1, iv 4, rv a2, iv 4, iv 4, iv 4, iv c3] []
      refine sT (fun t k => XS.iload X328.here hx rfl (hb hby d7_44) rfl k) ?_
      show gM T328 46 #[rv a1, iv 4, rv a2, iv 4, iv 4, iv 4, iv c3] [(.int 4)]
      refine own_retV X328 hx hlk Bd.returns (w := (.int 4)) rfl (Or.inl ⟨rfl, Or.inl rfl, _, rfl⟩) (hb hby d7_46) ?_ (by decide) (by decide)
      show own_ci4_Q Z a1 a2 c0 c1 c2 c3 ka kb h0 n0 _ T328.heap _
      rw [e328]
      exact ⟨(4 : Int32), ([(c0.toInt8.toInt32), (c1.toInt8.toInt32), (c2.toInt8.toInt32), (c3.toInt8.toInt32)] : List Int32), rfl, N328, K329, V328, (Or.inl ⟨rfl, rfl, hc315, hc319, hc323, hc327⟩)⟩
theorem own_co4_ef (m : MethodId) (a1 : Addr) : entryFrame m #[(.ref a1), (.int 0), (.int 4)] 6 = mkF m 0 #[rv a1, iv 0, iv 4, uN, uN, uN] [] := by first | (simp [entryFrame, mkF, argsToLocals, Value.category]; done) | rfl
def own_co4_Q (Z : State) (a1 : Addr) (c0 : Int32) (c1 : Int32) (c2 : Int32) (c3 : Int32) (ka : ClassId) (h0 : Heap) (n0 : Nat) (v : Option Value) (h : Heap) (L : List Loc) : Prop := ∃ bv : Addr, ∃ kb : ClassId, ∃ zl : Int32, ∃ ys : List Int32, v = some (.ref bv) ∧ Fr n0 L ∧ Keep h0 h [] ∧ h0.size ≤ bv ∧ Arv Z h bv kb .byte zl (ys.map Value.int) (Value.int 0) ∧ ((zl = (4 : Int32) ∧ ys = ([(c0.toInt8.toInt32), (c1.toInt8.toInt32), (c2.toInt8.toInt32), (c3.toInt8.toInt32)] : List Int32) ∧ ¬ (255 : Int32) < c0 ∧ ¬ (255 : Int32) < c1 ∧ ¬ (255 : Int32) < c2 ∧ ¬ (255 : Int32) < c3) ∨ (zl = (8 : Int32) ∧ ((255 : Int32) < c0 ∨ (255 : Int32) < c1 ∨ (255 : Int32) < c2 ∨ (255 : Int32) < c3)))
set_option maxRecDepth 65536 in
set_option maxHeartbeats 40000000 in
theorem own_co4 (l : Launch) (Z : State) (a0 : Array Value) (hw : ∀ d ∈ tables_1, d.before a0 Z = true) (ws : List Jvm.Cond) (a1 : Addr) (c0 : Int32) (c1 : Int32) (c2 : Int32) (c3 : Int32) (ka : ClassId) (h0 : Heap) (n0 : Nat) (Z0 : n0 ≤ h0.size) (S__assertionsDisabled : Sta Z Z.heap "java/lang/StringUTF16" "$assertionsDisabled" "Z" (.int 1)) (S_HI_BYTE_SHIFT : Sta Z Z.heap "java/lang/StringUTF16" "HI_BYTE_SHIFT" "I" (.int 0)) (S_LO_BYTE_SHIFT : Sta Z Z.heap "java/lang/StringUTF16" "LO_BYTE_SHIFT" "I" (.int 8)) (Zn : Z.heap.size ≤ n0) (EZ : Ext Z.heap h0) (V_a1 : Arv Z h0 a1 ka .char (4 : Int32) (([c0, c1, c2, c3] : List Int32).map Value.int) (Value.int 0)) (hN0 : nar .char c0 = c0) (hN1 : nar .char c1 = c1) (hN2 : nar .char c2 = c2) (hN3 : nar .char c3 = c3) :
    MetFree l mN8 (head1 (Jvm.Cond.code mN8 jdk_52_method_16_code 6 (some (.array .byte)) :: ws) ({ frames := 3, cells := 2, slots := 12, locals := 40 } : Room)) (fun aa U => aa = #[(.ref a1), (.int 0), (.int 4)] ∧ Z.Warmed39 U.vm ∧ U.heap = h0) (fun _ _ _ _ _ => True) (fun _ U o U' => ∃ v L, o = .returned v ∧ own_co4_Q Z a1 c0 c1 c2 c3 ka h0 n0 v U'.heap L ∧ FrameEnd U o U' L ({ frames := 3, cells := 2, slots := 12, locals := 40 } : Room).cells ({ frames := 3, cells := 2, slots := 12, locals := 40 } : Room).slots) := by
  refine MetFree.of_bodySF (plainFor_of_name own_pn1) hisR ?_
  have w27 := wO hw 27 rfl
  have w59 := wO hw 59 rfl
  have w61 := wO hw 61 rfl
  have w62 := wO hw 62 rfl
  have w63 := wO hw 63 rfl
  have w68 := wO hw 68 rfl
  have w69 := wO hw 69 rfl
  have w70 := wO hw 70 rfl
  have w84 := wO hw 84 rfl
  have w85 := wO hw 85 rfl
  have w86 := wO hw 86 rfl
  intro p e s m args below meth c s₁ Bd hml0 hP hK
  obtain ⟨rfl, hZ, hh⟩ := hP
  have hx := Bd.exec
  have hby := Bd.bytes
  have hlk := Bd.notSynchronized
  have hml : c.maxLocals = 6 := hml0
  have hown : s.vm.findClass "java/lang/StringUTF16" = some m.cls := findClass_of_methodNamed Bd.named
  have hnm := (name_of_methodNamed Bd.named Bd.method).1
  have X0 : Stand p l e ({ frames := 3, cells := 2, slots := 12, locals := 40 } : Room) s m #[(.ref a1), (.int 0), (.int 4)] below meth c s₁ [] 0 0 := Stand.of_body Bd
  have e0 : s₁.heap = h0 := by rw [← hh, Bd.state]; rfl
  have N0 := Fr.nil n0
  have K0 : Keep h0 h0 [] := Keep.refl h0 _
  have O0 : Old Z Z.heap.size h0 := ⟨rfl, EZ⟩
  show gS p e below (own_Fin s (own_co4_Q Z a1 c0 c1 c2 c3 ka h0 n0) ({ frames := 3, cells := 2, slots := 12, locals := 40 } : Room).cells ({ frames := 3, cells := 2, slots := 12, locals := 40 } : Room).slots) _
  refine sT (fun t k => castTop (own_co4_ef m a1) k) ?_
  show gM s₁ 0 #[rv a1, iv 0, iv 4, uN, uN, uN] []
  refine sT (fun t k => XS.iloadN X0.here hx rfl (hb hby d8_0) rfl k) ?_
  show gM s₁ 1 #[rv a1, iv 0, iv 4, uN, uN, uN] [(.int 4)]
  obtain ⟨T341, h341, k341, X341, e341, E341, A341, st341⟩ := newP (aty := .byte) X0 hx hZ w27 e0 (g := (mkF m 1 #[rv a1, iv 0, iv 4, uN, uN, uN] [(.int 4)])) rfl (hb hby d8_1) rfl (by decide) (cap := 4) (by decide) (by decide) (by decide) (by decide)
  obtain ⟨b341, g341⟩ : ∃ z, z = h0.size := ⟨_, rfl⟩
  rw [← g341] at A341 st341
  have ne_a1_b341 : a1 ≠ b341 := Nat.ne_of_lt (Nat.lt_of_lt_of_le V_a1.lt (Nat.le_of_eq g341.symm))
  have g_b341 : n0 ≤ b341 := Nat.le_trans Z0 (Nat.le_of_eq g341.symm)
  have sz_b341 : h0.size ≤ b341 := Nat.le_trans K0.1 (Nat.le_of_eq g341.symm)
  have V341 : Arv Z h341 b341 k341 .byte (4 : Int32) (([0, 0, 0, 0] : List Int32).map Value.int) (Value.int 0) := own_newB A341 (by decide) 4
  have K342 : Keep h0 h341 [] := K0.ext E341
  refine sT st341 ?_
  show gM T341 3 #[rv a1, iv 0, iv 4, uN, uN, uN] [(.ref b341)]
  refine sT (fun t k => XS.astoreN X341.here hx rfl (hb hby d8_3) rfl rfl (l' := #[rv a1, iv 0, iv 4, rv b341, uN, uN]) rfl k) ?_
  show gM T341 4 #[rv a1, iv 0, iv 4, rv b341, uN, uN] []
  refine sT (fun t k => XS.aloadN X341.here hx rfl (hb hby d8_4) rfl rfl k) ?_
  show gM T341 5 #[rv a1, iv 0, iv 4, rv b341, uN, uN] [(.ref a1)]
  refine sT (fun t k => XS.iloadN X341.here hx rfl (hb hby d8_5) rfl k) ?_
  show gM T341 6 #[rv a1, iv 0, iv 4, rv b341, uN, uN] [(.int 0), (.ref a1)]
  refine sT (fun t k => XS.aloadN X341.here hx rfl (hb hby d8_6) rfl rfl k) ?_
  show gM T341 7 #[rv a1, iv 0, iv 4, rv b341, uN, uN] [(.ref b341), (.int 0), (.ref a1)]
  refine sT (fun t k => XS.iconst X341.here hx rfl (hb hby d8_7) k) ?_
  show gM T341 8 #[rv a1, iv 0, iv 4, rv b341, uN, uN] [(.int 0), (.ref b341), (.int 0), (.ref a1)]
  refine sT (fun t k => XS.iloadN X341.here hx rfl (hb hby d8_8) rfl k) ?_
  show gM T341 9 #[rv a1, iv 0, iv 4, rv b341, uN, uN] [(.int 4), (.int 0), (.ref b341), (.int 0), (.ref a1)]
  obtain ⟨_, _, ⟨T343, L343, k343, n343⟩, -, X343, ⟨Lc343, hQ343, l343, y343, z343⟩, st343⟩ := Jvm.LawKit.callS X341 hx (y := mN7) hown (mvT hZ w61) (mvT hZ w62) (mvT hZ w59) (mvT hZ w63) (by decide) (backOf (W := 0) (own_ci4 l Z a0 hw [] a1 b341 (c0) (c1) (c2) (c3) (ka) (k341) h341 n0 (Nat.le_trans Z0 E341.1) (V_a1.ext E341) V341 g_b341 ne_a1_b341) hZ w63 w59 (by decide) (by decide)) (g := (mkF m 9 #[rv a1, iv 0, iv 4, rv b341, uN, uN] [(.int 4), (.int 0), (.ref b341), (.int 0), (.ref a1)])) rfl (by rw [hml]; rfl) (argsL := [(.ref a1), (.int 0), (.ref b341), (.int 0), (.int 4)]) (rest := []) (lenOf own_pd4 rfl) rfl (by show 2 * 0 + _ ≤ _; exact Nat.le_of_eq rfl) (hb hby d8_9) (fun _ hWq => ⟨rfl, e341, (by decide : 1 + 0 ≤ _), (by decide : 4 + 0 ≤ _)⟩)
  dsimp only [Pt.U, Pt.locs, Pt.cells, Pt.slots] at X343 l343 y343 z343 st343 hQ343
  subst y343 z343
  obtain ⟨r_343, ys_343, rfl, N343q, K343c, f343_0, f343_1⟩ := hQ343
  have N343 : Fr n0 L343 := by rw [l343]; exact Fr.app N0 N343q
  refine sT st343 ?_
  have K344 : Keep h0 T343.heap [] := K342.trans K343c (allS (Or.inr sz_b341) all0)
  show gM T343 12 #[rv a1, iv 0, iv 4, rv b341, uN, uN] [(.int r_343)]
  rcases f343_1 with ⟨rfl, rfl, hle⟩ | hbad
  · --
   show gM T343 12 #[rv a1, iv 0, iv 4, rv b341, uN, uN] [(.int 4)]
   refine sT (fun t k => XS.istore X343.here hx rfl (hb hby d8_12) rfl (l' := #[rv a1, iv 0, iv 4, rv b341, iv 4, uN]) rfl k) ?_
   show gM T343 14 #[rv a1, iv 0, iv 4, rv b341, iv 4, uN] []
   refine sT (fun t k => XS.iload X343.here hx rfl (hb hby d8_14) rfl k) ?_
   show gM T343 16 #[rv a1, iv 0, iv 4, rv b341, iv 4, uN] [(.int 4)]
   refine sT (fun t k => XS.iloadN X343.here hx rfl (hb hby d8_16) rfl k) ?_
   show gM T343 17 #[rv a1, iv 0, iv 4, rv b341, iv 4, uN] [(.int 4), (.int 4)]
   have hc345 : (4 : Int32) = (4 : Int32) := rfl
   refine sT (fun t k => XS.icmpYes X343.here hx rfl (pc0 := 17) (pc' := 57) rfl (hb hby d8_17) rfl (teq hc345).1 (by decide) (by decide) k) ?_
   show gM T343 57 #[rv a1, iv 0, iv 4, rv b341, iv 4, uN] []
   refine sT (fun t k => XS.aloadN X343.here hx rfl (hb hby d8_57) rfl rfl k) ?_
   show gM T343 58 #[rv a1, iv 0, iv 4, rv b341, iv 4, uN] [(.ref b341)]
   refine own_retV X343 hx hlk Bd.returns (w := (.ref b341)) rfl (Or.inr (Or.inr (Or.inr (Or.inr ⟨rfl, rfl, rfl⟩)))) (hb hby d8_58) ?_ (by decide) (by decide)
   show own_co4_Q Z a1 c0 c1 c2 c3 ka h0 n0 _ T343.heap _
   exact ⟨b341, k341, 4, ([(c0.toInt8.toInt32), (c1.toInt8.toInt32), (c2.toInt8.toInt32), (c3.toInt8.toInt32)] : List Int32), rfl, N343, K344, sz_b341, f343_0, (Or.inl ⟨rfl, rfl, hle⟩)⟩
  · --
   have hr : (¬ r_343 = (4 : Int32)) ∧ (¬ (r_343 <<< ((1 : Int32) &&& 31)) < 0 ∧ (r_343 <<< ((1 : Int32) &&& 31)) < (8 : Int32)) ∧ (¬ ((r_343 <<< ((1 : Int32) &&& 31)) + (1 : Int32)) < 0 ∧ ((r_343 <<< ((1 : Int32) &&& 31)) + (1 : Int32)) < (8 : Int32)) ∧ ((255 : Int32) < own_comb (([((c0 >>> ((0 : Int32) &&& 31)).toInt8.toInt32), ((c0 >>> ((8 : Int32) &&& 31)).toInt8.toInt32), ((c1 >>> ((0 : Int32) &&& 31)).toInt8.toInt32), ((c1 >>> ((8 : Int32) &&& 31)).toInt8.toInt32), ((c2 >>> ((0 : Int32) &&& 31)).toInt8.toInt32), ((c2 >>> ((8 : Int32) &&& 31)).toInt8.toInt32), ((c3 >>> ((0 : Int32) &&& 31)).toInt8.toInt32), ((c3 >>> ((8 : Int32) &&& 31)).toInt8.toInt32)] : List Int32).getD (r_343 <<< ((1 : Int32) &&& 31)).toNatClampNeg 0) (([((c0 >>> ((0 : Int32) &&& 31)).toInt8.toInt32), ((c0 >>> ((8 : Int32) &&& 31)).toInt8.toInt32), ((c1 >>> ((0 : Int32) &&& 31)).toInt8.toInt32), ((c1 >>> ((8 : Int32) &&& 31)).toInt8.toInt32), ((c2 >>> ((0 : Int32) &&& 31)).toInt8.toInt32), ((c2 >>> ((8 : Int32) &&& 31)).toInt8.toInt32), ((c3 >>> ((0 : Int32) &&& 31)).toInt8.toInt32), ((c3 >>> ((8 : Int32) &&& 31)).toInt8.toInt32)] : List Int32).getD ((r_343 <<< ((1 : Int32) &&& 31)) + (1 : Int32)).toNatClampNeg 0)) ∧ ((255 : Int32) < c0 ∨ (255 : Int32) < c1 ∨ (255 : Int32) < c2 ∨ (255 : Int32) < c3) := by
    rcases hbad with ⟨rfl, hg⟩ | ⟨rfl, hg⟩ | ⟨rfl, hg⟩ | ⟨rfl, hg⟩
    · exact ⟨by decide, ⟨by decide, by decide⟩, ⟨by decide, by decide⟩, own_gt hN0 hg, (Or.inl hg)⟩
    · exact ⟨by decide, ⟨by decide, by decide⟩, ⟨by decide, by decide⟩, own_gt hN1 hg, (Or.inr (Or.inl hg))⟩
    · exact ⟨by decide, ⟨by decide, by decide⟩, ⟨by decide, by decide⟩, own_gt hN2 hg, (Or.inr (Or.inr (Or.inl hg)))⟩
    · exact ⟨by decide, ⟨by decide, by decide⟩, ⟨by decide, by decide⟩, own_gt hN3 hg, (Or.inr (Or.inr (Or.inr hg)))⟩
   clear hbad
   show gM T343 12 #[rv a1, iv 0, iv 4, rv b341, uN, uN] [(.int r_343)]
   refine sT (fun t k => XS.istore X343.here hx rfl (hb hby d8_12) rfl (l' := #[rv a1, iv 0, iv 4, rv b341, iv r_343, uN]) rfl k) ?_
   show gM T343 14 #[rv a1, iv 0, iv 4, rv b341, iv r_343, uN] []
   refine sT (fun t k => XS.iload X343.here hx rfl (hb hby d8_14) rfl k) ?_
   show gM T343 16 #[rv a1, iv 0, iv 4, rv b341, iv r_343, uN] [(.int r_343)]
   refine sT (fun t k => XS.iloadN X343.here hx rfl (hb hby d8_16) rfl k) ?_
   show gM T343 17 #[rv a1, iv 0, iv 4, rv b341, iv r_343, uN] [(.int 4), (.int r_343)]
   have hc346 : ¬ (r_343 = (4 : Int32)) := hr.1
   refine sT (fun t k => XS.icmpNo X343.here hx rfl (hb hby d8_17) rfl (feq hc346).1 k) ?_
   show gM T343 20 #[rv a1, iv 0, iv 4, rv b341, iv r_343, uN] []
   refine sT (fun t k => XS.aloadN X343.here hx rfl (hb hby d8_20) rfl rfl k) ?_
   show gM T343 21 #[rv a1, iv 0, iv 4, rv b341, iv r_343, uN] [(.ref a1)]
   refine sT (fun t k => XS.iloadN X343.here hx rfl (hb hby d8_21) rfl k) ?_
   show gM T343 22 #[rv a1, iv 0, iv 4, rv b341, iv r_343, uN] [(.int 0), (.ref a1)]
   refine sT (fun t k => XS.iloadN X343.here hx rfl (hb hby d8_22) rfl k) ?_
   show gM T343 23 #[rv a1, iv 0, iv 4, rv b341, iv r_343, uN] [(.int 4), (.int 0), (.ref a1)]
   obtain ⟨_, _, ⟨T347, L347, k347, n347⟩, -, X347, ⟨Lc347, hQ347, l347, y347, z347⟩, st347⟩ := Jvm.LawKit.callS X343 hx (y := mN6) hown (mvT hZ w68) (mvT hZ w69) (mvT hZ w59) (mvT hZ w70) (by decide) (backOf (W := 0) (own_tb4 l Z a0 hw [] a1 (c0) (c1) (c2) (c3) (ka) T343.heap n0 (Nat.le_trans (Nat.le_trans Z0 E341.1) K343c.1) S__assertionsDisabled S_HI_BYTE_SHIFT S_LO_BYTE_SHIFT Zn ((O0.ext E341).keep K343c (allS (Nat.le_trans Zn g_b341) all0)).2 ((V_a1.ext E341).keep K343c (ninS ne_a1_b341 nin0))) hZ w70 w59 (by decide) (by decide)) (g := (mkF m 23 #[rv a1, iv 0, iv 4, rv b341, iv r_343, uN] [(.int 4), (.int 0), (.ref a1)])) rfl (by rw [hml]; rfl) (argsL := [(.ref a1), (.int 0), (.int 4)]) (rest := []) (lenOf own_pd5 rfl) rfl (by show 2 * 0 + _ ≤ _; exact Nat.le_of_eq rfl) (hb hby d8_23) (fun _ hWq => ⟨rfl, rfl, (by decide : 1 + 1 ≤ _), (by decide : 4 + 8 ≤ _)⟩)
   dsimp only [Pt.U, Pt.locs, Pt.cells, Pt.slots] at X347 l347 y347 z347 st347 hQ347
   subst y347 z347
   obtain ⟨bv_347, kb_347, rfl, N347q, K347c, f347_0, f347_1⟩ := hQ347
   have N347 : Fr n0 L347 := by rw [l347]; exact Fr.app N343 N347q
   refine sT st347 ?_
   have K348 : Keep h0 T347.heap [] := K344.trans K347c all0
   have sz_bv_347 : h0.size ≤ bv_347 := Nat.le_trans K344.1 f347_0
   have g_bv_347 : n0 ≤ bv_347 := Nat.le_trans Z0 sz_bv_347
   have ne_b341_bv_347 : b341 ≠ bv_347 := Nat.ne_of_lt (Nat.lt_of_lt_of_le f343_0.lt f347_0)
   have ne_a1_bv_347 : a1 ≠ bv_347 := Nat.ne_of_lt (Nat.lt_of_lt_of_le ((V_a1.ext E341).keep K343c (ninS ne_a1_b341 nin0)).lt f347_0)
   show gM T347 26 #[rv a1, iv 0, iv 4, rv b341, iv r_343, uN] [(.ref bv_347)]
   refine sT (fun t k => XS.astore X347.here hx rfl (hb hby d8_26) rfl rfl (l' := #[rv a1, iv 0, iv 4, rv b341, iv r_343, rv bv_347]) rfl k) ?_
   show gM T347 28 #[rv a1, iv 0, iv 4, rv b341, iv r_343, rv bv_347] []
   refine sT (fun t k => XS.aload X347.here hx rfl (hb hby d8_28) rfl rfl k) ?_
   show gM T347 30 #[rv a1, iv 0, iv 4, rv b341, iv r_343, rv bv_347] [(.ref bv_347)]
   refine sT (fun t k => XS.iload X347.here hx rfl (hb hby d8_30) rfl k) ?_
   show gM T347 32 #[rv a1, iv 0, iv 4, rv b341, iv r_343, rv bv_347] [(.int r_343), (.ref bv_347)]
   obtain ⟨_, _, ⟨T349, L349, k349, n349⟩, -, X349, ⟨Lc349, hQ349, l349, y349, z349⟩, st349⟩ := Jvm.LawKit.callS X347 hx (y := mN5) hown (mvT hZ w84) (mvT hZ w85) (mvT hZ w59) (mvT hZ w86) (by decide) (backOf (W := 0) (own_gc l Z a0 hw [] bv_347 r_343 ((8 : Int32)) (([((c0 >>> ((0 : Int32) &&& 31)).toInt8.toInt32), ((c0 >>> ((8 : Int32) &&& 31)).toInt8.toInt32), ((c1 >>> ((0 : Int32) &&& 31)).toInt8.toInt32), ((c1 >>> ((8 : Int32) &&& 31)).toInt8.toInt32), ((c2 >>> ((0 : Int32) &&& 31)).toInt8.toInt32), ((c2 >>> ((8 : Int32) &&& 31)).toInt8.toInt32), ((c3 >>> ((0 : Int32) &&& 31)).toInt8.toInt32), ((c3 >>> ((8 : Int32) &&& 31)).toInt8.toInt32)] : List Int32)) (kb_347) T347.heap n0 (Nat.le_trans (Nat.le_trans (Nat.le_trans Z0 E341.1) K343c.1) K347c.1) S__assertionsDisabled S_HI_BYTE_SHIFT S_LO_BYTE_SHIFT Zn (((O0.ext E341).keep K343c (allS (Nat.le_trans Zn g_b341) all0)).keep K347c all0).2 f347_1 hr.2.1 hr.2.2.1 hr.2.2.2.1) hZ w86 w59 (by decide) (by decide)) (g := (mkF m 32 #[rv a1, iv 0, iv 4, rv b341, iv r_343, rv bv_347] [(.int r_343), (.ref bv_347)])) rfl (by rw [hml]; rfl) (argsL := [(.ref bv_347), (.int r_343)]) (rest := []) (lenOf own_pd6 rfl) rfl (by show 2 * 0 + _ ≤ _; exact Nat.le_of_eq rfl) (hb hby d8_32) (fun _ hWq => ⟨rfl, rfl, (by decide : 2 + 0 ≤ _), (by decide : 12 + 0 ≤ _)⟩)
   dsimp only [Pt.U, Pt.locs, Pt.cells, Pt.slots] at X349 l349 y349 z349 st349 hQ349
   subst y349 z349
   obtain ⟨w_349, rfl, N349q, eh349, f349_0⟩ := hQ349
   have N349 : Fr n0 L349 := by rw [l349]; exact Fr.app N347 N349q
   refine sT st349 ?_
   show gM T349 35 #[rv a1, iv 0, iv 4, rv b341, iv r_343, rv bv_347] [(.int w_349)]
   refine sT (fun t k => XS.sipush X349.here hx rfl (hb hby d8_35) k) ?_
   show gM T349 38 #[rv a1, iv 0, iv 4, rv b341, iv r_343, rv bv_347] [(.int 255), (.int w_349)]
   have hc350 : (255 : Int32) < w_349 := f349_0
   refine sT (fun t k => XS.icmpYes X349.here hx rfl (pc0 := 38) (pc' := 54) rfl (hb hby d8_38) rfl (tlt hc350).2.2.1 (by decide) (by decide) k) ?_
   show gM T349 54 #[rv a1, iv 0, iv 4, rv b341, iv r_343, rv bv_347] []
   refine sT (fun t k => XS.aload X349.here hx rfl (hb hby d8_54) rfl rfl k) ?_
   show gM T349 56 #[rv a1, iv 0, iv 4, rv b341, iv r_343, rv bv_347] [(.ref bv_347)]
   refine own_retV X349 hx hlk Bd.returns (w := (.ref bv_347)) rfl (Or.inr (Or.inr (Or.inr (Or.inr ⟨rfl, rfl, rfl⟩)))) (hb hby d8_56) ?_ (by decide) (by decide)
   show own_co4_Q Z a1 c0 c1 c2 c3 ka h0 n0 _ T349.heap _
   rw [eh349]
   exact ⟨bv_347, kb_347, 8, ([((c0 >>> ((0 : Int32) &&& 31)).toInt8.toInt32), ((c0 >>> ((8 : Int32) &&& 31)).toInt8.toInt32), ((c1 >>> ((0 : Int32) &&& 31)).toInt8.toInt32), ((c1 >>> ((8 : Int32) &&& 31)).toInt8.toInt32), ((c2 >>> ((0 : Int32) &&& 31)).toInt8.toInt32), ((c2 >>> ((8 : Int32) &&& 31)).toInt8.toInt32), ((c3 >>> ((0 : Int32) &&& 31)).toInt8.toInt32), ((c3 >>> ((8 : Int32) &&& 31)).toInt8.toInt32)] : List Int32), rfl, N349, K348, sz_bv_347, f347_1, (Or.inr ⟨rfl, hr.2.2.2.2⟩)⟩
theorem own_tb5_ef (m : MethodId) (a1 : Addr) : entryFrame m #[(.ref a1), (.int 0), (.int 5)] 5 = mkF m 0 #[rv a1, iv 0, iv 5, uN, uN] [] := by first | (simp [entryFrame, mkF, argsToLocals, Value.category]; done) | rfl
def own_tb5_Q (Z : State) (a1 : Addr) (c0 : Int32) (c1 : Int32) (c2 : Int32) (c3 : Int32) (c4 : Int32) (ka : ClassId) (h0 : Heap) (n0 : Nat) (v : Option Value) (h : Heap) (L : List Loc) : Prop := ∃ bv : Addr, ∃ kb : ClassId, v = some (.ref bv) ∧ Fr n0 L ∧ Keep h0 h [] ∧ h0.size ≤ bv ∧ Arv Z h bv kb .byte (10 : Int32) (([((c0 >>> ((0 : Int32) &&& 31)).toInt8.toInt32), ((c0 >>> ((8 : Int32) &&& 31)).toInt8.toInt32), ((c1 >>> ((0 : Int32) &&& 31)).toInt8.toInt32), ((c1 >>> ((8 : Int32) &&& 31)).toInt8.toInt32), ((c2 >>> ((0 : Int32) &&& 31)).toInt8.toInt32), ((c2 >>> ((8 : Int32) &&& 31)).toInt8.toInt32), ((c3 >>> ((0 : Int32) &&& 31)).toInt8.toInt32), ((c3 >>> ((8 : Int32) &&& 31)).toInt8.toInt32), ((c4 >>> ((0 : Int32) &&& 31)).toInt8.toInt32), ((c4 >>> ((8 : Int32) &&& 31)).toInt8.toInt32)] : List Int32).map Value.int) (Value.int 0)
set_option maxRecDepth 65536 in
set_option maxHeartbeats 40000000 in
theorem own_tb5 (l : Launch) (Z : State) (a0 : Array Value) (hw : ∀ d ∈ tables_1, d.before a0 Z = true) (ws : List Jvm.Cond) (a1 : Addr) (c0 : Int32) (c1 : Int32) (c2 : Int32) (c3 : Int32) (c4 : Int32) (ka : ClassId) (h0 : Heap) (n0 : Nat) (Z0 : n0 ≤ h0.size) (S__assertionsDisabled : Sta Z Z.heap "java/lang/StringUTF16" "$assertionsDisabled" "Z" (.int 1)) (S_HI_BYTE_SHIFT : Sta Z Z.heap "java/lang/StringUTF16" "HI_BYTE_SHIFT" "I" (.int 0)) (S_LO_BYTE_SHIFT : Sta Z Z.heap "java/lang/StringUTF16" "LO_BYTE_SHIFT" "I" (.int 8)) (Zn : Z.heap.size ≤ n0) (EZ : Ext Z.heap h0) (V_a1 : Arv Z h0 a1 ka .char (5 : Int32) (([c0, c1, c2, c3, c4] : List Int32).map Value.int) (Value.int 0)) :
    MetFree l mN6 (head1 (Jvm.Cond.code mN6 jdk_52_method_14_code 5 (some (.array .byte)) :: ws) ({ frames := 2, cells := 1, slots := 10, locals := 24 } : Room)) (fun aa U => aa = #[(.ref a1), (.int 0), (.int 5)] ∧ Z.Warmed39 U.vm ∧ U.heap = h0) (fun _ _ _ _ _ => True) (fun _ U o U' => ∃ v L, o = .returned v ∧ own_tb5_Q Z a1 c0 c1 c2 c3 c4 ka h0 n0 v U'.heap L ∧ FrameEnd U o U' L ({ frames := 2, cells := 1, slots := 10, locals := 24 } : Room).cells ({ frames := 2, cells := 1, slots := 10, locals := 24 } : Room).slots) := by
  refine MetFree.of_bodySF (plainFor_of_name own_pn1) hisR ?_
  have w59 := wO hw 59 rfl
  have w71 := wO hw 71 rfl
  have w72 := wO hw 72 rfl
  have w73 := wO hw 73 rfl
  have w78 := wO hw 78 rfl
  have w79 := wO hw 79 rfl
  have w80 := wO hw 80 rfl
  intro p e s m args below meth c s₁ Bd hml0 hP hK
  obtain ⟨rfl, hZ, hh⟩ := hP
  have hx := Bd.exec
  have hby := Bd.bytes
  have hlk := Bd.notSynchronized
  have hml : c.maxLocals = 5 := hml0
  have hown : s.vm.findClass "java/lang/StringUTF16" = some m.cls := findClass_of_methodNamed Bd.named
  have hnm := (name_of_methodNamed Bd.named Bd.method).1
  have X0 : Stand p l e ({ frames := 2, cells := 1, slots := 10, locals := 24 } : Room) s m #[(.ref a1), (.int 0), (.int 5)] below meth c s₁ [] 0 0 := Stand.of_body Bd
  have e0 : s₁.heap = h0 := by rw [← hh, Bd.state]; rfl
  have N0 := Fr.nil n0
  have K0 : Keep h0 h0 [] := Keep.refl h0 _
  have O0 : Old Z Z.heap.size h0 := ⟨rfl, EZ⟩
  show gS p e below (own_Fin s (own_tb5_Q Z a1 c0 c1 c2 c3 c4 ka h0 n0) ({ frames := 2, cells := 1, slots := 10, locals := 24 } : Room).cells ({ frames := 2, cells := 1, slots := 10, locals := 24 } : Room).slots) _
  refine sT (fun t k => castTop (own_tb5_ef m a1) k) ?_
  show gM s₁ 0 #[rv a1, iv 0, iv 5, uN, uN] []
  refine sT (fun t k => XS.iloadN X0.here hx rfl (hb hby d6_0) rfl k) ?_
  show gM s₁ 1 #[rv a1, iv 0, iv 5, uN, uN] [(.int 5)]
  obtain ⟨_, _, ⟨T374, L374, k374, n374⟩, -, X374, ⟨Lc374, hQ374, l374, y374, z374⟩, st374⟩ := Jvm.LawKit.callS X0 hx (y := mN3) hown (mvT hZ w71) (mvT hZ w72) (mvT hZ w59) (mvT hZ w73) (by decide) (backOf (W := 0) (own_nf5 l Z a0 hw []   h0 n0 Z0 ) hZ w73 w59 (by decide) (by decide)) (g := (mkF m 1 #[rv a1, iv 0, iv 5, uN, uN] [(.int 5)])) rfl (by rw [hml]; rfl) (argsL := [(.int 5)]) (rest := []) (lenOf own_pd2 rfl) rfl (by show 2 * 0 + _ ≤ _; exact Nat.le_of_eq rfl) (hb hby d6_1) (fun _ hWq => ⟨rfl, e0, (by decide : 0 + 1 ≤ _), (by decide : 0 + 10 ≤ _)⟩)
  dsimp only [Pt.U, Pt.locs, Pt.cells, Pt.slots] at X374 l374 y374 z374 st374 hQ374
  subst y374 z374
  obtain ⟨bv_374, kb_374, rfl, N374q, K374c, f374_0, f374_1⟩ := hQ374
  have N374 : Fr n0 L374 := by rw [l374]; exact Fr.app N0 N374q
  refine sT st374 ?_
  have K375 : Keep h0 T374.heap [] := K0.trans K374c all0
  have sz_bv_374 : h0.size ≤ bv_374 := Nat.le_trans K0.1 f374_0
  have g_bv_374 : n0 ≤ bv_374 := Nat.le_trans Z0 sz_bv_374
  have ne_a1_bv_374 : a1 ≠ bv_374 := Nat.ne_of_lt (Nat.lt_of_lt_of_le V_a1.lt f374_0)
  show gM T374 4 #[rv a1, iv 0, iv 5, uN, uN] [(.ref bv_374)]
  refine sT (fun t k => XS.astoreN X374.here hx rfl (hb hby d6_4) rfl rfl (l' := #[rv a1, iv 0, iv 5, rv bv_374, uN]) rfl k) ?_
  show gM T374 5 #[rv a1, iv 0, iv 5, rv bv_374, uN] []
  refine sT (fun t k => XS.iconst X374.here hx rfl (hb hby d6_5) k) ?_
  show gM T374 6 #[rv a1, iv 0, iv 5, rv bv_374, uN] [(.int 0)]
  refine sT (fun t k => XS.istore X374.here hx rfl (hb hby d6_6) rfl (l' := #[rv a1, iv 0, iv 5, rv bv_374, iv 0]) rfl k) ?_
  show gM T374 8 #[rv a1, iv 0, iv 5, rv bv_374, iv 0] []
  refine sT (fun t k => XS.iload X374.here hx rfl (hb hby d6_8) rfl k) ?_
  show gM T374 10 #[rv a1, iv 0, iv 5, rv bv_374, iv 0] [(.int 0)]
  refine sT (fun t k => XS.iloadN X374.here hx rfl (hb hby d6_10) rfl k) ?_
  show gM T374 11 #[rv a1, iv 0, iv 5, rv bv_374, iv 0] [(.int 5), (.int 0)]
  have hc376 : (0 : Int32) < (5 : Int32) := by decide
  refine sT (fun t k => XS.icmpNo X374.here hx rfl (hb hby d6_11) rfl (tlt hc376).2.1 k) ?_
  show gM T374 14 #[rv a1, iv 0, iv 5, rv bv_374, iv 0] []
  refine sT (fun t k => XS.aloadN X374.here hx rfl (hb hby d6_14) rfl rfl k) ?_
  show gM T374 15 #[rv a1, iv 0, iv 5, rv bv_374, iv 0] [(.ref bv_374)]
  refine sT (fun t k => XS.iload X374.here hx rfl (hb hby d6_15) rfl k) ?_
  show gM T374 17 #[rv a1, iv 0, iv 5, rv bv_374, iv 0] [(.int 0), (.ref bv_374)]
  refine sT (fun t k => XS.aloadN X374.here hx rfl (hb hby d6_17) rfl rfl k) ?_
  show gM T374 18 #[rv a1, iv 0, iv 5, rv bv_374, iv 0] [(.ref a1), (.int 0), (.ref bv_374)]
  refine sT (fun t k => XS.iloadN X374.here hx rfl (hb hby d6_18) rfl k) ?_
  show gM T374 19 #[rv a1, iv 0, iv 5, rv bv_374, iv 0] [(.int 0), (.ref a1), (.int 0), (.ref bv_374)]
  refine sT (fun t k => own_cal X374 hx hZ rfl (V_a1.keep K374c nin0) ⟨by decide, by decide⟩ (g := (mkF m 19 #[rv a1, iv 0, iv 5, rv bv_374, iv 0] [(.int 0), (.ref a1), (.int 0), (.ref bv_374)])) rfl rfl (hb hby d6_19) _ k) ?_
  show gM T374 20 #[rv a1, iv 0, iv 5, rv bv_374, iv 0] [(.int c0), (.int 0), (.ref bv_374)]
  obtain ⟨_, _, ⟨T377, L377, k377, n377⟩, -, X377, ⟨Lc377, hQ377, l377, y377, z377⟩, st377⟩ := Jvm.LawKit.callS X374 hx (y := mN4) hown (mvT hZ w78) (mvT hZ w79) (mvT hZ w59) (mvT hZ w80) (by decide) (backOf (W := 0) (own_pc l Z a0 hw [] bv_374 (0 : Int32) c0 ((10 : Int32)) (([0, 0, 0, 0, 0, 0, 0, 0, 0, 0] : List Int32)) (kb_374) T374.heap n0 (Nat.le_trans Z0 K374c.1) S__assertionsDisabled S_HI_BYTE_SHIFT S_LO_BYTE_SHIFT Zn (O0.keep K374c all0).2 f374_1 g_bv_374 (⟨by decide, by decide⟩) (⟨by decide, by decide⟩) (Nat.le_of_ble_eq_true rfl) (Nat.le_of_ble_eq_true rfl)) hZ w80 w59 (by decide) (by decide)) (g := (mkF m 20 #[rv a1, iv 0, iv 5, rv bv_374, iv 0] [(.int c0), (.int 0), (.ref bv_374)])) rfl (by rw [hml]; rfl) (argsL := [(.ref bv_374), (.int 0), (.int c0)]) (rest := []) (lenOf own_pd3 rfl) rfl (by show 2 * 0 + _ ≤ _; exact Nat.le_of_eq rfl) (hb hby d6_20) (fun _ hWq => ⟨rfl, rfl, (by decide : 1 + 0 ≤ _), (by decide : 10 + 0 ≤ _)⟩)
  dsimp only [Pt.U, Pt.locs, Pt.cells, Pt.slots] at X377 l377 y377 z377 st377 hQ377
  subst y377 z377
  obtain ⟨rfl, N377q, K377c, f377_0⟩ := hQ377
  have N377 : Fr n0 L377 := by rw [l377]; exact Fr.app N374 N377q
  refine sT st377 ?_
  have K378 : Keep h0 T377.heap [] := K375.trans K377c (allS (Or.inr sz_bv_374) all0)
  show gM T377 23 #[rv a1, iv 0, iv 5, rv bv_374, iv 0] []
  have V379 : Arv Z T377.heap bv_374 kb_374 .byte (10 : Int32) (([((c0 >>> ((0 : Int32) &&& 31)).toInt8.toInt32), ((c0 >>> ((8 : Int32) &&& 31)).toInt8.toInt32), 0, 0, 0, 0, 0, 0, 0, 0] : List Int32).map Value.int) (Value.int 0) := f377_0
  refine sT (fun t k => XS.iinc X377.here hx rfl (hb hby d6_23) rfl (l' := #[rv a1, iv 1, iv 5, rv bv_374, iv 0]) rfl k) ?_
  show gM T377 26 #[rv a1, iv 1, iv 5, rv bv_374, iv 0] []
  refine sT (fun t k => XS.iinc X377.here hx rfl (hb hby d6_26) rfl (l' := #[rv a1, iv 1, iv 5, rv bv_374, iv 1]) rfl k) ?_
  show gM T377 29 #[rv a1, iv 1, iv 5, rv bv_374, iv 1] []
  refine sT (fun t k => XS.goto X377.here hx rfl (pc0 := 29) (pc' := 8) rfl (hb hby d6_29) (by decide) (by decide) k) ?_
  show gM T377 8 #[rv a1, iv 1, iv 5, rv bv_374, iv 1] []
  refine sT (fun t k => XS.iload X377.here hx rfl (hb hby d6_8) rfl k) ?_
  show gM T377 10 #[rv a1, iv 1, iv 5, rv bv_374, iv 1] [(.int 1)]
  refine sT (fun t k => XS.iloadN X377.here hx rfl (hb hby d6_10) rfl k) ?_
  show gM T377 11 #[rv a1, iv 1, iv 5, rv bv_374, iv 1] [(.int 5), (.int 1)]
  have hc380 : (1 : Int32) < (5 : Int32) := by decide
  refine sT (fun t k => XS.icmpNo X377.here hx rfl (hb hby d6_11) rfl (tlt hc380).2.1 k) ?_
  show gM T377 14 #[rv a1, iv 1, iv 5, rv bv_374, iv 1] []
  refine sT (fun t k => XS.aloadN X377.here hx rfl (hb hby d6_14) rfl rfl k) ?_
  show gM T377 15 #[rv a1, iv 1, iv 5, rv bv_374, iv 1] [(.ref bv_374)]
  refine sT (fun t k => XS.iload X377.here hx rfl (hb hby d6_15) rfl k) ?_
  show gM T377 17 #[rv a1, iv 1, iv 5, rv bv_374, iv 1] [(.int 1), (.ref bv_374)]
  refine sT (fun t k => XS.aloadN X377.here hx rfl (hb hby d6_17) rfl rfl k) ?_
  show gM T377 18 #[rv a1, iv 1, iv 5, rv bv_374, iv 1] [(.ref a1), (.int 1), (.ref bv_374)]
  refine sT (fun t k => XS.iloadN X377.here hx rfl (hb hby d6_18) rfl k) ?_
  show gM T377 19 #[rv a1, iv 1, iv 5, rv bv_374, iv 1] [(.int 1), (.ref a1), (.int 1), (.ref bv_374)]
  refine sT (fun t k => own_cal X377 hx hZ rfl ((V_a1.keep K374c nin0).keep K377c (ninS ne_a1_bv_374 nin0)) ⟨by decide, by decide⟩ (g := (mkF m 19 #[rv a1, iv 1, iv 5, rv bv_374, iv 1] [(.int 1), (.ref a1), (.int 1), (.ref bv_374)])) rfl rfl (hb hby d6_19) _ k) ?_
  show gM T377 20 #[rv a1, iv 1, iv 5, rv bv_374, iv 1] [(.int c1), (.int 1), (.ref bv_374)]
  obtain ⟨_, _, ⟨T381, L381, k381, n381⟩, -, X381, ⟨Lc381, hQ381, l381, y381, z381⟩, st381⟩ := Jvm.LawKit.callS X377 hx (y := mN4) hown (mvT hZ w78) (mvT hZ w79) (mvT hZ w59) (mvT hZ w80) (by decide) (backOf (W := 0) (own_pc l Z a0 hw [] bv_374 (1 : Int32) c1 ((10 : Int32)) (([((c0 >>> ((0 : Int32) &&& 31)).toInt8.toInt32), ((c0 >>> ((8 : Int32) &&& 31)).toInt8.toInt32), 0, 0, 0, 0, 0, 0, 0, 0] : List Int32)) (kb_374) T377.heap n0 (Nat.le_trans (Nat.le_trans Z0 K374c.1) K377c.1) S__assertionsDisabled S_HI_BYTE_SHIFT S_LO_BYTE_SHIFT Zn ((O0.keep K374c all0).keep K377c (allS (Nat.le_trans Zn g_bv_374) all0)).2 V379 g_bv_374 (⟨by decide, by decide⟩) (⟨by decide, by decide⟩) (Nat.le_of_ble_eq_true rfl) (Nat.le_of_ble_eq_true rfl)) hZ w80 w59 (by decide) (by decide)) (g := (mkF m 20 #[rv a1, iv 1, iv 5, rv bv_374, iv 1] [(.int c1), (.int 1), (.ref bv_374)])) rfl (by rw [hml]; rfl) (argsL := [(.ref bv_374), (.int 1), (.int c1)]) (rest := []) (lenOf own_pd3 rfl) rfl (by show 2 * 0 + _ ≤ _; exact Nat.le_of_eq rfl) (hb hby d6_20) (fun _ hWq => ⟨rfl, rfl, (by decide : 1 + 0 ≤ _), (by decide : 10 + 0 ≤ _)⟩)
  dsimp only [Pt.U, Pt.locs, Pt.cells, Pt.slots] at X381 l381 y381 z381 st381 hQ381
  subst y381 z381
  obtain ⟨rfl, N381q, K381c, f381_0⟩ := hQ381
  have N381 : Fr n0 L381 := by rw [l381]; exact Fr.app N377 N381q
  refine sT st381 ?_
  have K382 : Keep h0 T381.heap [] := K378.trans K381c (allS (Or.inr sz_bv_374) all0)
  show gM T381 23 #[rv a1, iv 1, iv 5, rv bv_374, iv 1] []
  have V383 : Arv Z T381.heap bv_374 kb_374 .byte (10 : Int32) (([((c0 >>> ((0 : Int32) &&& 31)).toInt8.toInt32), ((c0 >>> ((8 : Int32) &&& 31)).toInt8.toInt32), ((c1 >>> ((0 : Int32) &&& 31)).toInt8.toInt32), ((c1 >>> ((8 : Int32) &&& 31)).toInt8.toInt32), 0, 0, 0, 0, 0, 0] : List Int32).map Value.int) (Value.int 0) := f381_0
  refine sT (fun t k => XS.iinc X381.here hx rfl (hb hby d6_23) rfl (l' := #[rv a1, iv 2, iv 5, rv bv_374, iv 1]) rfl k) ?_
  show gM T381 26 #[rv a1, iv 2, iv 5, rv bv_374, iv 1] []
  refine sT (fun t k => XS.iinc X381.here hx rfl (hb hby d6_26) rfl (l' := #[rv a1, iv 2, iv 5, rv bv_374, iv 2]) rfl k) ?_
  show gM T381 29 #[rv a1, iv 2, iv 5, rv bv_374, iv 2] []
  refine sT (fun t k => XS.goto X381.here hx rfl (pc0 := 29) (pc' := 8) rfl (hb hby d6_29) (by decide) (by decide) k) ?_
  show gM T381 8 #[rv a1, iv 2, iv 5, rv bv_374, iv 2] []
  refine sT (fun t k => XS.iload X381.here hx rfl (hb hby d6_8) rfl k) ?_
  show gM T381 10 #[rv a1, iv 2, iv 5, rv bv_374, iv 2] [(.int 2)]
  refine sT (fun t k => XS.iloadN X381.here hx rfl (hb hby d6_10) rfl k) ?_
  show gM T381 11 #[rv a1, iv 2, iv 5, rv bv_374, iv 2] [(.int 5), (.int 2)]
  have hc384 : (2 : Int32) < (5 : Int32) := by decide
  refine sT (fun t k => XS.icmpNo X381.here hx rfl (hb hby d6_11) rfl (tlt hc384).2.1 k) ?_
  show gM T381 14 #[rv a1, iv 2, iv 5, rv bv_374, iv 2] []
  refine sT (fun t k => XS.aloadN X381.here hx rfl (hb hby d6_14) rfl rfl k) ?_
  show gM T381 15 #[rv a1, iv 2, iv 5, rv bv_374, iv 2] [(.ref bv_374)]
  refine sT (fun t k => XS.iload X381.here hx rfl (hb hby d6_15) rfl k) ?_
  show gM T381 17 #[rv a1, iv 2, iv 5, rv bv_374, iv 2] [(.int 2), (.ref bv_374)]
  refine sT (fun t k => XS.aloadN X381.here hx rfl (hb hby d6_17) rfl rfl k) ?_
  show gM T381 18 #[rv a1, iv 2, iv 5, rv bv_374, iv 2] [(.ref a1), (.int 2), (.ref bv_374)]
  refine sT (fun t k => XS.iloadN X381.here hx rfl (hb hby d6_18) rfl k) ?_
  show gM T381 19 #[rv a1, iv 2, iv 5, rv bv_374, iv 2] [(.int 2), (.ref a1), (.int 2), (.ref bv_374)]
  refine sT (fun t k => own_cal X381 hx hZ rfl (((V_a1.keep K374c nin0).keep K377c (ninS ne_a1_bv_374 nin0)).keep K381c (ninS ne_a1_bv_374 nin0)) ⟨by decide, by decide⟩ (g := (mkF m 19 #[rv a1, iv 2, iv 5, rv bv_374, iv 2] [(.int 2), (.ref a1), (.int 2), (.ref bv_374)])) rfl rfl (hb hby d6_19) _ k) ?_
  show gM T381 20 #[rv a1, iv 2, iv 5, rv bv_374, iv 2] [(.int c2), (.int 2), (.ref bv_374)]
  obtain ⟨_, _, ⟨T385, L385, k385, n385⟩, -, X385, ⟨Lc385, hQ385, l385, y385, z385⟩, st385⟩ := Jvm.LawKit.callS X381 hx (y := mN4) hown (mvT hZ w78) (mvT hZ w79) (mvT hZ w59) (mvT hZ w80) (by decide) (backOf (W := 0) (own_pc l Z a0 hw [] bv_374 (2 : Int32) c2 ((10 : Int32)) (([((c0 >>> ((0 : Int32) &&& 31)).toInt8.toInt32), ((c0 >>> ((8 : Int32) &&& 31)).toInt8.toInt32), ((c1 >>> ((0 : Int32) &&& 31)).toInt8.toInt32), ((c1 >>> ((8 : Int32) &&& 31)).toInt8.toInt32), 0, 0, 0, 0, 0, 0] : List Int32)) (kb_374) T381.heap n0 (Nat.le_trans (Nat.le_trans (Nat.le_trans Z0 K374c.1) K377c.1) K381c.1) S__assertionsDisabled S_HI_BYTE_SHIFT S_LO_BYTE_SHIFT Zn (((O0.keep K374c all0).keep K377c (allS (Nat.le_trans Zn g_bv_374) all0)).keep K381c (allS (Nat.le_trans Zn g_bv_374) all0)).2 V383 g_bv_374 (⟨by decide, by decide⟩) (⟨by decide, by decide⟩) (Nat.le_of_ble_eq_true rfl) (Nat.le_of_ble_eq_true rfl)) hZ w80 w59 (by decide) (by decide)) (g := (mkF m 20 #[rv a1, iv 2, iv 5, rv bv_374, iv 2] [(.int c2), (.int 2), (.ref bv_374)])) rfl (by rw [hml]; rfl) (argsL := [(.ref bv_374), (.int 2), (.int c2)]) (rest := []) (lenOf own_pd3 rfl) rfl (by show 2 * 0 + _ ≤ _; exact Nat.le_of_eq rfl) (hb hby d6_20) (fun _ hWq => ⟨rfl, rfl, (by decide : 1 + 0 ≤ _), (by decide : 10 + 0 ≤ _)⟩)
  dsimp only [Pt.U, Pt.locs, Pt.cells, Pt.slots] at X385 l385 y385 z385 st385 hQ385
  subst y385 z385
  obtain ⟨rfl, N385q, K385c, f385_0⟩ := hQ385
  have N385 : Fr n0 L385 := by rw [l385]; exact Fr.app N381 N385q
  refine sT st385 ?_
  have K386 : Keep h0 T385.heap [] := K382.trans K385c (allS (Or.inr sz_bv_374) all0)
  show gM T385 23 #[rv a1, iv 2, iv 5, rv bv_374, iv 2] []
  have V387 : Arv Z T385.heap bv_374 kb_374 .byte (10 : Int32) (([((c0 >>> ((0 : Int32) &&& 31)).toInt8.toInt32), ((c0 >>> ((8 : Int32) &&& 31)).toInt8.toInt32), ((c1 >>> ((0 : Int32) &&& 31)).toInt8.toInt32), ((c1 >>> ((8 : Int32) &&& 31)).toInt8.toInt32), ((c2 >>> ((0 : Int32) &&& 31)).toInt8.toInt32), ((c2 >>> ((8 : Int32) &&& 31)).toInt8.toInt32), 0, 0, 0, 0] : List Int32).map Value.int) (Value.int 0) := f385_0
  refine sT (fun t k => XS.iinc X385.here hx rfl (hb hby d6_23) rfl (l' := #[rv a1, iv 3, iv 5, rv bv_374, iv 2]) rfl k) ?_
  show gM T385 26 #[rv a1, iv 3, iv 5, rv bv_374, iv 2] []
  refine sT (fun t k => XS.iinc X385.here hx rfl (hb hby d6_26) rfl (l' := #[rv a1, iv 3, iv 5, rv bv_374, iv 3]) rfl k) ?_
  show gM T385 29 #[rv a1, iv 3, iv 5, rv bv_374, iv 3] []
  refine sT (fun t k => XS.goto X385.here hx rfl (pc0 := 29) (pc' := 8) rfl (hb hby d6_29) (by decide) (by decide) k) ?_
  show gM T385 8 #[rv a1, iv 3, iv 5, rv bv_374, iv 3] []
  refine sT (fun t k => XS.iload X385.here hx rfl (hb hby d6_8) rfl k) ?_
  show gM T385 10 #[rv a1, iv 3, iv 5, rv bv_374, iv 3] [(.int 3)]
  refine sT (fun t k => XS.iloadN X385.here hx rfl (hb hby d6_10) rfl k) ?_
  show gM T385 11 #[rv a1, iv 3, iv 5, rv bv_374, iv 3] [(.int 5), (.int 3)]
  have hc388 : (3 : Int32) < (5 : Int32) := by decide
  refine sT (fun t k => XS.icmpNo X385.here hx rfl (hb hby d6_11) rfl (tlt hc388).2.1 k) ?_
  show gM T385 14 #[rv a1, iv 3, iv 5, rv bv_374, iv 3] []
  refine sT (fun t k => XS.aloadN X385.here hx rfl (hb hby d6_14) rfl rfl k) ?_
  show gM T385 15 #[rv a1, iv 3, iv 5, rv bv_374, iv 3] [(.ref bv_374)]
  refine sT (fun t k => XS.iload X385.here hx rfl (hb hby d6_15) rfl k) ?_
  show gM T385 17 #[rv a1, iv 3, iv 5, rv bv_374, iv 3] [(.int 3), (.ref bv_374)]
  refine sT (fun t k => XS.aloadN X385.here hx rfl (hb hby d6_17) rfl rfl k) ?_
  show gM T385 18 #[rv a1, iv 3, iv 5, rv bv_374, iv 3] [(.ref a1), (.int 3), (.ref bv_374)]
  refine sT (fun t k => XS.iloadN X385.here hx rfl (hb hby d6_18) rfl k) ?_
  show gM T385 19 #[rv a1, iv 3, iv 5, rv bv_374, iv 3] [(.int 3), (.ref a1), (.int 3), (.ref bv_374)]
  refine sT (fun t k => own_cal X385 hx hZ rfl ((((V_a1.keep K374c nin0).keep K377c (ninS ne_a1_bv_374 nin0)).keep K381c (ninS ne_a1_bv_374 nin0)).keep K385c (ninS ne_a1_bv_374 nin0)) ⟨by decide, by decide⟩ (g := (mkF m 19 #[rv a1, iv 3, iv 5, rv bv_374, iv 3] [(.int 3), (.ref a1), (.int 3), (.ref bv_374)])) rfl rfl (hb hby d6_19) _ k) ?_
  show gM T385 20 #[rv a1, iv 3, iv 5, rv bv_374, iv 3] [(.int c3), (.int 3), (.ref bv_374)]
  obtain ⟨_, _, ⟨T389, L389, k389, n389⟩, -, X389, ⟨Lc389, hQ389, l389, y389, z389⟩, st389⟩ := Jvm.LawKit.callS X385 hx (y := mN4) hown (mvT hZ w78) (mvT hZ w79) (mvT hZ w59) (mvT hZ w80) (by decide) (backOf (W := 0) (own_pc l Z a0 hw [] bv_374 (3 : Int32) c3 ((10 : Int32)) (([((c0 >>> ((0 : Int32) &&& 31)).toInt8.toInt32), ((c0 >>> ((8 : Int32) &&& 31)).toInt8.toInt32), ((c1 >>> ((0 : Int32) &&& 31)).toInt8.toInt32), ((c1 >>> ((8 : Int32) &&& 31)).toInt8.toInt32), ((c2 >>> ((0 : Int32) &&& 31)).toInt8.toInt32), ((c2 >>> ((8 : Int32) &&& 31)).toInt8.toInt32), 0, 0, 0, 0] : List Int32)) (kb_374) T385.heap n0 (Nat.le_trans (Nat.le_trans (Nat.le_trans (Nat.le_trans Z0 K374c.1) K377c.1) K381c.1) K385c.1) S__assertionsDisabled S_HI_BYTE_SHIFT S_LO_BYTE_SHIFT Zn ((((O0.keep K374c all0).keep K377c (allS (Nat.le_trans Zn g_bv_374) all0)).keep K381c (allS (Nat.le_trans Zn g_bv_374) all0)).keep K385c (allS (Nat.le_trans Zn g_bv_374) all0)).2 V387 g_bv_374 (⟨by decide, by decide⟩) (⟨by decide, by decide⟩) (Nat.le_of_ble_eq_true rfl) (Nat.le_of_ble_eq_true rfl)) hZ w80 w59 (by decide) (by decide)) (g := (mkF m 20 #[rv a1, iv 3, iv 5, rv bv_374, iv 3] [(.int c3), (.int 3), (.ref bv_374)])) rfl (by rw [hml]; rfl) (argsL := [(.ref bv_374), (.int 3), (.int c3)]) (rest := []) (lenOf own_pd3 rfl) rfl (by show 2 * 0 + _ ≤ _; exact Nat.le_of_eq rfl) (hb hby d6_20) (fun _ hWq => ⟨rfl, rfl, (by decide : 1 + 0 ≤ _), (by decide : 10 + 0 ≤ _)⟩)
  dsimp only [Pt.U, Pt.locs, Pt.cells, Pt.slots] at X389 l389 y389 z389 st389 hQ389
  subst y389 z389
  obtain ⟨rfl, N389q, K389c, f389_0⟩ := hQ389
  have N389 : Fr n0 L389 := by rw [l389]; exact Fr.app N385 N389q
  refine sT st389 ?_
  have K390 : Keep h0 T389.heap [] := K386.trans K389c (allS (Or.inr sz_bv_374) all0)
  show gM T389 23 #[rv a1, iv 3, iv 5, rv bv_374, iv 3] []
  have V391 : Arv Z T389.heap bv_374 kb_374 .byte (10 : Int32) (([((c0 >>> ((0 : Int32) &&& 31)).toInt8.toInt32), ((c0 >>> ((8 : Int32) &&& 31)).toInt8.toInt32), ((c1 >>> ((0 : Int32) &&& 31)).toInt8.toInt32), ((c1 >>> ((8 : Int32) &&& 31)).toInt8.toInt32), ((c2 >>> ((0 : Int32) &&& 31)).toInt8.toInt32), ((c2 >>> ((8 : Int32) &&& 31)).toInt8.toInt32), ((c3 >>> ((0 : Int32) &&& 31)).toInt8.toInt32), ((c3 >>> ((8 : Int32) &&& 31)).toInt8.toInt32), 0, 0] : List Int32).map Value.int) (Value.int 0) := f389_0
  refine sT (fun t k => XS.iinc X389.here hx rfl (hb hby d6_23) rfl (l' := #[rv a1, iv 4, iv 5, rv bv_374, iv 3]) rfl k) ?_
  show gM T389 26 #[rv a1, iv 4, iv 5, rv bv_374, iv 3] []
  refine sT (fun t k => XS.iinc X389.here hx rfl (hb hby d6_26) rfl (l' := #[rv a1, iv 4, iv 5, rv bv_374, iv 4]) rfl k) ?_
  show gM T389 29 #[rv a1, iv 4, iv 5, rv bv_374, iv 4] []
  refine sT (fun t k => XS.goto X389.here hx rfl (pc0 := 29) (pc' := 8) rfl (hb hby d6_29) (by decide) (by decide) k) ?_
  show gM T389 8 #[rv a1, iv 4, iv 5, rv bv_374, iv 4] []
  refine sT (fun t k => XS.iload X389.here hx rfl (hb hby d6_8) rfl k) ?_
  show gM T389 10 #[rv a1, iv 4, iv 5, rv bv_374, iv 4] [(.int 4)]
  refine sT (fun t k => XS.iloadN X389.here hx rfl (hb hby d6_10) rfl k) ?_
  show gM T389 11 #[rv a1, iv 4, iv 5, rv bv_374, iv 4] [(.int 5), (.int 4)]
  have hc392 : (4 : Int32) < (5 : Int32) := by decide
  refine sT (fun t k => XS.icmpNo X389.here hx rfl (hb hby d6_11) rfl (tlt hc392).2.1 k) ?_
  show gM T389 14 #[rv a1, iv 4, iv 5, rv bv_374, iv 4] []
  refine sT (fun t k => XS.aloadN X389.here hx rfl (hb hby d6_14) rfl rfl k) ?_
  show gM T389 15 #[rv a1, iv 4, iv 5, rv bv_374, iv 4] [(.ref bv_374)]
  refine sT (fun t k => XS.iload X389.here hx rfl (hb hby d6_15) rfl k) ?_
  show gM T389 17 #[rv a1, iv 4, iv 5, rv bv_374, iv 4] [(.int 4), (.ref bv_374)]
  refine sT (fun t k => XS.aloadN X389.here hx rfl (hb hby d6_17) rfl rfl k) ?_
  show gM T389 18 #[rv a1, iv 4, iv 5, rv bv_374, iv 4] [(.ref a1), (.int 4), (.ref bv_374)]
  refine sT (fun t k => XS.iloadN X389.here hx rfl (hb hby d6_18) rfl k) ?_
  show gM T389 19 #[rv a1, iv 4, iv 5, rv bv_374, iv 4] [(.int 4), (.ref a1), (.int 4), (.ref bv_374)]
  refine sT (fun t k => own_cal X389 hx hZ rfl (((((V_a1.keep K374c nin0).keep K377c (ninS ne_a1_bv_374 nin0)).keep K381c (ninS ne_a1_bv_374 nin0)).keep K385c (ninS ne_a1_bv_374 nin0)).keep K389c (ninS ne_a1_bv_374 nin0)) ⟨by decide, by decide⟩ (g := (mkF m 19 #[rv a1, iv 4, iv 5, rv bv_374, iv 4] [(.int 4), (.ref a1), (.int 4), (.ref bv_374)])) rfl rfl (hb hby d6_19) _ k) ?_
  show gM T389 20 #[rv a1, iv 4, iv 5, rv bv_374, iv 4] [(.int c4), (.int 4), (.ref bv_374)]
  obtain ⟨_, _, ⟨T393, L393, k393, n393⟩, -, X393, ⟨Lc393, hQ393, l393, y393, z393⟩, st393⟩ := Jvm.LawKit.callS X389 hx (y := mN4) hown (mvT hZ w78) (mvT hZ w79) (mvT hZ w59) (mvT hZ w80) (by decide) (backOf (W := 0) (own_pc l Z a0 hw [] bv_374 (4 : Int32) c4 ((10 : Int32)) (([((c0 >>> ((0 : Int32) &&& 31)).toInt8.toInt32), ((c0 >>> ((8 : Int32) &&& 31)).toInt8.toInt32), ((c1 >>> ((0 : Int32) &&& 31)).toInt8.toInt32), ((c1 >>> ((8 : Int32) &&& 31)).toInt8.toInt32), ((c2 >>> ((0 : Int32) &&& 31)).toInt8.toInt32), ((c2 >>> ((8 : Int32) &&& 31)).toInt8.toInt32), ((c3 >>> ((0 : Int32) &&& 31)).toInt8.toInt32), ((c3 >>> ((8 : Int32) &&& 31)).toInt8.toInt32), 0, 0] : List Int32)) (kb_374) T389.heap n0 (Nat.le_trans (Nat.le_trans (Nat.le_trans (Nat.le_trans (Nat.le_trans Z0 K374c.1) K377c.1) K381c.1) K385c.1) K389c.1) S__assertionsDisabled S_HI_BYTE_SHIFT S_LO_BYTE_SHIFT Zn (((((O0.keep K374c all0).keep K377c (allS (Nat.le_trans Zn g_bv_374) all0)).keep K381c (allS (Nat.le_trans Zn g_bv_374) all0)).keep K385c (allS (Nat.le_trans Zn g_bv_374) all0)).keep K389c (allS (Nat.le_trans Zn g_bv_374) all0)).2 V391 g_bv_374 (⟨by decide, by decide⟩) (⟨by decide, by decide⟩) (Nat.le_of_ble_eq_true rfl) (Nat.le_of_ble_eq_true rfl)) hZ w80 w59 (by decide) (by decide)) (g := (mkF m 20 #[rv a1, iv 4, iv 5, rv bv_374, iv 4] [(.int c4), (.int 4), (.ref bv_374)])) rfl (by rw [hml]; rfl) (argsL := [(.ref bv_374), (.int 4), (.int c4)]) (rest := []) (lenOf own_pd3 rfl) rfl (by show 2 * 0 + _ ≤ _; exact Nat.le_of_eq rfl) (hb hby d6_20) (fun _ hWq => ⟨rfl, rfl, (by decide : 1 + 0 ≤ _), (by decide : 10 + 0 ≤ _)⟩)
  dsimp only [Pt.U, Pt.locs, Pt.cells, Pt.slots] at X393 l393 y393 z393 st393 hQ393
  subst y393 z393
  obtain ⟨rfl, N393q, K393c, f393_0⟩ := hQ393
  have N393 : Fr n0 L393 := by rw [l393]; exact Fr.app N389 N393q
  refine sT st393 ?_
  have K394 : Keep h0 T393.heap [] := K390.trans K393c (allS (Or.inr sz_bv_374) all0)
  show gM T393 23 #[rv a1, iv 4, iv 5, rv bv_374, iv 4] []
  have V395 : Arv Z T393.heap bv_374 kb_374 .byte (10 : Int32) (([((c0 >>> ((0 : Int32) &&& 31)).toInt8.toInt32), ((c0 >>> ((8 : Int32) &&& 31)).toInt8.toInt32), ((c1 >>> ((0 : Int32) &&& 31)).toInt8.toInt32), ((c1 >>> ((8 : Int32) &&& 31)).toInt8.toInt32), ((c2 >>> ((0 : Int32) &&& 31)).toInt8.toInt32), ((c2 >>> ((8 : Int32) &&& 31)).toInt8.toInt32), ((c3 >>> ((0 : Int32) &&& 31)).toInt8.toInt32), ((c3 >>> ((8 : Int32) &&& 31)).toInt8.toInt32), ((c4 >>> ((0 : Int32) &&& 31)).toInt8.toInt32), ((c4 >>> ((8 : Int32) &&& 31)).toInt8.toInt32)] : List Int32).map Value.int) (Value.int 0) := f393_0
  refine sT (fun t k => XS.iinc X393.here hx rfl (hb hby d6_23) rfl (l' := #[rv a1, iv 5, iv 5, rv bv_374, iv 4]) rfl k) ?_
  show gM T393 26 #[rv a1, iv 5, iv 5, rv bv_374, iv 4] []
  refine sT (fun t k => XS.iinc X393.here hx rfl (hb hby d6_26) rfl (l' := #[rv a1, iv 5, iv 5, rv bv_374, iv 5]) rfl k) ?_
  show gM T393 29 #[rv a1, iv 5, iv 5, rv bv_374, iv 5] []
  refine sT (fun t k => XS.goto X393.here hx rfl (pc0 := 29) (pc' := 8) rfl (hb hby d6_29) (by decide) (by decide) k) ?_
  show gM T393 8 #[rv a1, iv 5, iv 5, rv bv_374, iv 5] []
  refine sT (fun t k => XS.iload X393.here hx rfl (hb hby d6_8) rfl k) ?_
  show gM T393 10 #[rv a1, iv 5, iv 5, rv bv_374, iv 5] [(.int 5)]
  refine sT (fun t k => XS.iloadN X393.here hx rfl (hb hby d6_10) rfl k) ?_
  show gM T393 11 #[rv a1, iv 5, iv 5, rv bv_374, iv 5] [(.int 5), (.int 5)]
  have hc396 : ¬ ((5 : Int32) < (5 : Int32)) := by decide
  refine sT (fun t k => XS.icmpYes X393.here hx rfl (pc0 := 11) (pc' := 32) rfl (hb hby d6_11) rfl (flt hc396).2.1 (by decide) (by decide) k) ?_
  show gM T393 32 #[rv a1, iv 5, iv 5, rv bv_374, iv 5] []
  refine sT (fun t k => XS.aloadN X393.here hx rfl (hb hby d6_32) rfl rfl k) ?_
  show gM T393 33 #[rv a1, iv 5, iv 5, rv bv_374, iv 5] [(.ref bv_374)]
  refine own_retV X393 hx hlk Bd.returns (w := (.ref bv_374)) rfl (Or.inr (Or.inr (Or.inr (Or.inr ⟨rfl, rfl, rfl⟩)))) (hb hby d6_33) ?_ (by decide) (by decide)
  show own_tb5_Q Z a1 c0 c1 c2 c3 c4 ka h0 n0 _ T393.heap _
  exact ⟨bv_374, kb_374, rfl, N393, K394, sz_bv_374, V395⟩
theorem own_ci5_ef (m : MethodId) (a1 : Addr) (a2 : Addr) : entryFrame m #[(.ref a1), (.int 0), (.ref a2), (.int 0), (.int 5)] 7 = mkF m 0 #[rv a1, iv 0, rv a2, iv 0, iv 5, uN, uN] [] := by first | (simp [entryFrame, mkF, argsToLocals, Value.category]; done) | rfl
def own_ci5_Q (Z : State) (a1 : Addr) (a2 : Addr) (c0 : Int32) (c1 : Int32) (c2 : Int32) (c3 : Int32) (c4 : Int32) (ka : ClassId) (kb : ClassId) (h0 : Heap) (n0 : Nat) (v : Option Value) (h : Heap) (L : List Loc) : Prop := ∃ r : Int32, ∃ ys : List Int32, v = some (.int r) ∧ Fr n0 L ∧ Keep h0 h [a2] ∧ Arv Z h a2 kb .byte (5 : Int32) (ys.map Value.int) (Value.int 0) ∧ ((r = (5 : Int32) ∧ ys = ([(c0.toInt8.toInt32), (c1.toInt8.toInt32), (c2.toInt8.toInt32), (c3.toInt8.toInt32), (c4.toInt8.toInt32)] : List Int32) ∧ ¬ (255 : Int32) < c0 ∧ ¬ (255 : Int32) < c1 ∧ ¬ (255 : Int32) < c2 ∧ ¬ (255 : Int32) < c3 ∧ ¬ (255 : Int32) < c4) ∨ (r = (0 : Int32) ∧ (255 : Int32) < c0) ∨ (r = (1 : Int32) ∧ (255 : Int32) < c1) ∨ (r = (2 : Int32) ∧ (255 : Int32) < c2) ∨ (r = (3 : Int32) ∧ (255 : Int32) < c3) ∨ (r = (4 : Int32) ∧ (255 : Int32) < c4))
set_option maxRecDepth 65536 in
set_option maxHeartbeats 40000000 in
theorem own_ci5 (l : Launch) (Z : State) (a0 : Array Value) (hw : ∀ d ∈ tables_1, d.before a0 Z = true) (ws : List Jvm.Cond) (a1 : Addr) (a2 : Addr) (c0 : Int32) (c1 : Int32) (c2 : Int32) (c3 : Int32) (c4 : Int32) (ka : ClassId) (kb : ClassId) (h0 : Heap) (n0 : Nat) (Z0 : n0 ≤ h0.size) (V_a1 : Arv Z h0 a1 ka .char (5 : Int32) (([c0, c1, c2, c3, c4] : List Int32).map Value.int) (Value.int 0)) (V_a2 : Arv Z h0 a2 kb .byte (5 : Int32) (([0, 0, 0, 0, 0] : List Int32).map Value.int) (Value.int 0)) (g_a2 : n0 ≤ a2) (ne_a1_a2 : a1 ≠ a2) :
    MetFree l mN7 (head1 (Jvm.Cond.code mN7 jdk_52_method_21_code 7 (some .int) :: ws) ({ frames := 0, cells := 0, slots := 0, locals := 0 } : Room)) (fun aa U => aa = #[(.ref a1), (.int 0), (.ref a2), (.int 0), (.int 5)] ∧ Z.Warmed39 U.vm ∧ U.heap = h0) (fun _ _ _ _ _ => True) (fun _ U o U' => ∃ v L, o = .returned v ∧ own_ci5_Q Z a1 a2 c0 c1 c2 c3 c4 ka kb h0 n0 v U'.heap L ∧ FrameEnd U o U' L ({ frames := 0, cells := 0, slots := 0, locals := 0 } : Room).cells ({ frames := 0, cells := 0, slots := 0, locals := 0 } : Room).slots) := by
  refine MetFree.of_bodySF (plainFor_of_name own_pn1) hisR ?_
  intro p e s m args below meth c s₁ Bd hml0 hP hK
  obtain ⟨rfl, hZ, hh⟩ := hP
  have hx := Bd.exec
  have hby := Bd.bytes
  have hlk := Bd.notSynchronized
  have hml : c.maxLocals = 7 := hml0
  have hown : s.vm.findClass "java/lang/StringUTF16" = some m.cls := findClass_of_methodNamed Bd.named
  have hnm := (name_of_methodNamed Bd.named Bd.method).1
  have X0 : Stand p l e ({ frames := 0, cells := 0, slots := 0, locals := 0 } : Room) s m #[(.ref a1), (.int 0), (.ref a2), (.int 0), (.int 5)] below meth c s₁ [] 0 0 := Stand.of_body Bd
  have e0 : s₁.heap = h0 := by rw [← hh, Bd.state]; rfl
  have N0 := Fr.nil n0
  have K0 : Keep h0 h0 [a2] := Keep.refl h0 _
  show gS p e below (own_Fin s (own_ci5_Q Z a1 a2 c0 c1 c2 c3 c4 ka kb h0 n0) ({ frames := 0, cells := 0, slots := 0, locals := 0 } : Room).cells ({ frames := 0, cells := 0, slots := 0, locals := 0 } : Room).slots) _
  refine sT (fun t k => castTop (own_ci5_ef m a1 a2) k) ?_
  show gM s₁ 0 #[rv a1, iv 0, rv a2, iv 0, iv 5, uN, uN] []
  refine sT (fun t k => XS.iconst X0.here hx rfl (hb hby d7_0) k) ?_
  show gM s₁ 1 #[rv a1, iv 0, rv a2, iv 0, iv 5, uN, uN] [(.int 0)]
  refine sT (fun t k => XS.istore X0.here hx rfl (hb hby d7_1) rfl (l' := #[rv a1, iv 0, rv a2, iv 0, iv 5, iv 0, uN]) rfl k) ?_
  show gM s₁ 3 #[rv a1, iv 0, rv a2, iv 0, iv 5, iv 0, uN] []
  refine sT (fun t k => XS.iload X0.here hx rfl (hb hby d7_3) rfl k) ?_
  show gM s₁ 5 #[rv a1, iv 0, rv a2, iv 0, iv 5, iv 0, uN] [(.int 0)]
  refine sT (fun t k => XS.iload X0.here hx rfl (hb hby d7_5) rfl k) ?_
  show gM s₁ 7 #[rv a1, iv 0, rv a2, iv 0, iv 5, iv 0, uN] [(.int 5), (.int 0)]
  have hc418 : (0 : Int32) < (5 : Int32) := by decide
  refine sT (fun t k => XS.icmpNo X0.here hx rfl (hb hby d7_7) rfl (tlt hc418).2.1 k) ?_
  show gM s₁ 10 #[rv a1, iv 0, rv a2, iv 0, iv 5, iv 0, uN] []
  refine sT (fun t k => XS.aloadN X0.here hx rfl (hb hby d7_10) rfl rfl k) ?_
  show gM s₁ 11 #[rv a1, iv 0, rv a2, iv 0, iv 5, iv 0, uN] [(.ref a1)]
  refine sT (fun t k => XS.iloadN X0.here hx rfl (hb hby d7_11) rfl k) ?_
  show gM s₁ 12 #[rv a1, iv 0, rv a2, iv 0, iv 5, iv 0, uN] [(.int 0), (.ref a1)]
  refine sT (fun t k => own_cal X0 hx hZ e0 V_a1 ⟨by decide, by decide⟩ (g := (mkF m 12 #[rv a1, iv 0, rv a2, iv 0, iv 5, iv 0, uN] [(.int 0), (.ref a1)])) rfl rfl (hb hby d7_12) _ k) ?_
  show gM s₁ 13 #[rv a1, iv 0, rv a2, iv 0, iv 5, iv 0, uN] [(.int c0)]
  refine sT (fun t k => XS.istore X0.here hx rfl (hb hby d7_13) rfl (l' := #[rv a1, iv 0, rv a2, iv 0, iv 5, iv 0, iv c0]) rfl k) ?_
  show gM s₁ 15 #[rv a1, iv 0, rv a2, iv 0, iv 5, iv 0, iv c0] []
  refine sT (fun t k => XS.iload X0.here hx rfl (hb hby d7_15) rfl k) ?_
  show gM s₁ 17 #[rv a1, iv 0, rv a2, iv 0, iv 5, iv 0, iv c0] [(.int c0)]
  refine sT (fun t k => XS.sipush X0.here hx rfl (hb hby d7_17) k) ?_
  show gM s₁ 20 #[rv a1, iv 0, rv a2, iv 0, iv 5, iv 0, iv c0] [(.int 255), (.int c0)]
  by_cases hc419 : (255 : Int32) < c0
  · --
   refine sT (fun t k => XS.icmpNo X0.here hx rfl (hb hby d7_20) rfl (tlt hc419).2.2.2 k) ?_
   show gM s₁ 23 #[rv a1, iv 0, rv a2, iv 0, iv 5, iv 0, iv c0] []
   refine sT (fun t k => XS.iload X0.here hx rfl (hb hby d7_23) rfl k) ?_
   show gM s₁ 25 #[rv a1, iv 0, rv a2, iv 0, iv 5, iv 0, iv c0] [(.int 0)]
   refine own_retV X0 hx hlk Bd.returns (w := (.int 0)) rfl (Or.inl ⟨rfl, Or.inl rfl, _, rfl⟩) (hb hby d7_25) ?_ (by decide) (by decide)
   show own_ci5_Q Z a1 a2 c0 c1 c2 c3 c4 ka kb h0 n0 _ s₁.heap _
   rw [e0]
   exact ⟨(0 : Int32), ([0, 0, 0, 0, 0] : List Int32), rfl, N0, K0, V_a2, (Or.inr (Or.inl ⟨rfl, hc419⟩))⟩
  · --
   refine sT (fun t k => XS.icmpYes X0.here hx rfl (pc0 := 20) (pc' := 26) rfl (hb hby d7_20) rfl (flt hc419).2.2.2 (by decide) (by decide) k) ?_
   show gM s₁ 26 #[rv a1, iv 0, rv a2, iv 0, iv 5, iv 0, iv c0] []
   refine sT (fun t k => XS.aloadN X0.here hx rfl (hb hby d7_26) rfl rfl k) ?_
   show gM s₁ 27 #[rv a1, iv 0, rv a2, iv 0, iv 5, iv 0, iv c0] [(.ref a2)]
   refine sT (fun t k => XS.iloadN X0.here hx rfl (hb hby d7_27) rfl k) ?_
   show gM s₁ 28 #[rv a1, iv 0, rv a2, iv 0, iv 5, iv 0, iv c0] [(.int 0), (.ref a2)]
   refine sT (fun t k => XS.iload X0.here hx rfl (hb hby d7_28) rfl k) ?_
   show gM s₁ 30 #[rv a1, iv 0, rv a2, iv 0, iv 5, iv 0, iv c0] [(.int c0), (.int 0), (.ref a2)]
   refine sT (fun t k => XS.i2b X0.here hx rfl (hb hby d7_30) rfl k) ?_
   show gM s₁ 31 #[rv a1, iv 0, rv a2, iv 0, iv 5, iv 0, iv c0] [(.int (c0.toInt8.toInt32)), (.int 0), (.ref a2)]
   obtain ⟨T420, h420, X420, e420, W420, V420, st420⟩ := own_bst X0 hx hZ e0 V_a2 (j := (0 : Int32)) (own_i8 _) ⟨by decide, by decide⟩ (0) rfl (Nat.le_of_ble_eq_true rfl) (g := (mkF m 31 #[rv a1, iv 0, rv a2, iv 0, iv 5, iv 0, iv c0] [(.int (c0.toInt8.toInt32)), (.int 0), (.ref a2)])) rfl rfl (hb hby d7_31)
   have V420 : Arv Z h420 a2 kb .byte (5 : Int32) (([(c0.toInt8.toInt32), 0, 0, 0, 0] : List Int32).map Value.int) (Value.int 0) := V420
   have N420 := Fr.snoc X420 N0 g_a2
   have K421 : Keep h0 h420 [a2] := K0.wr W420 (Or.inl (List.mem_of_getElem? (i := 0) rfl))
   refine sT st420 ?_
   show gM T420 32 #[rv a1, iv 0, rv a2, iv 0, iv 5, iv 0, iv c0] []
   refine sT (fun t k => XS.iinc X420.here hx rfl (hb hby d7_32) rfl (l' := #[rv a1, iv 1, rv a2, iv 0, iv 5, iv 0, iv c0]) rfl k) ?_
   show gM T420 35 #[rv a1, iv 1, rv a2, iv 0, iv 5, iv 0, iv c0] []
   refine sT (fun t k => XS.iinc X420.here hx rfl (hb hby d7_35) rfl (l' := #[rv a1, iv 1, rv a2, iv 1, iv 5, iv 0, iv c0]) rfl k) ?_
   show gM T420 38 #[rv a1, iv 1, rv a2, iv 1, iv 5, iv 0, iv c0] []
   refine sT (fun t k => XS.iinc X420.here hx rfl (hb hby d7_38) rfl (l' := #[rv a1, iv 1, rv a2, iv 1, iv 5, iv 1, iv c0]) rfl k) ?_
   show gM T420 41 #[rv a1, iv 1, rv a2, iv 1, iv 5, iv 1, iv c0] []
   refine sT (fun t k => XS.goto X420.here hx rfl (pc0 := 41) (pc' := 3) rfl (hb hby d7_41) (by decide) (by decide) k) ?_
   show gM T420 3 #[rv a1, iv 1, rv a2, iv 1, iv 5, iv 1, iv c0] []
   refine sT (fun t k => XS.iload X420.here hx rfl (hb hby d7_3) rfl k) ?_
   show gM T420 5 #[rv a1, iv 1, rv a2, iv 1, iv 5, iv 1, iv c0] [(.int 1)]
   refine sT (fun t k => XS.iload X420.here hx rfl (hb hby d7_5) rfl k) ?_
   show gM T420 7 #[rv a1, iv 1, rv a2, iv 1, iv 5, iv 1, iv c0] [(.int 5), (.int 1)]
   have hc422 : (1 : Int32) < (5 : Int32) := by decide
   refine sT (fun t k => XS.icmpNo X420.here hx rfl (hb hby d7_7) rfl (tlt hc422).2.1 k) ?_
   show gM T420 10 #[rv a1, iv 1, rv a2, iv 1, iv 5, iv 1, iv c0] []
   refine sT (fun t k => XS.aloadN X420.here hx rfl (hb hby d7_10) rfl rfl k) ?_
   show gM T420 11 #[rv a1, iv 1, rv a2, iv 1, iv 5, iv 1, iv c0] [(.ref a1)]
   refine sT (fun t k => XS.iloadN X420.here hx rfl (hb hby d7_11) rfl k) ?_
   show gM T420 12 #[rv a1, iv 1, rv a2, iv 1, iv 5, iv 1, iv c0] [(.int 1), (.ref a1)]
   refine sT (fun t k => own_cal X420 hx hZ e420 (V_a1.other W420 ne_a1_a2) ⟨by decide, by decide⟩ (g := (mkF m 12 #[rv a1, iv 1, rv a2, iv 1, iv 5, iv 1, iv c0] [(.int 1), (.ref a1)])) rfl rfl (hb hby d7_12) _ k) ?_
   show gM T420 13 #[rv a1, iv 1, rv a2, iv 1, iv 5, iv 1, iv c0] [(.int c1)]
   refine sT (fun t k => XS.istore X420.here hx rfl (hb hby d7_13) rfl (l' := #[rv a1, iv 1, rv a2, iv 1, iv 5, iv 1, iv c1]) rfl k) ?_
   show gM T420 15 #[rv a1, iv 1, rv a2, iv 1, iv 5, iv 1, iv c1] []
   refine sT (fun t k => XS.iload X420.here hx rfl (hb hby d7_15) rfl k) ?_
   show gM T420 17 #[rv a1, iv 1, rv a2, iv 1, iv 5, iv 1, iv c1] [(.int c1)]
   refine sT (fun t k => XS.sipush X420.here hx rfl (hb hby d7_17) k) ?_
   show gM T420 20 #[rv a1, iv 1, rv a2, iv 1, iv 5, iv 1, iv c1] [(.int 255), (.int c1)]
   by_cases hc423 : (255 : Int32) < c1
   · --
    refine sT (fun t k => XS.icmpNo X420.here hx rfl (hb hby d7_20) rfl (tlt hc423).2.2.2 k) ?_
    show gM T420 23 #[rv a1, iv 1, rv a2, iv 1, iv 5, iv 1, iv c1] []
    refine sT (fun t k => XS.iload X420.here hx rfl (hb hby d7_23) rfl k) ?_
    show gM T420 25 #[rv a1, iv 1, rv a2, iv 1, iv 5, iv 1, iv c1] [(.int 1)]
    refine own_retV X420 hx hlk Bd.returns (w := (.int 1)) rfl (Or.inl ⟨rfl, Or.inl rfl, _, rfl⟩) (hb hby d7_25) ?_ (by decide) (by decide)
    show own_ci5_Q Z a1 a2 c0 c1 c2 c3 c4 ka kb h0 n0 _ T420.heap _
    rw [e420]
    exact ⟨(1 : Int32), ([(c0.toInt8.toInt32), 0, 0, 0, 0] : List Int32), rfl, N420, K421, V420, (Or.inr (Or.inr (Or.inl ⟨rfl, hc423⟩)))⟩
   · --
    refine sT (fun t k => XS.icmpYes X420.here hx rfl (pc0 := 20) (pc' := 26) rfl (hb hby d7_20) rfl (flt hc423).2.2.2 (by decide) (by decide) k) ?_
    show gM T420 26 #[rv a1, iv 1, rv a2, iv 1, iv 5, iv 1, iv c1] []
    refine sT (fun t k => XS.aloadN X420.here hx rfl (hb hby d7_26) rfl rfl k) ?_
    show gM T420 27 #[rv a1, iv 1, rv a2, iv 1, iv 5, iv 1, iv c1] [(.ref a2)]
    refine sT (fun t k => XS.iloadN X420.here hx rfl (hb hby d7_27) rfl k) ?_
    show gM T420 28 #[rv a1, iv 1, rv a2, iv 1, iv 5, iv 1, iv c1] [(.int 1), (.ref a2)]
    refine sT (fun t k => XS.iload X420.here hx rfl (hb hby d7_28) rfl k) ?_
    show gM T420 30 #[rv a1, iv 1, rv a2, iv 1, iv 5, iv 1, iv c1] [(.int c1), (.int 1), (.ref a2)]
    refine sT (fun t k => XS.i2b X420.here hx rfl (hb hby d7_30) rfl k) ?_
    show gM T420 31 #[rv a1, iv 1, rv a2, iv 1, iv 5, iv 1, iv c1] [(.int (c1.toInt8.toInt32)), (.int 1), (.ref a2)]
    obtain ⟨T424, h424, X424, e424, W424, V424, st424⟩ := own_bst X420 hx hZ e420 V420 (j := (1 : Int32)) (own_i8 _) ⟨by decide, by decide⟩ (1) rfl (Nat.le_of_ble_eq_true rfl) (g := (mkF m 31 #[rv a1, iv 1, rv a2, iv 1, iv 5, iv 1, iv c1] [(.int (c1.toInt8.toInt32)), (.int 1), (.ref a2)])) rfl rfl (hb hby d7_31)
    have V424 : Arv Z h424 a2 kb .byte (5 : Int32) (([(c0.toInt8.toInt32), (c1.toInt8.toInt32), 0, 0, 0] : List Int32).map Value.int) (Value.int 0) := V424
    have N424 := Fr.snoc X424 N420 g_a2
    have K425 : Keep h0 h424 [a2] := K421.wr W424 (Or.inl (List.mem_of_getElem? (i := 0) rfl))
    refine sT st424 ?_
    show gM T424 32 #[rv a1, iv 1, rv a2, iv 1, iv 5, iv 1, iv c1] []
    refine sT (fun t k => XS.iinc X424.here hx rfl (hb hby d7_32) rfl (l' := #[rv a1, iv 2, rv a2, iv 1, iv 5, iv 1, iv c1]) rfl k) ?_
    show gM T424 35 #[rv a1, iv 2, rv a2, iv 1, iv 5, iv 1, iv c1] []
    refine sT (fun t k => XS.iinc X424.here hx rfl (hb hby d7_35) rfl (l' := #[rv a1, iv 2, rv a2, iv 2, iv 5, iv 1, iv c1]) rfl k) ?_
    show gM T424 38 #[rv a1, iv 2, rv a2, iv 2, iv 5, iv 1, iv c1] []
    refine sT (fun t k => XS.iinc X424.here hx rfl (hb hby d7_38) rfl (l' := #[rv a1, iv 2, rv a2, iv 2, iv 5, iv 2, iv c1]) rfl k) ?_
    show gM T424 41 #[rv a1, iv 2, rv a2, iv 2, iv 5, iv 2, iv c1] []
    refine sT (fun t k => XS.goto X424.here hx rfl (pc0 := 41) (pc' := 3) rfl (hb hby d7_41) (by decide) (by decide) k) ?_
    show gM T424 3 #[rv a1, iv 2, rv a2, iv 2, iv 5, iv 2, iv c1] []
    refine sT (fun t k => XS.iload X424.here hx rfl (hb hby d7_3) rfl k) ?_
    show gM T424 5 #[rv a1, iv 2, rv a2, iv 2, iv 5, iv 2, iv c1] [(.int 2)]
    refine sT (fun t k => XS.iload X424.here hx rfl (hb hby d7_5) rfl k) ?_
    show gM T424 7 #[rv a1, iv 2, rv a2, iv 2, iv 5, iv 2, iv c1] [(.int 5), (.int 2)]
    have hc426 : (2 : Int32) < (5 : Int32) := by decide
    refine sT (fun t k => XS.icmpNo X424.here hx rfl (hb hby d7_7) rfl (tlt hc426).2.1 k) ?_
    show gM T424 10 #[rv a1, iv 2, rv a2, iv 2, iv 5, iv 2, iv c1] []
    refine sT (fun t k => XS.aloadN X424.here hx rfl (hb hby d7_10) rfl rfl k) ?_
    show gM T424 11 #[rv a1, iv 2, rv a2, iv 2, iv 5, iv 2, iv c1] [(.ref a1)]
    refine sT (fun t k => XS.iloadN X424.here hx rfl (hb hby d7_11) rfl k) ?_
    show gM T424 12 #[rv a1, iv 2, rv a2, iv 2, iv 5, iv 2, iv c1] [(.int 2), (.ref a1)]
    refine sT (fun t k => own_cal X424 hx hZ e424 ((V_a1.other W420 ne_a1_a2).other W424 ne_a1_a2) ⟨by decide, by decide⟩ (g := (mkF m 12 #[rv a1, iv 2, rv a2, iv 2, iv 5, iv 2, iv c1] [(.int 2), (.ref a1)])) rfl rfl (hb hby d7_12) _ k) ?_
    show gM T424 13 #[rv a1, iv 2, rv a2, iv 2, iv 5, iv 2, iv c1] [(.int c2)]
    refine sT (fun t k => XS.istore X424.here hx rfl (hb hby d7_13) rfl (l' := #[rv a1, iv 2, rv a2, iv 2, iv 5, iv 2, iv c2]) rfl k) ?_
    show gM T424 15 #[rv a1, iv 2, rv a2, iv 2, iv 5, iv 2, iv c2] []
    refine sT (fun t k => XS.iload X424.here hx rfl (hb hby d7_15) rfl k) ?_
    show gM T424 17 #[rv a1, iv 2, rv a2, iv 2, iv 5, iv 2, iv c2] [(.int c2)]
    refine sT (fun t k => XS.sipush X424.here hx rfl (hb hby d7_17) k) ?_
    show gM T424 20 #[rv a1, iv 2, rv a2, iv 2, iv 5, iv 2, iv c2] [(.int 255), (.int c2)]
    by_cases hc427 : (255 : Int32) < c2
    · --
     refine sT (fun t k => XS.icmpNo X424.here hx rfl (hb hby d7_20) rfl (tlt hc427).2.2.2 k) ?_
     show gM T424 23 #[rv a1, iv 2, rv a2, iv 2, iv 5, iv 2, iv c2] []
     refine sT (fun t k => XS.iload X424.here hx rfl (hb hby d7_23) rfl k) ?_
     show gM T424 25 #[rv a1, iv 2, rv a2, iv 2, iv 5, iv 2, iv c2] [(.int 2)]
     refine own_retV X424 hx hlk Bd.returns (w := (.int 2)) rfl (Or.inl ⟨rfl, Or.inl rfl, _, rfl⟩) (hb hby d7_25) ?_ (by decide) (by decide)
     show own_ci5_Q Z a1 a2 c0 c1 c2 c3 c4 ka kb h0 n0 _ T424.heap _
     rw [e424]
     exact ⟨(2 : Int32), ([(c0.toInt8.toInt32), (c1.toInt8.toInt32), 0, 0, 0] : List Int32), rfl, N424, K425, V424, (Or.inr (Or.inr (Or.inr (Or.inl ⟨rfl, hc427⟩))))⟩
    · --
     refine sT (fun t k => XS.icmpYes X424.here hx rfl (pc0 := 20) (pc' := 26) rfl (hb hby d7_20) rfl (flt hc427).2.2.2 (by decide) (by decide) k) ?_
     show gM T424 26 #[rv a1, iv 2, rv a2, iv 2, iv 5, iv 2, iv c2] []
     refine sT (fun t k => XS.aloadN X424.here hx rfl (hb hby d7_26) rfl rfl k) ?_
     show gM T424 27 #[rv a1, iv 2, rv a2, iv 2, iv 5, iv 2, iv c2] [(.ref a2)]
     refine sT (fun t k => XS.iloadN X424.here hx rfl (hb hby d7_27) rfl k) ?_
     show gM T424 28 #[rv a1, iv 2, rv a2, iv 2, iv 5, iv 2, iv c2] [(.int 2), (.ref a2)]
     refine sT (fun t k => XS.iload X424.here hx rfl (hb hby d7_28) rfl k) ?_
     show gM T424 30 #[rv a1, iv 2, rv a2, iv 2, iv 5, iv 2, iv c2] [(.int c2), (.int 2), (.ref a2)]
     refine sT (fun t k => XS.i2b X424.here hx rfl (hb hby d7_30) rfl k) ?_
     show gM T424 31 #[rv a1, iv 2, rv a2, iv 2, iv 5, iv 2, iv c2] [(.int (c2.toInt8.toInt32)), (.int 2), (.ref a2)]
     obtain ⟨T428, h428, X428, e428, W428, V428, st428⟩ := own_bst X424 hx hZ e424 V424 (j := (2 : Int32)) (own_i8 _) ⟨by decide, by decide⟩ (2) rfl (Nat.le_of_ble_eq_true rfl) (g := (mkF m 31 #[rv a1, iv 2, rv a2, iv 2, iv 5, iv 2, iv c2] [(.int (c2.toInt8.toInt32)), (.int 2), (.ref a2)])) rfl rfl (hb hby d7_31)
     have V428 : Arv Z h428 a2 kb .byte (5 : Int32) (([(c0.toInt8.toInt32), (c1.toInt8.toInt32), (c2.toInt8.toInt32), 0, 0] : List Int32).map Value.int) (Value.int 0) := V428
     have N428 := Fr.snoc X428 N424 g_a2
     have K429 : Keep h0 h428 [a2] := K425.wr W428 (Or.inl (List.mem_of_getElem? (i := 0) rfl))
     refine sT st428 ?_
     show gM T428 32 #[rv a1, iv 2, rv a2, iv 2, iv 5, iv 2, iv c2] []
     refine sT (fun t k => XS.iinc X428.here hx rfl (hb hby d7_32) rfl (l' := #[rv a1, iv 3, rv a2, iv 2, iv 5, iv 2, iv c2]) rfl k) ?_
     show gM T428 35 #[rv a1, iv 3, rv a2, iv 2, iv 5, iv 2, iv c2] []
     refine sT (fun t k => XS.iinc X428.here hx rfl (hb hby d7_35) rfl (l' := #[rv a1, iv 3, rv a2, iv 3, iv 5, iv 2, iv c2]) rfl k) ?_
     show gM T428 38 #[rv a1, iv 3, rv a2, iv 3, iv 5, iv 2, iv c2] []
     refine sT (fun t k => XS.iinc X428.here hx rfl (hb hby d7_38) rfl (l' := #[rv a1, iv 3, rv a2, iv 3, iv 5, iv 3, iv c2]) rfl k) ?_
     show gM T428 41 #[rv a1, iv 3, rv a2, iv 3, iv 5, iv 3, iv c2] []
     refine sT (fun t k => XS.goto X428.here hx rfl (pc0 := 41) (pc' := 3) rfl (hb hby d7_41) (by decide) (by decide) k) ?_
     show gM T428 3 #[rv a1, iv 3, rv a2, iv 3, iv 5, iv 3, iv c2] []
     refine sT (fun t k => XS.iload X428.here hx rfl (hb hby d7_3) rfl k) ?_
     show gM T428 5 #[rv a1, iv 3, rv a2, iv 3, iv 5, iv 3, iv c2] [(.int 3)]
     refine sT (fun t k => XS.iload X428.here hx rfl (hb hby d7_5) rfl k) ?_
     show gM T428 7 #[rv a1, iv 3, rv a2, iv 3, iv 5, iv 3, iv c2] [(.int 5), (.int 3)]
     have hc430 : (3 : Int32) < (5 : Int32) := by decide
     refine sT (fun t k => XS.icmpNo X428.here hx rfl (hb hby d7_7) rfl (tlt hc430).2.1 k) ?_
     show gM T428 10 #[rv a1, iv 3, rv a2, iv 3, iv 5, iv 3, iv c2] []
     refine sT (fun t k => XS.aloadN X428.here hx rfl (hb hby d7_10) rfl rfl k) ?_
     show gM T428 11 #[rv a1, iv 3, rv a2, iv 3, iv 5, iv 3, iv c2] [(.ref a1)]
     refine sT (fun t k => XS.iloadN X428.here hx rfl (hb hby d7_11) rfl k) ?_
     show gM T428 12 #[rv a1, iv 3, rv a2, iv 3, iv 5, iv 3, iv c2] [(.int 3), (.ref a1)]
     refine sT (fun t k => own_cal X428 hx hZ e428 (((V_a1.other W420 ne_a1_a2).other W424 ne_a1_a2).other W428 ne_a1_a2) ⟨by decide, by decide⟩ (g := (mkF m 12 #[rv a1, iv 3, rv a2, iv 3, iv 5, iv 3, iv c2] [(.int 3), (.ref a1)])) rfl rfl (hb hby d7_12) _ k) ?_
     show gM T428 13 #[rv a1, iv 3, rv a2, iv 3, iv 5, iv 3, iv c2] [(.int c3)]
     refine sT (fun t k => XS.istore X428.here hx rfl (hb hby d7_13) rfl (l' := #[rv a1, iv 3, rv a2, iv 3, iv 5, iv 3, iv c3]) rfl k) ?_
     show gM T428 15 #[rv a1, iv 3, rv a2, iv 3, iv 5, iv 3, iv c3] []
     refine sT (fun t k => XS.iload X428.here hx rfl (hb hby d7_15) rfl k) ?_
     show gM T428 17 #[rv a1, iv 3, rv a2, iv 3, iv 5, iv 3, iv c3] [(.int c3)]
     refine sT (fun t k => XS.sipush X428.here hx rfl (hb hby d7_17) k) ?_
     show gM T428 20 #[rv a1, iv 3, rv a2, iv 3, iv 5, iv 3, iv c3] [(.int 255), (.int c3)]
     by_cases hc431 : (255 : Int32) < c3
     · --
      refine sT (fun t k => XS.icmpNo X428.here hx rfl (hb hby d7_20) rfl (tlt hc431).2.2.2 k) ?_
      show gM T428 23 #[rv a1, iv 3, rv a2, iv 3, iv 5, iv 3, iv c3] []
      refine sT (fun t k => XS.iload X428.here hx rfl (hb hby d7_23) rfl k) ?_
      show gM T428 25 #[rv a1, iv 3, rv a2, iv 3, iv 5, iv 3, iv c3] [(.int 3)]
      refine own_retV X428 hx hlk Bd.returns (w := (.int 3)) rfl (Or.inl ⟨rfl, Or.inl rfl, _, rfl⟩) (hb hby d7_25) ?_ (by decide) (by decide)
      show own_ci5_Q Z a1 a2 c0 c1 c2 c3 c4 ka kb h0 n0 _ T428.heap _
      rw [e428]
      exact ⟨(3 : Int32), ([(c0.toInt8.toInt32), (c1.toInt8.toInt32), (c2.toInt8.toInt32), 0, 0] : List Int32), rfl, N428, K429, V428, (Or.inr (Or.inr (Or.inr (Or.inr (Or.inl ⟨rfl, hc431⟩)))))⟩
     · --
      refine sT (fun t k => XS.icmpYes X428.here hx rfl (pc0 := 20) (pc' := 26) rfl (hb hby d7_20) rfl (flt hc431).2.2.2 (by decide) (by decide) k) ?_
      show gM T428 26 #[rv a1, iv 3, rv a2, iv 3, iv 5, iv 3, iv c3] []
      refine sT (fun t k => XS.aloadN X428.here hx rfl (hb hby d7_26) rfl rfl k) ?_
      show gM T428 27 #[rv a1, iv 3, rv a2, iv 3, iv 5, iv 3, iv c3] [(.ref a2)]
      refine sT (fun t k => XS.iloadN X428.here hx rfl (hb hby d7_27) rfl k) ?_
      show gM T428 28 #[rv a1, iv 3, rv a2, iv 3, iv 5, iv 3, iv c3] [(.int 3), (.ref a2)]
      refine sT (fun t k => XS.iload X428.here hx rfl (hb hby d7_28) rfl k) ?_
      show gM T428 30 #[rv a1, iv 3, rv a2, iv 3, iv 5, iv 3, iv c3] [(.int c3), (.int 3), (.ref a2)]
      refine sT (fun t k => XS.i2b X428.here hx rfl (hb hby d7_30) rfl k) ?_
      show gM T428 31 #[rv a1, iv 3, rv a2, iv 3, iv 5, iv 3, iv c3] [(.int (c3.toInt8.toInt32)), (.int 3), (.ref a2)]
      obtain ⟨T432, h432, X432, e432, W432, V432, st432⟩ := own_bst X428 hx hZ e428 V428 (j := (3 : Int32)) (own_i8 _) ⟨by decide, by decide⟩ (3) rfl (Nat.le_of_ble_eq_true rfl) (g := (mkF m 31 #[rv a1, iv 3, rv a2, iv 3, iv 5, iv 3, iv c3] [(.int (c3.toInt8.toInt32)), (.int 3), (.ref a2)])) rfl rfl (hb hby d7_31)
      have V432 : Arv Z h432 a2 kb .byte (5 : Int32) (([(c0.toInt8.toInt32), (c1.toInt8.toInt32), (c2.toInt8.toInt32), (c3.toInt8.toInt32), 0] : List Int32).map Value.int) (Value.int 0) := V432
      have N432 := Fr.snoc X432 N428 g_a2
      have K433 : Keep h0 h432 [a2] := K429.wr W432 (Or.inl (List.mem_of_getElem? (i := 0) rfl))
      refine sT st432 ?_
      show gM T432 32 #[rv a1, iv 3, rv a2, iv 3, iv 5, iv 3, iv c3] []
      refine sT (fun t k => XS.iinc X432.here hx rfl (hb hby d7_32) rfl (l' := #[rv a1, iv 4, rv a2, iv 3, iv 5, iv 3, iv c3]) rfl k) ?_
      show gM T432 35 #[rv a1, iv 4, rv a2, iv 3, iv 5, iv 3, iv c3] []
      refine sT (fun t k => XS.iinc X432.here hx rfl (hb hby d7_35) rfl (l' := #[rv a1, iv 4, rv a2, iv 4, iv 5, iv 3, iv c3]) rfl k) ?_
      show gM T432 38 #[rv a1, iv 4, rv a2, iv 4, iv 5, iv 3, iv c3] []
      refine sT (fun t k => XS.iinc X432.here hx rfl (hb hby d7_38) rfl (l' := #[rv a1, iv 4, rv a2, iv 4, iv 5, iv 4, iv c3]) rfl k) ?_
      show gM T432 41 #[rv a1, iv 4, rv a2, iv 4, iv 5, iv 4, iv c3] []
      refine sT (fun t k => XS.goto X432.here hx rfl (pc0 := 41) (pc' := 3) rfl (hb hby d7_41) (by decide) (by decide) k) ?_
      show gM T432 3 #[rv a1, iv 4, rv a2, iv 4, iv 5, iv 4, iv c3] []
      refine sT (fun t k => XS.iload X432.here hx rfl (hb hby d7_3) rfl k) ?_
      show gM T432 5 #[rv a1, iv 4, rv a2, iv 4, iv 5, iv 4, iv c3] [(.int 4)]
      refine sT (fun t k => XS.iload X432.here hx rfl (hb hby d7_5) rfl k) ?_
      show gM T432 7 #[rv a1, iv 4, rv a2, iv 4, iv 5, iv 4, iv c3] [(.int 5), (.int 4)]
      have hc434 : (4 : Int32) < (5 : Int32) := by decide
      refine sT (fun t k => XS.icmpNo X432.here hx rfl (hb hby d7_7) rfl (tlt hc434).2.1 k) ?_
      show gM T432 10 #[rv a1, iv 4, rv a2, iv 4, iv 5, iv 4, iv c3] []
      refine sT (fun t k => XS.aloadN X432.here hx rfl (hb hby d7_10) rfl rfl k) ?_
      show gM T432 11 #[rv a1, iv 4, rv a2, iv 4, iv 5, iv 4, iv c3] [(.ref a1)]
      refine sT (fun t k => XS.iloadN X432.here hx rfl (hb hby d7_11) rfl k) ?_
      show gM T432 12 #[rv a1, iv 4, rv a2, iv 4, iv 5, iv 4, iv c3] [(.int 4), (.ref a1)]
      refine sT (fun t k => own_cal X432 hx hZ e432 ((((V_a1.other W420 ne_a1_a2).other W424 ne_a1_a2).other W428 ne_a1_a2).other W432 ne_a1_a2) ⟨by decide, by decide⟩ (g := (mkF m 12 #[rv a1, iv 4, rv a2, iv 4, iv 5, iv 4, iv c3] [(.int 4), (.ref a1)])) rfl rfl (hb hby d7_12) _ k) ?_
      show gM T432 13 #[rv a1, iv 4, rv a2, iv 4, iv 5, iv 4, iv c3] [(.int c4)]
      refine sT (fun t k => XS.istore X432.here hx rfl (hb hby d7_13) rfl (l' := #[rv a1, iv 4, rv a2, iv 4, iv 5, iv 4, iv c4]) rfl k) ?_
      show gM T432 15 #[rv a1, iv 4, rv a2, iv 4, iv 5, iv 4, iv c4] []
      refine sT (fun t k => XS.iload X432.here hx rfl (hb hby d7_15) rfl k) ?_
      show gM T432 17 #[rv a1, iv 4, rv a2, iv 4, iv 5, iv 4, iv c4] [(.int c4)]
      refine sT (fun t k => XS.sipush X432.here hx rfl (hb hby d7_17) k) ?_
      show gM T432 20 #[rv a1, iv 4, rv a2, iv 4, iv 5, iv 4, iv c4] [(.int 255), (.int c4)]
      by_cases hc435 : (255 : Int32) < c4
      · --
       refine sT (fun t k => XS.icmpNo X432.here hx rfl (hb hby d7_20) rfl (tlt hc435).2.2.2 k) ?_
       show gM T432 23 #[rv a1, iv 4, rv a2, iv 4, iv 5, iv 4, iv c4] []
       refine sT (fun t k => XS.iload X432.here hx rfl (hb hby d7_23) rfl k) ?_
       show gM T432 25 #[rv a1, iv 4, rv a2, iv 4, iv 5, iv 4, iv c4] [(.int 4)]
       refine own_retV X432 hx hlk Bd.returns (w := (.int 4)) rfl (Or.inl ⟨rfl, Or.inl rfl, _, rfl⟩) (hb hby d7_25) ?_ (by decide) (by decide)
       show own_ci5_Q Z a1 a2 c0 c1 c2 c3 c4 ka kb h0 n0 _ T432.heap _
       rw [e432]
       exact ⟨(4 : Int32), ([(c0.toInt8.toInt32), (c1.toInt8.toInt32), (c2.toInt8.toInt32), (c3.toInt8.toInt32), 0] : List Int32), rfl, N432, K433, V432, (Or.inr (Or.inr (Or.inr (Or.inr (Or.inr ⟨rfl, hc435⟩)))))⟩
      · --
       refine sT (fun t k => XS.icmpYes X432.here hx rfl (pc0 := 20) (pc' := 26) rfl (hb hby d7_20) rfl (flt hc435).2.2.2 (by decide) (by decide) k) ?_
       show gM T432 26 #[rv a1, iv 4, rv a2, iv 4, iv 5, iv 4, iv c4] []
       refine sT (fun t k => XS.aloadN X432.here hx rfl (hb hby d7_26) rfl rfl k) ?_
       show gM T432 27 #[rv a1, iv 4, rv a2, iv 4, iv 5, iv 4, iv c4] [(.ref a2)]
       refine sT (fun t k => XS.iloadN X432.here hx rfl (hb hby d7_27) rfl k) ?_
       show gM T432 28 #[rv a1, iv 4, rv a2, iv 4, iv 5, iv 4, iv c4] [(.int 4), (.ref a2)]
       refine sT (fun t k => XS.iload X432.here hx rfl (hb hby d7_28) rfl k) ?_
       show gM T432 30 #[rv a1, iv 4, rv a2, iv 4, iv 5, iv 4, iv c4] [(.int c4), (.int 4), (.ref a2)]
       refine sT (fun t k => XS.i2b X432.here hx rfl (hb hby d7_30) rfl k) ?_
       show gM T432 31 #[rv a1, iv 4, rv a2, iv 4, iv 5, iv 4, iv c4] [(.int (c4.toInt8.toInt32)), (.int 4), (.ref a2)]
       obtain ⟨T436, h436, X436, e436, W436, V436, st436⟩ := own_bst X432 hx hZ e432 V432 (j := (4 : Int32)) (own_i8 _) ⟨by decide, by decide⟩ (4) rfl (Nat.le_of_ble_eq_true rfl) (g := (mkF m 31 #[rv a1, iv 4, rv a2, iv 4, iv 5, iv 4, iv c4] [(.int (c4.toInt8.toInt32)), (.int 4), (.ref a2)])) rfl rfl (hb hby d7_31)
       have V436 : Arv Z h436 a2 kb .byte (5 : Int32) (([(c0.toInt8.toInt32), (c1.toInt8.toInt32), (c2.toInt8.toInt32), (c3.toInt8.toInt32), (c4.toInt8.toInt32)] : List Int32).map Value.int) (Value.int 0) := V436
       have N436 := Fr.snoc X436 N432 g_a2
       have K437 : Keep h0 h436 [a2] := K433.wr W436 (Or.inl (List.mem_of_getElem? (i := 0) rfl))
       refine sT st436 ?_
       show gM T436 32 #[rv a1, iv 4, rv a2, iv 4, iv 5, iv 4, iv c4] []
       refine sT (fun t k => XS.iinc X436.here hx rfl (hb hby d7_32) rfl (l' := #[rv a1, iv 5, rv a2, iv 4, iv 5, iv 4, iv c4]) rfl k) ?_
       show gM T436 35 #[rv a1, iv 5, rv a2, iv 4, iv 5, iv 4, iv c4] []
       refine sT (fun t k => XS.iinc X436.here hx rfl (hb hby d7_35) rfl (l' := #[rv a1, iv 5, rv a2, iv 5, iv 5, iv 4, iv c4]) rfl k) ?_
       show gM T436 38 #[rv a1, iv 5, rv a2, iv 5, iv 5, iv 4, iv c4] []
       refine sT (fun t k => XS.iinc X436.here hx rfl (hb hby d7_38) rfl (l' := #[rv a1, iv 5, rv a2, iv 5, iv 5, iv 5, iv c4]) rfl k) ?_
       show gM T436 41 #[rv a1, iv 5, rv a2, iv 5, iv 5, iv 5, iv c4] []
       refine sT (fun t k => XS.goto X436.here hx rfl (pc0 := 41) (pc' := 3) rfl (hb hby d7_41) (by decide) (by decide) k) ?_
       show gM T436 3 #[rv a1, iv 5, rv a2, iv 5, iv 5, iv 5, iv c4] []
       refine sT (fun t k => XS.iload X436.here hx rfl (hb hby d7_3) rfl k) ?_
       show gM T436 5 #[rv a1, iv 5, rv a2, iv 5, iv 5, iv 5, iv c4] [(.int 5)]
       refine sT (fun t k => XS.iload X436.here hx rfl (hb hby d7_5) rfl k) ?_
       show gM T436 7 #[rv a1, iv 5, rv a2, iv 5, iv 5, iv 5, iv c4] [(.int 5), (.int 5)]
       have hc438 : ¬ ((5 : Int32) < (5 : Int32)) := by decide
       refine sT (fun t k => XS.icmpYes X436.here hx rfl (pc0 := 7) (pc' := 44) rfl (hb hby d7_7) rfl (flt hc438).2.1 (by decide) (by decide) k) ?_
       show gM T436 44 #[rv a1, iv 5, rv a2, iv 5, iv 5, iv 5, iv c4] []
       refine sT (fun t k => XS.iload X436.here hx rfl (hb hby d7_44) rfl k) ?_
       show gM T436 46 #[rv a1, iv 5, rv a2, iv 5, iv 5, iv 5, iv c4] [(.int 5)]
       refine own_retV X436 hx hlk Bd.returns (w := (.int 5)) rfl (Or.inl ⟨rfl, Or.inl rfl, _, rfl⟩) (hb hby d7_46) ?_ (by decide) (by decide)
       show own_ci5_Q Z a1 a2 c0 c1 c2 c3 c4 ka kb h0 n0 _ T436.heap _
       rw [e436]
       exact ⟨(5 : Int32), ([(c0.toInt8.toInt32), (c1.toInt8.toInt32), (c2.toInt8.toInt32), (c3.toInt8.toInt32), (c4.toInt8.toInt32)] : List Int32), rfl, N436, K437, V436, (Or.inl ⟨rfl, rfl, hc419, hc423, hc427, hc431, hc435⟩)⟩
theorem own_co5_ef (m : MethodId) (a1 : Addr) : entryFrame m #[(.ref a1), (.int 0), (.int 5)] 6 = mkF m 0 #[rv a1, iv 0, iv 5, uN, uN, uN] [] := by first | (simp [entryFrame, mkF, argsToLocals, Value.category]; done) | rfl
def own_co5_Q (Z : State) (a1 : Addr) (c0 : Int32) (c1 : Int32) (c2 : Int32) (c3 : Int32) (c4 : Int32) (ka : ClassId) (h0 : Heap) (n0 : Nat) (v : Option Value) (h : Heap) (L : List Loc) : Prop := ∃ bv : Addr, ∃ kb : ClassId, ∃ zl : Int32, ∃ ys : List Int32, v = some (.ref bv) ∧ Fr n0 L ∧ Keep h0 h [] ∧ h0.size ≤ bv ∧ Arv Z h bv kb .byte zl (ys.map Value.int) (Value.int 0) ∧ ((zl = (5 : Int32) ∧ ys = ([(c0.toInt8.toInt32), (c1.toInt8.toInt32), (c2.toInt8.toInt32), (c3.toInt8.toInt32), (c4.toInt8.toInt32)] : List Int32) ∧ ¬ (255 : Int32) < c0 ∧ ¬ (255 : Int32) < c1 ∧ ¬ (255 : Int32) < c2 ∧ ¬ (255 : Int32) < c3 ∧ ¬ (255 : Int32) < c4) ∨ (zl = (10 : Int32) ∧ ((255 : Int32) < c0 ∨ (255 : Int32) < c1 ∨ (255 : Int32) < c2 ∨ (255 : Int32) < c3 ∨ (255 : Int32) < c4)))
set_option maxRecDepth 65536 in
set_option maxHeartbeats 40000000 in
theorem own_co5 (l : Launch) (Z : State) (a0 : Array Value) (hw : ∀ d ∈ tables_1, d.before a0 Z = true) (ws : List Jvm.Cond) (a1 : Addr) (c0 : Int32) (c1 : Int32) (c2 : Int32) (c3 : Int32) (c4 : Int32) (ka : ClassId) (h0 : Heap) (n0 : Nat) (Z0 : n0 ≤ h0.size) (S__assertionsDisabled : Sta Z Z.heap "java/lang/StringUTF16" "$assertionsDisabled" "Z" (.int 1)) (S_HI_BYTE_SHIFT : Sta Z Z.heap "java/lang/StringUTF16" "HI_BYTE_SHIFT" "I" (.int 0)) (S_LO_BYTE_SHIFT : Sta Z Z.heap "java/lang/StringUTF16" "LO_BYTE_SHIFT" "I" (.int 8)) (Zn : Z.heap.size ≤ n0) (EZ : Ext Z.heap h0) (V_a1 : Arv Z h0 a1 ka .char (5 : Int32) (([c0, c1, c2, c3, c4] : List Int32).map Value.int) (Value.int 0)) (hN0 : nar .char c0 = c0) (hN1 : nar .char c1 = c1) (hN2 : nar .char c2 = c2) (hN3 : nar .char c3 = c3) (hN4 : nar .char c4 = c4) :
    MetFree l mN8 (head1 (Jvm.Cond.code mN8 jdk_52_method_16_code 6 (some (.array .byte)) :: ws) ({ frames := 3, cells := 2, slots := 15, locals := 40 } : Room)) (fun aa U => aa = #[(.ref a1), (.int 0), (.int 5)] ∧ Z.Warmed39 U.vm ∧ U.heap = h0) (fun _ _ _ _ _ => True) (fun _ U o U' => ∃ v L, o = .returned v ∧ own_co5_Q Z a1 c0 c1 c2 c3 c4 ka h0 n0 v U'.heap L ∧ FrameEnd U o U' L ({ frames := 3, cells := 2, slots := 15, locals := 40 } : Room).cells ({ frames := 3, cells := 2, slots := 15, locals := 40 } : Room).slots) := by
  refine MetFree.of_bodySF (plainFor_of_name own_pn1) hisR ?_
  have w27 := wO hw 27 rfl
  have w59 := wO hw 59 rfl
  have w61 := wO hw 61 rfl
  have w62 := wO hw 62 rfl
  have w63 := wO hw 63 rfl
  have w68 := wO hw 68 rfl
  have w69 := wO hw 69 rfl
  have w70 := wO hw 70 rfl
  have w84 := wO hw 84 rfl
  have w85 := wO hw 85 rfl
  have w86 := wO hw 86 rfl
  intro p e s m args below meth c s₁ Bd hml0 hP hK
  obtain ⟨rfl, hZ, hh⟩ := hP
  have hx := Bd.exec
  have hby := Bd.bytes
  have hlk := Bd.notSynchronized
  have hml : c.maxLocals = 6 := hml0
  have hown : s.vm.findClass "java/lang/StringUTF16" = some m.cls := findClass_of_methodNamed Bd.named
  have hnm := (name_of_methodNamed Bd.named Bd.method).1
  have X0 : Stand p l e ({ frames := 3, cells := 2, slots := 15, locals := 40 } : Room) s m #[(.ref a1), (.int 0), (.int 5)] below meth c s₁ [] 0 0 := Stand.of_body Bd
  have e0 : s₁.heap = h0 := by rw [← hh, Bd.state]; rfl
  have N0 := Fr.nil n0
  have K0 : Keep h0 h0 [] := Keep.refl h0 _
  have O0 : Old Z Z.heap.size h0 := ⟨rfl, EZ⟩
  show gS p e below (own_Fin s (own_co5_Q Z a1 c0 c1 c2 c3 c4 ka h0 n0) ({ frames := 3, cells := 2, slots := 15, locals := 40 } : Room).cells ({ frames := 3, cells := 2, slots := 15, locals := 40 } : Room).slots) _
  refine sT (fun t k => castTop (own_co5_ef m a1) k) ?_
  show gM s₁ 0 #[rv a1, iv 0, iv 5, uN, uN, uN] []
  refine sT (fun t k => XS.iloadN X0.here hx rfl (hb hby d8_0) rfl k) ?_
  show gM s₁ 1 #[rv a1, iv 0, iv 5, uN, uN, uN] [(.int 5)]
  obtain ⟨T449, h449, k449, X449, e449, E449, A449, st449⟩ := newP (aty := .byte) X0 hx hZ w27 e0 (g := (mkF m 1 #[rv a1, iv 0, iv 5, uN, uN, uN] [(.int 5)])) rfl (hb hby d8_1) rfl (by decide) (cap := 5) (by decide) (by decide) (by decide) (by decide)
  obtain ⟨b449, g449⟩ : ∃ z, z = h0.size := ⟨_, rfl⟩
  rw [← g449] at A449 st449
  have ne_a1_b449 : a1 ≠ b449 := Nat.ne_of_lt (Nat.lt_of_lt_of_le V_a1.lt (Nat.le_of_eq g449.symm))
  have g_b449 : n0 ≤ b449 := Nat.le_trans Z0 (Nat.le_of_eq g449.symm)
  have sz_b449 : h0.size ≤ b449 := Nat.le_trans K0.1 (Nat.le_of_eq g449.symm)
  have V449 : Arv Z h449 b449 k449 .byte (5 : Int32) (([0, 0, 0, 0, 0] : List Int32).map Value.int) (Value.int 0) := own_newB A449 (by decide) 5
  have K450 : Keep h0 h449 [] := K0.ext E449
  refine sT st449 ?_
  show gM T449 3 #[rv a1, iv 0, iv 5, uN, uN, uN] [(.ref b449)]
  refine sT (fun t k => XS.astoreN X449.here hx rfl (hb hby d8_3) rfl rfl (l' := #[rv a1, iv 0, iv 5, rv b449, uN, uN]) rfl k) ?_
  show gM T449 4 #[rv a1, iv 0, iv 5, rv b449, uN, uN] []
  refine sT (fun t k => XS.aloadN X449.here hx rfl (hb hby d8_4) rfl rfl k) ?_
  show gM T449 5 #[rv a1, iv 0, iv 5, rv b449, uN, uN] [(.ref a1)]
  refine sT (fun t k => XS.iloadN X449.here hx rfl (hb hby d8_5) rfl k) ?_
  show gM T449 6 #[rv a1, iv 0, iv 5, rv b449, uN, uN] [(.int 0), (.ref a1)]
  refine sT (fun t k => XS.aloadN X449.here hx rfl (hb hby d8_6) rfl rfl k) ?_
  show gM T449 7 #[rv a1, iv 0, iv 5, rv b449, uN, uN] [(.ref b449), (.int 0), (.ref a1)]
  refine sT (fun t k => XS.iconst X449.here hx rfl (hb hby d8_7) k) ?_
  show gM T449 8 #[rv a1, iv 0, iv 5, rv b449, uN, uN] [(.int 0), (.ref b449), (.int 0), (.ref a1)]
  refine sT (fun t k => XS.iloadN X449.here hx rfl (hb hby d8_8) rfl k) ?_
  show gM T449 9 #[rv a1, iv 0, iv 5, rv b449, uN, uN] [(.int 5), (.int 0), (.ref b449), (.int 0), (.ref a1)]
  obtain ⟨_, _, ⟨T451, L451, k451, n451⟩, -, X451, ⟨Lc451, hQ451, l451, y451, z451⟩, st451⟩ := Jvm.LawKit.callS X449 hx (y := mN7) hown (mvT hZ w61) (mvT hZ w62) (mvT hZ w59) (mvT hZ w63) (by decide) (backOf (W := 0) (own_ci5 l Z a0 hw [] a1 b449 (c0) (c1) (c2) (c3) (c4) (ka) (k449) h449 n0 (Nat.le_trans Z0 E449.1) (V_a1.ext E449) V449 g_b449 ne_a1_b449) hZ w63 w59 (by decide) (by decide)) (g := (mkF m 9 #[rv a1, iv 0, iv 5, rv b449, uN, uN] [(.int 5), (.int 0), (.ref b449), (.int 0), (.ref a1)])) rfl (by rw [hml]; rfl) (argsL := [(.ref a1), (.int 0), (.ref b449), (.int 0), (.int 5)]) (rest := []) (lenOf own_pd4 rfl) rfl (by show 2 * 0 + _ ≤ _; exact Nat.le_of_eq rfl) (hb hby d8_9) (fun _ hWq => ⟨rfl, e449, (by decide : 1 + 0 ≤ _), (by decide : 5 + 0 ≤ _)⟩)
  dsimp only [Pt.U, Pt.locs, Pt.cells, Pt.slots] at X451 l451 y451 z451 st451 hQ451
  subst y451 z451
  obtain ⟨r_451, ys_451, rfl, N451q, K451c, f451_0, f451_1⟩ := hQ451
  have N451 : Fr n0 L451 := by rw [l451]; exact Fr.app N0 N451q
  refine sT st451 ?_
  have K452 : Keep h0 T451.heap [] := K450.trans K451c (allS (Or.inr sz_b449) all0)
  show gM T451 12 #[rv a1, iv 0, iv 5, rv b449, uN, uN] [(.int r_451)]
  rcases f451_1 with ⟨rfl, rfl, hle⟩ | hbad
  · --
   show gM T451 12 #[rv a1, iv 0, iv 5, rv b449, uN, uN] [(.int 5)]
   refine sT (fun t k => XS.istore X451.here hx rfl (hb hby d8_12) rfl (l' := #[rv a1, iv 0, iv 5, rv b449, iv 5, uN]) rfl k) ?_
   show gM T451 14 #[rv a1, iv 0, iv 5, rv b449, iv 5, uN] []
   refine sT (fun t k => XS.iload X451.here hx rfl (hb hby d8_14) rfl k) ?_
   show gM T451 16 #[rv a1, iv 0, iv 5, rv b449, iv 5, uN] [(.int 5)]
   refine sT (fun t k => XS.iloadN X451.here hx rfl (hb hby d8_16) rfl k) ?_
   show gM T451 17 #[rv a1, iv 0, iv 5, rv b449, iv 5, uN] [(.int 5), (.int 5)]
   have hc453 : (5 : Int32) = (5 : Int32) := rfl
   refine sT (fun t k => XS.icmpYes X451.here hx rfl (pc0 := 17) (pc' := 57) rfl (hb hby d8_17) rfl (teq hc453).1 (by decide) (by decide) k) ?_
   show gM T451 57 #[rv a1, iv 0, iv 5, rv b449, iv 5, uN] []
   refine sT (fun t k => XS.aloadN X451.here hx rfl (hb hby d8_57) rfl rfl k) ?_
   show gM T451 58 #[rv a1, iv 0, iv 5, rv b449, iv 5, uN] [(.ref b449)]
   refine own_retV X451 hx hlk Bd.returns (w := (.ref b449)) rfl (Or.inr (Or.inr (Or.inr (Or.inr ⟨rfl, rfl, rfl⟩)))) (hb hby d8_58) ?_ (by decide) (by decide)
   show own_co5_Q Z a1 c0 c1 c2 c3 c4 ka h0 n0 _ T451.heap _
   exact ⟨b449, k449, 5, ([(c0.toInt8.toInt32), (c1.toInt8.toInt32), (c2.toInt8.toInt32), (c3.toInt8.toInt32), (c4.toInt8.toInt32)] : List Int32), rfl, N451, K452, sz_b449, f451_0, (Or.inl ⟨rfl, rfl, hle⟩)⟩
  · --
   have hr : (¬ r_451 = (5 : Int32)) ∧ (¬ (r_451 <<< ((1 : Int32) &&& 31)) < 0 ∧ (r_451 <<< ((1 : Int32) &&& 31)) < (10 : Int32)) ∧ (¬ ((r_451 <<< ((1 : Int32) &&& 31)) + (1 : Int32)) < 0 ∧ ((r_451 <<< ((1 : Int32) &&& 31)) + (1 : Int32)) < (10 : Int32)) ∧ ((255 : Int32) < own_comb (([((c0 >>> ((0 : Int32) &&& 31)).toInt8.toInt32), ((c0 >>> ((8 : Int32) &&& 31)).toInt8.toInt32), ((c1 >>> ((0 : Int32) &&& 31)).toInt8.toInt32), ((c1 >>> ((8 : Int32) &&& 31)).toInt8.toInt32), ((c2 >>> ((0 : Int32) &&& 31)).toInt8.toInt32), ((c2 >>> ((8 : Int32) &&& 31)).toInt8.toInt32), ((c3 >>> ((0 : Int32) &&& 31)).toInt8.toInt32), ((c3 >>> ((8 : Int32) &&& 31)).toInt8.toInt32), ((c4 >>> ((0 : Int32) &&& 31)).toInt8.toInt32), ((c4 >>> ((8 : Int32) &&& 31)).toInt8.toInt32)] : List Int32).getD (r_451 <<< ((1 : Int32) &&& 31)).toNatClampNeg 0) (([((c0 >>> ((0 : Int32) &&& 31)).toInt8.toInt32), ((c0 >>> ((8 : Int32) &&& 31)).toInt8.toInt32), ((c1 >>> ((0 : Int32) &&& 31)).toInt8.toInt32), ((c1 >>> ((8 : Int32) &&& 31)).toInt8.toInt32), ((c2 >>> ((0 : Int32) &&& 31)).toInt8.toInt32), ((c2 >>> ((8 : Int32) &&& 31)).toInt8.toInt32), ((c3 >>> ((0 : Int32) &&& 31)).toInt8.toInt32), ((c3 >>> ((8 : Int32) &&& 31)).toInt8.toInt32), ((c4 >>> ((0 : Int32) &&& 31)).toInt8.toInt32), ((c4 >>> ((8 : Int32) &&& 31)).toInt8.toInt32)] : List Int32).getD ((r_451 <<< ((1 : Int32) &&& 31)) + (1 : Int32)).toNatClampNeg 0)) ∧ ((255 : Int32) < c0 ∨ (255 : Int32) < c1 ∨ (255 : Int32) < c2 ∨ (255 : Int32) < c3 ∨ (255 : Int32) < c4) := by
    rcases hbad with ⟨rfl, hg⟩ | ⟨rfl, hg⟩ | ⟨rfl, hg⟩ | ⟨rfl, hg⟩ | ⟨rfl, hg⟩
    · exact ⟨by decide, ⟨by decide, by decide⟩, ⟨by decide, by decide⟩, own_gt hN0 hg, (Or.inl hg)⟩
    · exact ⟨by decide, ⟨by decide, by decide⟩, ⟨by decide, by decide⟩, own_gt hN1 hg, (Or.inr (Or.inl hg))⟩
    · exact ⟨by decide, ⟨by decide, by decide⟩, ⟨by decide, by decide⟩, own_gt hN2 hg, (Or.inr (Or.inr (Or.inl hg)))⟩
    · exact ⟨by decide, ⟨by decide, by decide⟩, ⟨by decide, by decide⟩, own_gt hN3 hg, (Or.inr (Or.inr (Or.inr (Or.inl hg))))⟩
    · exact ⟨by decide, ⟨by decide, by decide⟩, ⟨by decide, by decide⟩, own_gt hN4 hg, (Or.inr (Or.inr (Or.inr (Or.inr hg))))⟩
   clear hbad
   show gM T451 12 #[rv a1, iv 0, iv 5, rv b449, uN, uN] [(.int r_451)]
   refine sT (fun t k => XS.istore X451.here hx rfl (hb hby d8_12) rfl (l' := #[rv a1, iv 0, iv 5, rv b449, iv r_451, uN]) rfl k) ?_
   show gM T451 14 #[rv a1, iv 0, iv 5, rv b449, iv r_451, uN] []
   refine sT (fun t k => XS.iload X451.here hx rfl (hb hby d8_14) rfl k) ?_
   show gM T451 16 #[rv a1, iv 0, iv 5, rv b449, iv r_451, uN] [(.int r_451)]
   refine sT (fun t k => XS.iloadN X451.here hx rfl (hb hby d8_16) rfl k) ?_
   show gM T451 17 #[rv a1, iv 0, iv 5, rv b449, iv r_451, uN] [(.int 5), (.int r_451)]
   have hc454 : ¬ (r_451 = (5 : Int32)) := hr.1
   refine sT (fun t k => XS.icmpNo X451.here hx rfl (hb hby d8_17) rfl (feq hc454).1 k) ?_
   show gM T451 20 #[rv a1, iv 0, iv 5, rv b449, iv r_451, uN] []
   refine sT (fun t k => XS.aloadN X451.here hx rfl (hb hby d8_20) rfl rfl k) ?_
   show gM T451 21 #[rv a1, iv 0, iv 5, rv b449, iv r_451, uN] [(.ref a1)]
   refine sT (fun t k => XS.iloadN X451.here hx rfl (hb hby d8_21) rfl k) ?_
   show gM T451 22 #[rv a1, iv 0, iv 5, rv b449, iv r_451, uN] [(.int 0), (.ref a1)]
   refine sT (fun t k => XS.iloadN X451.here hx rfl (hb hby d8_22) rfl k) ?_
   show gM T451 23 #[rv a1, iv 0, iv 5, rv b449, iv r_451, uN] [(.int 5), (.int 0), (.ref a1)]
   obtain ⟨_, _, ⟨T455, L455, k455, n455⟩, -, X455, ⟨Lc455, hQ455, l455, y455, z455⟩, st455⟩ := Jvm.LawKit.callS X451 hx (y := mN6) hown (mvT hZ w68) (mvT hZ w69) (mvT hZ w59) (mvT hZ w70) (by decide) (backOf (W := 0) (own_tb5 l Z a0 hw [] a1 (c0) (c1) (c2) (c3) (c4) (ka) T451.heap n0 (Nat.le_trans (Nat.le_trans Z0 E449.1) K451c.1) S__assertionsDisabled S_HI_BYTE_SHIFT S_LO_BYTE_SHIFT Zn ((O0.ext E449).keep K451c (allS (Nat.le_trans Zn g_b449) all0)).2 ((V_a1.ext E449).keep K451c (ninS ne_a1_b449 nin0))) hZ w70 w59 (by decide) (by decide)) (g := (mkF m 23 #[rv a1, iv 0, iv 5, rv b449, iv r_451, uN] [(.int 5), (.int 0), (.ref a1)])) rfl (by rw [hml]; rfl) (argsL := [(.ref a1), (.int 0), (.int 5)]) (rest := []) (lenOf own_pd5 rfl) rfl (by show 2 * 0 + _ ≤ _; exact Nat.le_of_eq rfl) (hb hby d8_23) (fun _ hWq => ⟨rfl, rfl, (by decide : 1 + 1 ≤ _), (by decide : 5 + 10 ≤ _)⟩)
   dsimp only [Pt.U, Pt.locs, Pt.cells, Pt.slots] at X455 l455 y455 z455 st455 hQ455
   subst y455 z455
   obtain ⟨bv_455, kb_455, rfl, N455q, K455c, f455_0, f455_1⟩ := hQ455
   have N455 : Fr n0 L455 := by rw [l455]; exact Fr.app N451 N455q
   refine sT st455 ?_
   have K456 : Keep h0 T455.heap [] := K452.trans K455c all0
   have sz_bv_455 : h0.size ≤ bv_455 := Nat.le_trans K452.1 f455_0
   have g_bv_455 : n0 ≤ bv_455 := Nat.le_trans Z0 sz_bv_455
   have ne_b449_bv_455 : b449 ≠ bv_455 := Nat.ne_of_lt (Nat.lt_of_lt_of_le f451_0.lt f455_0)
   have ne_a1_bv_455 : a1 ≠ bv_455 := Nat.ne_of_lt (Nat.lt_of_lt_of_le ((V_a1.ext E449).keep K451c (ninS ne_a1_b449 nin0)).lt f455_0)
   show gM T455 26 #[rv a1, iv 0, iv 5, rv b449, iv r_451, uN] [(.ref bv_455)]
   refine sT (fun t k => XS.astore X455.here hx rfl (hb hby d8_26) rfl rfl (l' := #[rv a1, iv 0, iv 5, rv b449, iv r_451, rv bv_455]) rfl k) ?_
   show gM T455 28 #[rv a1, iv 0, iv 5, rv b449, iv r_451, rv bv_455] []
   refine sT (fun t k => XS.aload X455.here hx rfl (hb hby d8_28) rfl rfl k) ?_
   show gM T455 30 #[rv a1, iv 0, iv 5, rv b449, iv r_451, rv bv_455] [(.ref bv_455)]
   refine sT (fun t k => XS.iload X455.here hx rfl (hb hby d8_30) rfl k) ?_
   show gM T455 32 #[rv a1, iv 0, iv 5, rv b449, iv r_451, rv bv_455] [(.int r_451), (.ref bv_455)]
   obtain ⟨_, _, ⟨T457, L457, k457, n457⟩, -, X457, ⟨Lc457, hQ457, l457, y457, z457⟩, st457⟩ := Jvm.LawKit.callS X455 hx (y := mN5) hown (mvT hZ w84) (mvT hZ w85) (mvT hZ w59) (mvT hZ w86) (by decide) (backOf (W := 0) (own_gc l Z a0 hw [] bv_455 r_451 ((10 : Int32)) (([((c0 >>> ((0 : Int32) &&& 31)).toInt8.toInt32), ((c0 >>> ((8 : Int32) &&& 31)).toInt8.toInt32), ((c1 >>> ((0 : Int32) &&& 31)).toInt8.toInt32), ((c1 >>> ((8 : Int32) &&& 31)).toInt8.toInt32), ((c2 >>> ((0 : Int32) &&& 31)).toInt8.toInt32), ((c2 >>> ((8 : Int32) &&& 31)).toInt8.toInt32), ((c3 >>> ((0 : Int32) &&& 31)).toInt8.toInt32), ((c3 >>> ((8 : Int32) &&& 31)).toInt8.toInt32), ((c4 >>> ((0 : Int32) &&& 31)).toInt8.toInt32), ((c4 >>> ((8 : Int32) &&& 31)).toInt8.toInt32)] : List Int32)) (kb_455) T455.heap n0 (Nat.le_trans (Nat.le_trans (Nat.le_trans Z0 E449.1) K451c.1) K455c.1) S__assertionsDisabled S_HI_BYTE_SHIFT S_LO_BYTE_SHIFT Zn (((O0.ext E449).keep K451c (allS (Nat.le_trans Zn g_b449) all0)).keep K455c all0).2 f455_1 hr.2.1 hr.2.2.1 hr.2.2.2.1) hZ w86 w59 (by decide) (by decide)) (g := (mkF m 32 #[rv a1, iv 0, iv 5, rv b449, iv r_451, rv bv_455] [(.int r_451), (.ref bv_455)])) rfl (by rw [hml]; rfl) (argsL := [(.ref bv_455), (.int r_451)]) (rest := []) (lenOf own_pd6 rfl) rfl (by show 2 * 0 + _ ≤ _; exact Nat.le_of_eq rfl) (hb hby d8_32) (fun _ hWq => ⟨rfl, rfl, (by decide : 2 + 0 ≤ _), (by decide : 15 + 0 ≤ _)⟩)
   dsimp only [Pt.U, Pt.locs, Pt.cells, Pt.slots] at X457 l457 y457 z457 st457 hQ457
   subst y457 z457
   obtain ⟨w_457, rfl, N457q, eh457, f457_0⟩ := hQ457
   have N457 : Fr n0 L457 := by rw [l457]; exact Fr.app N455 N457q
   refine sT st457 ?_
   show gM T457 35 #[rv a1, iv 0, iv 5, rv b449, iv r_451, rv bv_455] [(.int w_457)]
   refine sT (fun t k => XS.sipush X457.here hx rfl (hb hby d8_35) k) ?_
   show gM T457 38 #[rv a1, iv 0, iv 5, rv b449, iv r_451, rv bv_455] [(.int 255), (.int w_457)]
   have hc458 : (255 : Int32) < w_457 := f457_0
   refine sT (fun t k => XS.icmpYes X457.here hx rfl (pc0 := 38) (pc' := 54) rfl (hb hby d8_38) rfl (tlt hc458).2.2.1 (by decide) (by decide) k) ?_
   show gM T457 54 #[rv a1, iv 0, iv 5, rv b449, iv r_451, rv bv_455] []
   refine sT (fun t k => XS.aload X457.here hx rfl (hb hby d8_54) rfl rfl k) ?_
   show gM T457 56 #[rv a1, iv 0, iv 5, rv b449, iv r_451, rv bv_455] [(.ref bv_455)]
   refine own_retV X457 hx hlk Bd.returns (w := (.ref bv_455)) rfl (Or.inr (Or.inr (Or.inr (Or.inr ⟨rfl, rfl, rfl⟩)))) (hb hby d8_56) ?_ (by decide) (by decide)
   show own_co5_Q Z a1 c0 c1 c2 c3 c4 ka h0 n0 _ T457.heap _
   rw [eh457]
   exact ⟨bv_455, kb_455, 10, ([((c0 >>> ((0 : Int32) &&& 31)).toInt8.toInt32), ((c0 >>> ((8 : Int32) &&& 31)).toInt8.toInt32), ((c1 >>> ((0 : Int32) &&& 31)).toInt8.toInt32), ((c1 >>> ((8 : Int32) &&& 31)).toInt8.toInt32), ((c2 >>> ((0 : Int32) &&& 31)).toInt8.toInt32), ((c2 >>> ((8 : Int32) &&& 31)).toInt8.toInt32), ((c3 >>> ((0 : Int32) &&& 31)).toInt8.toInt32), ((c3 >>> ((8 : Int32) &&& 31)).toInt8.toInt32), ((c4 >>> ((0 : Int32) &&& 31)).toInt8.toInt32), ((c4 >>> ((8 : Int32) &&& 31)).toInt8.toInt32)] : List Int32), rfl, N457, K456, sz_bv_455, f455_1, (Or.inr ⟨rfl, hr.2.2.2.2⟩)⟩
theorem d9_0 : decode jdk_52_method_15_code 0 = .ok (.iload_n 1, 1) := by decide +kernel
theorem d9_1 : decode jdk_52_method_15_code 1 = .ok (.aload_n 0, 1) := by decide +kernel
theorem d9_2 : decode jdk_52_method_15_code 2 = .ok (.arraylength, 1) := by decide +kernel
theorem d9_3 : decode jdk_52_method_15_code 3 = .ok (.isub, 1) := by decide +kernel
theorem d9_4 : decode jdk_52_method_15_code 4 = .ok (.bipush 31, 2) := by decide +kernel
theorem d9_6 : decode jdk_52_method_15_code 6 = .ok (.iushr, 1) := by decide +kernel
theorem d9_7 : decode jdk_52_method_15_code 7 = .ok (.i2b, 1) := by decide +kernel
theorem d9_8 : decode jdk_52_method_15_code 8 = .ok (.ireturn, 1) := by decide +kernel
theorem own_cf_ef (m : MethodId) (a1 : Addr) (q1 : Int32) : entryFrame m #[(.ref a1), (.int q1)] 2 = mkF m 0 #[rv a1, iv q1] [] := by first | (simp [entryFrame, mkF, argsToLocals, Value.category]; done) | rfl
def own_cf_Q (Z : State) (a1 : Addr) (q1 : Int32) (zl : Int32) (xs : List Int32) (kb : ClassId) (r : Int32) (h0 : Heap) (n0 : Nat) (v : Option Value) (h : Heap) (L : List Loc) : Prop := v = some (.int r) ∧ Fr n0 L ∧ h = h0
set_option maxRecDepth 65536 in
set_option maxHeartbeats 40000000 in
theorem own_cf (l : Launch) (Z : State) (a0 : Array Value) (hw : ∀ d ∈ tables_1, d.before a0 Z = true) (ws : List Jvm.Cond) (a1 : Addr) (q1 : Int32) (zl : Int32) (xs : List Int32) (kb : ClassId) (r : Int32) (h0 : Heap) (n0 : Nat) (Z0 : n0 ≤ h0.size) (V_a1 : Arv Z h0 a1 kb .byte zl (xs.map Value.int) (Value.int 0)) (hr : ((((q1 - zl).toUInt32 >>> ((31 : Int32) &&& 31).toUInt32).toInt32).toInt8.toInt32) = r) :
    MetFree l mN9 (head1 (Jvm.Cond.code mN9 jdk_52_method_15_code 2 (some .byte) :: ws) ({ frames := 0, cells := 0, slots := 0, locals := 0 } : Room)) (fun aa U => aa = #[(.ref a1), (.int q1)] ∧ Z.Warmed39 U.vm ∧ U.heap = h0) (fun _ _ _ _ _ => True) (fun _ U o U' => ∃ v L, o = .returned v ∧ own_cf_Q Z a1 q1 zl xs kb r h0 n0 v U'.heap L ∧ FrameEnd U o U' L ({ frames := 0, cells := 0, slots := 0, locals := 0 } : Room).cells ({ frames := 0, cells := 0, slots := 0, locals := 0 } : Room).slots) := by
  refine MetFree.of_bodySF (plainFor_of_name own_pn1) hisR ?_
  intro p e s m args below meth c s₁ Bd hml0 hP hK
  obtain ⟨rfl, hZ, hh⟩ := hP
  have hx := Bd.exec
  have hby := Bd.bytes
  have hlk := Bd.notSynchronized
  have hml : c.maxLocals = 2 := hml0
  have hown : s.vm.findClass "java/lang/StringUTF16" = some m.cls := findClass_of_methodNamed Bd.named
  have hnm := (name_of_methodNamed Bd.named Bd.method).1
  have X0 : Stand p l e ({ frames := 0, cells := 0, slots := 0, locals := 0 } : Room) s m #[(.ref a1), (.int q1)] below meth c s₁ [] 0 0 := Stand.of_body Bd
  have e0 : s₁.heap = h0 := by rw [← hh, Bd.state]; rfl
  have N0 := Fr.nil n0
  have K0 : Keep h0 h0 [] := Keep.refl h0 _
  show gS p e below (own_Fin s (own_cf_Q Z a1 q1 zl xs kb r h0 n0) ({ frames := 0, cells := 0, slots := 0, locals := 0 } : Room).cells ({ frames := 0, cells := 0, slots := 0, locals := 0 } : Room).slots) _
  refine sT (fun t k => castTop (own_cf_ef m a1 q1) k) ?_
  show gM s₁ 0 #[rv a1, iv q1] []
  refine sT (fun t k => XS.iloadN X0.here hx rfl (hb hby d9_0) rfl k) ?_
  show gM s₁ 1 #[rv a1, iv q1] [(.int q1)]
  refine sT (fun t k => XS.aloadN X0.here hx rfl (hb hby d9_1) rfl rfl k) ?_
  show gM s₁ 2 #[rv a1, iv q1] [(.ref a1), (.int q1)]
  refine sT (fun t k => own_len X0 hx hZ e0 V_a1 (g := (mkF m 2 #[rv a1, iv q1] [(.ref a1), (.int q1)])) rfl rfl (hb hby d9_2) _ k) ?_
  show gM s₁ 3 #[rv a1, iv q1] [(.int zl), (.int q1)]
  refine sT (fun t k => XS.isub X0.here hx rfl (hb hby d9_3) rfl k) ?_
  show gM s₁ 4 #[rv a1, iv q1] [(.int (q1 - zl))]
  refine sT (fun t k => XS.bipush X0.here hx rfl (hb hby d9_4) k) ?_
  show gM s₁ 6 #[rv a1, iv q1] [(.int 31), (.int (q1 - zl))]
  refine sT (fun t k => XS.iushr X0.here hx rfl (hb hby d9_6) rfl k) ?_
  show gM s₁ 7 #[rv a1, iv q1] [(.int (((q1 - zl).toUInt32 >>> ((31 : Int32) &&& 31).toUInt32).toInt32))]
  refine sT (fun t k => XS.i2b X0.here hx rfl (hb hby d9_7) rfl k) ?_
  show gM s₁ 8 #[rv a1, iv q1] [(.int ((((q1 - zl).toUInt32 >>> ((31 : Int32) &&& 31).toUInt32).toInt32).toInt8.toInt32))]
  refine own_retV X0 hx hlk Bd.returns (w := (.int ((((q1 - zl).toUInt32 >>> ((31 : Int32) &&& 31).toUInt32).toInt32).toInt8.toInt32))) (own_nB _) (Or.inl ⟨rfl, Or.inr (Or.inr (Or.inl rfl)), _, rfl⟩) (hb hby d9_8) ?_ (by decide) (by decide)
  show own_cf_Q Z a1 q1 zl xs kb r h0 n0 _ s₁.heap _
  rw [e0]
  exact ⟨(by rw [hr]), N0, rfl⟩
theorem own_pn2 : plainName "java/lang/String" = true := by first | (simp [plainName, overriddenIn]; done) | decide +kernel
theorem d10_0 : decode jdk_42_method_149_code 0 = .ok (.aload_n 0, 1) := by decide +kernel
theorem d10_1 : decode jdk_42_method_149_code 1 = .ok (.invokespecial 1, 3) := by decide +kernel
theorem d10_4 : decode jdk_42_method_149_code 4 = .ok (.iload_n 3, 1) := by decide +kernel
theorem d10_5 : decode jdk_42_method_149_code 5 = .ok (.ifCond .ne 22, 3) := by decide +kernel
theorem d10_27 : decode jdk_42_method_149_code 27 = .ok (.getstatic 38, 3) := by decide +kernel
theorem d10_30 : decode jdk_42_method_149_code 30 = .ok (.ifCond .eq 28, 3) := by decide +kernel
theorem d10_33 : decode jdk_42_method_149_code 33 = .ok (.aload_n 1, 1) := by decide +kernel
theorem d10_34 : decode jdk_42_method_149_code 34 = .ok (.iload_n 2, 1) := by decide +kernel
theorem d10_35 : decode jdk_42_method_149_code 35 = .ok (.iload_n 3, 1) := by decide +kernel
theorem d10_36 : decode jdk_42_method_149_code 36 = .ok (.invokestatic 177, 3) := by decide +kernel
theorem d10_39 : decode jdk_42_method_149_code 39 = .ok (.astore 5, 2) := by decide +kernel
theorem d10_41 : decode jdk_42_method_149_code 41 = .ok (.aload_n 0, 1) := by decide +kernel
theorem d10_42 : decode jdk_42_method_149_code 42 = .ok (.aload 5, 2) := by decide +kernel
theorem d10_44 : decode jdk_42_method_149_code 44 = .ok (.iload_n 3, 1) := by decide +kernel
theorem own_pd7 : parseMethodDescriptor "([BI)B" = some ⟨[(.array .byte), .int], some .byte⟩ := by decide +kernel
theorem d10_45 : decode jdk_42_method_149_code 45 = .ok (.invokestatic 47, 3) := by decide +kernel
theorem d10_48 : decode jdk_42_method_149_code 48 = .ok (.putfield 15, 3) := by decide +kernel
theorem d10_51 : decode jdk_42_method_149_code 51 = .ok (.aload_n 0, 1) := by decide +kernel
theorem d10_52 : decode jdk_42_method_149_code 52 = .ok (.aload 5, 2) := by decide +kernel
theorem d10_54 : decode jdk_42_method_149_code 54 = .ok (.putfield 9, 3) := by decide +kernel
theorem d10_57 : decode jdk_42_method_149_code 57 = .ok (.return_, 1) := by decide +kernel
theorem own_iv1_ef (m : MethodId) (a1 : Addr) (a2 : Addr) : entryFrame m #[(.ref a1), (.ref a2), (.int 0), (.int 1), .null] 6 = mkF m 0 #[rv a1, rv a2, iv 0, iv 1, .val .null, uN] [] := by first | (simp [entryFrame, mkF, argsToLocals, Value.category]; done) | rfl
def own_iv1_Q (Z : State) (a1 : Addr) (a2 : Addr) (cs : Int32) (c0 : Int32) (ka : ClassId) (h0 : Heap) (n0 : Nat) (v : Option Value) (h : Heap) (L : List Loc) : Prop := ∃ cd : Int32, ∃ bv : Addr, ∃ kb : ClassId, ∃ zl : Int32, ∃ ys : List Int32, v = none ∧ Fr n0 L ∧ Keep h0 h [a1] ∧ Exa Z h a1 "java/lang/String" ∧ Fld Z h a1 "java/lang/String" "coder" "B" (.int cd) ∧ Fld Z h a1 "java/lang/String" "value" "[B" (.ref bv) ∧ Arv Z h bv kb .byte zl (ys.map Value.int) (Value.int 0) ∧ ((cd = (0 : Int32) ∧ zl = (1 : Int32) ∧ ys = ([(c0.toInt8.toInt32)] : List Int32) ∧ ¬ (255 : Int32) < c0) ∨ (cd = (1 : Int32) ∧ ((255 : Int32) < c0)))
set_option maxRecDepth 65536 in
set_option maxHeartbeats 40000000 in
theorem own_iv1 (l : Launch) (Z : State) (a0 : Array Value) (hw : ∀ d ∈ tables_1, d.before a0 Z = true) (ws : List Jvm.Cond) (a1 : Addr) (a2 : Addr) (cs : Int32) (c0 : Int32) (ka : ClassId) (h0 : Heap) (n0 : Nat) (Z0 : n0 ≤ h0.size) (E_a1 : Exa Z h0 a1 "java/lang/String") (g_a1 : n0 ≤ a1) (F_value_a1 : Fld Z h0 a1 "java/lang/String" "value" "[B" .null) (F_coder_a1 : Fld Z h0 a1 "java/lang/String" "coder" "B" (.int 0)) (S__assertionsDisabled : Sta Z Z.heap "java/lang/StringUTF16" "$assertionsDisabled" "Z" (.int 1)) (S_HI_BYTE_SHIFT : Sta Z Z.heap "java/lang/StringUTF16" "HI_BYTE_SHIFT" "I" (.int 0)) (S_LO_BYTE_SHIFT : Sta Z Z.heap "java/lang/StringUTF16" "LO_BYTE_SHIFT" "I" (.int 8)) (Zn : Z.heap.size ≤ n0) (EZ : Ext Z.heap h0) (S_COMPACT_STRINGS : Sta Z Z.heap "java/lang/String" "COMPACT_STRINGS" "Z" (.int cs)) (hcs : ¬ cs = (0 : Int32)) (V_a2 : Arv Z h0 a2 ka .char (1 : Int32) (([c0] : List Int32).map Value.int) (Value.int 0)) (ne_a1_a2 : a1 ≠ a2) (hN0 : nar .char c0 = c0) :
    MetFree l mN10 (head1 (Jvm.Cond.code mN10 jdk_42_method_149_code 6 none :: ws) ({ frames := 4, cells := 2, slots := 3, locals := 57 } : Room)) (fun aa U => aa = #[(.ref a1), (.ref a2), (.int 0), (.int 1), .null] ∧ Z.Warmed39 U.vm ∧ U.heap = h0) (fun _ _ _ _ _ => True) (fun _ U o U' => ∃ v L, o = .returned v ∧ own_iv1_Q Z a1 a2 cs c0 ka h0 n0 v U'.heap L ∧ FrameEnd U o U' L ({ frames := 4, cells := 2, slots := 3, locals := 57 } : Room).cells ({ frames := 4, cells := 2, slots := 3, locals := 57 } : Room).slots) := by
  refine MetFree.of_bodySF (plainFor_of_name own_pn2) hisR ?_
  have w13 := wO hw 13 rfl
  have w23 := wO hw 23 rfl
  have w24 := wO hw 24 rfl
  have w25 := wO hw 25 rfl
  have w28 := wO hw 28 rfl
  have w29 := wO hw 29 rfl
  have w32 := wO hw 32 rfl
  have w33 := wO hw 33 rfl
  have w51 := wO hw 51 rfl
  have w57 := wO hw 57 rfl
  have w58 := wO hw 58 rfl
  have w59 := wO hw 59 rfl
  have w60 := wO hw 60 rfl
  have w64 := wO hw 64 rfl
  have w65 := wO hw 65 rfl
  have w66 := wO hw 66 rfl
  intro p e s m args below meth c s₁ Bd hml0 hP hK
  obtain ⟨rfl, hZ, hh⟩ := hP
  have hx := Bd.exec
  have hby := Bd.bytes
  have hlk := Bd.notSynchronized
  have hml : c.maxLocals = 6 := hml0
  have hown : s.vm.findClass "java/lang/String" = some m.cls := findClass_of_methodNamed Bd.named
  have hnm := (name_of_methodNamed Bd.named Bd.method).1
  have X0 : Stand p l e ({ frames := 4, cells := 2, slots := 3, locals := 57 } : Room) s m #[(.ref a1), (.ref a2), (.int 0), (.int 1), .null] below meth c s₁ [] 0 0 := Stand.of_body Bd
  have e0 : s₁.heap = h0 := by rw [← hh, Bd.state]; rfl
  have N0 := Fr.nil n0
  have K0 : Keep h0 h0 [a1] := Keep.refl h0 _
  have O0 : Old Z Z.heap.size h0 := ⟨rfl, EZ⟩
  show gS p e below (own_Fin s (own_iv1_Q Z a1 a2 cs c0 ka h0 n0) ({ frames := 4, cells := 2, slots := 3, locals := 57 } : Room).cells ({ frames := 4, cells := 2, slots := 3, locals := 57 } : Room).slots) _
  refine sT (fun t k => castTop (own_iv1_ef m a1 a2) k) ?_
  show gM s₁ 0 #[rv a1, rv a2, iv 0, iv 1, .val .null, uN] []
  refine sT (fun t k => XS.aloadN X0.here hx rfl (hb hby d10_0) rfl rfl k) ?_
  show gM s₁ 1 #[rv a1, rv a2, iv 0, iv 1, .val .null, uN] [(.ref a1)]
  obtain ⟨T475, X475, e475, st475⟩ := initO X0 hx hZ hown w23 w24 w25 e0 (g := (mkF m 1 #[rv a1, rv a2, iv 0, iv 1, .val .null, uN] [(.ref a1)])) rfl (by rw [hml]; rfl) rfl (hb hby d10_1) (by decide) (W := 0) (by show 2 * 0 + _ ≤ _; exact Nat.le_of_eq rfl) (by decide)
  refine sT st475 ?_
  show gM T475 4 #[rv a1, rv a2, iv 0, iv 1, .val .null, uN] []
  refine sT (fun t k => XS.iloadN X475.here hx rfl (hb hby d10_4) rfl k) ?_
  show gM T475 5 #[rv a1, rv a2, iv 0, iv 1, .val .null, uN] [(.int 1)]
  have hc476 : ¬ ((1 : Int32) = (0 : Int32)) := by decide
  refine sT (fun t k => XS.ifYes X475.here hx rfl (pc0 := 5) (pc' := 27) rfl (hb hby d10_5) rfl ((if0 _ _).trans (feq hc476).2) (by decide) (by decide) k) ?_
  show gM T475 27 #[rv a1, rv a2, iv 0, iv 1, .val .null, uN] []
  obtain ⟨T477, X477, e477, st477⟩ := getS2 X475 hx hZ hown (host := "") (Or.inl w51) Via.refl e475 (S_COMPACT_STRINGS.ext O0.2) (g := (mkF m 27 #[rv a1, rv a2, iv 0, iv 1, .val .null, uN] [])) rfl (hb hby d10_27)
  refine sT st477 ?_
  show gM T477 30 #[rv a1, rv a2, iv 0, iv 1, .val .null, uN] [(.int cs)]
  have hc478 : ¬ (cs = (0 : Int32)) := hcs
  refine sT (fun t k => XS.ifNo X477.here hx rfl (hb hby d10_30) rfl ((if0 _ _).trans (feq hc478).1) k) ?_
  show gM T477 33 #[rv a1, rv a2, iv 0, iv 1, .val .null, uN] []
  refine sT (fun t k => XS.aloadN X477.here hx rfl (hb hby d10_33) rfl rfl k) ?_
  show gM T477 34 #[rv a1, rv a2, iv 0, iv 1, .val .null, uN] [(.ref a2)]
  refine sT (fun t k => XS.iloadN X477.here hx rfl (hb hby d10_34) rfl k) ?_
  show gM T477 35 #[rv a1, rv a2, iv 0, iv 1, .val .null, uN] [(.int 0), (.ref a2)]
  refine sT (fun t k => XS.iloadN X477.here hx rfl (hb hby d10_35) rfl k) ?_
  show gM T477 36 #[rv a1, rv a2, iv 0, iv 1, .val .null, uN] [(.int 1), (.int 0), (.ref a2)]
  obtain ⟨_, _, ⟨T479, L479, k479, n479⟩, -, X479, ⟨Lc479, hQ479, l479, y479, z479⟩, st479⟩ := Jvm.LawKit.callS X477 hx (y := mN8) hown (mvT hZ w57) (mvT hZ w58) (mvT hZ w59) (mvT hZ w60) (by decide) (backOf (W := 0) (own_co1 l Z a0 hw [] a2 (c0) (ka) h0 n0 Z0 S__assertionsDisabled S_HI_BYTE_SHIFT S_LO_BYTE_SHIFT Zn O0.2 V_a2 hN0) hZ w60 w59 (by decide) (by decide)) (g := (mkF m 36 #[rv a1, rv a2, iv 0, iv 1, .val .null, uN] [(.int 1), (.int 0), (.ref a2)])) rfl (by rw [hml]; rfl) (argsL := [(.ref a2), (.int 0), (.int 1)]) (rest := []) (lenOf own_pd5 rfl) rfl (by show 2 * 0 + _ ≤ _; exact Nat.le_of_eq rfl) (hb hby d10_36) (fun _ hWq => ⟨rfl, e477, (by decide : 0 + 2 ≤ _), (by decide : 0 + 3 ≤ _)⟩)
  dsimp only [Pt.U, Pt.locs, Pt.cells, Pt.slots] at X479 l479 y479 z479 st479 hQ479
  subst y479 z479
  obtain ⟨bv_479, kb_479, zl_479, ys_479, rfl, N479q, K479c, f479_0, f479_1, f479_2⟩ := hQ479
  have N479 : Fr n0 L479 := by rw [l479]; exact Fr.app N0 N479q
  refine sT st479 ?_
  have K480 : Keep h0 T479.heap [a1] := K0.trans K479c all0
  have sz_bv_479 : h0.size ≤ bv_479 := Nat.le_trans K0.1 f479_0
  have g_bv_479 : n0 ≤ bv_479 := Nat.le_trans Z0 sz_bv_479
  have ne_a1_bv_479 : a1 ≠ bv_479 := Nat.ne_of_lt (Nat.lt_of_lt_of_le E_a1.lt f479_0)
  have ne_a2_bv_479 : a2 ≠ bv_479 := Nat.ne_of_lt (Nat.lt_of_lt_of_le V_a2.lt f479_0)
  show gM T479 39 #[rv a1, rv a2, iv 0, iv 1, .val .null, uN] [(.ref bv_479)]
  rcases f479_2 with ⟨rfl, rfl, hle⟩ | ⟨rfl, hgt⟩
  · --
   show gM T479 39 #[rv a1, rv a2, iv 0, iv 1, .val .null, uN] [(.ref bv_479)]
   refine sT (fun t k => XS.astore X479.here hx rfl (hb hby d10_39) rfl rfl (l' := #[rv a1, rv a2, iv 0, iv 1, .val .null, rv bv_479]) rfl k) ?_
   show gM T479 41 #[rv a1, rv a2, iv 0, iv 1, .val .null, rv bv_479] []
   refine sT (fun t k => XS.aloadN X479.here hx rfl (hb hby d10_41) rfl rfl k) ?_
   show gM T479 42 #[rv a1, rv a2, iv 0, iv 1, .val .null, rv bv_479] [(.ref a1)]
   refine sT (fun t k => XS.aload X479.here hx rfl (hb hby d10_42) rfl rfl k) ?_
   show gM T479 44 #[rv a1, rv a2, iv 0, iv 1, .val .null, rv bv_479] [(.ref bv_479), (.ref a1)]
   refine sT (fun t k => XS.iloadN X479.here hx rfl (hb hby d10_44) rfl k) ?_
   show gM T479 45 #[rv a1, rv a2, iv 0, iv 1, .val .null, rv bv_479] [(.int 1), (.ref bv_479), (.ref a1)]
   obtain ⟨_, _, ⟨T481, L481, k481, n481⟩, -, X481, ⟨Lc481, hQ481, l481, y481, z481⟩, st481⟩ := Jvm.LawKit.callS X479 hx (y := mN9) hown (mvT hZ w64) (mvT hZ w65) (mvT hZ w59) (mvT hZ w66) (by decide) (backOf (W := 1) (own_cf l Z a0 hw [] bv_479 (1 : Int32) ((1 : Int32)) (([(c0.toInt8.toInt32)] : List Int32)) (kb_479) ((0 : Int32)) T479.heap n0 (Nat.le_trans Z0 K479c.1) f479_1 (by decide)) hZ w66 w59 (by decide) (by decide)) (g := (mkF m 45 #[rv a1, rv a2, iv 0, iv 1, .val .null, rv bv_479] [(.int 1), (.ref bv_479), (.ref a1)])) rfl (by rw [hml]; rfl) (argsL := [(.ref bv_479), (.int 1)]) (rest := [(.ref a1)]) (lenOf own_pd7 rfl) rfl (by show 2 * 0 + _ ≤ _; exact Nat.le_of_eq rfl) (hb hby d10_45) (fun _ hWq => ⟨rfl, rfl, (by decide : 2 + 0 ≤ _), (by decide : 3 + 0 ≤ _)⟩)
   dsimp only [Pt.U, Pt.locs, Pt.cells, Pt.slots] at X481 l481 y481 z481 st481 hQ481
   subst y481 z481
   obtain ⟨rfl, N481q, eh481⟩ := hQ481
   have N481 : Fr n0 L481 := by rw [l481]; exact Fr.app N479 N481q
   refine sT st481 ?_
   show gM T481 48 #[rv a1, rv a2, iv 0, iv 1, .val .null, rv bv_479] [(.int 0), (.ref a1)]
   obtain ⟨T482, h482, X482, e482, W482, st482⟩ := putF X481 hx hZ hown (host := "") (Or.inl w33) Via.refl eh481 (F_coder_a1.keep K479c nin0) (E_a1.keep K479c) (Or.inr ⟨w29, rfl, hnm⟩) w13 (ty := .byte) (by decide) rfl rfl (g := (mkF m 48 #[rv a1, rv a2, iv 0, iv 1, .val .null, rv bv_479] [(.int 0), (.ref a1)])) rfl rfl (hb hby d10_48)
   have Fw482 := (F_coder_a1.keep K479c nin0).same W482
   have N482 := Fr.snoc X482 N481 g_a1
   have K483 : Keep h0 h482 [a1] := K480.wr W482 (Or.inl (List.mem_of_getElem? (i := 0) rfl))
   refine sT st482 ?_
   show gM T482 51 #[rv a1, rv a2, iv 0, iv 1, .val .null, rv bv_479] []
   refine sT (fun t k => XS.aloadN X482.here hx rfl (hb hby d10_51) rfl rfl k) ?_
   show gM T482 52 #[rv a1, rv a2, iv 0, iv 1, .val .null, rv bv_479] [(.ref a1)]
   refine sT (fun t k => XS.aload X482.here hx rfl (hb hby d10_52) rfl rfl k) ?_
   show gM T482 54 #[rv a1, rv a2, iv 0, iv 1, .val .null, rv bv_479] [(.ref bv_479), (.ref a1)]
   obtain ⟨T484, h484, X484, e484, W484, st484⟩ := putF X482 hx hZ hown (host := "") (Or.inl w32) Via.refl e482 ((F_value_a1.keep K479c nin0).other W482 (Or.inr (slot_ne (Or.inr w28) (Or.inr w29) (by decide) (t := (.array .byte)) (t' := .byte) (by decide) (by decide)))) ((E_a1.keep K479c).wr W482) (Or.inr ⟨w28, rfl, hnm⟩) w13 (ty := (.array .byte)) (by decide) rfl rfl (g := (mkF m 54 #[rv a1, rv a2, iv 0, iv 1, .val .null, rv bv_479] [(.ref bv_479), (.ref a1)])) rfl rfl (hb hby d10_54)
   have Fw484 := ((F_value_a1.keep K479c nin0).other W482 (Or.inr (slot_ne (Or.inr w28) (Or.inr w29) (by decide) (t := (.array .byte)) (t' := .byte) (by decide) (by decide)))).same W484
   have N484 := Fr.snoc X484 N482 g_a1
   have K485 : Keep h0 h484 [a1] := K483.wr W484 (Or.inl (List.mem_of_getElem? (i := 0) rfl))
   refine sT st484 ?_
   show gM T484 57 #[rv a1, rv a2, iv 0, iv 1, .val .null, rv bv_479] []
   refine own_ret0 X484 hx hlk Bd.returns (hb hby d10_57) ?_ (by decide) (by decide)
   show own_iv1_Q Z a1 a2 cs c0 ka h0 n0 _ T484.heap _
   rw [e484]
   exact ⟨(0 : Int32), bv_479, kb_479, 1, ([(c0.toInt8.toInt32)] : List Int32), rfl, N484, K485, (((E_a1.keep K479c).wr W482).wr W484), (Fw482.other W484 (Or.inr (slot_ne (Or.inr w29) (Or.inr w28) (by decide) (t := .byte) (t' := (.array .byte)) (by decide) (by decide)))), Fw484, ((f479_1.other W482 (Ne.symm ne_a1_bv_479)).other W484 (Ne.symm ne_a1_bv_479)), (Or.inl ⟨rfl, rfl, rfl, hle⟩)⟩
  · --
   show gM T479 39 #[rv a1, rv a2, iv 0, iv 1, .val .null, uN] [(.ref bv_479)]
   refine sT (fun t k => XS.astore X479.here hx rfl (hb hby d10_39) rfl rfl (l' := #[rv a1, rv a2, iv 0, iv 1, .val .null, rv bv_479]) rfl k) ?_
   show gM T479 41 #[rv a1, rv a2, iv 0, iv 1, .val .null, rv bv_479] []
   refine sT (fun t k => XS.aloadN X479.here hx rfl (hb hby d10_41) rfl rfl k) ?_
   show gM T479 42 #[rv a1, rv a2, iv 0, iv 1, .val .null, rv bv_479] [(.ref a1)]
   refine sT (fun t k => XS.aload X479.here hx rfl (hb hby d10_42) rfl rfl k) ?_
   show gM T479 44 #[rv a1, rv a2, iv 0, iv 1, .val .null, rv bv_479] [(.ref bv_479), (.ref a1)]
   refine sT (fun t k => XS.iloadN X479.here hx rfl (hb hby d10_44) rfl k) ?_
   show gM T479 45 #[rv a1, rv a2, iv 0, iv 1, .val .null, rv bv_479] [(.int 1), (.ref bv_479), (.ref a1)]
   obtain ⟨_, _, ⟨T486, L486, k486, n486⟩, -, X486, ⟨Lc486, hQ486, l486, y486, z486⟩, st486⟩ := Jvm.LawKit.callS X479 hx (y := mN9) hown (mvT hZ w64) (mvT hZ w65) (mvT hZ w59) (mvT hZ w66) (by decide) (backOf (W := 1) (own_cf l Z a0 hw [] bv_479 (1 : Int32) ((2 : Int32)) (ys_479) (kb_479) ((1 : Int32)) T479.heap n0 (Nat.le_trans Z0 K479c.1) f479_1 (by decide)) hZ w66 w59 (by decide) (by decide)) (g := (mkF m 45 #[rv a1, rv a2, iv 0, iv 1, .val .null, rv bv_479] [(.int 1), (.ref bv_479), (.ref a1)])) rfl (by rw [hml]; rfl) (argsL := [(.ref bv_479), (.int 1)]) (rest := [(.ref a1)]) (lenOf own_pd7 rfl) rfl (by show 2 * 0 + _ ≤ _; exact Nat.le_of_eq rfl) (hb hby d10_45) (fun _ hWq => ⟨rfl, rfl, (by decide : 2 + 0 ≤ _), (by decide : 3 + 0 ≤ _)⟩)
   dsimp only [Pt.U, Pt.locs, Pt.cells, Pt.slots] at X486 l486 y486 z486 st486 hQ486
   subst y486 z486
   obtain ⟨rfl, N486q, eh486⟩ := hQ486
   have N486 : Fr n0 L486 := by rw [l486]; exact Fr.app N479 N486q
   refine sT st486 ?_
   show gM T486 48 #[rv a1, rv a2, iv 0, iv 1, .val .null, rv bv_479] [(.int 1), (.ref a1)]
   obtain ⟨T487, h487, X487, e487, W487, st487⟩ := putF X486 hx hZ hown (host := "") (Or.inl w33) Via.refl eh486 (F_coder_a1.keep K479c nin0) (E_a1.keep K479c) (Or.inr ⟨w29, rfl, hnm⟩) w13 (ty := .byte) (by decide) rfl rfl (g := (mkF m 48 #[rv a1, rv a2, iv 0, iv 1, .val .null, rv bv_479] [(.int 1), (.ref a1)])) rfl rfl (hb hby d10_48)
   have Fw487 := (F_coder_a1.keep K479c nin0).same W487
   have N487 := Fr.snoc X487 N486 g_a1
   have K488 : Keep h0 h487 [a1] := K480.wr W487 (Or.inl (List.mem_of_getElem? (i := 0) rfl))
   refine sT st487 ?_
   show gM T487 51 #[rv a1, rv a2, iv 0, iv 1, .val .null, rv bv_479] []
   refine sT (fun t k => XS.aloadN X487.here hx rfl (hb hby d10_51) rfl rfl k) ?_
   show gM T487 52 #[rv a1, rv a2, iv 0, iv 1, .val .null, rv bv_479] [(.ref a1)]
   refine sT (fun t k => XS.aload X487.here hx rfl (hb hby d10_52) rfl rfl k) ?_
   show gM T487 54 #[rv a1, rv a2, iv 0, iv 1, .val .null, rv bv_479] [(.ref bv_479), (.ref a1)]
   obtain ⟨T489, h489, X489, e489, W489, st489⟩ := putF X487 hx hZ hown (host := "") (Or.inl w32) Via.refl e487 ((F_value_a1.keep K479c nin0).other W487 (Or.inr (slot_ne (Or.inr w28) (Or.inr w29) (by decide) (t := (.array .byte)) (t' := .byte) (by decide) (by decide)))) ((E_a1.keep K479c).wr W487) (Or.inr ⟨w28, rfl, hnm⟩) w13 (ty := (.array .byte)) (by decide) rfl rfl (g := (mkF m 54 #[rv a1, rv a2, iv 0, iv 1, .val .null, rv bv_479] [(.ref bv_479), (.ref a1)])) rfl rfl (hb hby d10_54)
   have Fw489 := ((F_value_a1.keep K479c nin0).other W487 (Or.inr (slot_ne (Or.inr w28) (Or.inr w29) (by decide) (t := (.array .byte)) (t' := .byte) (by decide) (by decide)))).same W489
   have N489 := Fr.snoc X489 N487 g_a1
   have K490 : Keep h0 h489 [a1] := K488.wr W489 (Or.inl (List.mem_of_getElem? (i := 0) rfl))
   refine sT st489 ?_
   show gM T489 57 #[rv a1, rv a2, iv 0, iv 1, .val .null, rv bv_479] []
   refine own_ret0 X489 hx hlk Bd.returns (hb hby d10_57) ?_ (by decide) (by decide)
   show own_iv1_Q Z a1 a2 cs c0 ka h0 n0 _ T489.heap _
   rw [e489]
   exact ⟨(1 : Int32), bv_479, kb_479, 2, ys_479, rfl, N489, K490, (((E_a1.keep K479c).wr W487).wr W489), (Fw487.other W489 (Or.inr (slot_ne (Or.inr w29) (Or.inr w28) (by decide) (t := .byte) (t' := (.array .byte)) (by decide) (by decide)))), Fw489, ((f479_1.other W487 (Ne.symm ne_a1_bv_479)).other W489 (Ne.symm ne_a1_bv_479)), (Or.inr ⟨rfl, hgt⟩)⟩
theorem d11_0 : decode jdk_42_method_3_code 0 = .ok (.aload_n 0, 1) := by decide +kernel
theorem d11_1 : decode jdk_42_method_3_code 1 = .ok (.aload_n 1, 1) := by decide +kernel
theorem d11_2 : decode jdk_42_method_3_code 2 = .ok (.iconst 0, 1) := by decide +kernel
theorem d11_3 : decode jdk_42_method_3_code 3 = .ok (.aload_n 1, 1) := by decide +kernel
theorem d11_4 : decode jdk_42_method_3_code 4 = .ok (.arraylength, 1) := by decide +kernel
theorem d11_5 : decode jdk_42_method_3_code 5 = .ok (.aconst_null, 1) := by decide +kernel
theorem own_pd8 : parseMethodDescriptor "([CIILjava/lang/Void;)V" = some ⟨[(.array .char), .int, .int, (.object "java/lang/Void")], none⟩ := by decide +kernel
theorem d11_6 : decode jdk_42_method_3_code 6 = .ok (.invokespecial 27, 3) := by decide +kernel
theorem d11_9 : decode jdk_42_method_3_code 9 = .ok (.return_, 1) := by decide +kernel
theorem own_is1_ef (m : MethodId) (a1 : Addr) (a2 : Addr) : entryFrame m #[(.ref a1), (.ref a2)] 2 = mkF m 0 #[rv a1, rv a2] [] := by first | (simp [entryFrame, mkF, argsToLocals, Value.category]; done) | rfl
def own_is1_Q (Z : State) (a1 : Addr) (a2 : Addr) (cs : Int32) (c0 : Int32) (ka : ClassId) (h0 : Heap) (n0 : Nat) (v : Option Value) (h : Heap) (L : List Loc) : Prop := ∃ cd : Int32, ∃ bv : Addr, ∃ kb : ClassId, ∃ zl : Int32, ∃ ys : List Int32, v = none ∧ Fr n0 L ∧ Keep h0 h [a1] ∧ Exa Z h a1 "java/lang/String" ∧ Fld Z h a1 "java/lang/String" "coder" "B" (.int cd) ∧ Fld Z h a1 "java/lang/String" "value" "[B" (.ref bv) ∧ Arv Z h bv kb .byte zl (ys.map Value.int) (Value.int 0) ∧ ((cd = (0 : Int32) ∧ zl = (1 : Int32) ∧ ys = ([(c0.toInt8.toInt32)] : List Int32) ∧ ¬ (255 : Int32) < c0) ∨ (cd = (1 : Int32) ∧ ((255 : Int32) < c0)))
set_option maxRecDepth 65536 in
set_option maxHeartbeats 40000000 in
theorem own_is1 (l : Launch) (Z : State) (a0 : Array Value) (hw : ∀ d ∈ tables_1, d.before a0 Z = true) (ws : List Jvm.Cond) (a1 : Addr) (a2 : Addr) (cs : Int32) (c0 : Int32) (ka : ClassId) (h0 : Heap) (n0 : Nat) (Z0 : n0 ≤ h0.size) (E_a1 : Exa Z h0 a1 "java/lang/String") (g_a1 : n0 ≤ a1) (F_value_a1 : Fld Z h0 a1 "java/lang/String" "value" "[B" .null) (F_coder_a1 : Fld Z h0 a1 "java/lang/String" "coder" "B" (.int 0)) (S__assertionsDisabled : Sta Z Z.heap "java/lang/StringUTF16" "$assertionsDisabled" "Z" (.int 1)) (S_HI_BYTE_SHIFT : Sta Z Z.heap "java/lang/StringUTF16" "HI_BYTE_SHIFT" "I" (.int 0)) (S_LO_BYTE_SHIFT : Sta Z Z.heap "java/lang/StringUTF16" "LO_BYTE_SHIFT" "I" (.int 8)) (Zn : Z.heap.size ≤ n0) (EZ : Ext Z.heap h0) (S_COMPACT_STRINGS : Sta Z Z.heap "java/lang/String" "COMPACT_STRINGS" "Z" (.int cs)) (hcs : ¬ cs = (0 : Int32)) (V_a2 : Arv Z h0 a2 ka .char (1 : Int32) (([c0] : List Int32).map Value.int) (Value.int 0)) (ne_a1_a2 : a1 ≠ a2) (hN0 : nar .char c0 = c0) :
    MetFree l mN11 (head1 (Jvm.Cond.code mN11 jdk_42_method_3_code 2 none :: ws) ({ frames := 5, cells := 2, slots := 3, locals := 74 } : Room)) (fun aa U => aa = #[(.ref a1), (.ref a2)] ∧ Z.Warmed39 U.vm ∧ U.heap = h0) (fun _ _ _ _ _ => True) (fun _ U o U' => ∃ v L, o = .returned v ∧ own_is1_Q Z a1 a2 cs c0 ka h0 n0 v U'.heap L ∧ FrameEnd U o U' L ({ frames := 5, cells := 2, slots := 3, locals := 74 } : Room).cells ({ frames := 5, cells := 2, slots := 3, locals := 74 } : Room).slots) := by
  refine MetFree.of_bodySF (plainFor_of_name own_pn2) hisR ?_
  have w14 := wO hw 14 rfl
  have w19 := wO hw 19 rfl
  have w20 := wO hw 20 rfl
  have w22 := wO hw 22 rfl
  intro p e s m args below meth c s₁ Bd hml0 hP hK
  obtain ⟨rfl, hZ, hh⟩ := hP
  have hx := Bd.exec
  have hby := Bd.bytes
  have hlk := Bd.notSynchronized
  have hml : c.maxLocals = 2 := hml0
  have hown : s.vm.findClass "java/lang/String" = some m.cls := findClass_of_methodNamed Bd.named
  have hnm := (name_of_methodNamed Bd.named Bd.method).1
  have X0 : Stand p l e ({ frames := 5, cells := 2, slots := 3, locals := 74 } : Room) s m #[(.ref a1), (.ref a2)] below meth c s₁ [] 0 0 := Stand.of_body Bd
  have e0 : s₁.heap = h0 := by rw [← hh, Bd.state]; rfl
  have N0 := Fr.nil n0
  have K0 : Keep h0 h0 [a1] := Keep.refl h0 _
  have O0 : Old Z Z.heap.size h0 := ⟨rfl, EZ⟩
  show gS p e below (own_Fin s (own_is1_Q Z a1 a2 cs c0 ka h0 n0) ({ frames := 5, cells := 2, slots := 3, locals := 74 } : Room).cells ({ frames := 5, cells := 2, slots := 3, locals := 74 } : Room).slots) _
  refine sT (fun t k => castTop (own_is1_ef m a1 a2) k) ?_
  show gM s₁ 0 #[rv a1, rv a2] []
  refine sT (fun t k => XS.aloadN X0.here hx rfl (hb hby d11_0) rfl rfl k) ?_
  show gM s₁ 1 #[rv a1, rv a2] [(.ref a1)]
  refine sT (fun t k => XS.aloadN X0.here hx rfl (hb hby d11_1) rfl rfl k) ?_
  show gM s₁ 2 #[rv a1, rv a2] [(.ref a2), (.ref a1)]
  refine sT (fun t k => XS.iconst X0.here hx rfl (hb hby d11_2) k) ?_
  show gM s₁ 3 #[rv a1, rv a2] [(.int 0), (.ref a2), (.ref a1)]
  refine sT (fun t k => XS.aloadN X0.here hx rfl (hb hby d11_3) rfl rfl k) ?_
  show gM s₁ 4 #[rv a1, rv a2] [(.ref a2), (.int 0), (.ref a2), (.ref a1)]
  refine sT (fun t k => own_len X0 hx hZ e0 V_a2 (g := (mkF m 4 #[rv a1, rv a2] [(.ref a2), (.int 0), (.ref a2), (.ref a1)])) rfl rfl (hb hby d11_4) _ k) ?_
  show gM s₁ 5 #[rv a1, rv a2] [(.int 1), (.int 0), (.ref a2), (.ref a1)]
  refine sT (fun t k => XS.aconstNull X0.here hx rfl (hb hby d11_5) k) ?_
  show gM s₁ 6 #[rv a1, rv a2] [.null, (.int 1), (.int 0), (.ref a2), (.ref a1)]
  obtain ⟨_, _, ⟨T493, L493, k493, n493⟩, -, X493, ⟨Lc493, hQ493, l493, y493, z493⟩, st493⟩ := X0.specialBack hx (y := mN10) rfl hown (mvT hZ w19) (mvT hZ w20) (mvT hZ w22) (by decide) (backOf (W := 0) (own_iv1 l Z a0 hw [] a1 a2 (cs) (c0) (ka) h0 n0 Z0 E_a1 g_a1 F_value_a1 F_coder_a1 S__assertionsDisabled S_HI_BYTE_SHIFT S_LO_BYTE_SHIFT Zn O0.2 S_COMPACT_STRINGS hcs V_a2 ne_a1_a2 hN0) hZ w22 w14 (by decide) (by decide)) (g := (mkF m 6 #[rv a1, rv a2] [.null, (.int 1), (.int 0), (.ref a2), (.ref a1)])) rfl (by rw [hml]; rfl) (Steps.refl _) (a := a1) (argsL := [(.ref a2), (.int 0), (.int 1), .null]) (rest := []) (lenOf own_pd8 rfl) rfl (by show 2 * 0 + _ ≤ _; exact Nat.le_of_eq rfl) (hb hby d11_6) (fun _ hWq => ⟨rfl, e0, (by decide : 0 + 2 ≤ _), (by decide : 0 + 3 ≤ _)⟩)
  dsimp only [Pt.U, Pt.locs, Pt.cells, Pt.slots] at X493 l493 y493 z493 st493 hQ493
  subst y493 z493
  obtain ⟨cd_493, bv_493, kb_493, zl_493, ys_493, rfl, N493q, K493c, f493_0, f493_1, f493_2, f493_3, f493_4⟩ := hQ493
  have N493 : Fr n0 L493 := by rw [l493]; exact Fr.app N0 N493q
  refine own_jump st493 ?_
  have K494 : Keep h0 T493.heap [a1] := K0.trans K493c (allS (Or.inl (List.mem_of_getElem? (i := 0) rfl)) all0)
  show gM T493 9 #[rv a1, rv a2] []
  refine own_ret0 X493 hx hlk Bd.returns (hb hby d11_9) ?_ (by decide) (by decide)
  show own_is1_Q Z a1 a2 cs c0 ka h0 n0 _ T493.heap _
  exact ⟨cd_493, bv_493, kb_493, zl_493, ys_493, rfl, N493, K494, f493_0, f493_1, f493_2, f493_3, f493_4⟩
theorem d12_0 : decode method_4_code 0 = .ok (.iload_n 0, 1) := by decide +kernel
theorem d12_1 : decode method_4_code 1 = .ok (.ifCond .ne 14, 3) := by decide +kernel
theorem d12_15 : decode method_4_code 15 = .ok (.iload_n 0, 1) := by decide +kernel
theorem d12_16 : decode method_4_code 16 = .ok (.iconst 1, 1) := by decide +kernel
theorem d12_17 : decode method_4_code 17 = .ok (.if_icmp .ne 18, 3) := by decide +kernel
theorem d12_20 : decode method_4_code 20 = .ok (.new 13, 3) := by decide +kernel
theorem d12_23 : decode method_4_code 23 = .ok (.dup, 1) := by decide +kernel
theorem d12_24 : decode method_4_code 24 = .ok (.iconst 1, 1) := by decide +kernel
theorem d12_25 : decode method_4_code 25 = .ok (.newarray .char, 2) := by decide +kernel
theorem d12_27 : decode method_4_code 27 = .ok (.dup, 1) := by decide +kernel
theorem d12_28 : decode method_4_code 28 = .ok (.iconst 0, 1) := by decide +kernel
theorem d12_29 : decode method_4_code 29 = .ok (.iload_n 1, 1) := by decide +kernel
theorem d12_30 : decode method_4_code 30 = .ok (.castore, 1) := by decide +kernel
theorem own_pd9 : parseMethodDescriptor "([C)V" = some ⟨[(.array .char)], none⟩ := by decide +kernel
theorem d12_31 : decode method_4_code 31 = .ok (.invokespecial 15, 3) := by decide +kernel
theorem d12_34 : decode method_4_code 34 = .ok (.areturn, 1) := by decide +kernel
theorem own_st1_ef (m : MethodId) (c0 : Int32) (c1 : Int32) (c2 : Int32) (c3 : Int32) (c4 : Int32) : entryFrame m #[(.int 1), (.int c0), (.int c1), (.int c2), (.int c3), (.int c4)] 6 = mkF m 0 #[iv 1, iv c0, iv c1, iv c2, iv c3, iv c4] [] := by first | (simp [entryFrame, mkF, argsToLocals, Value.category]; done) | rfl
def own_st1_Q (Z : State) (c0 : Int32) (c1 : Int32) (c2 : Int32) (c3 : Int32) (c4 : Int32) (cs : Int32) (h0 : Heap) (n0 : Nat) (v : Option Value) (h : Heap) (L : List Loc) : Prop := ∃ x : Addr, ∃ cd : Int32, ∃ bv : Addr, ∃ kb : ClassId, ∃ zl : Int32, ∃ ys : List Int32, v = some (.ref x) ∧ Fr n0 L ∧ Keep h0 h [] ∧ Exa Z h x "java/lang/String" ∧ Fld Z h x "java/lang/String" "coder" "B" (.int cd) ∧ Fld Z h x "java/lang/String" "value" "[B" (.ref bv) ∧ Arv Z h bv kb .byte zl (ys.map Value.int) (Value.int 0) ∧ ((cd = (0 : Int32) ∧ zl = (1 : Int32) ∧ ys = ([(c0.toInt8.toInt32)] : List Int32) ∧ ¬ (255 : Int32) < c0) ∨ (cd = (1 : Int32) ∧ ((255 : Int32) < c0)))
set_option maxRecDepth 65536 in
set_option maxHeartbeats 40000000 in
theorem own_st1 (l : Launch) (Z : State) (a0 : Array Value) (hw : ∀ d ∈ tables_1, d.before a0 Z = true) (ws : List Jvm.Cond) (c0 : Int32) (c1 : Int32) (c2 : Int32) (c3 : Int32) (c4 : Int32) (cs : Int32) (h0 : Heap) (n0 : Nat) (Z0 : n0 ≤ h0.size) (S__assertionsDisabled : Sta Z Z.heap "java/lang/StringUTF16" "$assertionsDisabled" "Z" (.int 1)) (S_HI_BYTE_SHIFT : Sta Z Z.heap "java/lang/StringUTF16" "HI_BYTE_SHIFT" "I" (.int 0)) (S_LO_BYTE_SHIFT : Sta Z Z.heap "java/lang/StringUTF16" "LO_BYTE_SHIFT" "I" (.int 8)) (Zn : Z.heap.size ≤ n0) (EZ : Ext Z.heap h0) (S_COMPACT_STRINGS : Sta Z Z.heap "java/lang/String" "COMPACT_STRINGS" "Z" (.int cs)) (hcs : ¬ cs = (0 : Int32)) (hN0 : nar .char c0 = c0) :
    MetFree l mN12 (head1 (Jvm.Cond.code mN12 method_4_code 6 (some (.object "java/lang/String")) :: ws) ({ frames := 6, cells := 4, slots := 8, locals := 88 } : Room)) (fun aa U => aa = #[(.int 1), (.int c0), (.int c1), (.int c2), (.int c3), (.int c4)] ∧ Z.Warmed39 U.vm ∧ U.heap = h0) (fun _ _ _ _ _ => True) (fun _ U o U' => ∃ v L, o = .returned v ∧ own_st1_Q Z c0 c1 c2 c3 c4 cs h0 n0 v U'.heap L ∧ FrameEnd U o U' L ({ frames := 6, cells := 4, slots := 8, locals := 88 } : Room).cells ({ frames := 6, cells := 4, slots := 8, locals := 88 } : Room).slots) := by
  refine MetFree.of_bodySF (plainFor_of_name own_pn0) hisR ?_
  have w12 := wO hw 12 rfl
  have w13 := wO hw 13 rfl
  have w14 := wO hw 14 rfl
  have w15 := wO hw 15 rfl
  have w16 := wO hw 16 rfl
  have w17 := wO hw 17 rfl
  have w18 := wO hw 18 rfl
  have w28 := wO hw 28 rfl
  have w29 := wO hw 29 rfl
  intro p e s m args below meth c s₁ Bd hml0 hP hK
  obtain ⟨rfl, hZ, hh⟩ := hP
  have hx := Bd.exec
  have hby := Bd.bytes
  have hlk := Bd.notSynchronized
  have hml : c.maxLocals = 6 := hml0
  have hown : s.vm.findClass "com/example/noctule/noctule/server/TokenScopeTakesPinLaw" = some m.cls := findClass_of_methodNamed Bd.named
  have hnm := (name_of_methodNamed Bd.named Bd.method).1
  have X0 : Stand p l e ({ frames := 6, cells := 4, slots := 8, locals := 88 } : Room) s m #[(.int 1), (.int c0), (.int c1), (.int c2), (.int c3), (.int c4)] below meth c s₁ [] 0 0 := Stand.of_body Bd
  have e0 : s₁.heap = h0 := by rw [← hh, Bd.state]; rfl
  have N0 := Fr.nil n0
  have K0 : Keep h0 h0 [] := Keep.refl h0 _
  have O0 : Old Z Z.heap.size h0 := ⟨rfl, EZ⟩
  show gS p e below (own_Fin s (own_st1_Q Z c0 c1 c2 c3 c4 cs h0 n0) ({ frames := 6, cells := 4, slots := 8, locals := 88 } : Room).cells ({ frames := 6, cells := 4, slots := 8, locals := 88 } : Room).slots) _
  refine sT (fun t k => castTop (own_st1_ef m c0 c1 c2 c3 c4) k) ?_
  show gM s₁ 0 #[iv 1, iv c0, iv c1, iv c2, iv c3, iv c4] []
  refine sT (fun t k => XS.iloadN X0.here hx rfl (hb hby d12_0) rfl k) ?_
  show gM s₁ 1 #[iv 1, iv c0, iv c1, iv c2, iv c3, iv c4] [(.int 1)]
  have hc505 : ¬ ((1 : Int32) = (0 : Int32)) := by decide
  refine sT (fun t k => XS.ifYes X0.here hx rfl (pc0 := 1) (pc' := 15) rfl (hb hby d12_1) rfl ((if0 _ _).trans (feq hc505).2) (by decide) (by decide) k) ?_
  show gM s₁ 15 #[iv 1, iv c0, iv c1, iv c2, iv c3, iv c4] []
  refine sT (fun t k => XS.iloadN X0.here hx rfl (hb hby d12_15) rfl k) ?_
  show gM s₁ 16 #[iv 1, iv c0, iv c1, iv c2, iv c3, iv c4] [(.int 1)]
  refine sT (fun t k => XS.iconst X0.here hx rfl (hb hby d12_16) k) ?_
  show gM s₁ 17 #[iv 1, iv c0, iv c1, iv c2, iv c3, iv c4] [(.int 1), (.int 1)]
  have hc506 : (1 : Int32) = (1 : Int32) := rfl
  refine sT (fun t k => XS.icmpNo X0.here hx rfl (hb hby d12_17) rfl (teq hc506).2 k) ?_
  show gM s₁ 20 #[iv 1, iv c0, iv c1, iv c2, iv c3, iv c4] []
  obtain ⟨T507, h507, X507, e507, E507, A507, D507, -, st507⟩ := newO X0 hx hZ hown w12 w13 w14 e0 (g := (mkF m 20 #[iv 1, iv c0, iv c1, iv c2, iv c3, iv c4] [])) rfl (hb hby d12_20) (by decide) (by decide)
  obtain ⟨b507, g507⟩ : ∃ z, z = h0.size := ⟨_, rfl⟩
  rw [← g507] at A507 D507 st507
  have g_b507 : n0 ≤ b507 := Nat.le_trans Z0 (Nat.le_of_eq g507.symm)
  have sz_b507 : h0.size ≤ b507 := Nat.le_trans K0.1 (Nat.le_of_eq g507.symm)
  have K508 : Keep h0 h507 [] := K0.ext E507
  have F_value_b507 : Fld Z h507 b507 "java/lang/String" "value" "[B" .null := D507 (Or.inr w28) (ty := (.array .byte)) (by decide)
  have F_coder_b507 : Fld Z h507 b507 "java/lang/String" "coder" "B" (.int 0) := D507 (Or.inr w29) (ty := .byte) (by decide)
  refine sT st507 ?_
  show gM T507 23 #[iv 1, iv c0, iv c1, iv c2, iv c3, iv c4] [(.ref b507)]
  refine sT (fun t k => XS.dup X507.here hx rfl (hb hby d12_23) rfl rfl k) ?_
  show gM T507 24 #[iv 1, iv c0, iv c1, iv c2, iv c3, iv c4] [(.ref b507), (.ref b507)]
  refine sT (fun t k => XS.iconst X507.here hx rfl (hb hby d12_24) k) ?_
  show gM T507 25 #[iv 1, iv c0, iv c1, iv c2, iv c3, iv c4] [(.int 1), (.ref b507), (.ref b507)]
  obtain ⟨T509, h509, k509, X509, e509, E509, A509, st509⟩ := newP (aty := .char) X507 hx hZ w15 e507 (g := (mkF m 25 #[iv 1, iv c0, iv c1, iv c2, iv c3, iv c4] [(.int 1), (.ref b507), (.ref b507)])) rfl (hb hby d12_25) rfl (by decide) (cap := 1) (by decide) (by decide) (by decide) (by decide)
  obtain ⟨b509, g509⟩ : ∃ z, z = h507.size := ⟨_, rfl⟩
  rw [← g509] at A509 st509
  have ne_b507_b509 : b507 ≠ b509 := Nat.ne_of_lt (Nat.lt_of_lt_of_le A507.lt (Nat.le_of_eq g509.symm))
  have g_b509 : n0 ≤ b509 := Nat.le_trans (Nat.le_trans Z0 E507.1) (Nat.le_of_eq g509.symm)
  have sz_b509 : h0.size ≤ b509 := Nat.le_trans K508.1 (Nat.le_of_eq g509.symm)
  have V509 : Arv Z h509 b509 k509 .char (1 : Int32) (([0] : List Int32).map Value.int) (Value.int 0) := own_newC A509 (by decide) 1
  have K510 : Keep h0 h509 [] := K508.ext E509
  refine sT st509 ?_
  show gM T509 27 #[iv 1, iv c0, iv c1, iv c2, iv c3, iv c4] [(.ref b509), (.ref b507), (.ref b507)]
  refine sT (fun t k => XS.dup X509.here hx rfl (hb hby d12_27) rfl rfl k) ?_
  show gM T509 28 #[iv 1, iv c0, iv c1, iv c2, iv c3, iv c4] [(.ref b509), (.ref b509), (.ref b507), (.ref b507)]
  refine sT (fun t k => XS.iconst X509.here hx rfl (hb hby d12_28) k) ?_
  show gM T509 29 #[iv 1, iv c0, iv c1, iv c2, iv c3, iv c4] [(.int 0), (.ref b509), (.ref b509), (.ref b507), (.ref b507)]
  refine sT (fun t k => XS.iloadN X509.here hx rfl (hb hby d12_29) rfl k) ?_
  show gM T509 30 #[iv 1, iv c0, iv c1, iv c2, iv c3, iv c4] [(.int c0), (.int 0), (.ref b509), (.ref b509), (.ref b507), (.ref b507)]
  obtain ⟨T511, h511, X511, e511, W511, V511, st511⟩ := own_cst X509 hx hZ e509 V509 (j := (0 : Int32)) hN0 ⟨by decide, by decide⟩ (0) rfl (Nat.le_of_ble_eq_true rfl) (g := (mkF m 30 #[iv 1, iv c0, iv c1, iv c2, iv c3, iv c4] [(.int c0), (.int 0), (.ref b509), (.ref b509), (.ref b507), (.ref b507)])) rfl rfl (hb hby d12_30)
  have V511 : Arv Z h511 b509 k509 .char (1 : Int32) (([c0] : List Int32).map Value.int) (Value.int 0) := V511
  have N511 := Fr.snoc X511 N0 g_b509
  have K512 : Keep h0 h511 [] := K510.wr W511 (Or.inr sz_b509)
  refine sT st511 ?_
  show gM T511 31 #[iv 1, iv c0, iv c1, iv c2, iv c3, iv c4] [(.ref b509), (.ref b507), (.ref b507)]
  obtain ⟨_, _, ⟨T513, L513, k513, n513⟩, -, X513, ⟨Lc513, hQ513, l513, y513, z513⟩, st513⟩ := X511.specialBack hx (y := mN11) rfl hown (mvT hZ w16) (mvT hZ w17) (mvT hZ w18) (by decide) (backOf (W := 1) (own_is1 l Z a0 hw [] b507 b509 (cs) (c0) (k509) h511 n0 (Nat.le_trans (Nat.le_trans (Nat.le_trans Z0 E507.1) E509.1) (Keep.of_wr W511).1) ((A507.ext E509).wr W511) g_b507 ((F_value_b507.ext E509).other W511 (Or.inl ne_b507_b509)) ((F_coder_b507.ext E509).other W511 (Or.inl ne_b507_b509)) S__assertionsDisabled S_HI_BYTE_SHIFT S_LO_BYTE_SHIFT Zn (((O0.ext E507).ext E509).wr W511 (Nat.le_trans Zn g_b509)).2 S_COMPACT_STRINGS hcs V511 ne_b507_b509 hN0) hZ w18 w14 (by decide) (by decide)) (g := (mkF m 31 #[iv 1, iv c0, iv c1, iv c2, iv c3, iv c4] [(.ref b509), (.ref b507), (.ref b507)])) rfl (by rw [hml]; rfl) (Steps.refl _) (a := b507) (argsL := [(.ref b509)]) (rest := [(.ref b507)]) (lenOf own_pd9 rfl) rfl (by show 2 * 0 + _ ≤ _; exact Nat.le_of_eq rfl) (hb hby d12_31) (fun _ hWq => ⟨rfl, e511, (by decide : 2 + 2 ≤ _), (by decide : 5 + 3 ≤ _)⟩)
  dsimp only [Pt.U, Pt.locs, Pt.cells, Pt.slots] at X513 l513 y513 z513 st513 hQ513
  subst y513 z513
  obtain ⟨cd_513, bv_513, kb_513, zl_513, ys_513, rfl, N513q, K513c, f513_0, f513_1, f513_2, f513_3, f513_4⟩ := hQ513
  have N513 : Fr n0 L513 := by rw [l513]; exact Fr.app N511 N513q
  refine own_jump st513 ?_
  have K514 : Keep h0 T513.heap [] := K512.trans K513c (allS (Or.inr sz_b507) all0)
  show gM T513 34 #[iv 1, iv c0, iv c1, iv c2, iv c3, iv c4] [(.ref b507)]
  refine own_retV X513 hx hlk Bd.returns (w := (.ref b507)) rfl (Or.inr (Or.inr (Or.inr (Or.inr ⟨rfl, rfl, rfl⟩)))) (hb hby d12_34) ?_ (by decide) (by decide)
  show own_st1_Q Z c0 c1 c2 c3 c4 cs h0 n0 _ T513.heap _
  exact ⟨b507, cd_513, bv_513, kb_513, zl_513, ys_513, rfl, N513, K514, f513_0, f513_1, f513_2, f513_3, f513_4⟩
theorem own_iv2_ef (m : MethodId) (a1 : Addr) (a2 : Addr) : entryFrame m #[(.ref a1), (.ref a2), (.int 0), (.int 2), .null] 6 = mkF m 0 #[rv a1, rv a2, iv 0, iv 2, .val .null, uN] [] := by first | (simp [entryFrame, mkF, argsToLocals, Value.category]; done) | rfl
def own_iv2_Q (Z : State) (a1 : Addr) (a2 : Addr) (cs : Int32) (c0 : Int32) (c1 : Int32) (ka : ClassId) (h0 : Heap) (n0 : Nat) (v : Option Value) (h : Heap) (L : List Loc) : Prop := ∃ cd : Int32, ∃ bv : Addr, ∃ kb : ClassId, ∃ zl : Int32, ∃ ys : List Int32, v = none ∧ Fr n0 L ∧ Keep h0 h [a1] ∧ Exa Z h a1 "java/lang/String" ∧ Fld Z h a1 "java/lang/String" "coder" "B" (.int cd) ∧ Fld Z h a1 "java/lang/String" "value" "[B" (.ref bv) ∧ Arv Z h bv kb .byte zl (ys.map Value.int) (Value.int 0) ∧ ((cd = (0 : Int32) ∧ zl = (2 : Int32) ∧ ys = ([(c0.toInt8.toInt32), (c1.toInt8.toInt32)] : List Int32) ∧ ¬ (255 : Int32) < c0 ∧ ¬ (255 : Int32) < c1) ∨ (cd = (1 : Int32) ∧ ((255 : Int32) < c0 ∨ (255 : Int32) < c1)))
set_option maxRecDepth 65536 in
set_option maxHeartbeats 40000000 in
theorem own_iv2 (l : Launch) (Z : State) (a0 : Array Value) (hw : ∀ d ∈ tables_1, d.before a0 Z = true) (ws : List Jvm.Cond) (a1 : Addr) (a2 : Addr) (cs : Int32) (c0 : Int32) (c1 : Int32) (ka : ClassId) (h0 : Heap) (n0 : Nat) (Z0 : n0 ≤ h0.size) (E_a1 : Exa Z h0 a1 "java/lang/String") (g_a1 : n0 ≤ a1) (F_value_a1 : Fld Z h0 a1 "java/lang/String" "value" "[B" .null) (F_coder_a1 : Fld Z h0 a1 "java/lang/String" "coder" "B" (.int 0)) (S__assertionsDisabled : Sta Z Z.heap "java/lang/StringUTF16" "$assertionsDisabled" "Z" (.int 1)) (S_HI_BYTE_SHIFT : Sta Z Z.heap "java/lang/StringUTF16" "HI_BYTE_SHIFT" "I" (.int 0)) (S_LO_BYTE_SHIFT : Sta Z Z.heap "java/lang/StringUTF16" "LO_BYTE_SHIFT" "I" (.int 8)) (Zn : Z.heap.size ≤ n0) (EZ : Ext Z.heap h0) (S_COMPACT_STRINGS : Sta Z Z.heap "java/lang/String" "COMPACT_STRINGS" "Z" (.int cs)) (hcs : ¬ cs = (0 : Int32)) (V_a2 : Arv Z h0 a2 ka .char (2 : Int32) (([c0, c1] : List Int32).map Value.int) (Value.int 0)) (ne_a1_a2 : a1 ≠ a2) (hN0 : nar .char c0 = c0) (hN1 : nar .char c1 = c1) :
    MetFree l mN10 (head1 (Jvm.Cond.code mN10 jdk_42_method_149_code 6 none :: ws) ({ frames := 4, cells := 2, slots := 6, locals := 57 } : Room)) (fun aa U => aa = #[(.ref a1), (.ref a2), (.int 0), (.int 2), .null] ∧ Z.Warmed39 U.vm ∧ U.heap = h0) (fun _ _ _ _ _ => True) (fun _ U o U' => ∃ v L, o = .returned v ∧ own_iv2_Q Z a1 a2 cs c0 c1 ka h0 n0 v U'.heap L ∧ FrameEnd U o U' L ({ frames := 4, cells := 2, slots := 6, locals := 57 } : Room).cells ({ frames := 4, cells := 2, slots := 6, locals := 57 } : Room).slots) := by
  refine MetFree.of_bodySF (plainFor_of_name own_pn2) hisR ?_
  have w13 := wO hw 13 rfl
  have w23 := wO hw 23 rfl
  have w24 := wO hw 24 rfl
  have w25 := wO hw 25 rfl
  have w28 := wO hw 28 rfl
  have w29 := wO hw 29 rfl
  have w32 := wO hw 32 rfl
  have w33 := wO hw 33 rfl
  have w51 := wO hw 51 rfl
  have w57 := wO hw 57 rfl
  have w58 := wO hw 58 rfl
  have w59 := wO hw 59 rfl
  have w60 := wO hw 60 rfl
  have w64 := wO hw 64 rfl
  have w65 := wO hw 65 rfl
  have w66 := wO hw 66 rfl
  intro p e s m args below meth c s₁ Bd hml0 hP hK
  obtain ⟨rfl, hZ, hh⟩ := hP
  have hx := Bd.exec
  have hby := Bd.bytes
  have hlk := Bd.notSynchronized
  have hml : c.maxLocals = 6 := hml0
  have hown : s.vm.findClass "java/lang/String" = some m.cls := findClass_of_methodNamed Bd.named
  have hnm := (name_of_methodNamed Bd.named Bd.method).1
  have X0 : Stand p l e ({ frames := 4, cells := 2, slots := 6, locals := 57 } : Room) s m #[(.ref a1), (.ref a2), (.int 0), (.int 2), .null] below meth c s₁ [] 0 0 := Stand.of_body Bd
  have e0 : s₁.heap = h0 := by rw [← hh, Bd.state]; rfl
  have N0 := Fr.nil n0
  have K0 : Keep h0 h0 [a1] := Keep.refl h0 _
  have O0 : Old Z Z.heap.size h0 := ⟨rfl, EZ⟩
  show gS p e below (own_Fin s (own_iv2_Q Z a1 a2 cs c0 c1 ka h0 n0) ({ frames := 4, cells := 2, slots := 6, locals := 57 } : Room).cells ({ frames := 4, cells := 2, slots := 6, locals := 57 } : Room).slots) _
  refine sT (fun t k => castTop (own_iv2_ef m a1 a2) k) ?_
  show gM s₁ 0 #[rv a1, rv a2, iv 0, iv 2, .val .null, uN] []
  refine sT (fun t k => XS.aloadN X0.here hx rfl (hb hby d10_0) rfl rfl k) ?_
  show gM s₁ 1 #[rv a1, rv a2, iv 0, iv 2, .val .null, uN] [(.ref a1)]
  obtain ⟨T531, X531, e531, st531⟩ := initO X0 hx hZ hown w23 w24 w25 e0 (g := (mkF m 1 #[rv a1, rv a2, iv 0, iv 2, .val .null, uN] [(.ref a1)])) rfl (by rw [hml]; rfl) rfl (hb hby d10_1) (by decide) (W := 0) (by show 2 * 0 + _ ≤ _; exact Nat.le_of_eq rfl) (by decide)
  refine sT st531 ?_
  show gM T531 4 #[rv a1, rv a2, iv 0, iv 2, .val .null, uN] []
  refine sT (fun t k => XS.iloadN X531.here hx rfl (hb hby d10_4) rfl k) ?_
  show gM T531 5 #[rv a1, rv a2, iv 0, iv 2, .val .null, uN] [(.int 2)]
  have hc532 : ¬ ((2 : Int32) = (0 : Int32)) := by decide
  refine sT (fun t k => XS.ifYes X531.here hx rfl (pc0 := 5) (pc' := 27) rfl (hb hby d10_5) rfl ((if0 _ _).trans (feq hc532).2) (by decide) (by decide) k) ?_
  show gM T531 27 #[rv a1, rv a2, iv 0, iv 2, .val .null, uN] []
  obtain ⟨T533, X533, e533, st533⟩ := getS2 X531 hx hZ hown (host := "") (Or.inl w51) Via.refl e531 (S_COMPACT_STRINGS.ext O0.2) (g := (mkF m 27 #[rv a1, rv a2, iv 0, iv 2, .val .null, uN] [])) rfl (hb hby d10_27)
  refine sT st533 ?_
  show gM T533 30 #[rv a1, rv a2, iv 0, iv 2, .val .null, uN] [(.int cs)]
  have hc534 : ¬ (cs = (0 : Int32)) := hcs
  refine sT (fun t k => XS.ifNo X533.here hx rfl (hb hby d10_30) rfl ((if0 _ _).trans (feq hc534).1) k) ?_
  show gM T533 33 #[rv a1, rv a2, iv 0, iv 2, .val .null, uN] []
  refine sT (fun t k => XS.aloadN X533.here hx rfl (hb hby d10_33) rfl rfl k) ?_
  show gM T533 34 #[rv a1, rv a2, iv 0, iv 2, .val .null, uN] [(.ref a2)]
  refine sT (fun t k => XS.iloadN X533.here hx rfl (hb hby d10_34) rfl k) ?_
  show gM T533 35 #[rv a1, rv a2, iv 0, iv 2, .val .null, uN] [(.int 0), (.ref a2)]
  refine sT (fun t k => XS.iloadN X533.here hx rfl (hb hby d10_35) rfl k) ?_
  show gM T533 36 #[rv a1, rv a2, iv 0, iv 2, .val .null, uN] [(.int 2), (.int 0), (.ref a2)]
  obtain ⟨_, _, ⟨T535, L535, k535, n535⟩, -, X535, ⟨Lc535, hQ535, l535, y535, z535⟩, st535⟩ := Jvm.LawKit.callS X533 hx (y := mN8) hown (mvT hZ w57) (mvT hZ w58) (mvT hZ w59) (mvT hZ w60) (by decide) (backOf (W := 0) (own_co2 l Z a0 hw [] a2 (c0) (c1) (ka) h0 n0 Z0 S__assertionsDisabled S_HI_BYTE_SHIFT S_LO_BYTE_SHIFT Zn O0.2 V_a2 hN0 hN1) hZ w60 w59 (by decide) (by decide)) (g := (mkF m 36 #[rv a1, rv a2, iv 0, iv 2, .val .null, uN] [(.int 2), (.int 0), (.ref a2)])) rfl (by rw [hml]; rfl) (argsL := [(.ref a2), (.int 0), (.int 2)]) (rest := []) (lenOf own_pd5 rfl) rfl (by show 2 * 0 + _ ≤ _; exact Nat.le_of_eq rfl) (hb hby d10_36) (fun _ hWq => ⟨rfl, e533, (by decide : 0 + 2 ≤ _), (by decide : 0 + 6 ≤ _)⟩)
  dsimp only [Pt.U, Pt.locs, Pt.cells, Pt.slots] at X535 l535 y535 z535 st535 hQ535
  subst y535 z535
  obtain ⟨bv_535, kb_535, zl_535, ys_535, rfl, N535q, K535c, f535_0, f535_1, f535_2⟩ := hQ535
  have N535 : Fr n0 L535 := by rw [l535]; exact Fr.app N0 N535q
  refine sT st535 ?_
  have K536 : Keep h0 T535.heap [a1] := K0.trans K535c all0
  have sz_bv_535 : h0.size ≤ bv_535 := Nat.le_trans K0.1 f535_0
  have g_bv_535 : n0 ≤ bv_535 := Nat.le_trans Z0 sz_bv_535
  have ne_a1_bv_535 : a1 ≠ bv_535 := Nat.ne_of_lt (Nat.lt_of_lt_of_le E_a1.lt f535_0)
  have ne_a2_bv_535 : a2 ≠ bv_535 := Nat.ne_of_lt (Nat.lt_of_lt_of_le V_a2.lt f535_0)
  show gM T535 39 #[rv a1, rv a2, iv 0, iv 2, .val .null, uN] [(.ref bv_535)]
  rcases f535_2 with ⟨rfl, rfl, hle⟩ | ⟨rfl, hgt⟩
  · --
   show gM T535 39 #[rv a1, rv a2, iv 0, iv 2, .val .null, uN] [(.ref bv_535)]
   refine sT (fun t k => XS.astore X535.here hx rfl (hb hby d10_39) rfl rfl (l' := #[rv a1, rv a2, iv 0, iv 2, .val .null, rv bv_535]) rfl k) ?_
   show gM T535 41 #[rv a1, rv a2, iv 0, iv 2, .val .null, rv bv_535] []
   refine sT (fun t k => XS.aloadN X535.here hx rfl (hb hby d10_41) rfl rfl k) ?_
   show gM T535 42 #[rv a1, rv a2, iv 0, iv 2, .val .null, rv bv_535] [(.ref a1)]
   refine sT (fun t k => XS.aload X535.here hx rfl (hb hby d10_42) rfl rfl k) ?_
   show gM T535 44 #[rv a1, rv a2, iv 0, iv 2, .val .null, rv bv_535] [(.ref bv_535), (.ref a1)]
   refine sT (fun t k => XS.iloadN X535.here hx rfl (hb hby d10_44) rfl k) ?_
   show gM T535 45 #[rv a1, rv a2, iv 0, iv 2, .val .null, rv bv_535] [(.int 2), (.ref bv_535), (.ref a1)]
   obtain ⟨_, _, ⟨T537, L537, k537, n537⟩, -, X537, ⟨Lc537, hQ537, l537, y537, z537⟩, st537⟩ := Jvm.LawKit.callS X535 hx (y := mN9) hown (mvT hZ w64) (mvT hZ w65) (mvT hZ w59) (mvT hZ w66) (by decide) (backOf (W := 1) (own_cf l Z a0 hw [] bv_535 (2 : Int32) ((2 : Int32)) (([(c0.toInt8.toInt32), (c1.toInt8.toInt32)] : List Int32)) (kb_535) ((0 : Int32)) T535.heap n0 (Nat.le_trans Z0 K535c.1) f535_1 (by decide)) hZ w66 w59 (by decide) (by decide)) (g := (mkF m 45 #[rv a1, rv a2, iv 0, iv 2, .val .null, rv bv_535] [(.int 2), (.ref bv_535), (.ref a1)])) rfl (by rw [hml]; rfl) (argsL := [(.ref bv_535), (.int 2)]) (rest := [(.ref a1)]) (lenOf own_pd7 rfl) rfl (by show 2 * 0 + _ ≤ _; exact Nat.le_of_eq rfl) (hb hby d10_45) (fun _ hWq => ⟨rfl, rfl, (by decide : 2 + 0 ≤ _), (by decide : 6 + 0 ≤ _)⟩)
   dsimp only [Pt.U, Pt.locs, Pt.cells, Pt.slots] at X537 l537 y537 z537 st537 hQ537
   subst y537 z537
   obtain ⟨rfl, N537q, eh537⟩ := hQ537
   have N537 : Fr n0 L537 := by rw [l537]; exact Fr.app N535 N537q
   refine sT st537 ?_
   show gM T537 48 #[rv a1, rv a2, iv 0, iv 2, .val .null, rv bv_535] [(.int 0), (.ref a1)]
   obtain ⟨T538, h538, X538, e538, W538, st538⟩ := putF X537 hx hZ hown (host := "") (Or.inl w33) Via.refl eh537 (F_coder_a1.keep K535c nin0) (E_a1.keep K535c) (Or.inr ⟨w29, rfl, hnm⟩) w13 (ty := .byte) (by decide) rfl rfl (g := (mkF m 48 #[rv a1, rv a2, iv 0, iv 2, .val .null, rv bv_535] [(.int 0), (.ref a1)])) rfl rfl (hb hby d10_48)
   have Fw538 := (F_coder_a1.keep K535c nin0).same W538
   have N538 := Fr.snoc X538 N537 g_a1
   have K539 : Keep h0 h538 [a1] := K536.wr W538 (Or.inl (List.mem_of_getElem? (i := 0) rfl))
   refine sT st538 ?_
   show gM T538 51 #[rv a1, rv a2, iv 0, iv 2, .val .null, rv bv_535] []
   refine sT (fun t k => XS.aloadN X538.here hx rfl (hb hby d10_51) rfl rfl k) ?_
   show gM T538 52 #[rv a1, rv a2, iv 0, iv 2, .val .null, rv bv_535] [(.ref a1)]
   refine sT (fun t k => XS.aload X538.here hx rfl (hb hby d10_52) rfl rfl k) ?_
   show gM T538 54 #[rv a1, rv a2, iv 0, iv 2, .val .null, rv bv_535] [(.ref bv_535), (.ref a1)]
   obtain ⟨T540, h540, X540, e540, W540, st540⟩ := putF X538 hx hZ hown (host := "") (Or.inl w32) Via.refl e538 ((F_value_a1.keep K535c nin0).other W538 (Or.inr (slot_ne (Or.inr w28) (Or.inr w29) (by decide) (t := (.array .byte)) (t' := .byte) (by decide) (by decide)))) ((E_a1.keep K535c).wr W538) (Or.inr ⟨w28, rfl, hnm⟩) w13 (ty := (.array .byte)) (by decide) rfl rfl (g := (mkF m 54 #[rv a1, rv a2, iv 0, iv 2, .val .null, rv bv_535] [(.ref bv_535), (.ref a1)])) rfl rfl (hb hby d10_54)
   have Fw540 := ((F_value_a1.keep K535c nin0).other W538 (Or.inr (slot_ne (Or.inr w28) (Or.inr w29) (by decide) (t := (.array .byte)) (t' := .byte) (by decide) (by decide)))).same W540
   have N540 := Fr.snoc X540 N538 g_a1
   have K541 : Keep h0 h540 [a1] := K539.wr W540 (Or.inl (List.mem_of_getElem? (i := 0) rfl))
   refine sT st540 ?_
   show gM T540 57 #[rv a1, rv a2, iv 0, iv 2, .val .null, rv bv_535] []
   refine own_ret0 X540 hx hlk Bd.returns (hb hby d10_57) ?_ (by decide) (by decide)
   show own_iv2_Q Z a1 a2 cs c0 c1 ka h0 n0 _ T540.heap _
   rw [e540]
   exact ⟨(0 : Int32), bv_535, kb_535, 2, ([(c0.toInt8.toInt32), (c1.toInt8.toInt32)] : List Int32), rfl, N540, K541, (((E_a1.keep K535c).wr W538).wr W540), (Fw538.other W540 (Or.inr (slot_ne (Or.inr w29) (Or.inr w28) (by decide) (t := .byte) (t' := (.array .byte)) (by decide) (by decide)))), Fw540, ((f535_1.other W538 (Ne.symm ne_a1_bv_535)).other W540 (Ne.symm ne_a1_bv_535)), (Or.inl ⟨rfl, rfl, rfl, hle⟩)⟩
  · --
   show gM T535 39 #[rv a1, rv a2, iv 0, iv 2, .val .null, uN] [(.ref bv_535)]
   refine sT (fun t k => XS.astore X535.here hx rfl (hb hby d10_39) rfl rfl (l' := #[rv a1, rv a2, iv 0, iv 2, .val .null, rv bv_535]) rfl k) ?_
   show gM T535 41 #[rv a1, rv a2, iv 0, iv 2, .val .null, rv bv_535] []
   refine sT (fun t k => XS.aloadN X535.here hx rfl (hb hby d10_41) rfl rfl k) ?_
   show gM T535 42 #[rv a1, rv a2, iv 0, iv 2, .val .null, rv bv_535] [(.ref a1)]
   refine sT (fun t k => XS.aload X535.here hx rfl (hb hby d10_42) rfl rfl k) ?_
   show gM T535 44 #[rv a1, rv a2, iv 0, iv 2, .val .null, rv bv_535] [(.ref bv_535), (.ref a1)]
   refine sT (fun t k => XS.iloadN X535.here hx rfl (hb hby d10_44) rfl k) ?_
   show gM T535 45 #[rv a1, rv a2, iv 0, iv 2, .val .null, rv bv_535] [(.int 2), (.ref bv_535), (.ref a1)]
   obtain ⟨_, _, ⟨T542, L542, k542, n542⟩, -, X542, ⟨Lc542, hQ542, l542, y542, z542⟩, st542⟩ := Jvm.LawKit.callS X535 hx (y := mN9) hown (mvT hZ w64) (mvT hZ w65) (mvT hZ w59) (mvT hZ w66) (by decide) (backOf (W := 1) (own_cf l Z a0 hw [] bv_535 (2 : Int32) ((4 : Int32)) (ys_535) (kb_535) ((1 : Int32)) T535.heap n0 (Nat.le_trans Z0 K535c.1) f535_1 (by decide)) hZ w66 w59 (by decide) (by decide)) (g := (mkF m 45 #[rv a1, rv a2, iv 0, iv 2, .val .null, rv bv_535] [(.int 2), (.ref bv_535), (.ref a1)])) rfl (by rw [hml]; rfl) (argsL := [(.ref bv_535), (.int 2)]) (rest := [(.ref a1)]) (lenOf own_pd7 rfl) rfl (by show 2 * 0 + _ ≤ _; exact Nat.le_of_eq rfl) (hb hby d10_45) (fun _ hWq => ⟨rfl, rfl, (by decide : 2 + 0 ≤ _), (by decide : 6 + 0 ≤ _)⟩)
   dsimp only [Pt.U, Pt.locs, Pt.cells, Pt.slots] at X542 l542 y542 z542 st542 hQ542
   subst y542 z542
   obtain ⟨rfl, N542q, eh542⟩ := hQ542
   have N542 : Fr n0 L542 := by rw [l542]; exact Fr.app N535 N542q
   refine sT st542 ?_
   show gM T542 48 #[rv a1, rv a2, iv 0, iv 2, .val .null, rv bv_535] [(.int 1), (.ref a1)]
   obtain ⟨T543, h543, X543, e543, W543, st543⟩ := putF X542 hx hZ hown (host := "") (Or.inl w33) Via.refl eh542 (F_coder_a1.keep K535c nin0) (E_a1.keep K535c) (Or.inr ⟨w29, rfl, hnm⟩) w13 (ty := .byte) (by decide) rfl rfl (g := (mkF m 48 #[rv a1, rv a2, iv 0, iv 2, .val .null, rv bv_535] [(.int 1), (.ref a1)])) rfl rfl (hb hby d10_48)
   have Fw543 := (F_coder_a1.keep K535c nin0).same W543
   have N543 := Fr.snoc X543 N542 g_a1
   have K544 : Keep h0 h543 [a1] := K536.wr W543 (Or.inl (List.mem_of_getElem? (i := 0) rfl))
   refine sT st543 ?_
   show gM T543 51 #[rv a1, rv a2, iv 0, iv 2, .val .null, rv bv_535] []
   refine sT (fun t k => XS.aloadN X543.here hx rfl (hb hby d10_51) rfl rfl k) ?_
   show gM T543 52 #[rv a1, rv a2, iv 0, iv 2, .val .null, rv bv_535] [(.ref a1)]
   refine sT (fun t k => XS.aload X543.here hx rfl (hb hby d10_52) rfl rfl k) ?_
   show gM T543 54 #[rv a1, rv a2, iv 0, iv 2, .val .null, rv bv_535] [(.ref bv_535), (.ref a1)]
   obtain ⟨T545, h545, X545, e545, W545, st545⟩ := putF X543 hx hZ hown (host := "") (Or.inl w32) Via.refl e543 ((F_value_a1.keep K535c nin0).other W543 (Or.inr (slot_ne (Or.inr w28) (Or.inr w29) (by decide) (t := (.array .byte)) (t' := .byte) (by decide) (by decide)))) ((E_a1.keep K535c).wr W543) (Or.inr ⟨w28, rfl, hnm⟩) w13 (ty := (.array .byte)) (by decide) rfl rfl (g := (mkF m 54 #[rv a1, rv a2, iv 0, iv 2, .val .null, rv bv_535] [(.ref bv_535), (.ref a1)])) rfl rfl (hb hby d10_54)
   have Fw545 := ((F_value_a1.keep K535c nin0).other W543 (Or.inr (slot_ne (Or.inr w28) (Or.inr w29) (by decide) (t := (.array .byte)) (t' := .byte) (by decide) (by decide)))).same W545
   have N545 := Fr.snoc X545 N543 g_a1
   have K546 : Keep h0 h545 [a1] := K544.wr W545 (Or.inl (List.mem_of_getElem? (i := 0) rfl))
   refine sT st545 ?_
   show gM T545 57 #[rv a1, rv a2, iv 0, iv 2, .val .null, rv bv_535] []
   refine own_ret0 X545 hx hlk Bd.returns (hb hby d10_57) ?_ (by decide) (by decide)
   show own_iv2_Q Z a1 a2 cs c0 c1 ka h0 n0 _ T545.heap _
   rw [e545]
   exact ⟨(1 : Int32), bv_535, kb_535, 4, ys_535, rfl, N545, K546, (((E_a1.keep K535c).wr W543).wr W545), (Fw543.other W545 (Or.inr (slot_ne (Or.inr w29) (Or.inr w28) (by decide) (t := .byte) (t' := (.array .byte)) (by decide) (by decide)))), Fw545, ((f535_1.other W543 (Ne.symm ne_a1_bv_535)).other W545 (Ne.symm ne_a1_bv_535)), (Or.inr ⟨rfl, hgt⟩)⟩
theorem own_is2_ef (m : MethodId) (a1 : Addr) (a2 : Addr) : entryFrame m #[(.ref a1), (.ref a2)] 2 = mkF m 0 #[rv a1, rv a2] [] := by first | (simp [entryFrame, mkF, argsToLocals, Value.category]; done) | rfl
def own_is2_Q (Z : State) (a1 : Addr) (a2 : Addr) (cs : Int32) (c0 : Int32) (c1 : Int32) (ka : ClassId) (h0 : Heap) (n0 : Nat) (v : Option Value) (h : Heap) (L : List Loc) : Prop := ∃ cd : Int32, ∃ bv : Addr, ∃ kb : ClassId, ∃ zl : Int32, ∃ ys : List Int32, v = none ∧ Fr n0 L ∧ Keep h0 h [a1] ∧ Exa Z h a1 "java/lang/String" ∧ Fld Z h a1 "java/lang/String" "coder" "B" (.int cd) ∧ Fld Z h a1 "java/lang/String" "value" "[B" (.ref bv) ∧ Arv Z h bv kb .byte zl (ys.map Value.int) (Value.int 0) ∧ ((cd = (0 : Int32) ∧ zl = (2 : Int32) ∧ ys = ([(c0.toInt8.toInt32), (c1.toInt8.toInt32)] : List Int32) ∧ ¬ (255 : Int32) < c0 ∧ ¬ (255 : Int32) < c1) ∨ (cd = (1 : Int32) ∧ ((255 : Int32) < c0 ∨ (255 : Int32) < c1)))
set_option maxRecDepth 65536 in
set_option maxHeartbeats 40000000 in
theorem own_is2 (l : Launch) (Z : State) (a0 : Array Value) (hw : ∀ d ∈ tables_1, d.before a0 Z = true) (ws : List Jvm.Cond) (a1 : Addr) (a2 : Addr) (cs : Int32) (c0 : Int32) (c1 : Int32) (ka : ClassId) (h0 : Heap) (n0 : Nat) (Z0 : n0 ≤ h0.size) (E_a1 : Exa Z h0 a1 "java/lang/String") (g_a1 : n0 ≤ a1) (F_value_a1 : Fld Z h0 a1 "java/lang/String" "value" "[B" .null) (F_coder_a1 : Fld Z h0 a1 "java/lang/String" "coder" "B" (.int 0)) (S__assertionsDisabled : Sta Z Z.heap "java/lang/StringUTF16" "$assertionsDisabled" "Z" (.int 1)) (S_HI_BYTE_SHIFT : Sta Z Z.heap "java/lang/StringUTF16" "HI_BYTE_SHIFT" "I" (.int 0)) (S_LO_BYTE_SHIFT : Sta Z Z.heap "java/lang/StringUTF16" "LO_BYTE_SHIFT" "I" (.int 8)) (Zn : Z.heap.size ≤ n0) (EZ : Ext Z.heap h0) (S_COMPACT_STRINGS : Sta Z Z.heap "java/lang/String" "COMPACT_STRINGS" "Z" (.int cs)) (hcs : ¬ cs = (0 : Int32)) (V_a2 : Arv Z h0 a2 ka .char (2 : Int32) (([c0, c1] : List Int32).map Value.int) (Value.int 0)) (ne_a1_a2 : a1 ≠ a2) (hN0 : nar .char c0 = c0) (hN1 : nar .char c1 = c1) :
    MetFree l mN11 (head1 (Jvm.Cond.code mN11 jdk_42_method_3_code 2 none :: ws) ({ frames := 5, cells := 2, slots := 6, locals := 74 } : Room)) (fun aa U => aa = #[(.ref a1), (.ref a2)] ∧ Z.Warmed39 U.vm ∧ U.heap = h0) (fun _ _ _ _ _ => True) (fun _ U o U' => ∃ v L, o = .returned v ∧ own_is2_Q Z a1 a2 cs c0 c1 ka h0 n0 v U'.heap L ∧ FrameEnd U o U' L ({ frames := 5, cells := 2, slots := 6, locals := 74 } : Room).cells ({ frames := 5, cells := 2, slots := 6, locals := 74 } : Room).slots) := by
  refine MetFree.of_bodySF (plainFor_of_name own_pn2) hisR ?_
  have w14 := wO hw 14 rfl
  have w19 := wO hw 19 rfl
  have w20 := wO hw 20 rfl
  have w22 := wO hw 22 rfl
  intro p e s m args below meth c s₁ Bd hml0 hP hK
  obtain ⟨rfl, hZ, hh⟩ := hP
  have hx := Bd.exec
  have hby := Bd.bytes
  have hlk := Bd.notSynchronized
  have hml : c.maxLocals = 2 := hml0
  have hown : s.vm.findClass "java/lang/String" = some m.cls := findClass_of_methodNamed Bd.named
  have hnm := (name_of_methodNamed Bd.named Bd.method).1
  have X0 : Stand p l e ({ frames := 5, cells := 2, slots := 6, locals := 74 } : Room) s m #[(.ref a1), (.ref a2)] below meth c s₁ [] 0 0 := Stand.of_body Bd
  have e0 : s₁.heap = h0 := by rw [← hh, Bd.state]; rfl
  have N0 := Fr.nil n0
  have K0 : Keep h0 h0 [a1] := Keep.refl h0 _
  have O0 : Old Z Z.heap.size h0 := ⟨rfl, EZ⟩
  show gS p e below (own_Fin s (own_is2_Q Z a1 a2 cs c0 c1 ka h0 n0) ({ frames := 5, cells := 2, slots := 6, locals := 74 } : Room).cells ({ frames := 5, cells := 2, slots := 6, locals := 74 } : Room).slots) _
  refine sT (fun t k => castTop (own_is2_ef m a1 a2) k) ?_
  show gM s₁ 0 #[rv a1, rv a2] []
  refine sT (fun t k => XS.aloadN X0.here hx rfl (hb hby d11_0) rfl rfl k) ?_
  show gM s₁ 1 #[rv a1, rv a2] [(.ref a1)]
  refine sT (fun t k => XS.aloadN X0.here hx rfl (hb hby d11_1) rfl rfl k) ?_
  show gM s₁ 2 #[rv a1, rv a2] [(.ref a2), (.ref a1)]
  refine sT (fun t k => XS.iconst X0.here hx rfl (hb hby d11_2) k) ?_
  show gM s₁ 3 #[rv a1, rv a2] [(.int 0), (.ref a2), (.ref a1)]
  refine sT (fun t k => XS.aloadN X0.here hx rfl (hb hby d11_3) rfl rfl k) ?_
  show gM s₁ 4 #[rv a1, rv a2] [(.ref a2), (.int 0), (.ref a2), (.ref a1)]
  refine sT (fun t k => own_len X0 hx hZ e0 V_a2 (g := (mkF m 4 #[rv a1, rv a2] [(.ref a2), (.int 0), (.ref a2), (.ref a1)])) rfl rfl (hb hby d11_4) _ k) ?_
  show gM s₁ 5 #[rv a1, rv a2] [(.int 2), (.int 0), (.ref a2), (.ref a1)]
  refine sT (fun t k => XS.aconstNull X0.here hx rfl (hb hby d11_5) k) ?_
  show gM s₁ 6 #[rv a1, rv a2] [.null, (.int 2), (.int 0), (.ref a2), (.ref a1)]
  obtain ⟨_, _, ⟨T549, L549, k549, n549⟩, -, X549, ⟨Lc549, hQ549, l549, y549, z549⟩, st549⟩ := X0.specialBack hx (y := mN10) rfl hown (mvT hZ w19) (mvT hZ w20) (mvT hZ w22) (by decide) (backOf (W := 0) (own_iv2 l Z a0 hw [] a1 a2 (cs) (c0) (c1) (ka) h0 n0 Z0 E_a1 g_a1 F_value_a1 F_coder_a1 S__assertionsDisabled S_HI_BYTE_SHIFT S_LO_BYTE_SHIFT Zn O0.2 S_COMPACT_STRINGS hcs V_a2 ne_a1_a2 hN0 hN1) hZ w22 w14 (by decide) (by decide)) (g := (mkF m 6 #[rv a1, rv a2] [.null, (.int 2), (.int 0), (.ref a2), (.ref a1)])) rfl (by rw [hml]; rfl) (Steps.refl _) (a := a1) (argsL := [(.ref a2), (.int 0), (.int 2), .null]) (rest := []) (lenOf own_pd8 rfl) rfl (by show 2 * 0 + _ ≤ _; exact Nat.le_of_eq rfl) (hb hby d11_6) (fun _ hWq => ⟨rfl, e0, (by decide : 0 + 2 ≤ _), (by decide : 0 + 6 ≤ _)⟩)
  dsimp only [Pt.U, Pt.locs, Pt.cells, Pt.slots] at X549 l549 y549 z549 st549 hQ549
  subst y549 z549
  obtain ⟨cd_549, bv_549, kb_549, zl_549, ys_549, rfl, N549q, K549c, f549_0, f549_1, f549_2, f549_3, f549_4⟩ := hQ549
  have N549 : Fr n0 L549 := by rw [l549]; exact Fr.app N0 N549q
  refine own_jump st549 ?_
  have K550 : Keep h0 T549.heap [a1] := K0.trans K549c (allS (Or.inl (List.mem_of_getElem? (i := 0) rfl)) all0)
  show gM T549 9 #[rv a1, rv a2] []
  refine own_ret0 X549 hx hlk Bd.returns (hb hby d11_9) ?_ (by decide) (by decide)
  show own_is2_Q Z a1 a2 cs c0 c1 ka h0 n0 _ T549.heap _
  exact ⟨cd_549, bv_549, kb_549, zl_549, ys_549, rfl, N549, K550, f549_0, f549_1, f549_2, f549_3, f549_4⟩
theorem d12_35 : decode method_4_code 35 = .ok (.iload_n 0, 1) := by decide +kernel
theorem d12_36 : decode method_4_code 36 = .ok (.iconst 2, 1) := by decide +kernel
theorem d12_37 : decode method_4_code 37 = .ok (.if_icmp .ne 22, 3) := by decide +kernel
theorem d12_40 : decode method_4_code 40 = .ok (.new 13, 3) := by decide +kernel
theorem d12_43 : decode method_4_code 43 = .ok (.dup, 1) := by decide +kernel
theorem d12_44 : decode method_4_code 44 = .ok (.iconst 2, 1) := by decide +kernel
theorem d12_45 : decode method_4_code 45 = .ok (.newarray .char, 2) := by decide +kernel
theorem d12_47 : decode method_4_code 47 = .ok (.dup, 1) := by decide +kernel
theorem d12_48 : decode method_4_code 48 = .ok (.iconst 0, 1) := by decide +kernel
theorem d12_49 : decode method_4_code 49 = .ok (.iload_n 1, 1) := by decide +kernel
theorem d12_50 : decode method_4_code 50 = .ok (.castore, 1) := by decide +kernel
theorem d12_51 : decode method_4_code 51 = .ok (.dup, 1) := by decide +kernel
theorem d12_52 : decode method_4_code 52 = .ok (.iconst 1, 1) := by decide +kernel
theorem d12_53 : decode method_4_code 53 = .ok (.iload_n 2, 1) := by decide +kernel
theorem d12_54 : decode method_4_code 54 = .ok (.castore, 1) := by decide +kernel
theorem d12_55 : decode method_4_code 55 = .ok (.invokespecial 15, 3) := by decide +kernel
theorem d12_58 : decode method_4_code 58 = .ok (.areturn, 1) := by decide +kernel
theorem own_st2_ef (m : MethodId) (c0 : Int32) (c1 : Int32) (c2 : Int32) (c3 : Int32) (c4 : Int32) : entryFrame m #[(.int 2), (.int c0), (.int c1), (.int c2), (.int c3), (.int c4)] 6 = mkF m 0 #[iv 2, iv c0, iv c1, iv c2, iv c3, iv c4] [] := by first | (simp [entryFrame, mkF, argsToLocals, Value.category]; done) | rfl
def own_st2_Q (Z : State) (c0 : Int32) (c1 : Int32) (c2 : Int32) (c3 : Int32) (c4 : Int32) (cs : Int32) (h0 : Heap) (n0 : Nat) (v : Option Value) (h : Heap) (L : List Loc) : Prop := ∃ x : Addr, ∃ cd : Int32, ∃ bv : Addr, ∃ kb : ClassId, ∃ zl : Int32, ∃ ys : List Int32, v = some (.ref x) ∧ Fr n0 L ∧ Keep h0 h [] ∧ Exa Z h x "java/lang/String" ∧ Fld Z h x "java/lang/String" "coder" "B" (.int cd) ∧ Fld Z h x "java/lang/String" "value" "[B" (.ref bv) ∧ Arv Z h bv kb .byte zl (ys.map Value.int) (Value.int 0) ∧ ((cd = (0 : Int32) ∧ zl = (2 : Int32) ∧ ys = ([(c0.toInt8.toInt32), (c1.toInt8.toInt32)] : List Int32) ∧ ¬ (255 : Int32) < c0 ∧ ¬ (255 : Int32) < c1) ∨ (cd = (1 : Int32) ∧ ((255 : Int32) < c0 ∨ (255 : Int32) < c1)))
set_option maxRecDepth 65536 in
set_option maxHeartbeats 40000000 in
theorem own_st2 (l : Launch) (Z : State) (a0 : Array Value) (hw : ∀ d ∈ tables_1, d.before a0 Z = true) (ws : List Jvm.Cond) (c0 : Int32) (c1 : Int32) (c2 : Int32) (c3 : Int32) (c4 : Int32) (cs : Int32) (h0 : Heap) (n0 : Nat) (Z0 : n0 ≤ h0.size) (S__assertionsDisabled : Sta Z Z.heap "java/lang/StringUTF16" "$assertionsDisabled" "Z" (.int 1)) (S_HI_BYTE_SHIFT : Sta Z Z.heap "java/lang/StringUTF16" "HI_BYTE_SHIFT" "I" (.int 0)) (S_LO_BYTE_SHIFT : Sta Z Z.heap "java/lang/StringUTF16" "LO_BYTE_SHIFT" "I" (.int 8)) (Zn : Z.heap.size ≤ n0) (EZ : Ext Z.heap h0) (S_COMPACT_STRINGS : Sta Z Z.heap "java/lang/String" "COMPACT_STRINGS" "Z" (.int cs)) (hcs : ¬ cs = (0 : Int32)) (hN0 : nar .char c0 = c0) (hN1 : nar .char c1 = c1) :
    MetFree l mN12 (head1 (Jvm.Cond.code mN12 method_4_code 6 (some (.object "java/lang/String")) :: ws) ({ frames := 6, cells := 4, slots := 12, locals := 88 } : Room)) (fun aa U => aa = #[(.int 2), (.int c0), (.int c1), (.int c2), (.int c3), (.int c4)] ∧ Z.Warmed39 U.vm ∧ U.heap = h0) (fun _ _ _ _ _ => True) (fun _ U o U' => ∃ v L, o = .returned v ∧ own_st2_Q Z c0 c1 c2 c3 c4 cs h0 n0 v U'.heap L ∧ FrameEnd U o U' L ({ frames := 6, cells := 4, slots := 12, locals := 88 } : Room).cells ({ frames := 6, cells := 4, slots := 12, locals := 88 } : Room).slots) := by
  refine MetFree.of_bodySF (plainFor_of_name own_pn0) hisR ?_
  have w12 := wO hw 12 rfl
  have w13 := wO hw 13 rfl
  have w14 := wO hw 14 rfl
  have w15 := wO hw 15 rfl
  have w16 := wO hw 16 rfl
  have w17 := wO hw 17 rfl
  have w18 := wO hw 18 rfl
  have w28 := wO hw 28 rfl
  have w29 := wO hw 29 rfl
  intro p e s m args below meth c s₁ Bd hml0 hP hK
  obtain ⟨rfl, hZ, hh⟩ := hP
  have hx := Bd.exec
  have hby := Bd.bytes
  have hlk := Bd.notSynchronized
  have hml : c.maxLocals = 6 := hml0
  have hown : s.vm.findClass "com/example/noctule/noctule/server/TokenScopeTakesPinLaw" = some m.cls := findClass_of_methodNamed Bd.named
  have hnm := (name_of_methodNamed Bd.named Bd.method).1
  have X0 : Stand p l e ({ frames := 6, cells := 4, slots := 12, locals := 88 } : Room) s m #[(.int 2), (.int c0), (.int c1), (.int c2), (.int c3), (.int c4)] below meth c s₁ [] 0 0 := Stand.of_body Bd
  have e0 : s₁.heap = h0 := by rw [← hh, Bd.state]; rfl
  have N0 := Fr.nil n0
  have K0 : Keep h0 h0 [] := Keep.refl h0 _
  have O0 : Old Z Z.heap.size h0 := ⟨rfl, EZ⟩
  show gS p e below (own_Fin s (own_st2_Q Z c0 c1 c2 c3 c4 cs h0 n0) ({ frames := 6, cells := 4, slots := 12, locals := 88 } : Room).cells ({ frames := 6, cells := 4, slots := 12, locals := 88 } : Room).slots) _
  refine sT (fun t k => castTop (own_st2_ef m c0 c1 c2 c3 c4) k) ?_
  show gM s₁ 0 #[iv 2, iv c0, iv c1, iv c2, iv c3, iv c4] []
  refine sT (fun t k => XS.iloadN X0.here hx rfl (hb hby d12_0) rfl k) ?_
  show gM s₁ 1 #[iv 2, iv c0, iv c1, iv c2, iv c3, iv c4] [(.int 2)]
  have hc564 : ¬ ((2 : Int32) = (0 : Int32)) := by decide
  refine sT (fun t k => XS.ifYes X0.here hx rfl (pc0 := 1) (pc' := 15) rfl (hb hby d12_1) rfl ((if0 _ _).trans (feq hc564).2) (by decide) (by decide) k) ?_
  show gM s₁ 15 #[iv 2, iv c0, iv c1, iv c2, iv c3, iv c4] []
  refine sT (fun t k => XS.iloadN X0.here hx rfl (hb hby d12_15) rfl k) ?_
  show gM s₁ 16 #[iv 2, iv c0, iv c1, iv c2, iv c3, iv c4] [(.int 2)]
  refine sT (fun t k => XS.iconst X0.here hx rfl (hb hby d12_16) k) ?_
  show gM s₁ 17 #[iv 2, iv c0, iv c1, iv c2, iv c3, iv c4] [(.int 1), (.int 2)]
  have hc565 : ¬ ((2 : Int32) = (1 : Int32)) := by decide
  refine sT (fun t k => XS.icmpYes X0.here hx rfl (pc0 := 17) (pc' := 35) rfl (hb hby d12_17) rfl (feq hc565).2 (by decide) (by decide) k) ?_
  show gM s₁ 35 #[iv 2, iv c0, iv c1, iv c2, iv c3, iv c4] []
  refine sT (fun t k => XS.iloadN X0.here hx rfl (hb hby d12_35) rfl k) ?_
  show gM s₁ 36 #[iv 2, iv c0, iv c1, iv c2, iv c3, iv c4] [(.int 2)]
  refine sT (fun t k => XS.iconst X0.here hx rfl (hb hby d12_36) k) ?_
  show gM s₁ 37 #[iv 2, iv c0, iv c1, iv c2, iv c3, iv c4] [(.int 2), (.int 2)]
  have hc566 : (2 : Int32) = (2 : Int32) := rfl
  refine sT (fun t k => XS.icmpNo X0.here hx rfl (hb hby d12_37) rfl (teq hc566).2 k) ?_
  show gM s₁ 40 #[iv 2, iv c0, iv c1, iv c2, iv c3, iv c4] []
  obtain ⟨T567, h567, X567, e567, E567, A567, D567, -, st567⟩ := newO X0 hx hZ hown w12 w13 w14 e0 (g := (mkF m 40 #[iv 2, iv c0, iv c1, iv c2, iv c3, iv c4] [])) rfl (hb hby d12_40) (by decide) (by decide)
  obtain ⟨b567, g567⟩ : ∃ z, z = h0.size := ⟨_, rfl⟩
  rw [← g567] at A567 D567 st567
  have g_b567 : n0 ≤ b567 := Nat.le_trans Z0 (Nat.le_of_eq g567.symm)
  have sz_b567 : h0.size ≤ b567 := Nat.le_trans K0.1 (Nat.le_of_eq g567.symm)
  have K568 : Keep h0 h567 [] := K0.ext E567
  have F_value_b567 : Fld Z h567 b567 "java/lang/String" "value" "[B" .null := D567 (Or.inr w28) (ty := (.array .byte)) (by decide)
  have F_coder_b567 : Fld Z h567 b567 "java/lang/String" "coder" "B" (.int 0) := D567 (Or.inr w29) (ty := .byte) (by decide)
  refine sT st567 ?_
  show gM T567 43 #[iv 2, iv c0, iv c1, iv c2, iv c3, iv c4] [(.ref b567)]
  refine sT (fun t k => XS.dup X567.here hx rfl (hb hby d12_43) rfl rfl k) ?_
  show gM T567 44 #[iv 2, iv c0, iv c1, iv c2, iv c3, iv c4] [(.ref b567), (.ref b567)]
  refine sT (fun t k => XS.iconst X567.here hx rfl (hb hby d12_44) k) ?_
  show gM T567 45 #[iv 2, iv c0, iv c1, iv c2, iv c3, iv c4] [(.int 2), (.ref b567), (.ref b567)]
  obtain ⟨T569, h569, k569, X569, e569, E569, A569, st569⟩ := newP (aty := .char) X567 hx hZ w15 e567 (g := (mkF m 45 #[iv 2, iv c0, iv c1, iv c2, iv c3, iv c4] [(.int 2), (.ref b567), (.ref b567)])) rfl (hb hby d12_45) rfl (by decide) (cap := 2) (by decide) (by decide) (by decide) (by decide)
  obtain ⟨b569, g569⟩ : ∃ z, z = h567.size := ⟨_, rfl⟩
  rw [← g569] at A569 st569
  have ne_b567_b569 : b567 ≠ b569 := Nat.ne_of_lt (Nat.lt_of_lt_of_le A567.lt (Nat.le_of_eq g569.symm))
  have g_b569 : n0 ≤ b569 := Nat.le_trans (Nat.le_trans Z0 E567.1) (Nat.le_of_eq g569.symm)
  have sz_b569 : h0.size ≤ b569 := Nat.le_trans K568.1 (Nat.le_of_eq g569.symm)
  have V569 : Arv Z h569 b569 k569 .char (2 : Int32) (([0, 0] : List Int32).map Value.int) (Value.int 0) := own_newC A569 (by decide) 2
  have K570 : Keep h0 h569 [] := K568.ext E569
  refine sT st569 ?_
  show gM T569 47 #[iv 2, iv c0, iv c1, iv c2, iv c3, iv c4] [(.ref b569), (.ref b567), (.ref b567)]
  refine sT (fun t k => XS.dup X569.here hx rfl (hb hby d12_47) rfl rfl k) ?_
  show gM T569 48 #[iv 2, iv c0, iv c1, iv c2, iv c3, iv c4] [(.ref b569), (.ref b569), (.ref b567), (.ref b567)]
  refine sT (fun t k => XS.iconst X569.here hx rfl (hb hby d12_48) k) ?_
  show gM T569 49 #[iv 2, iv c0, iv c1, iv c2, iv c3, iv c4] [(.int 0), (.ref b569), (.ref b569), (.ref b567), (.ref b567)]
  refine sT (fun t k => XS.iloadN X569.here hx rfl (hb hby d12_49) rfl k) ?_
  show gM T569 50 #[iv 2, iv c0, iv c1, iv c2, iv c3, iv c4] [(.int c0), (.int 0), (.ref b569), (.ref b569), (.ref b567), (.ref b567)]
  obtain ⟨T571, h571, X571, e571, W571, V571, st571⟩ := own_cst X569 hx hZ e569 V569 (j := (0 : Int32)) hN0 ⟨by decide, by decide⟩ (0) rfl (Nat.le_of_ble_eq_true rfl) (g := (mkF m 50 #[iv 2, iv c0, iv c1, iv c2, iv c3, iv c4] [(.int c0), (.int 0), (.ref b569), (.ref b569), (.ref b567), (.ref b567)])) rfl rfl (hb hby d12_50)
  have V571 : Arv Z h571 b569 k569 .char (2 : Int32) (([c0, 0] : List Int32).map Value.int) (Value.int 0) := V571
  have N571 := Fr.snoc X571 N0 g_b569
  have K572 : Keep h0 h571 [] := K570.wr W571 (Or.inr sz_b569)
  refine sT st571 ?_
  show gM T571 51 #[iv 2, iv c0, iv c1, iv c2, iv c3, iv c4] [(.ref b569), (.ref b567), (.ref b567)]
  refine sT (fun t k => XS.dup X571.here hx rfl (hb hby d12_51) rfl rfl k) ?_
  show gM T571 52 #[iv 2, iv c0, iv c1, iv c2, iv c3, iv c4] [(.ref b569), (.ref b569), (.ref b567), (.ref b567)]
  refine sT (fun t k => XS.iconst X571.here hx rfl (hb hby d12_52) k) ?_
  show gM T571 53 #[iv 2, iv c0, iv c1, iv c2, iv c3, iv c4] [(.int 1), (.ref b569), (.ref b569), (.ref b567), (.ref b567)]
  refine sT (fun t k => XS.iloadN X571.here hx rfl (hb hby d12_53) rfl k) ?_
  show gM T571 54 #[iv 2, iv c0, iv c1, iv c2, iv c3, iv c4] [(.int c1), (.int 1), (.ref b569), (.ref b569), (.ref b567), (.ref b567)]
  obtain ⟨T573, h573, X573, e573, W573, V573, st573⟩ := own_cst X571 hx hZ e571 V571 (j := (1 : Int32)) hN1 ⟨by decide, by decide⟩ (1) rfl (Nat.le_of_ble_eq_true rfl) (g := (mkF m 54 #[iv 2, iv c0, iv c1, iv c2, iv c3, iv c4] [(.int c1), (.int 1), (.ref b569), (.ref b569), (.ref b567), (.ref b567)])) rfl rfl (hb hby d12_54)
  have V573 : Arv Z h573 b569 k569 .char (2 : Int32) (([c0, c1] : List Int32).map Value.int) (Value.int 0) := V573
  have N573 := Fr.snoc X573 N571 g_b569
  have K574 : Keep h0 h573 [] := K572.wr W573 (Or.inr sz_b569)
  refine sT st573 ?_
  show gM T573 55 #[iv 2, iv c0, iv c1, iv c2, iv c3, iv c4] [(.ref b569), (.ref b567), (.ref b567)]
  obtain ⟨_, _, ⟨T575, L575, k575, n575⟩, -, X575, ⟨Lc575, hQ575, l575, y575, z575⟩, st575⟩ := X573.specialBack hx (y := mN11) rfl hown (mvT hZ w16) (mvT hZ w17) (mvT hZ w18) (by decide) (backOf (W := 1) (own_is2 l Z a0 hw [] b567 b569 (cs) (c0) (c1) (k569) h573 n0 (Nat.le_trans (Nat.le_trans (Nat.le_trans (Nat.le_trans Z0 E567.1) E569.1) (Keep.of_wr W571).1) (Keep.of_wr W573).1) (((A567.ext E569).wr W571).wr W573) g_b567 (((F_value_b567.ext E569).other W571 (Or.inl ne_b567_b569)).other W573 (Or.inl ne_b567_b569)) (((F_coder_b567.ext E569).other W571 (Or.inl ne_b567_b569)).other W573 (Or.inl ne_b567_b569)) S__assertionsDisabled S_HI_BYTE_SHIFT S_LO_BYTE_SHIFT Zn ((((O0.ext E567).ext E569).wr W571 (Nat.le_trans Zn g_b569)).wr W573 (Nat.le_trans Zn g_b569)).2 S_COMPACT_STRINGS hcs V573 ne_b567_b569 hN0 hN1) hZ w18 w14 (by decide) (by decide)) (g := (mkF m 55 #[iv 2, iv c0, iv c1, iv c2, iv c3, iv c4] [(.ref b569), (.ref b567), (.ref b567)])) rfl (by rw [hml]; rfl) (Steps.refl _) (a := b567) (argsL := [(.ref b569)]) (rest := [(.ref b567)]) (lenOf own_pd9 rfl) rfl (by show 2 * 0 + _ ≤ _; exact Nat.le_of_eq rfl) (hb hby d12_55) (fun _ hWq => ⟨rfl, e573, (by decide : 2 + 2 ≤ _), (by decide : 6 + 6 ≤ _)⟩)
  dsimp only [Pt.U, Pt.locs, Pt.cells, Pt.slots] at X575 l575 y575 z575 st575 hQ575
  subst y575 z575
  obtain ⟨cd_575, bv_575, kb_575, zl_575, ys_575, rfl, N575q, K575c, f575_0, f575_1, f575_2, f575_3, f575_4⟩ := hQ575
  have N575 : Fr n0 L575 := by rw [l575]; exact Fr.app N573 N575q
  refine own_jump st575 ?_
  have K576 : Keep h0 T575.heap [] := K574.trans K575c (allS (Or.inr sz_b567) all0)
  show gM T575 58 #[iv 2, iv c0, iv c1, iv c2, iv c3, iv c4] [(.ref b567)]
  refine own_retV X575 hx hlk Bd.returns (w := (.ref b567)) rfl (Or.inr (Or.inr (Or.inr (Or.inr ⟨rfl, rfl, rfl⟩)))) (hb hby d12_58) ?_ (by decide) (by decide)
  show own_st2_Q Z c0 c1 c2 c3 c4 cs h0 n0 _ T575.heap _
  exact ⟨b567, cd_575, bv_575, kb_575, zl_575, ys_575, rfl, N575, K576, f575_0, f575_1, f575_2, f575_3, f575_4⟩
theorem own_iv3_ef (m : MethodId) (a1 : Addr) (a2 : Addr) : entryFrame m #[(.ref a1), (.ref a2), (.int 0), (.int 3), .null] 6 = mkF m 0 #[rv a1, rv a2, iv 0, iv 3, .val .null, uN] [] := by first | (simp [entryFrame, mkF, argsToLocals, Value.category]; done) | rfl
def own_iv3_Q (Z : State) (a1 : Addr) (a2 : Addr) (cs : Int32) (c0 : Int32) (c1 : Int32) (c2 : Int32) (ka : ClassId) (h0 : Heap) (n0 : Nat) (v : Option Value) (h : Heap) (L : List Loc) : Prop := ∃ cd : Int32, ∃ bv : Addr, ∃ kb : ClassId, ∃ zl : Int32, ∃ ys : List Int32, v = none ∧ Fr n0 L ∧ Keep h0 h [a1] ∧ Exa Z h a1 "java/lang/String" ∧ Fld Z h a1 "java/lang/String" "coder" "B" (.int cd) ∧ Fld Z h a1 "java/lang/String" "value" "[B" (.ref bv) ∧ Arv Z h bv kb .byte zl (ys.map Value.int) (Value.int 0) ∧ ((cd = (0 : Int32) ∧ zl = (3 : Int32) ∧ ys = ([(c0.toInt8.toInt32), (c1.toInt8.toInt32), (c2.toInt8.toInt32)] : List Int32) ∧ ¬ (255 : Int32) < c0 ∧ ¬ (255 : Int32) < c1 ∧ ¬ (255 : Int32) < c2) ∨ (cd = (1 : Int32) ∧ ((255 : Int32) < c0 ∨ (255 : Int32) < c1 ∨ (255 : Int32) < c2)))
set_option maxRecDepth 65536 in
set_option maxHeartbeats 40000000 in
theorem own_iv3 (l : Launch) (Z : State) (a0 : Array Value) (hw : ∀ d ∈ tables_1, d.before a0 Z = true) (ws : List Jvm.Cond) (a1 : Addr) (a2 : Addr) (cs : Int32) (c0 : Int32) (c1 : Int32) (c2 : Int32) (ka : ClassId) (h0 : Heap) (n0 : Nat) (Z0 : n0 ≤ h0.size) (E_a1 : Exa Z h0 a1 "java/lang/String") (g_a1 : n0 ≤ a1) (F_value_a1 : Fld Z h0 a1 "java/lang/String" "value" "[B" .null) (F_coder_a1 : Fld Z h0 a1 "java/lang/String" "coder" "B" (.int 0)) (S__assertionsDisabled : Sta Z Z.heap "java/lang/StringUTF16" "$assertionsDisabled" "Z" (.int 1)) (S_HI_BYTE_SHIFT : Sta Z Z.heap "java/lang/StringUTF16" "HI_BYTE_SHIFT" "I" (.int 0)) (S_LO_BYTE_SHIFT : Sta Z Z.heap "java/lang/StringUTF16" "LO_BYTE_SHIFT" "I" (.int 8)) (Zn : Z.heap.size ≤ n0) (EZ : Ext Z.heap h0) (S_COMPACT_STRINGS : Sta Z Z.heap "java/lang/String" "COMPACT_STRINGS" "Z" (.int cs)) (hcs : ¬ cs = (0 : Int32)) (V_a2 : Arv Z h0 a2 ka .char (3 : Int32) (([c0, c1, c2] : List Int32).map Value.int) (Value.int 0)) (ne_a1_a2 : a1 ≠ a2) (hN0 : nar .char c0 = c0) (hN1 : nar .char c1 = c1) (hN2 : nar .char c2 = c2) :
    MetFree l mN10 (head1 (Jvm.Cond.code mN10 jdk_42_method_149_code 6 none :: ws) ({ frames := 4, cells := 2, slots := 9, locals := 57 } : Room)) (fun aa U => aa = #[(.ref a1), (.ref a2), (.int 0), (.int 3), .null] ∧ Z.Warmed39 U.vm ∧ U.heap = h0) (fun _ _ _ _ _ => True) (fun _ U o U' => ∃ v L, o = .returned v ∧ own_iv3_Q Z a1 a2 cs c0 c1 c2 ka h0 n0 v U'.heap L ∧ FrameEnd U o U' L ({ frames := 4, cells := 2, slots := 9, locals := 57 } : Room).cells ({ frames := 4, cells := 2, slots := 9, locals := 57 } : Room).slots) := by
  refine MetFree.of_bodySF (plainFor_of_name own_pn2) hisR ?_
  have w13 := wO hw 13 rfl
  have w23 := wO hw 23 rfl
  have w24 := wO hw 24 rfl
  have w25 := wO hw 25 rfl
  have w28 := wO hw 28 rfl
  have w29 := wO hw 29 rfl
  have w32 := wO hw 32 rfl
  have w33 := wO hw 33 rfl
  have w51 := wO hw 51 rfl
  have w57 := wO hw 57 rfl
  have w58 := wO hw 58 rfl
  have w59 := wO hw 59 rfl
  have w60 := wO hw 60 rfl
  have w64 := wO hw 64 rfl
  have w65 := wO hw 65 rfl
  have w66 := wO hw 66 rfl
  intro p e s m args below meth c s₁ Bd hml0 hP hK
  obtain ⟨rfl, hZ, hh⟩ := hP
  have hx := Bd.exec
  have hby := Bd.bytes
  have hlk := Bd.notSynchronized
  have hml : c.maxLocals = 6 := hml0
  have hown : s.vm.findClass "java/lang/String" = some m.cls := findClass_of_methodNamed Bd.named
  have hnm := (name_of_methodNamed Bd.named Bd.method).1
  have X0 : Stand p l e ({ frames := 4, cells := 2, slots := 9, locals := 57 } : Room) s m #[(.ref a1), (.ref a2), (.int 0), (.int 3), .null] below meth c s₁ [] 0 0 := Stand.of_body Bd
  have e0 : s₁.heap = h0 := by rw [← hh, Bd.state]; rfl
  have N0 := Fr.nil n0
  have K0 : Keep h0 h0 [a1] := Keep.refl h0 _
  have O0 : Old Z Z.heap.size h0 := ⟨rfl, EZ⟩
  show gS p e below (own_Fin s (own_iv3_Q Z a1 a2 cs c0 c1 c2 ka h0 n0) ({ frames := 4, cells := 2, slots := 9, locals := 57 } : Room).cells ({ frames := 4, cells := 2, slots := 9, locals := 57 } : Room).slots) _
  refine sT (fun t k => castTop (own_iv3_ef m a1 a2) k) ?_
  show gM s₁ 0 #[rv a1, rv a2, iv 0, iv 3, .val .null, uN] []
  refine sT (fun t k => XS.aloadN X0.here hx rfl (hb hby d10_0) rfl rfl k) ?_
  show gM s₁ 1 #[rv a1, rv a2, iv 0, iv 3, .val .null, uN] [(.ref a1)]
  obtain ⟨T593, X593, e593, st593⟩ := initO X0 hx hZ hown w23 w24 w25 e0 (g := (mkF m 1 #[rv a1, rv a2, iv 0, iv 3, .val .null, uN] [(.ref a1)])) rfl (by rw [hml]; rfl) rfl (hb hby d10_1) (by decide) (W := 0) (by show 2 * 0 + _ ≤ _; exact Nat.le_of_eq rfl) (by decide)
  refine sT st593 ?_
  show gM T593 4 #[rv a1, rv a2, iv 0, iv 3, .val .null, uN] []
  refine sT (fun t k => XS.iloadN X593.here hx rfl (hb hby d10_4) rfl k) ?_
  show gM T593 5 #[rv a1, rv a2, iv 0, iv 3, .val .null, uN] [(.int 3)]
  have hc594 : ¬ ((3 : Int32) = (0 : Int32)) := by decide
  refine sT (fun t k => XS.ifYes X593.here hx rfl (pc0 := 5) (pc' := 27) rfl (hb hby d10_5) rfl ((if0 _ _).trans (feq hc594).2) (by decide) (by decide) k) ?_
  show gM T593 27 #[rv a1, rv a2, iv 0, iv 3, .val .null, uN] []
  obtain ⟨T595, X595, e595, st595⟩ := getS2 X593 hx hZ hown (host := "") (Or.inl w51) Via.refl e593 (S_COMPACT_STRINGS.ext O0.2) (g := (mkF m 27 #[rv a1, rv a2, iv 0, iv 3, .val .null, uN] [])) rfl (hb hby d10_27)
  refine sT st595 ?_
  show gM T595 30 #[rv a1, rv a2, iv 0, iv 3, .val .null, uN] [(.int cs)]
  have hc596 : ¬ (cs = (0 : Int32)) := hcs
  refine sT (fun t k => XS.ifNo X595.here hx rfl (hb hby d10_30) rfl ((if0 _ _).trans (feq hc596).1) k) ?_
  show gM T595 33 #[rv a1, rv a2, iv 0, iv 3, .val .null, uN] []
  refine sT (fun t k => XS.aloadN X595.here hx rfl (hb hby d10_33) rfl rfl k) ?_
  show gM T595 34 #[rv a1, rv a2, iv 0, iv 3, .val .null, uN] [(.ref a2)]
  refine sT (fun t k => XS.iloadN X595.here hx rfl (hb hby d10_34) rfl k) ?_
  show gM T595 35 #[rv a1, rv a2, iv 0, iv 3, .val .null, uN] [(.int 0), (.ref a2)]
  refine sT (fun t k => XS.iloadN X595.here hx rfl (hb hby d10_35) rfl k) ?_
  show gM T595 36 #[rv a1, rv a2, iv 0, iv 3, .val .null, uN] [(.int 3), (.int 0), (.ref a2)]
  obtain ⟨_, _, ⟨T597, L597, k597, n597⟩, -, X597, ⟨Lc597, hQ597, l597, y597, z597⟩, st597⟩ := Jvm.LawKit.callS X595 hx (y := mN8) hown (mvT hZ w57) (mvT hZ w58) (mvT hZ w59) (mvT hZ w60) (by decide) (backOf (W := 0) (own_co3 l Z a0 hw [] a2 (c0) (c1) (c2) (ka) h0 n0 Z0 S__assertionsDisabled S_HI_BYTE_SHIFT S_LO_BYTE_SHIFT Zn O0.2 V_a2 hN0 hN1 hN2) hZ w60 w59 (by decide) (by decide)) (g := (mkF m 36 #[rv a1, rv a2, iv 0, iv 3, .val .null, uN] [(.int 3), (.int 0), (.ref a2)])) rfl (by rw [hml]; rfl) (argsL := [(.ref a2), (.int 0), (.int 3)]) (rest := []) (lenOf own_pd5 rfl) rfl (by show 2 * 0 + _ ≤ _; exact Nat.le_of_eq rfl) (hb hby d10_36) (fun _ hWq => ⟨rfl, e595, (by decide : 0 + 2 ≤ _), (by decide : 0 + 9 ≤ _)⟩)
  dsimp only [Pt.U, Pt.locs, Pt.cells, Pt.slots] at X597 l597 y597 z597 st597 hQ597
  subst y597 z597
  obtain ⟨bv_597, kb_597, zl_597, ys_597, rfl, N597q, K597c, f597_0, f597_1, f597_2⟩ := hQ597
  have N597 : Fr n0 L597 := by rw [l597]; exact Fr.app N0 N597q
  refine sT st597 ?_
  have K598 : Keep h0 T597.heap [a1] := K0.trans K597c all0
  have sz_bv_597 : h0.size ≤ bv_597 := Nat.le_trans K0.1 f597_0
  have g_bv_597 : n0 ≤ bv_597 := Nat.le_trans Z0 sz_bv_597
  have ne_a1_bv_597 : a1 ≠ bv_597 := Nat.ne_of_lt (Nat.lt_of_lt_of_le E_a1.lt f597_0)
  have ne_a2_bv_597 : a2 ≠ bv_597 := Nat.ne_of_lt (Nat.lt_of_lt_of_le V_a2.lt f597_0)
  show gM T597 39 #[rv a1, rv a2, iv 0, iv 3, .val .null, uN] [(.ref bv_597)]
  rcases f597_2 with ⟨rfl, rfl, hle⟩ | ⟨rfl, hgt⟩
  · --
   show gM T597 39 #[rv a1, rv a2, iv 0, iv 3, .val .null, uN] [(.ref bv_597)]
   refine sT (fun t k => XS.astore X597.here hx rfl (hb hby d10_39) rfl rfl (l' := #[rv a1, rv a2, iv 0, iv 3, .val .null, rv bv_597]) rfl k) ?_
   show gM T597 41 #[rv a1, rv a2, iv 0, iv 3, .val .null, rv bv_597] []
   refine sT (fun t k => XS.aloadN X597.here hx rfl (hb hby d10_41) rfl rfl k) ?_
   show gM T597 42 #[rv a1, rv a2, iv 0, iv 3, .val .null, rv bv_597] [(.ref a1)]
   refine sT (fun t k => XS.aload X597.here hx rfl (hb hby d10_42) rfl rfl k) ?_
   show gM T597 44 #[rv a1, rv a2, iv 0, iv 3, .val .null, rv bv_597] [(.ref bv_597), (.ref a1)]
   refine sT (fun t k => XS.iloadN X597.here hx rfl (hb hby d10_44) rfl k) ?_
   show gM T597 45 #[rv a1, rv a2, iv 0, iv 3, .val .null, rv bv_597] [(.int 3), (.ref bv_597), (.ref a1)]
   obtain ⟨_, _, ⟨T599, L599, k599, n599⟩, -, X599, ⟨Lc599, hQ599, l599, y599, z599⟩, st599⟩ := Jvm.LawKit.callS X597 hx (y := mN9) hown (mvT hZ w64) (mvT hZ w65) (mvT hZ w59) (mvT hZ w66) (by decide) (backOf (W := 1) (own_cf l Z a0 hw [] bv_597 (3 : Int32) ((3 : Int32)) (([(c0.toInt8.toInt32), (c1.toInt8.toInt32), (c2.toInt8.toInt32)] : List Int32)) (kb_597) ((0 : Int32)) T597.heap n0 (Nat.le_trans Z0 K597c.1) f597_1 (by decide)) hZ w66 w59 (by decide) (by decide)) (g := (mkF m 45 #[rv a1, rv a2, iv 0, iv 3, .val .null, rv bv_597] [(.int 3), (.ref bv_597), (.ref a1)])) rfl (by rw [hml]; rfl) (argsL := [(.ref bv_597), (.int 3)]) (rest := [(.ref a1)]) (lenOf own_pd7 rfl) rfl (by show 2 * 0 + _ ≤ _; exact Nat.le_of_eq rfl) (hb hby d10_45) (fun _ hWq => ⟨rfl, rfl, (by decide : 2 + 0 ≤ _), (by decide : 9 + 0 ≤ _)⟩)
   dsimp only [Pt.U, Pt.locs, Pt.cells, Pt.slots] at X599 l599 y599 z599 st599 hQ599
   subst y599 z599
   obtain ⟨rfl, N599q, eh599⟩ := hQ599
   have N599 : Fr n0 L599 := by rw [l599]; exact Fr.app N597 N599q
   refine sT st599 ?_
   show gM T599 48 #[rv a1, rv a2, iv 0, iv 3, .val .null, rv bv_597] [(.int 0), (.ref a1)]
   obtain ⟨T600, h600, X600, e600, W600, st600⟩ := putF X599 hx hZ hown (host := "") (Or.inl w33) Via.refl eh599 (F_coder_a1.keep K597c nin0) (E_a1.keep K597c) (Or.inr ⟨w29, rfl, hnm⟩) w13 (ty := .byte) (by decide) rfl rfl (g := (mkF m 48 #[rv a1, rv a2, iv 0, iv 3, .val .null, rv bv_597] [(.int 0), (.ref a1)])) rfl rfl (hb hby d10_48)
   have Fw600 := (F_coder_a1.keep K597c nin0).same W600
   have N600 := Fr.snoc X600 N599 g_a1
   have K601 : Keep h0 h600 [a1] := K598.wr W600 (Or.inl (List.mem_of_getElem? (i := 0) rfl))
   refine sT st600 ?_
   show gM T600 51 #[rv a1, rv a2, iv 0, iv 3, .val .null, rv bv_597] []
   refine sT (fun t k => XS.aloadN X600.here hx rfl (hb hby d10_51) rfl rfl k) ?_
   show gM T600 52 #[rv a1, rv a2, iv 0, iv 3, .val .null, rv bv_597] [(.ref a1)]
   refine sT (fun t k => XS.aload X600.here hx rfl (hb hby d10_52) rfl rfl k) ?_
   show gM T600 54 #[rv a1, rv a2, iv 0, iv 3, .val .null, rv bv_597] [(.ref bv_597), (.ref a1)]
   obtain ⟨T602, h602, X602, e602, W602, st602⟩ := putF X600 hx hZ hown (host := "") (Or.inl w32) Via.refl e600 ((F_value_a1.keep K597c nin0).other W600 (Or.inr (slot_ne (Or.inr w28) (Or.inr w29) (by decide) (t := (.array .byte)) (t' := .byte) (by decide) (by decide)))) ((E_a1.keep K597c).wr W600) (Or.inr ⟨w28, rfl, hnm⟩) w13 (ty := (.array .byte)) (by decide) rfl rfl (g := (mkF m 54 #[rv a1, rv a2, iv 0, iv 3, .val .null, rv bv_597] [(.ref bv_597), (.ref a1)])) rfl rfl (hb hby d10_54)
   have Fw602 := ((F_value_a1.keep K597c nin0).other W600 (Or.inr (slot_ne (Or.inr w28) (Or.inr w29) (by decide) (t := (.array .byte)) (t' := .byte) (by decide) (by decide)))).same W602
   have N602 := Fr.snoc X602 N600 g_a1
   have K603 : Keep h0 h602 [a1] := K601.wr W602 (Or.inl (List.mem_of_getElem? (i := 0) rfl))
   refine sT st602 ?_
   show gM T602 57 #[rv a1, rv a2, iv 0, iv 3, .val .null, rv bv_597] []
   refine own_ret0 X602 hx hlk Bd.returns (hb hby d10_57) ?_ (by decide) (by decide)
   show own_iv3_Q Z a1 a2 cs c0 c1 c2 ka h0 n0 _ T602.heap _
   rw [e602]
   exact ⟨(0 : Int32), bv_597, kb_597, 3, ([(c0.toInt8.toInt32), (c1.toInt8.toInt32), (c2.toInt8.toInt32)] : List Int32), rfl, N602, K603, (((E_a1.keep K597c).wr W600).wr W602), (Fw600.other W602 (Or.inr (slot_ne (Or.inr w29) (Or.inr w28) (by decide) (t := .byte) (t' := (.array .byte)) (by decide) (by decide)))), Fw602, ((f597_1.other W600 (Ne.symm ne_a1_bv_597)).other W602 (Ne.symm ne_a1_bv_597)), (Or.inl ⟨rfl, rfl, rfl, hle⟩)⟩
  · --
   show gM T597 39 #[rv a1, rv a2, iv 0, iv 3, .val .null, uN] [(.ref bv_597)]
   refine sT (fun t k => XS.astore X597.here hx rfl (hb hby d10_39) rfl rfl (l' := #[rv a1, rv a2, iv 0, iv 3, .val .null, rv bv_597]) rfl k) ?_
   show gM T597 41 #[rv a1, rv a2, iv 0, iv 3, .val .null, rv bv_597] []
   refine sT (fun t k => XS.aloadN X597.here hx rfl (hb hby d10_41) rfl rfl k) ?_
   show gM T597 42 #[rv a1, rv a2, iv 0, iv 3, .val .null, rv bv_597] [(.ref a1)]
   refine sT (fun t k => XS.aload X597.here hx rfl (hb hby d10_42) rfl rfl k) ?_
   show gM T597 44 #[rv a1, rv a2, iv 0, iv 3, .val .null, rv bv_597] [(.ref bv_597), (.ref a1)]
   refine sT (fun t k => XS.iloadN X597.here hx rfl (hb hby d10_44) rfl k) ?_
   show gM T597 45 #[rv a1, rv a2, iv 0, iv 3, .val .null, rv bv_597] [(.int 3), (.ref bv_597), (.ref a1)]
   obtain ⟨_, _, ⟨T604, L604, k604, n604⟩, -, X604, ⟨Lc604, hQ604, l604, y604, z604⟩, st604⟩ := Jvm.LawKit.callS X597 hx (y := mN9) hown (mvT hZ w64) (mvT hZ w65) (mvT hZ w59) (mvT hZ w66) (by decide) (backOf (W := 1) (own_cf l Z a0 hw [] bv_597 (3 : Int32) ((6 : Int32)) (ys_597) (kb_597) ((1 : Int32)) T597.heap n0 (Nat.le_trans Z0 K597c.1) f597_1 (by decide)) hZ w66 w59 (by decide) (by decide)) (g := (mkF m 45 #[rv a1, rv a2, iv 0, iv 3, .val .null, rv bv_597] [(.int 3), (.ref bv_597), (.ref a1)])) rfl (by rw [hml]; rfl) (argsL := [(.ref bv_597), (.int 3)]) (rest := [(.ref a1)]) (lenOf own_pd7 rfl) rfl (by show 2 * 0 + _ ≤ _; exact Nat.le_of_eq rfl) (hb hby d10_45) (fun _ hWq => ⟨rfl, rfl, (by decide : 2 + 0 ≤ _), (by decide : 9 + 0 ≤ _)⟩)
   dsimp only [Pt.U, Pt.locs, Pt.cells, Pt.slots] at X604 l604 y604 z604 st604 hQ604
   subst y604 z604
   obtain ⟨rfl, N604q, eh604⟩ := hQ604
   have N604 : Fr n0 L604 := by rw [l604]; exact Fr.app N597 N604q
   refine sT st604 ?_
   show gM T604 48 #[rv a1, rv a2, iv 0, iv 3, .val .null, rv bv_597] [(.int 1), (.ref a1)]
   obtain ⟨T605, h605, X605, e605, W605, st605⟩ := putF X604 hx hZ hown (host := "") (Or.inl w33) Via.refl eh604 (F_coder_a1.keep K597c nin0) (E_a1.keep K597c) (Or.inr ⟨w29, rfl, hnm⟩) w13 (ty := .byte) (by decide) rfl rfl (g := (mkF m 48 #[rv a1, rv a2, iv 0, iv 3, .val .null, rv bv_597] [(.int 1), (.ref a1)])) rfl rfl (hb hby d10_48)
   have Fw605 := (F_coder_a1.keep K597c nin0).same W605
   have N605 := Fr.snoc X605 N604 g_a1
   have K606 : Keep h0 h605 [a1] := K598.wr W605 (Or.inl (List.mem_of_getElem? (i := 0) rfl))
   refine sT st605 ?_
   show gM T605 51 #[rv a1, rv a2, iv 0, iv 3, .val .null, rv bv_597] []
   refine sT (fun t k => XS.aloadN X605.here hx rfl (hb hby d10_51) rfl rfl k) ?_
   show gM T605 52 #[rv a1, rv a2, iv 0, iv 3, .val .null, rv bv_597] [(.ref a1)]
   refine sT (fun t k => XS.aload X605.here hx rfl (hb hby d10_52) rfl rfl k) ?_
   show gM T605 54 #[rv a1, rv a2, iv 0, iv 3, .val .null, rv bv_597] [(.ref bv_597), (.ref a1)]
   obtain ⟨T607, h607, X607, e607, W607, st607⟩ := putF X605 hx hZ hown (host := "") (Or.inl w32) Via.refl e605 ((F_value_a1.keep K597c nin0).other W605 (Or.inr (slot_ne (Or.inr w28) (Or.inr w29) (by decide) (t := (.array .byte)) (t' := .byte) (by decide) (by decide)))) ((E_a1.keep K597c).wr W605) (Or.inr ⟨w28, rfl, hnm⟩) w13 (ty := (.array .byte)) (by decide) rfl rfl (g := (mkF m 54 #[rv a1, rv a2, iv 0, iv 3, .val .null, rv bv_597] [(.ref bv_597), (.ref a1)])) rfl rfl (hb hby d10_54)
   have Fw607 := ((F_value_a1.keep K597c nin0).other W605 (Or.inr (slot_ne (Or.inr w28) (Or.inr w29) (by decide) (t := (.array .byte)) (t' := .byte) (by decide) (by decide)))).same W607
   have N607 := Fr.snoc X607 N605 g_a1
   have K608 : Keep h0 h607 [a1] := K606.wr W607 (Or.inl (List.mem_of_getElem? (i := 0) rfl))
   refine sT st607 ?_
   show gM T607 57 #[rv a1, rv a2, iv 0, iv 3, .val .null, rv bv_597] []
   refine own_ret0 X607 hx hlk Bd.returns (hb hby d10_57) ?_ (by decide) (by decide)
   show own_iv3_Q Z a1 a2 cs c0 c1 c2 ka h0 n0 _ T607.heap _
   rw [e607]
   exact ⟨(1 : Int32), bv_597, kb_597, 6, ys_597, rfl, N607, K608, (((E_a1.keep K597c).wr W605).wr W607), (Fw605.other W607 (Or.inr (slot_ne (Or.inr w29) (Or.inr w28) (by decide) (t := .byte) (t' := (.array .byte)) (by decide) (by decide)))), Fw607, ((f597_1.other W605 (Ne.symm ne_a1_bv_597)).other W607 (Ne.symm ne_a1_bv_597)), (Or.inr ⟨rfl, hgt⟩)⟩
theorem own_is3_ef (m : MethodId) (a1 : Addr) (a2 : Addr) : entryFrame m #[(.ref a1), (.ref a2)] 2 = mkF m 0 #[rv a1, rv a2] [] := by first | (simp [entryFrame, mkF, argsToLocals, Value.category]; done) | rfl
def own_is3_Q (Z : State) (a1 : Addr) (a2 : Addr) (cs : Int32) (c0 : Int32) (c1 : Int32) (c2 : Int32) (ka : ClassId) (h0 : Heap) (n0 : Nat) (v : Option Value) (h : Heap) (L : List Loc) : Prop := ∃ cd : Int32, ∃ bv : Addr, ∃ kb : ClassId, ∃ zl : Int32, ∃ ys : List Int32, v = none ∧ Fr n0 L ∧ Keep h0 h [a1] ∧ Exa Z h a1 "java/lang/String" ∧ Fld Z h a1 "java/lang/String" "coder" "B" (.int cd) ∧ Fld Z h a1 "java/lang/String" "value" "[B" (.ref bv) ∧ Arv Z h bv kb .byte zl (ys.map Value.int) (Value.int 0) ∧ ((cd = (0 : Int32) ∧ zl = (3 : Int32) ∧ ys = ([(c0.toInt8.toInt32), (c1.toInt8.toInt32), (c2.toInt8.toInt32)] : List Int32) ∧ ¬ (255 : Int32) < c0 ∧ ¬ (255 : Int32) < c1 ∧ ¬ (255 : Int32) < c2) ∨ (cd = (1 : Int32) ∧ ((255 : Int32) < c0 ∨ (255 : Int32) < c1 ∨ (255 : Int32) < c2)))
set_option maxRecDepth 65536 in
set_option maxHeartbeats 40000000 in
theorem own_is3 (l : Launch) (Z : State) (a0 : Array Value) (hw : ∀ d ∈ tables_1, d.before a0 Z = true) (ws : List Jvm.Cond) (a1 : Addr) (a2 : Addr) (cs : Int32) (c0 : Int32) (c1 : Int32) (c2 : Int32) (ka : ClassId) (h0 : Heap) (n0 : Nat) (Z0 : n0 ≤ h0.size) (E_a1 : Exa Z h0 a1 "java/lang/String") (g_a1 : n0 ≤ a1) (F_value_a1 : Fld Z h0 a1 "java/lang/String" "value" "[B" .null) (F_coder_a1 : Fld Z h0 a1 "java/lang/String" "coder" "B" (.int 0)) (S__assertionsDisabled : Sta Z Z.heap "java/lang/StringUTF16" "$assertionsDisabled" "Z" (.int 1)) (S_HI_BYTE_SHIFT : Sta Z Z.heap "java/lang/StringUTF16" "HI_BYTE_SHIFT" "I" (.int 0)) (S_LO_BYTE_SHIFT : Sta Z Z.heap "java/lang/StringUTF16" "LO_BYTE_SHIFT" "I" (.int 8)) (Zn : Z.heap.size ≤ n0) (EZ : Ext Z.heap h0) (S_COMPACT_STRINGS : Sta Z Z.heap "java/lang/String" "COMPACT_STRINGS" "Z" (.int cs)) (hcs : ¬ cs = (0 : Int32)) (V_a2 : Arv Z h0 a2 ka .char (3 : Int32) (([c0, c1, c2] : List Int32).map Value.int) (Value.int 0)) (ne_a1_a2 : a1 ≠ a2) (hN0 : nar .char c0 = c0) (hN1 : nar .char c1 = c1) (hN2 : nar .char c2 = c2) :
    MetFree l mN11 (head1 (Jvm.Cond.code mN11 jdk_42_method_3_code 2 none :: ws) ({ frames := 5, cells := 2, slots := 9, locals := 74 } : Room)) (fun aa U => aa = #[(.ref a1), (.ref a2)] ∧ Z.Warmed39 U.vm ∧ U.heap = h0) (fun _ _ _ _ _ => True) (fun _ U o U' => ∃ v L, o = .returned v ∧ own_is3_Q Z a1 a2 cs c0 c1 c2 ka h0 n0 v U'.heap L ∧ FrameEnd U o U' L ({ frames := 5, cells := 2, slots := 9, locals := 74 } : Room).cells ({ frames := 5, cells := 2, slots := 9, locals := 74 } : Room).slots) := by
  refine MetFree.of_bodySF (plainFor_of_name own_pn2) hisR ?_
  have w14 := wO hw 14 rfl
  have w19 := wO hw 19 rfl
  have w20 := wO hw 20 rfl
  have w22 := wO hw 22 rfl
  intro p e s m args below meth c s₁ Bd hml0 hP hK
  obtain ⟨rfl, hZ, hh⟩ := hP
  have hx := Bd.exec
  have hby := Bd.bytes
  have hlk := Bd.notSynchronized
  have hml : c.maxLocals = 2 := hml0
  have hown : s.vm.findClass "java/lang/String" = some m.cls := findClass_of_methodNamed Bd.named
  have hnm := (name_of_methodNamed Bd.named Bd.method).1
  have X0 : Stand p l e ({ frames := 5, cells := 2, slots := 9, locals := 74 } : Room) s m #[(.ref a1), (.ref a2)] below meth c s₁ [] 0 0 := Stand.of_body Bd
  have e0 : s₁.heap = h0 := by rw [← hh, Bd.state]; rfl
  have N0 := Fr.nil n0
  have K0 : Keep h0 h0 [a1] := Keep.refl h0 _
  have O0 : Old Z Z.heap.size h0 := ⟨rfl, EZ⟩
  show gS p e below (own_Fin s (own_is3_Q Z a1 a2 cs c0 c1 c2 ka h0 n0) ({ frames := 5, cells := 2, slots := 9, locals := 74 } : Room).cells ({ frames := 5, cells := 2, slots := 9, locals := 74 } : Room).slots) _
  refine sT (fun t k => castTop (own_is3_ef m a1 a2) k) ?_
  show gM s₁ 0 #[rv a1, rv a2] []
  refine sT (fun t k => XS.aloadN X0.here hx rfl (hb hby d11_0) rfl rfl k) ?_
  show gM s₁ 1 #[rv a1, rv a2] [(.ref a1)]
  refine sT (fun t k => XS.aloadN X0.here hx rfl (hb hby d11_1) rfl rfl k) ?_
  show gM s₁ 2 #[rv a1, rv a2] [(.ref a2), (.ref a1)]
  refine sT (fun t k => XS.iconst X0.here hx rfl (hb hby d11_2) k) ?_
  show gM s₁ 3 #[rv a1, rv a2] [(.int 0), (.ref a2), (.ref a1)]
  refine sT (fun t k => XS.aloadN X0.here hx rfl (hb hby d11_3) rfl rfl k) ?_
  show gM s₁ 4 #[rv a1, rv a2] [(.ref a2), (.int 0), (.ref a2), (.ref a1)]
  refine sT (fun t k => own_len X0 hx hZ e0 V_a2 (g := (mkF m 4 #[rv a1, rv a2] [(.ref a2), (.int 0), (.ref a2), (.ref a1)])) rfl rfl (hb hby d11_4) _ k) ?_
  show gM s₁ 5 #[rv a1, rv a2] [(.int 3), (.int 0), (.ref a2), (.ref a1)]
  refine sT (fun t k => XS.aconstNull X0.here hx rfl (hb hby d11_5) k) ?_
  show gM s₁ 6 #[rv a1, rv a2] [.null, (.int 3), (.int 0), (.ref a2), (.ref a1)]
  obtain ⟨_, _, ⟨T611, L611, k611, n611⟩, -, X611, ⟨Lc611, hQ611, l611, y611, z611⟩, st611⟩ := X0.specialBack hx (y := mN10) rfl hown (mvT hZ w19) (mvT hZ w20) (mvT hZ w22) (by decide) (backOf (W := 0) (own_iv3 l Z a0 hw [] a1 a2 (cs) (c0) (c1) (c2) (ka) h0 n0 Z0 E_a1 g_a1 F_value_a1 F_coder_a1 S__assertionsDisabled S_HI_BYTE_SHIFT S_LO_BYTE_SHIFT Zn O0.2 S_COMPACT_STRINGS hcs V_a2 ne_a1_a2 hN0 hN1 hN2) hZ w22 w14 (by decide) (by decide)) (g := (mkF m 6 #[rv a1, rv a2] [.null, (.int 3), (.int 0), (.ref a2), (.ref a1)])) rfl (by rw [hml]; rfl) (Steps.refl _) (a := a1) (argsL := [(.ref a2), (.int 0), (.int 3), .null]) (rest := []) (lenOf own_pd8 rfl) rfl (by show 2 * 0 + _ ≤ _; exact Nat.le_of_eq rfl) (hb hby d11_6) (fun _ hWq => ⟨rfl, e0, (by decide : 0 + 2 ≤ _), (by decide : 0 + 9 ≤ _)⟩)
  dsimp only [Pt.U, Pt.locs, Pt.cells, Pt.slots] at X611 l611 y611 z611 st611 hQ611
  subst y611 z611
  obtain ⟨cd_611, bv_611, kb_611, zl_611, ys_611, rfl, N611q, K611c, f611_0, f611_1, f611_2, f611_3, f611_4⟩ := hQ611
  have N611 : Fr n0 L611 := by rw [l611]; exact Fr.app N0 N611q
  refine own_jump st611 ?_
  have K612 : Keep h0 T611.heap [a1] := K0.trans K611c (allS (Or.inl (List.mem_of_getElem? (i := 0) rfl)) all0)
  show gM T611 9 #[rv a1, rv a2] []
  refine own_ret0 X611 hx hlk Bd.returns (hb hby d11_9) ?_ (by decide) (by decide)
  show own_is3_Q Z a1 a2 cs c0 c1 c2 ka h0 n0 _ T611.heap _
  exact ⟨cd_611, bv_611, kb_611, zl_611, ys_611, rfl, N611, K612, f611_0, f611_1, f611_2, f611_3, f611_4⟩
theorem d12_59 : decode method_4_code 59 = .ok (.iload_n 0, 1) := by decide +kernel
theorem d12_60 : decode method_4_code 60 = .ok (.iconst 3, 1) := by decide +kernel
theorem d12_61 : decode method_4_code 61 = .ok (.if_icmp .ne 26, 3) := by decide +kernel
theorem d12_64 : decode method_4_code 64 = .ok (.new 13, 3) := by decide +kernel
theorem d12_67 : decode method_4_code 67 = .ok (.dup, 1) := by decide +kernel
theorem d12_68 : decode method_4_code 68 = .ok (.iconst 3, 1) := by decide +kernel
theorem d12_69 : decode method_4_code 69 = .ok (.newarray .char, 2) := by decide +kernel
theorem d12_71 : decode method_4_code 71 = .ok (.dup, 1) := by decide +kernel
theorem d12_72 : decode method_4_code 72 = .ok (.iconst 0, 1) := by decide +kernel
theorem d12_73 : decode method_4_code 73 = .ok (.iload_n 1, 1) := by decide +kernel
theorem d12_74 : decode method_4_code 74 = .ok (.castore, 1) := by decide +kernel
theorem d12_75 : decode method_4_code 75 = .ok (.dup, 1) := by decide +kernel
theorem d12_76 : decode method_4_code 76 = .ok (.iconst 1, 1) := by decide +kernel
theorem d12_77 : decode method_4_code 77 = .ok (.iload_n 2, 1) := by decide +kernel
theorem d12_78 : decode method_4_code 78 = .ok (.castore, 1) := by decide +kernel
theorem d12_79 : decode method_4_code 79 = .ok (.dup, 1) := by decide +kernel
theorem d12_80 : decode method_4_code 80 = .ok (.iconst 2, 1) := by decide +kernel
theorem d12_81 : decode method_4_code 81 = .ok (.iload_n 3, 1) := by decide +kernel
theorem d12_82 : decode method_4_code 82 = .ok (.castore, 1) := by decide +kernel
theorem d12_83 : decode method_4_code 83 = .ok (.invokespecial 15, 3) := by decide +kernel
theorem d12_86 : decode method_4_code 86 = .ok (.areturn, 1) := by decide +kernel
theorem own_st3_ef (m : MethodId) (c0 : Int32) (c1 : Int32) (c2 : Int32) (c3 : Int32) (c4 : Int32) : entryFrame m #[(.int 3), (.int c0), (.int c1), (.int c2), (.int c3), (.int c4)] 6 = mkF m 0 #[iv 3, iv c0, iv c1, iv c2, iv c3, iv c4] [] := by first | (simp [entryFrame, mkF, argsToLocals, Value.category]; done) | rfl
def own_st3_Q (Z : State) (c0 : Int32) (c1 : Int32) (c2 : Int32) (c3 : Int32) (c4 : Int32) (cs : Int32) (h0 : Heap) (n0 : Nat) (v : Option Value) (h : Heap) (L : List Loc) : Prop := ∃ x : Addr, ∃ cd : Int32, ∃ bv : Addr, ∃ kb : ClassId, ∃ zl : Int32, ∃ ys : List Int32, v = some (.ref x) ∧ Fr n0 L ∧ Keep h0 h [] ∧ Exa Z h x "java/lang/String" ∧ Fld Z h x "java/lang/String" "coder" "B" (.int cd) ∧ Fld Z h x "java/lang/String" "value" "[B" (.ref bv) ∧ Arv Z h bv kb .byte zl (ys.map Value.int) (Value.int 0) ∧ ((cd = (0 : Int32) ∧ zl = (3 : Int32) ∧ ys = ([(c0.toInt8.toInt32), (c1.toInt8.toInt32), (c2.toInt8.toInt32)] : List Int32) ∧ ¬ (255 : Int32) < c0 ∧ ¬ (255 : Int32) < c1 ∧ ¬ (255 : Int32) < c2) ∨ (cd = (1 : Int32) ∧ ((255 : Int32) < c0 ∨ (255 : Int32) < c1 ∨ (255 : Int32) < c2)))
set_option maxRecDepth 65536 in
set_option maxHeartbeats 40000000 in
theorem own_st3 (l : Launch) (Z : State) (a0 : Array Value) (hw : ∀ d ∈ tables_1, d.before a0 Z = true) (ws : List Jvm.Cond) (c0 : Int32) (c1 : Int32) (c2 : Int32) (c3 : Int32) (c4 : Int32) (cs : Int32) (h0 : Heap) (n0 : Nat) (Z0 : n0 ≤ h0.size) (S__assertionsDisabled : Sta Z Z.heap "java/lang/StringUTF16" "$assertionsDisabled" "Z" (.int 1)) (S_HI_BYTE_SHIFT : Sta Z Z.heap "java/lang/StringUTF16" "HI_BYTE_SHIFT" "I" (.int 0)) (S_LO_BYTE_SHIFT : Sta Z Z.heap "java/lang/StringUTF16" "LO_BYTE_SHIFT" "I" (.int 8)) (Zn : Z.heap.size ≤ n0) (EZ : Ext Z.heap h0) (S_COMPACT_STRINGS : Sta Z Z.heap "java/lang/String" "COMPACT_STRINGS" "Z" (.int cs)) (hcs : ¬ cs = (0 : Int32)) (hN0 : nar .char c0 = c0) (hN1 : nar .char c1 = c1) (hN2 : nar .char c2 = c2) :
    MetFree l mN12 (head1 (Jvm.Cond.code mN12 method_4_code 6 (some (.object "java/lang/String")) :: ws) ({ frames := 6, cells := 4, slots := 16, locals := 88 } : Room)) (fun aa U => aa = #[(.int 3), (.int c0), (.int c1), (.int c2), (.int c3), (.int c4)] ∧ Z.Warmed39 U.vm ∧ U.heap = h0) (fun _ _ _ _ _ => True) (fun _ U o U' => ∃ v L, o = .returned v ∧ own_st3_Q Z c0 c1 c2 c3 c4 cs h0 n0 v U'.heap L ∧ FrameEnd U o U' L ({ frames := 6, cells := 4, slots := 16, locals := 88 } : Room).cells ({ frames := 6, cells := 4, slots := 16, locals := 88 } : Room).slots) := by
  refine MetFree.of_bodySF (plainFor_of_name own_pn0) hisR ?_
  have w12 := wO hw 12 rfl
  have w13 := wO hw 13 rfl
  have w14 := wO hw 14 rfl
  have w15 := wO hw 15 rfl
  have w16 := wO hw 16 rfl
  have w17 := wO hw 17 rfl
  have w18 := wO hw 18 rfl
  have w28 := wO hw 28 rfl
  have w29 := wO hw 29 rfl
  intro p e s m args below meth c s₁ Bd hml0 hP hK
  obtain ⟨rfl, hZ, hh⟩ := hP
  have hx := Bd.exec
  have hby := Bd.bytes
  have hlk := Bd.notSynchronized
  have hml : c.maxLocals = 6 := hml0
  have hown : s.vm.findClass "com/example/noctule/noctule/server/TokenScopeTakesPinLaw" = some m.cls := findClass_of_methodNamed Bd.named
  have hnm := (name_of_methodNamed Bd.named Bd.method).1
  have X0 : Stand p l e ({ frames := 6, cells := 4, slots := 16, locals := 88 } : Room) s m #[(.int 3), (.int c0), (.int c1), (.int c2), (.int c3), (.int c4)] below meth c s₁ [] 0 0 := Stand.of_body Bd
  have e0 : s₁.heap = h0 := by rw [← hh, Bd.state]; rfl
  have N0 := Fr.nil n0
  have K0 : Keep h0 h0 [] := Keep.refl h0 _
  have O0 : Old Z Z.heap.size h0 := ⟨rfl, EZ⟩
  show gS p e below (own_Fin s (own_st3_Q Z c0 c1 c2 c3 c4 cs h0 n0) ({ frames := 6, cells := 4, slots := 16, locals := 88 } : Room).cells ({ frames := 6, cells := 4, slots := 16, locals := 88 } : Room).slots) _
  refine sT (fun t k => castTop (own_st3_ef m c0 c1 c2 c3 c4) k) ?_
  show gM s₁ 0 #[iv 3, iv c0, iv c1, iv c2, iv c3, iv c4] []
  refine sT (fun t k => XS.iloadN X0.here hx rfl (hb hby d12_0) rfl k) ?_
  show gM s₁ 1 #[iv 3, iv c0, iv c1, iv c2, iv c3, iv c4] [(.int 3)]
  have hc629 : ¬ ((3 : Int32) = (0 : Int32)) := by decide
  refine sT (fun t k => XS.ifYes X0.here hx rfl (pc0 := 1) (pc' := 15) rfl (hb hby d12_1) rfl ((if0 _ _).trans (feq hc629).2) (by decide) (by decide) k) ?_
  show gM s₁ 15 #[iv 3, iv c0, iv c1, iv c2, iv c3, iv c4] []
  refine sT (fun t k => XS.iloadN X0.here hx rfl (hb hby d12_15) rfl k) ?_
  show gM s₁ 16 #[iv 3, iv c0, iv c1, iv c2, iv c3, iv c4] [(.int 3)]
  refine sT (fun t k => XS.iconst X0.here hx rfl (hb hby d12_16) k) ?_
  show gM s₁ 17 #[iv 3, iv c0, iv c1, iv c2, iv c3, iv c4] [(.int 1), (.int 3)]
  have hc630 : ¬ ((3 : Int32) = (1 : Int32)) := by decide
  refine sT (fun t k => XS.icmpYes X0.here hx rfl (pc0 := 17) (pc' := 35) rfl (hb hby d12_17) rfl (feq hc630).2 (by decide) (by decide) k) ?_
  show gM s₁ 35 #[iv 3, iv c0, iv c1, iv c2, iv c3, iv c4] []
  refine sT (fun t k => XS.iloadN X0.here hx rfl (hb hby d12_35) rfl k) ?_
  show gM s₁ 36 #[iv 3, iv c0, iv c1, iv c2, iv c3, iv c4] [(.int 3)]
  refine sT (fun t k => XS.iconst X0.here hx rfl (hb hby d12_36) k) ?_
  show gM s₁ 37 #[iv 3, iv c0, iv c1, iv c2, iv c3, iv c4] [(.int 2), (.int 3)]
  have hc631 : ¬ ((3 : Int32) = (2 : Int32)) := by decide
  refine sT (fun t k => XS.icmpYes X0.here hx rfl (pc0 := 37) (pc' := 59) rfl (hb hby d12_37) rfl (feq hc631).2 (by decide) (by decide) k) ?_
  show gM s₁ 59 #[iv 3, iv c0, iv c1, iv c2, iv c3, iv c4] []
  refine sT (fun t k => XS.iloadN X0.here hx rfl (hb hby d12_59) rfl k) ?_
  show gM s₁ 60 #[iv 3, iv c0, iv c1, iv c2, iv c3, iv c4] [(.int 3)]
  refine sT (fun t k => XS.iconst X0.here hx rfl (hb hby d12_60) k) ?_
  show gM s₁ 61 #[iv 3, iv c0, iv c1, iv c2, iv c3, iv c4] [(.int 3), (.int 3)]
  have hc632 : (3 : Int32) = (3 : Int32) := rfl
  refine sT (fun t k => XS.icmpNo X0.here hx rfl (hb hby d12_61) rfl (teq hc632).2 k) ?_
  show gM s₁ 64 #[iv 3, iv c0, iv c1, iv c2, iv c3, iv c4] []
  obtain ⟨T633, h633, X633, e633, E633, A633, D633, -, st633⟩ := newO X0 hx hZ hown w12 w13 w14 e0 (g := (mkF m 64 #[iv 3, iv c0, iv c1, iv c2, iv c3, iv c4] [])) rfl (hb hby d12_64) (by decide) (by decide)
  obtain ⟨b633, g633⟩ : ∃ z, z = h0.size := ⟨_, rfl⟩
  rw [← g633] at A633 D633 st633
  have g_b633 : n0 ≤ b633 := Nat.le_trans Z0 (Nat.le_of_eq g633.symm)
  have sz_b633 : h0.size ≤ b633 := Nat.le_trans K0.1 (Nat.le_of_eq g633.symm)
  have K634 : Keep h0 h633 [] := K0.ext E633
  have F_value_b633 : Fld Z h633 b633 "java/lang/String" "value" "[B" .null := D633 (Or.inr w28) (ty := (.array .byte)) (by decide)
  have F_coder_b633 : Fld Z h633 b633 "java/lang/String" "coder" "B" (.int 0) := D633 (Or.inr w29) (ty := .byte) (by decide)
  refine sT st633 ?_
  show gM T633 67 #[iv 3, iv c0, iv c1, iv c2, iv c3, iv c4] [(.ref b633)]
  refine sT (fun t k => XS.dup X633.here hx rfl (hb hby d12_67) rfl rfl k) ?_
  show gM T633 68 #[iv 3, iv c0, iv c1, iv c2, iv c3, iv c4] [(.ref b633), (.ref b633)]
  refine sT (fun t k => XS.iconst X633.here hx rfl (hb hby d12_68) k) ?_
  show gM T633 69 #[iv 3, iv c0, iv c1, iv c2, iv c3, iv c4] [(.int 3), (.ref b633), (.ref b633)]
  obtain ⟨T635, h635, k635, X635, e635, E635, A635, st635⟩ := newP (aty := .char) X633 hx hZ w15 e633 (g := (mkF m 69 #[iv 3, iv c0, iv c1, iv c2, iv c3, iv c4] [(.int 3), (.ref b633), (.ref b633)])) rfl (hb hby d12_69) rfl (by decide) (cap := 3) (by decide) (by decide) (by decide) (by decide)
  obtain ⟨b635, g635⟩ : ∃ z, z = h633.size := ⟨_, rfl⟩
  rw [← g635] at A635 st635
  have ne_b633_b635 : b633 ≠ b635 := Nat.ne_of_lt (Nat.lt_of_lt_of_le A633.lt (Nat.le_of_eq g635.symm))
  have g_b635 : n0 ≤ b635 := Nat.le_trans (Nat.le_trans Z0 E633.1) (Nat.le_of_eq g635.symm)
  have sz_b635 : h0.size ≤ b635 := Nat.le_trans K634.1 (Nat.le_of_eq g635.symm)
  have V635 : Arv Z h635 b635 k635 .char (3 : Int32) (([0, 0, 0] : List Int32).map Value.int) (Value.int 0) := own_newC A635 (by decide) 3
  have K636 : Keep h0 h635 [] := K634.ext E635
  refine sT st635 ?_
  show gM T635 71 #[iv 3, iv c0, iv c1, iv c2, iv c3, iv c4] [(.ref b635), (.ref b633), (.ref b633)]
  refine sT (fun t k => XS.dup X635.here hx rfl (hb hby d12_71) rfl rfl k) ?_
  show gM T635 72 #[iv 3, iv c0, iv c1, iv c2, iv c3, iv c4] [(.ref b635), (.ref b635), (.ref b633), (.ref b633)]
  refine sT (fun t k => XS.iconst X635.here hx rfl (hb hby d12_72) k) ?_
  show gM T635 73 #[iv 3, iv c0, iv c1, iv c2, iv c3, iv c4] [(.int 0), (.ref b635), (.ref b635), (.ref b633), (.ref b633)]
  refine sT (fun t k => XS.iloadN X635.here hx rfl (hb hby d12_73) rfl k) ?_
  show gM T635 74 #[iv 3, iv c0, iv c1, iv c2, iv c3, iv c4] [(.int c0), (.int 0), (.ref b635), (.ref b635), (.ref b633), (.ref b633)]
  obtain ⟨T637, h637, X637, e637, W637, V637, st637⟩ := own_cst X635 hx hZ e635 V635 (j := (0 : Int32)) hN0 ⟨by decide, by decide⟩ (0) rfl (Nat.le_of_ble_eq_true rfl) (g := (mkF m 74 #[iv 3, iv c0, iv c1, iv c2, iv c3, iv c4] [(.int c0), (.int 0), (.ref b635), (.ref b635), (.ref b633), (.ref b633)])) rfl rfl (hb hby d12_74)
  have V637 : Arv Z h637 b635 k635 .char (3 : Int32) (([c0, 0, 0] : List Int32).map Value.int) (Value.int 0) := V637
  have N637 := Fr.snoc X637 N0 g_b635
  have K638 : Keep h0 h637 [] := K636.wr W637 (Or.inr sz_b635)
  refine sT st637 ?_
  show gM T637 75 #[iv 3, iv c0, iv c1, iv c2, iv c3, iv c4] [(.ref b635), (.ref b633), (.ref b633)]
  refine sT (fun t k => XS.dup X637.here hx rfl (hb hby d12_75) rfl rfl k) ?_
  show gM T637 76 #[iv 3, iv c0, iv c1, iv c2, iv c3, iv c4] [(.ref b635), (.ref b635), (.ref b633), (.ref b633)]
  refine sT (fun t k => XS.iconst X637.here hx rfl (hb hby d12_76) k) ?_
  show gM T637 77 #[iv 3, iv c0, iv c1, iv c2, iv c3, iv c4] [(.int 1), (.ref b635), (.ref b635), (.ref b633), (.ref b633)]
  refine sT (fun t k => XS.iloadN X637.here hx rfl (hb hby d12_77) rfl k) ?_
  show gM T637 78 #[iv 3, iv c0, iv c1, iv c2, iv c3, iv c4] [(.int c1), (.int 1), (.ref b635), (.ref b635), (.ref b633), (.ref b633)]
  obtain ⟨T639, h639, X639, e639, W639, V639, st639⟩ := own_cst X637 hx hZ e637 V637 (j := (1 : Int32)) hN1 ⟨by decide, by decide⟩ (1) rfl (Nat.le_of_ble_eq_true rfl) (g := (mkF m 78 #[iv 3, iv c0, iv c1, iv c2, iv c3, iv c4] [(.int c1), (.int 1), (.ref b635), (.ref b635), (.ref b633), (.ref b633)])) rfl rfl (hb hby d12_78)
  have V639 : Arv Z h639 b635 k635 .char (3 : Int32) (([c0, c1, 0] : List Int32).map Value.int) (Value.int 0) := V639
  have N639 := Fr.snoc X639 N637 g_b635
  have K640 : Keep h0 h639 [] := K638.wr W639 (Or.inr sz_b635)
  refine sT st639 ?_
  show gM T639 79 #[iv 3, iv c0, iv c1, iv c2, iv c3, iv c4] [(.ref b635), (.ref b633), (.ref b633)]
  refine sT (fun t k => XS.dup X639.here hx rfl (hb hby d12_79) rfl rfl k) ?_
  show gM T639 80 #[iv 3, iv c0, iv c1, iv c2, iv c3, iv c4] [(.ref b635), (.ref b635), (.ref b633), (.ref b633)]
  refine sT (fun t k => XS.iconst X639.here hx rfl (hb hby d12_80) k) ?_
  show gM T639 81 #[iv 3, iv c0, iv c1, iv c2, iv c3, iv c4] [(.int 2), (.ref b635), (.ref b635), (.ref b633), (.ref b633)]
  refine sT (fun t k => XS.iloadN X639.here hx rfl (hb hby d12_81) rfl k) ?_
  show gM T639 82 #[iv 3, iv c0, iv c1, iv c2, iv c3, iv c4] [(.int c2), (.int 2), (.ref b635), (.ref b635), (.ref b633), (.ref b633)]
  obtain ⟨T641, h641, X641, e641, W641, V641, st641⟩ := own_cst X639 hx hZ e639 V639 (j := (2 : Int32)) hN2 ⟨by decide, by decide⟩ (2) rfl (Nat.le_of_ble_eq_true rfl) (g := (mkF m 82 #[iv 3, iv c0, iv c1, iv c2, iv c3, iv c4] [(.int c2), (.int 2), (.ref b635), (.ref b635), (.ref b633), (.ref b633)])) rfl rfl (hb hby d12_82)
  have V641 : Arv Z h641 b635 k635 .char (3 : Int32) (([c0, c1, c2] : List Int32).map Value.int) (Value.int 0) := V641
  have N641 := Fr.snoc X641 N639 g_b635
  have K642 : Keep h0 h641 [] := K640.wr W641 (Or.inr sz_b635)
  refine sT st641 ?_
  show gM T641 83 #[iv 3, iv c0, iv c1, iv c2, iv c3, iv c4] [(.ref b635), (.ref b633), (.ref b633)]
  obtain ⟨_, _, ⟨T643, L643, k643, n643⟩, -, X643, ⟨Lc643, hQ643, l643, y643, z643⟩, st643⟩ := X641.specialBack hx (y := mN11) rfl hown (mvT hZ w16) (mvT hZ w17) (mvT hZ w18) (by decide) (backOf (W := 1) (own_is3 l Z a0 hw [] b633 b635 (cs) (c0) (c1) (c2) (k635) h641 n0 (Nat.le_trans (Nat.le_trans (Nat.le_trans (Nat.le_trans (Nat.le_trans Z0 E633.1) E635.1) (Keep.of_wr W637).1) (Keep.of_wr W639).1) (Keep.of_wr W641).1) ((((A633.ext E635).wr W637).wr W639).wr W641) g_b633 ((((F_value_b633.ext E635).other W637 (Or.inl ne_b633_b635)).other W639 (Or.inl ne_b633_b635)).other W641 (Or.inl ne_b633_b635)) ((((F_coder_b633.ext E635).other W637 (Or.inl ne_b633_b635)).other W639 (Or.inl ne_b633_b635)).other W641 (Or.inl ne_b633_b635)) S__assertionsDisabled S_HI_BYTE_SHIFT S_LO_BYTE_SHIFT Zn (((((O0.ext E633).ext E635).wr W637 (Nat.le_trans Zn g_b635)).wr W639 (Nat.le_trans Zn g_b635)).wr W641 (Nat.le_trans Zn g_b635)).2 S_COMPACT_STRINGS hcs V641 ne_b633_b635 hN0 hN1 hN2) hZ w18 w14 (by decide) (by decide)) (g := (mkF m 83 #[iv 3, iv c0, iv c1, iv c2, iv c3, iv c4] [(.ref b635), (.ref b633), (.ref b633)])) rfl (by rw [hml]; rfl) (Steps.refl _) (a := b633) (argsL := [(.ref b635)]) (rest := [(.ref b633)]) (lenOf own_pd9 rfl) rfl (by show 2 * 0 + _ ≤ _; exact Nat.le_of_eq rfl) (hb hby d12_83) (fun _ hWq => ⟨rfl, e641, (by decide : 2 + 2 ≤ _), (by decide : 7 + 9 ≤ _)⟩)
  dsimp only [Pt.U, Pt.locs, Pt.cells, Pt.slots] at X643 l643 y643 z643 st643 hQ643
  subst y643 z643
  obtain ⟨cd_643, bv_643, kb_643, zl_643, ys_643, rfl, N643q, K643c, f643_0, f643_1, f643_2, f643_3, f643_4⟩ := hQ643
  have N643 : Fr n0 L643 := by rw [l643]; exact Fr.app N641 N643q
  refine own_jump st643 ?_
  have K644 : Keep h0 T643.heap [] := K642.trans K643c (allS (Or.inr sz_b633) all0)
  show gM T643 86 #[iv 3, iv c0, iv c1, iv c2, iv c3, iv c4] [(.ref b633)]
  refine own_retV X643 hx hlk Bd.returns (w := (.ref b633)) rfl (Or.inr (Or.inr (Or.inr (Or.inr ⟨rfl, rfl, rfl⟩)))) (hb hby d12_86) ?_ (by decide) (by decide)
  show own_st3_Q Z c0 c1 c2 c3 c4 cs h0 n0 _ T643.heap _
  exact ⟨b633, cd_643, bv_643, kb_643, zl_643, ys_643, rfl, N643, K644, f643_0, f643_1, f643_2, f643_3, f643_4⟩
theorem own_iv4_ef (m : MethodId) (a1 : Addr) (a2 : Addr) : entryFrame m #[(.ref a1), (.ref a2), (.int 0), (.int 4), .null] 6 = mkF m 0 #[rv a1, rv a2, iv 0, iv 4, .val .null, uN] [] := by first | (simp [entryFrame, mkF, argsToLocals, Value.category]; done) | rfl
def own_iv4_Q (Z : State) (a1 : Addr) (a2 : Addr) (cs : Int32) (c0 : Int32) (c1 : Int32) (c2 : Int32) (c3 : Int32) (ka : ClassId) (h0 : Heap) (n0 : Nat) (v : Option Value) (h : Heap) (L : List Loc) : Prop := ∃ cd : Int32, ∃ bv : Addr, ∃ kb : ClassId, ∃ zl : Int32, ∃ ys : List Int32, v = none ∧ Fr n0 L ∧ Keep h0 h [a1] ∧ Exa Z h a1 "java/lang/String" ∧ Fld Z h a1 "java/lang/String" "coder" "B" (.int cd) ∧ Fld Z h a1 "java/lang/String" "value" "[B" (.ref bv) ∧ Arv Z h bv kb .byte zl (ys.map Value.int) (Value.int 0) ∧ ((cd = (0 : Int32) ∧ zl = (4 : Int32) ∧ ys = ([(c0.toInt8.toInt32), (c1.toInt8.toInt32), (c2.toInt8.toInt32), (c3.toInt8.toInt32)] : List Int32) ∧ ¬ (255 : Int32) < c0 ∧ ¬ (255 : Int32) < c1 ∧ ¬ (255 : Int32) < c2 ∧ ¬ (255 : Int32) < c3) ∨ (cd = (1 : Int32) ∧ ((255 : Int32) < c0 ∨ (255 : Int32) < c1 ∨ (255 : Int32) < c2 ∨ (255 : Int32) < c3)))
set_option maxRecDepth 65536 in
set_option maxHeartbeats 40000000 in
theorem own_iv4 (l : Launch) (Z : State) (a0 : Array Value) (hw : ∀ d ∈ tables_1, d.before a0 Z = true) (ws : List Jvm.Cond) (a1 : Addr) (a2 : Addr) (cs : Int32) (c0 : Int32) (c1 : Int32) (c2 : Int32) (c3 : Int32) (ka : ClassId) (h0 : Heap) (n0 : Nat) (Z0 : n0 ≤ h0.size) (E_a1 : Exa Z h0 a1 "java/lang/String") (g_a1 : n0 ≤ a1) (F_value_a1 : Fld Z h0 a1 "java/lang/String" "value" "[B" .null) (F_coder_a1 : Fld Z h0 a1 "java/lang/String" "coder" "B" (.int 0)) (S__assertionsDisabled : Sta Z Z.heap "java/lang/StringUTF16" "$assertionsDisabled" "Z" (.int 1)) (S_HI_BYTE_SHIFT : Sta Z Z.heap "java/lang/StringUTF16" "HI_BYTE_SHIFT" "I" (.int 0)) (S_LO_BYTE_SHIFT : Sta Z Z.heap "java/lang/StringUTF16" "LO_BYTE_SHIFT" "I" (.int 8)) (Zn : Z.heap.size ≤ n0) (EZ : Ext Z.heap h0) (S_COMPACT_STRINGS : Sta Z Z.heap "java/lang/String" "COMPACT_STRINGS" "Z" (.int cs)) (hcs : ¬ cs = (0 : Int32)) (V_a2 : Arv Z h0 a2 ka .char (4 : Int32) (([c0, c1, c2, c3] : List Int32).map Value.int) (Value.int 0)) (ne_a1_a2 : a1 ≠ a2) (hN0 : nar .char c0 = c0) (hN1 : nar .char c1 = c1) (hN2 : nar .char c2 = c2) (hN3 : nar .char c3 = c3) :
    MetFree l mN10 (head1 (Jvm.Cond.code mN10 jdk_42_method_149_code 6 none :: ws) ({ frames := 4, cells := 2, slots := 12, locals := 57 } : Room)) (fun aa U => aa = #[(.ref a1), (.ref a2), (.int 0), (.int 4), .null] ∧ Z.Warmed39 U.vm ∧ U.heap = h0) (fun _ _ _ _ _ => True) (fun _ U o U' => ∃ v L, o = .returned v ∧ own_iv4_Q Z a1 a2 cs c0 c1 c2 c3 ka h0 n0 v U'.heap L ∧ FrameEnd U o U' L ({ frames := 4, cells := 2, slots := 12, locals := 57 } : Room).cells ({ frames := 4, cells := 2, slots := 12, locals := 57 } : Room).slots) := by
  refine MetFree.of_bodySF (plainFor_of_name own_pn2) hisR ?_
  have w13 := wO hw 13 rfl
  have w23 := wO hw 23 rfl
  have w24 := wO hw 24 rfl
  have w25 := wO hw 25 rfl
  have w28 := wO hw 28 rfl
  have w29 := wO hw 29 rfl
  have w32 := wO hw 32 rfl
  have w33 := wO hw 33 rfl
  have w51 := wO hw 51 rfl
  have w57 := wO hw 57 rfl
  have w58 := wO hw 58 rfl
  have w59 := wO hw 59 rfl
  have w60 := wO hw 60 rfl
  have w64 := wO hw 64 rfl
  have w65 := wO hw 65 rfl
  have w66 := wO hw 66 rfl
  intro p e s m args below meth c s₁ Bd hml0 hP hK
  obtain ⟨rfl, hZ, hh⟩ := hP
  have hx := Bd.exec
  have hby := Bd.bytes
  have hlk := Bd.notSynchronized
  have hml : c.maxLocals = 6 := hml0
  have hown : s.vm.findClass "java/lang/String" = some m.cls := findClass_of_methodNamed Bd.named
  have hnm := (name_of_methodNamed Bd.named Bd.method).1
  have X0 : Stand p l e ({ frames := 4, cells := 2, slots := 12, locals := 57 } : Room) s m #[(.ref a1), (.ref a2), (.int 0), (.int 4), .null] below meth c s₁ [] 0 0 := Stand.of_body Bd
  have e0 : s₁.heap = h0 := by rw [← hh, Bd.state]; rfl
  have N0 := Fr.nil n0
  have K0 : Keep h0 h0 [a1] := Keep.refl h0 _
  have O0 : Old Z Z.heap.size h0 := ⟨rfl, EZ⟩
  show gS p e below (own_Fin s (own_iv4_Q Z a1 a2 cs c0 c1 c2 c3 ka h0 n0) ({ frames := 4, cells := 2, slots := 12, locals := 57 } : Room).cells ({ frames := 4, cells := 2, slots := 12, locals := 57 } : Room).slots) _
  refine sT (fun t k => castTop (own_iv4_ef m a1 a2) k) ?_
  show gM s₁ 0 #[rv a1, rv a2, iv 0, iv 4, .val .null, uN] []
  refine sT (fun t k => XS.aloadN X0.here hx rfl (hb hby d10_0) rfl rfl k) ?_
  show gM s₁ 1 #[rv a1, rv a2, iv 0, iv 4, .val .null, uN] [(.ref a1)]
  obtain ⟨T661, X661, e661, st661⟩ := initO X0 hx hZ hown w23 w24 w25 e0 (g := (mkF m 1 #[rv a1, rv a2, iv 0, iv 4, .val .null, uN] [(.ref a1)])) rfl (by rw [hml]; rfl) rfl (hb hby d10_1) (by decide) (W := 0) (by show 2 * 0 + _ ≤ _; exact Nat.le_of_eq rfl) (by decide)
  refine sT st661 ?_
  show gM T661 4 #[rv a1, rv a2, iv 0, iv 4, .val .null, uN] []
  refine sT (fun t k => XS.iloadN X661.here hx rfl (hb hby d10_4) rfl k) ?_
  show gM T661 5 #[rv a1, rv a2, iv 0, iv 4, .val .null, uN] [(.int 4)]
  have hc662 : ¬ ((4 : Int32) = (0 : Int32)) := by decide
  refine sT (fun t k => XS.ifYes X661.here hx rfl (pc0 := 5) (pc' := 27) rfl (hb hby d10_5) rfl ((if0 _ _).trans (feq hc662).2) (by decide) (by decide) k) ?_
  show gM T661 27 #[rv a1, rv a2, iv 0, iv 4, .val .null, uN] []
  obtain ⟨T663, X663, e663, st663⟩ := getS2 X661 hx hZ hown (host := "") (Or.inl w51) Via.refl e661 (S_COMPACT_STRINGS.ext O0.2) (g := (mkF m 27 #[rv a1, rv a2, iv 0, iv 4, .val .null, uN] [])) rfl (hb hby d10_27)
  refine sT st663 ?_
  show gM T663 30 #[rv a1, rv a2, iv 0, iv 4, .val .null, uN] [(.int cs)]
  have hc664 : ¬ (cs = (0 : Int32)) := hcs
  refine sT (fun t k => XS.ifNo X663.here hx rfl (hb hby d10_30) rfl ((if0 _ _).trans (feq hc664).1) k) ?_
  show gM T663 33 #[rv a1, rv a2, iv 0, iv 4, .val .null, uN] []
  refine sT (fun t k => XS.aloadN X663.here hx rfl (hb hby d10_33) rfl rfl k) ?_
  show gM T663 34 #[rv a1, rv a2, iv 0, iv 4, .val .null, uN] [(.ref a2)]
  refine sT (fun t k => XS.iloadN X663.here hx rfl (hb hby d10_34) rfl k) ?_
  show gM T663 35 #[rv a1, rv a2, iv 0, iv 4, .val .null, uN] [(.int 0), (.ref a2)]
  refine sT (fun t k => XS.iloadN X663.here hx rfl (hb hby d10_35) rfl k) ?_
  show gM T663 36 #[rv a1, rv a2, iv 0, iv 4, .val .null, uN] [(.int 4), (.int 0), (.ref a2)]
  obtain ⟨_, _, ⟨T665, L665, k665, n665⟩, -, X665, ⟨Lc665, hQ665, l665, y665, z665⟩, st665⟩ := Jvm.LawKit.callS X663 hx (y := mN8) hown (mvT hZ w57) (mvT hZ w58) (mvT hZ w59) (mvT hZ w60) (by decide) (backOf (W := 0) (own_co4 l Z a0 hw [] a2 (c0) (c1) (c2) (c3) (ka) h0 n0 Z0 S__assertionsDisabled S_HI_BYTE_SHIFT S_LO_BYTE_SHIFT Zn O0.2 V_a2 hN0 hN1 hN2 hN3) hZ w60 w59 (by decide) (by decide)) (g := (mkF m 36 #[rv a1, rv a2, iv 0, iv 4, .val .null, uN] [(.int 4), (.int 0), (.ref a2)])) rfl (by rw [hml]; rfl) (argsL := [(.ref a2), (.int 0), (.int 4)]) (rest := []) (lenOf own_pd5 rfl) rfl (by show 2 * 0 + _ ≤ _; exact Nat.le_of_eq rfl) (hb hby d10_36) (fun _ hWq => ⟨rfl, e663, (by decide : 0 + 2 ≤ _), (by decide : 0 + 12 ≤ _)⟩)
  dsimp only [Pt.U, Pt.locs, Pt.cells, Pt.slots] at X665 l665 y665 z665 st665 hQ665
  subst y665 z665
  obtain ⟨bv_665, kb_665, zl_665, ys_665, rfl, N665q, K665c, f665_0, f665_1, f665_2⟩ := hQ665
  have N665 : Fr n0 L665 := by rw [l665]; exact Fr.app N0 N665q
  refine sT st665 ?_
  have K666 : Keep h0 T665.heap [a1] := K0.trans K665c all0
  have sz_bv_665 : h0.size ≤ bv_665 := Nat.le_trans K0.1 f665_0
  have g_bv_665 : n0 ≤ bv_665 := Nat.le_trans Z0 sz_bv_665
  have ne_a1_bv_665 : a1 ≠ bv_665 := Nat.ne_of_lt (Nat.lt_of_lt_of_le E_a1.lt f665_0)
  have ne_a2_bv_665 : a2 ≠ bv_665 := Nat.ne_of_lt (Nat.lt_of_lt_of_le V_a2.lt f665_0)
  show gM T665 39 #[rv a1, rv a2, iv 0, iv 4, .val .null, uN] [(.ref bv_665)]
  rcases f665_2 with ⟨rfl, rfl, hle⟩ | ⟨rfl, hgt⟩
  · --
   show gM T665 39 #[rv a1, rv a2, iv 0, iv 4, .val .null, uN] [(.ref bv_665)]
   refine sT (fun t k => XS.astore X665.here hx rfl (hb hby d10_39) rfl rfl (l' := #[rv a1, rv a2, iv 0, iv 4, .val .null, rv bv_665]) rfl k) ?_
   show gM T665 41 #[rv a1, rv a2, iv 0, iv 4, .val .null, rv bv_665] []
   refine sT (fun t k => XS.aloadN X665.here hx rfl (hb hby d10_41) rfl rfl k) ?_
   show gM T665 42 #[rv a1, rv a2, iv 0, iv 4, .val .null, rv bv_665] [(.ref a1)]
   refine sT (fun t k => XS.aload X665.here hx rfl (hb hby d10_42) rfl rfl k) ?_
   show gM T665 44 #[rv a1, rv a2, iv 0, iv 4, .val .null, rv bv_665] [(.ref bv_665), (.ref a1)]
   refine sT (fun t k => XS.iloadN X665.here hx rfl (hb hby d10_44) rfl k) ?_
   show gM T665 45 #[rv a1, rv a2, iv 0, iv 4, .val .null, rv bv_665] [(.int 4), (.ref bv_665), (.ref a1)]
   obtain ⟨_, _, ⟨T667, L667, k667, n667⟩, -, X667, ⟨Lc667, hQ667, l667, y667, z667⟩, st667⟩ := Jvm.LawKit.callS X665 hx (y := mN9) hown (mvT hZ w64) (mvT hZ w65) (mvT hZ w59) (mvT hZ w66) (by decide) (backOf (W := 1) (own_cf l Z a0 hw [] bv_665 (4 : Int32) ((4 : Int32)) (([(c0.toInt8.toInt32), (c1.toInt8.toInt32), (c2.toInt8.toInt32), (c3.toInt8.toInt32)] : List Int32)) (kb_665) ((0 : Int32)) T665.heap n0 (Nat.le_trans Z0 K665c.1) f665_1 (by decide)) hZ w66 w59 (by decide) (by decide)) (g := (mkF m 45 #[rv a1, rv a2, iv 0, iv 4, .val .null, rv bv_665] [(.int 4), (.ref bv_665), (.ref a1)])) rfl (by rw [hml]; rfl) (argsL := [(.ref bv_665), (.int 4)]) (rest := [(.ref a1)]) (lenOf own_pd7 rfl) rfl (by show 2 * 0 + _ ≤ _; exact Nat.le_of_eq rfl) (hb hby d10_45) (fun _ hWq => ⟨rfl, rfl, (by decide : 2 + 0 ≤ _), (by decide : 12 + 0 ≤ _)⟩)
   dsimp only [Pt.U, Pt.locs, Pt.cells, Pt.slots] at X667 l667 y667 z667 st667 hQ667
   subst y667 z667
   obtain ⟨rfl, N667q, eh667⟩ := hQ667
   have N667 : Fr n0 L667 := by rw [l667]; exact Fr.app N665 N667q
   refine sT st667 ?_
   show gM T667 48 #[rv a1, rv a2, iv 0, iv 4, .val .null, rv bv_665] [(.int 0), (.ref a1)]
   obtain ⟨T668, h668, X668, e668, W668, st668⟩ := putF X667 hx hZ hown (host := "") (Or.inl w33) Via.refl eh667 (F_coder_a1.keep K665c nin0) (E_a1.keep K665c) (Or.inr ⟨w29, rfl, hnm⟩) w13 (ty := .byte) (by decide) rfl rfl (g := (mkF m 48 #[rv a1, rv a2, iv 0, iv 4, .val .null, rv bv_665] [(.int 0), (.ref a1)])) rfl rfl (hb hby d10_48)
   have Fw668 := (F_coder_a1.keep K665c nin0).same W668
   have N668 := Fr.snoc X668 N667 g_a1
   have K669 : Keep h0 h668 [a1] := K666.wr W668 (Or.inl (List.mem_of_getElem? (i := 0) rfl))
   refine sT st668 ?_
   show gM T668 51 #[rv a1, rv a2, iv 0, iv 4, .val .null, rv bv_665] []
   refine sT (fun t k => XS.aloadN X668.here hx rfl (hb hby d10_51) rfl rfl k) ?_
   show gM T668 52 #[rv a1, rv a2, iv 0, iv 4, .val .null, rv bv_665] [(.ref a1)]
   refine sT (fun t k => XS.aload X668.here hx rfl (hb hby d10_52) rfl rfl k) ?_
   show gM T668 54 #[rv a1, rv a2, iv 0, iv 4, .val .null, rv bv_665] [(.ref bv_665), (.ref a1)]
   obtain ⟨T670, h670, X670, e670, W670, st670⟩ := putF X668 hx hZ hown (host := "") (Or.inl w32) Via.refl e668 ((F_value_a1.keep K665c nin0).other W668 (Or.inr (slot_ne (Or.inr w28) (Or.inr w29) (by decide) (t := (.array .byte)) (t' := .byte) (by decide) (by decide)))) ((E_a1.keep K665c).wr W668) (Or.inr ⟨w28, rfl, hnm⟩) w13 (ty := (.array .byte)) (by decide) rfl rfl (g := (mkF m 54 #[rv a1, rv a2, iv 0, iv 4, .val .null, rv bv_665] [(.ref bv_665), (.ref a1)])) rfl rfl (hb hby d10_54)
   have Fw670 := ((F_value_a1.keep K665c nin0).other W668 (Or.inr (slot_ne (Or.inr w28) (Or.inr w29) (by decide) (t := (.array .byte)) (t' := .byte) (by decide) (by decide)))).same W670
   have N670 := Fr.snoc X670 N668 g_a1
   have K671 : Keep h0 h670 [a1] := K669.wr W670 (Or.inl (List.mem_of_getElem? (i := 0) rfl))
   refine sT st670 ?_
   show gM T670 57 #[rv a1, rv a2, iv 0, iv 4, .val .null, rv bv_665] []
   refine own_ret0 X670 hx hlk Bd.returns (hb hby d10_57) ?_ (by decide) (by decide)
   show own_iv4_Q Z a1 a2 cs c0 c1 c2 c3 ka h0 n0 _ T670.heap _
   rw [e670]
   exact ⟨(0 : Int32), bv_665, kb_665, 4, ([(c0.toInt8.toInt32), (c1.toInt8.toInt32), (c2.toInt8.toInt32), (c3.toInt8.toInt32)] : List Int32), rfl, N670, K671, (((E_a1.keep K665c).wr W668).wr W670), (Fw668.other W670 (Or.inr (slot_ne (Or.inr w29) (Or.inr w28) (by decide) (t := .byte) (t' := (.array .byte)) (by decide) (by decide)))), Fw670, ((f665_1.other W668 (Ne.symm ne_a1_bv_665)).other W670 (Ne.symm ne_a1_bv_665)), (Or.inl ⟨rfl, rfl, rfl, hle⟩)⟩
  · --
   show gM T665 39 #[rv a1, rv a2, iv 0, iv 4, .val .null, uN] [(.ref bv_665)]
   refine sT (fun t k => XS.astore X665.here hx rfl (hb hby d10_39) rfl rfl (l' := #[rv a1, rv a2, iv 0, iv 4, .val .null, rv bv_665]) rfl k) ?_
   show gM T665 41 #[rv a1, rv a2, iv 0, iv 4, .val .null, rv bv_665] []
   refine sT (fun t k => XS.aloadN X665.here hx rfl (hb hby d10_41) rfl rfl k) ?_
   show gM T665 42 #[rv a1, rv a2, iv 0, iv 4, .val .null, rv bv_665] [(.ref a1)]
   refine sT (fun t k => XS.aload X665.here hx rfl (hb hby d10_42) rfl rfl k) ?_
   show gM T665 44 #[rv a1, rv a2, iv 0, iv 4, .val .null, rv bv_665] [(.ref bv_665), (.ref a1)]
   refine sT (fun t k => XS.iloadN X665.here hx rfl (hb hby d10_44) rfl k) ?_
   show gM T665 45 #[rv a1, rv a2, iv 0, iv 4, .val .null, rv bv_665] [(.int 4), (.ref bv_665), (.ref a1)]
   obtain ⟨_, _, ⟨T672, L672, k672, n672⟩, -, X672, ⟨Lc672, hQ672, l672, y672, z672⟩, st672⟩ := Jvm.LawKit.callS X665 hx (y := mN9) hown (mvT hZ w64) (mvT hZ w65) (mvT hZ w59) (mvT hZ w66) (by decide) (backOf (W := 1) (own_cf l Z a0 hw [] bv_665 (4 : Int32) ((8 : Int32)) (ys_665) (kb_665) ((1 : Int32)) T665.heap n0 (Nat.le_trans Z0 K665c.1) f665_1 (by decide)) hZ w66 w59 (by decide) (by decide)) (g := (mkF m 45 #[rv a1, rv a2, iv 0, iv 4, .val .null, rv bv_665] [(.int 4), (.ref bv_665), (.ref a1)])) rfl (by rw [hml]; rfl) (argsL := [(.ref bv_665), (.int 4)]) (rest := [(.ref a1)]) (lenOf own_pd7 rfl) rfl (by show 2 * 0 + _ ≤ _; exact Nat.le_of_eq rfl) (hb hby d10_45) (fun _ hWq => ⟨rfl, rfl, (by decide : 2 + 0 ≤ _), (by decide : 12 + 0 ≤ _)⟩)
   dsimp only [Pt.U, Pt.locs, Pt.cells, Pt.slots] at X672 l672 y672 z672 st672 hQ672
   subst y672 z672
   obtain ⟨rfl, N672q, eh672⟩ := hQ672
   have N672 : Fr n0 L672 := by rw [l672]; exact Fr.app N665 N672q
   refine sT st672 ?_
   show gM T672 48 #[rv a1, rv a2, iv 0, iv 4, .val .null, rv bv_665] [(.int 1), (.ref a1)]
   obtain ⟨T673, h673, X673, e673, W673, st673⟩ := putF X672 hx hZ hown (host := "") (Or.inl w33) Via.refl eh672 (F_coder_a1.keep K665c nin0) (E_a1.keep K665c) (Or.inr ⟨w29, rfl, hnm⟩) w13 (ty := .byte) (by decide) rfl rfl (g := (mkF m 48 #[rv a1, rv a2, iv 0, iv 4, .val .null, rv bv_665] [(.int 1), (.ref a1)])) rfl rfl (hb hby d10_48)
   have Fw673 := (F_coder_a1.keep K665c nin0).same W673
   have N673 := Fr.snoc X673 N672 g_a1
   have K674 : Keep h0 h673 [a1] := K666.wr W673 (Or.inl (List.mem_of_getElem? (i := 0) rfl))
   refine sT st673 ?_
   show gM T673 51 #[rv a1, rv a2, iv 0, iv 4, .val .null, rv bv_665] []
   refine sT (fun t k => XS.aloadN X673.here hx rfl (hb hby d10_51) rfl rfl k) ?_
   show gM T673 52 #[rv a1, rv a2, iv 0, iv 4, .val .null, rv bv_665] [(.ref a1)]
   refine sT (fun t k => XS.aload X673.here hx rfl (hb hby d10_52) rfl rfl k) ?_
   show gM T673 54 #[rv a1, rv a2, iv 0, iv 4, .val .null, rv bv_665] [(.ref bv_665), (.ref a1)]
   obtain ⟨T675, h675, X675, e675, W675, st675⟩ := putF X673 hx hZ hown (host := "") (Or.inl w32) Via.refl e673 ((F_value_a1.keep K665c nin0).other W673 (Or.inr (slot_ne (Or.inr w28) (Or.inr w29) (by decide) (t := (.array .byte)) (t' := .byte) (by decide) (by decide)))) ((E_a1.keep K665c).wr W673) (Or.inr ⟨w28, rfl, hnm⟩) w13 (ty := (.array .byte)) (by decide) rfl rfl (g := (mkF m 54 #[rv a1, rv a2, iv 0, iv 4, .val .null, rv bv_665] [(.ref bv_665), (.ref a1)])) rfl rfl (hb hby d10_54)
   have Fw675 := ((F_value_a1.keep K665c nin0).other W673 (Or.inr (slot_ne (Or.inr w28) (Or.inr w29) (by decide) (t := (.array .byte)) (t' := .byte) (by decide) (by decide)))).same W675
   have N675 := Fr.snoc X675 N673 g_a1
   have K676 : Keep h0 h675 [a1] := K674.wr W675 (Or.inl (List.mem_of_getElem? (i := 0) rfl))
   refine sT st675 ?_
   show gM T675 57 #[rv a1, rv a2, iv 0, iv 4, .val .null, rv bv_665] []
   refine own_ret0 X675 hx hlk Bd.returns (hb hby d10_57) ?_ (by decide) (by decide)
   show own_iv4_Q Z a1 a2 cs c0 c1 c2 c3 ka h0 n0 _ T675.heap _
   rw [e675]
   exact ⟨(1 : Int32), bv_665, kb_665, 8, ys_665, rfl, N675, K676, (((E_a1.keep K665c).wr W673).wr W675), (Fw673.other W675 (Or.inr (slot_ne (Or.inr w29) (Or.inr w28) (by decide) (t := .byte) (t' := (.array .byte)) (by decide) (by decide)))), Fw675, ((f665_1.other W673 (Ne.symm ne_a1_bv_665)).other W675 (Ne.symm ne_a1_bv_665)), (Or.inr ⟨rfl, hgt⟩)⟩
theorem own_is4_ef (m : MethodId) (a1 : Addr) (a2 : Addr) : entryFrame m #[(.ref a1), (.ref a2)] 2 = mkF m 0 #[rv a1, rv a2] [] := by first | (simp [entryFrame, mkF, argsToLocals, Value.category]; done) | rfl
def own_is4_Q (Z : State) (a1 : Addr) (a2 : Addr) (cs : Int32) (c0 : Int32) (c1 : Int32) (c2 : Int32) (c3 : Int32) (ka : ClassId) (h0 : Heap) (n0 : Nat) (v : Option Value) (h : Heap) (L : List Loc) : Prop := ∃ cd : Int32, ∃ bv : Addr, ∃ kb : ClassId, ∃ zl : Int32, ∃ ys : List Int32, v = none ∧ Fr n0 L ∧ Keep h0 h [a1] ∧ Exa Z h a1 "java/lang/String" ∧ Fld Z h a1 "java/lang/String" "coder" "B" (.int cd) ∧ Fld Z h a1 "java/lang/String" "value" "[B" (.ref bv) ∧ Arv Z h bv kb .byte zl (ys.map Value.int) (Value.int 0) ∧ ((cd = (0 : Int32) ∧ zl = (4 : Int32) ∧ ys = ([(c0.toInt8.toInt32), (c1.toInt8.toInt32), (c2.toInt8.toInt32), (c3.toInt8.toInt32)] : List Int32) ∧ ¬ (255 : Int32) < c0 ∧ ¬ (255 : Int32) < c1 ∧ ¬ (255 : Int32) < c2 ∧ ¬ (255 : Int32) < c3) ∨ (cd = (1 : Int32) ∧ ((255 : Int32) < c0 ∨ (255 : Int32) < c1 ∨ (255 : Int32) < c2 ∨ (255 : Int32) < c3)))
set_option maxRecDepth 65536 in
set_option maxHeartbeats 40000000 in
theorem own_is4 (l : Launch) (Z : State) (a0 : Array Value) (hw : ∀ d ∈ tables_1, d.before a0 Z = true) (ws : List Jvm.Cond) (a1 : Addr) (a2 : Addr) (cs : Int32) (c0 : Int32) (c1 : Int32) (c2 : Int32) (c3 : Int32) (ka : ClassId) (h0 : Heap) (n0 : Nat) (Z0 : n0 ≤ h0.size) (E_a1 : Exa Z h0 a1 "java/lang/String") (g_a1 : n0 ≤ a1) (F_value_a1 : Fld Z h0 a1 "java/lang/String" "value" "[B" .null) (F_coder_a1 : Fld Z h0 a1 "java/lang/String" "coder" "B" (.int 0)) (S__assertionsDisabled : Sta Z Z.heap "java/lang/StringUTF16" "$assertionsDisabled" "Z" (.int 1)) (S_HI_BYTE_SHIFT : Sta Z Z.heap "java/lang/StringUTF16" "HI_BYTE_SHIFT" "I" (.int 0)) (S_LO_BYTE_SHIFT : Sta Z Z.heap "java/lang/StringUTF16" "LO_BYTE_SHIFT" "I" (.int 8)) (Zn : Z.heap.size ≤ n0) (EZ : Ext Z.heap h0) (S_COMPACT_STRINGS : Sta Z Z.heap "java/lang/String" "COMPACT_STRINGS" "Z" (.int cs)) (hcs : ¬ cs = (0 : Int32)) (V_a2 : Arv Z h0 a2 ka .char (4 : Int32) (([c0, c1, c2, c3] : List Int32).map Value.int) (Value.int 0)) (ne_a1_a2 : a1 ≠ a2) (hN0 : nar .char c0 = c0) (hN1 : nar .char c1 = c1) (hN2 : nar .char c2 = c2) (hN3 : nar .char c3 = c3) :
    MetFree l mN11 (head1 (Jvm.Cond.code mN11 jdk_42_method_3_code 2 none :: ws) ({ frames := 5, cells := 2, slots := 12, locals := 74 } : Room)) (fun aa U => aa = #[(.ref a1), (.ref a2)] ∧ Z.Warmed39 U.vm ∧ U.heap = h0) (fun _ _ _ _ _ => True) (fun _ U o U' => ∃ v L, o = .returned v ∧ own_is4_Q Z a1 a2 cs c0 c1 c2 c3 ka h0 n0 v U'.heap L ∧ FrameEnd U o U' L ({ frames := 5, cells := 2, slots := 12, locals := 74 } : Room).cells ({ frames := 5, cells := 2, slots := 12, locals := 74 } : Room).slots) := by
  refine MetFree.of_bodySF (plainFor_of_name own_pn2) hisR ?_
  have w14 := wO hw 14 rfl
  have w19 := wO hw 19 rfl
  have w20 := wO hw 20 rfl
  have w22 := wO hw 22 rfl
  intro p e s m args below meth c s₁ Bd hml0 hP hK
  obtain ⟨rfl, hZ, hh⟩ := hP
  have hx := Bd.exec
  have hby := Bd.bytes
  have hlk := Bd.notSynchronized
  have hml : c.maxLocals = 2 := hml0
  have hown : s.vm.findClass "java/lang/String" = some m.cls := findClass_of_methodNamed Bd.named
  have hnm := (name_of_methodNamed Bd.named Bd.method).1
  have X0 : Stand p l e ({ frames := 5, cells := 2, slots := 12, locals := 74 } : Room) s m #[(.ref a1), (.ref a2)] below meth c s₁ [] 0 0 := Stand.of_body Bd
  have e0 : s₁.heap = h0 := by rw [← hh, Bd.state]; rfl
  have N0 := Fr.nil n0
  have K0 : Keep h0 h0 [a1] := Keep.refl h0 _
  have O0 : Old Z Z.heap.size h0 := ⟨rfl, EZ⟩
  show gS p e below (own_Fin s (own_is4_Q Z a1 a2 cs c0 c1 c2 c3 ka h0 n0) ({ frames := 5, cells := 2, slots := 12, locals := 74 } : Room).cells ({ frames := 5, cells := 2, slots := 12, locals := 74 } : Room).slots) _
  refine sT (fun t k => castTop (own_is4_ef m a1 a2) k) ?_
  show gM s₁ 0 #[rv a1, rv a2] []
  refine sT (fun t k => XS.aloadN X0.here hx rfl (hb hby d11_0) rfl rfl k) ?_
  show gM s₁ 1 #[rv a1, rv a2] [(.ref a1)]
  refine sT (fun t k => XS.aloadN X0.here hx rfl (hb hby d11_1) rfl rfl k) ?_
  show gM s₁ 2 #[rv a1, rv a2] [(.ref a2), (.ref a1)]
  refine sT (fun t k => XS.iconst X0.here hx rfl (hb hby d11_2) k) ?_
  show gM s₁ 3 #[rv a1, rv a2] [(.int 0), (.ref a2), (.ref a1)]
  refine sT (fun t k => XS.aloadN X0.here hx rfl (hb hby d11_3) rfl rfl k) ?_
  show gM s₁ 4 #[rv a1, rv a2] [(.ref a2), (.int 0), (.ref a2), (.ref a1)]
  refine sT (fun t k => own_len X0 hx hZ e0 V_a2 (g := (mkF m 4 #[rv a1, rv a2] [(.ref a2), (.int 0), (.ref a2), (.ref a1)])) rfl rfl (hb hby d11_4) _ k) ?_
  show gM s₁ 5 #[rv a1, rv a2] [(.int 4), (.int 0), (.ref a2), (.ref a1)]
  refine sT (fun t k => XS.aconstNull X0.here hx rfl (hb hby d11_5) k) ?_
  show gM s₁ 6 #[rv a1, rv a2] [.null, (.int 4), (.int 0), (.ref a2), (.ref a1)]
  obtain ⟨_, _, ⟨T679, L679, k679, n679⟩, -, X679, ⟨Lc679, hQ679, l679, y679, z679⟩, st679⟩ := X0.specialBack hx (y := mN10) rfl hown (mvT hZ w19) (mvT hZ w20) (mvT hZ w22) (by decide) (backOf (W := 0) (own_iv4 l Z a0 hw [] a1 a2 (cs) (c0) (c1) (c2) (c3) (ka) h0 n0 Z0 E_a1 g_a1 F_value_a1 F_coder_a1 S__assertionsDisabled S_HI_BYTE_SHIFT S_LO_BYTE_SHIFT Zn O0.2 S_COMPACT_STRINGS hcs V_a2 ne_a1_a2 hN0 hN1 hN2 hN3) hZ w22 w14 (by decide) (by decide)) (g := (mkF m 6 #[rv a1, rv a2] [.null, (.int 4), (.int 0), (.ref a2), (.ref a1)])) rfl (by rw [hml]; rfl) (Steps.refl _) (a := a1) (argsL := [(.ref a2), (.int 0), (.int 4), .null]) (rest := []) (lenOf own_pd8 rfl) rfl (by show 2 * 0 + _ ≤ _; exact Nat.le_of_eq rfl) (hb hby d11_6) (fun _ hWq => ⟨rfl, e0, (by decide : 0 + 2 ≤ _), (by decide : 0 + 12 ≤ _)⟩)
  dsimp only [Pt.U, Pt.locs, Pt.cells, Pt.slots] at X679 l679 y679 z679 st679 hQ679
  subst y679 z679
  obtain ⟨cd_679, bv_679, kb_679, zl_679, ys_679, rfl, N679q, K679c, f679_0, f679_1, f679_2, f679_3, f679_4⟩ := hQ679
  have N679 : Fr n0 L679 := by rw [l679]; exact Fr.app N0 N679q
  refine own_jump st679 ?_
  have K680 : Keep h0 T679.heap [a1] := K0.trans K679c (allS (Or.inl (List.mem_of_getElem? (i := 0) rfl)) all0)
  show gM T679 9 #[rv a1, rv a2] []
  refine own_ret0 X679 hx hlk Bd.returns (hb hby d11_9) ?_ (by decide) (by decide)
  show own_is4_Q Z a1 a2 cs c0 c1 c2 c3 ka h0 n0 _ T679.heap _
  exact ⟨cd_679, bv_679, kb_679, zl_679, ys_679, rfl, N679, K680, f679_0, f679_1, f679_2, f679_3, f679_4⟩
theorem d12_87 : decode method_4_code 87 = .ok (.iload_n 0, 1) := by decide +kernel
theorem d12_88 : decode method_4_code 88 = .ok (.iconst 4, 1) := by decide +kernel
theorem d12_89 : decode method_4_code 89 = .ok (.if_icmp .ne 31, 3) := by decide +kernel
theorem d12_92 : decode method_4_code 92 = .ok (.new 13, 3) := by decide +kernel
theorem d12_95 : decode method_4_code 95 = .ok (.dup, 1) := by decide +kernel
theorem d12_96 : decode method_4_code 96 = .ok (.iconst 4, 1) := by decide +kernel
theorem d12_97 : decode method_4_code 97 = .ok (.newarray .char, 2) := by decide +kernel
theorem d12_99 : decode method_4_code 99 = .ok (.dup, 1) := by decide +kernel
theorem d12_100 : decode method_4_code 100 = .ok (.iconst 0, 1) := by decide +kernel
theorem d12_101 : decode method_4_code 101 = .ok (.iload_n 1, 1) := by decide +kernel
theorem d12_102 : decode method_4_code 102 = .ok (.castore, 1) := by decide +kernel
theorem d12_103 : decode method_4_code 103 = .ok (.dup, 1) := by decide +kernel
theorem d12_104 : decode method_4_code 104 = .ok (.iconst 1, 1) := by decide +kernel
theorem d12_105 : decode method_4_code 105 = .ok (.iload_n 2, 1) := by decide +kernel
theorem d12_106 : decode method_4_code 106 = .ok (.castore, 1) := by decide +kernel
theorem d12_107 : decode method_4_code 107 = .ok (.dup, 1) := by decide +kernel
theorem d12_108 : decode method_4_code 108 = .ok (.iconst 2, 1) := by decide +kernel
theorem d12_109 : decode method_4_code 109 = .ok (.iload_n 3, 1) := by decide +kernel
theorem d12_110 : decode method_4_code 110 = .ok (.castore, 1) := by decide +kernel
theorem d12_111 : decode method_4_code 111 = .ok (.dup, 1) := by decide +kernel
theorem d12_112 : decode method_4_code 112 = .ok (.iconst 3, 1) := by decide +kernel
theorem d12_113 : decode method_4_code 113 = .ok (.iload 4, 2) := by decide +kernel
theorem d12_115 : decode method_4_code 115 = .ok (.castore, 1) := by decide +kernel
theorem d12_116 : decode method_4_code 116 = .ok (.invokespecial 15, 3) := by decide +kernel
theorem d12_119 : decode method_4_code 119 = .ok (.areturn, 1) := by decide +kernel
theorem own_st4_ef (m : MethodId) (c0 : Int32) (c1 : Int32) (c2 : Int32) (c3 : Int32) (c4 : Int32) : entryFrame m #[(.int 4), (.int c0), (.int c1), (.int c2), (.int c3), (.int c4)] 6 = mkF m 0 #[iv 4, iv c0, iv c1, iv c2, iv c3, iv c4] [] := by first | (simp [entryFrame, mkF, argsToLocals, Value.category]; done) | rfl
def own_st4_Q (Z : State) (c0 : Int32) (c1 : Int32) (c2 : Int32) (c3 : Int32) (c4 : Int32) (cs : Int32) (h0 : Heap) (n0 : Nat) (v : Option Value) (h : Heap) (L : List Loc) : Prop := ∃ x : Addr, ∃ cd : Int32, ∃ bv : Addr, ∃ kb : ClassId, ∃ zl : Int32, ∃ ys : List Int32, v = some (.ref x) ∧ Fr n0 L ∧ Keep h0 h [] ∧ Exa Z h x "java/lang/String" ∧ Fld Z h x "java/lang/String" "coder" "B" (.int cd) ∧ Fld Z h x "java/lang/String" "value" "[B" (.ref bv) ∧ Arv Z h bv kb .byte zl (ys.map Value.int) (Value.int 0) ∧ ((cd = (0 : Int32) ∧ zl = (4 : Int32) ∧ ys = ([(c0.toInt8.toInt32), (c1.toInt8.toInt32), (c2.toInt8.toInt32), (c3.toInt8.toInt32)] : List Int32) ∧ ¬ (255 : Int32) < c0 ∧ ¬ (255 : Int32) < c1 ∧ ¬ (255 : Int32) < c2 ∧ ¬ (255 : Int32) < c3) ∨ (cd = (1 : Int32) ∧ ((255 : Int32) < c0 ∨ (255 : Int32) < c1 ∨ (255 : Int32) < c2 ∨ (255 : Int32) < c3)))
set_option maxRecDepth 65536 in
set_option maxHeartbeats 40000000 in
theorem own_st4 (l : Launch) (Z : State) (a0 : Array Value) (hw : ∀ d ∈ tables_1, d.before a0 Z = true) (ws : List Jvm.Cond) (c0 : Int32) (c1 : Int32) (c2 : Int32) (c3 : Int32) (c4 : Int32) (cs : Int32) (h0 : Heap) (n0 : Nat) (Z0 : n0 ≤ h0.size) (S__assertionsDisabled : Sta Z Z.heap "java/lang/StringUTF16" "$assertionsDisabled" "Z" (.int 1)) (S_HI_BYTE_SHIFT : Sta Z Z.heap "java/lang/StringUTF16" "HI_BYTE_SHIFT" "I" (.int 0)) (S_LO_BYTE_SHIFT : Sta Z Z.heap "java/lang/StringUTF16" "LO_BYTE_SHIFT" "I" (.int 8)) (Zn : Z.heap.size ≤ n0) (EZ : Ext Z.heap h0) (S_COMPACT_STRINGS : Sta Z Z.heap "java/lang/String" "COMPACT_STRINGS" "Z" (.int cs)) (hcs : ¬ cs = (0 : Int32)) (hN0 : nar .char c0 = c0) (hN1 : nar .char c1 = c1) (hN2 : nar .char c2 = c2) (hN3 : nar .char c3 = c3) :
    MetFree l mN12 (head1 (Jvm.Cond.code mN12 method_4_code 6 (some (.object "java/lang/String")) :: ws) ({ frames := 6, cells := 4, slots := 20, locals := 88 } : Room)) (fun aa U => aa = #[(.int 4), (.int c0), (.int c1), (.int c2), (.int c3), (.int c4)] ∧ Z.Warmed39 U.vm ∧ U.heap = h0) (fun _ _ _ _ _ => True) (fun _ U o U' => ∃ v L, o = .returned v ∧ own_st4_Q Z c0 c1 c2 c3 c4 cs h0 n0 v U'.heap L ∧ FrameEnd U o U' L ({ frames := 6, cells := 4, slots := 20, locals := 88 } : Room).cells ({ frames := 6, cells := 4, slots := 20, locals := 88 } : Room).slots) := by
  refine MetFree.of_bodySF (plainFor_of_name own_pn0) hisR ?_
  have w12 := wO hw 12 rfl
  have w13 := wO hw 13 rfl
  have w14 := wO hw 14 rfl
  have w15 := wO hw 15 rfl
  have w16 := wO hw 16 rfl
  have w17 := wO hw 17 rfl
  have w18 := wO hw 18 rfl
  have w28 := wO hw 28 rfl
  have w29 := wO hw 29 rfl
  intro p e s m args below meth c s₁ Bd hml0 hP hK
  obtain ⟨rfl, hZ, hh⟩ := hP
  have hx := Bd.exec
  have hby := Bd.bytes
  have hlk := Bd.notSynchronized
  have hml : c.maxLocals = 6 := hml0
  have hown : s.vm.findClass "com/example/noctule/noctule/server/TokenScopeTakesPinLaw" = some m.cls := findClass_of_methodNamed Bd.named
  have hnm := (name_of_methodNamed Bd.named Bd.method).1
  have X0 : Stand p l e ({ frames := 6, cells := 4, slots := 20, locals := 88 } : Room) s m #[(.int 4), (.int c0), (.int c1), (.int c2), (.int c3), (.int c4)] below meth c s₁ [] 0 0 := Stand.of_body Bd
  have e0 : s₁.heap = h0 := by rw [← hh, Bd.state]; rfl
  have N0 := Fr.nil n0
  have K0 : Keep h0 h0 [] := Keep.refl h0 _
  have O0 : Old Z Z.heap.size h0 := ⟨rfl, EZ⟩
  show gS p e below (own_Fin s (own_st4_Q Z c0 c1 c2 c3 c4 cs h0 n0) ({ frames := 6, cells := 4, slots := 20, locals := 88 } : Room).cells ({ frames := 6, cells := 4, slots := 20, locals := 88 } : Room).slots) _
  refine sT (fun t k => castTop (own_st4_ef m c0 c1 c2 c3 c4) k) ?_
  show gM s₁ 0 #[iv 4, iv c0, iv c1, iv c2, iv c3, iv c4] []
  refine sT (fun t k => XS.iloadN X0.here hx rfl (hb hby d12_0) rfl k) ?_
  show gM s₁ 1 #[iv 4, iv c0, iv c1, iv c2, iv c3, iv c4] [(.int 4)]
  have hc700 : ¬ ((4 : Int32) = (0 : Int32)) := by decide
  refine sT (fun t k => XS.ifYes X0.here hx rfl (pc0 := 1) (pc' := 15) rfl (hb hby d12_1) rfl ((if0 _ _).trans (feq hc700).2) (by decide) (by decide) k) ?_
  show gM s₁ 15 #[iv 4, iv c0, iv c1, iv c2, iv c3, iv c4] []
  refine sT (fun t k => XS.iloadN X0.here hx rfl (hb hby d12_15) rfl k) ?_
  show gM s₁ 16 #[iv 4, iv c0, iv c1, iv c2, iv c3, iv c4] [(.int 4)]
  refine sT (fun t k => XS.iconst X0.here hx rfl (hb hby d12_16) k) ?_
  show gM s₁ 17 #[iv 4, iv c0, iv c1, iv c2, iv c3, iv c4] [(.int 1), (.int 4)]
  have hc701 : ¬ ((4 : Int32) = (1 : Int32)) := by decide
  refine sT (fun t k => XS.icmpYes X0.here hx rfl (pc0 := 17) (pc' := 35) rfl (hb hby d12_17) rfl (feq hc701).2 (by decide) (by decide) k) ?_
  show gM s₁ 35 #[iv 4, iv c0, iv c1, iv c2, iv c3, iv c4] []
  refine sT (fun t k => XS.iloadN X0.here hx rfl (hb hby d12_35) rfl k) ?_
  show gM s₁ 36 #[iv 4, iv c0, iv c1, iv c2, iv c3, iv c4] [(.int 4)]
  refine sT (fun t k => XS.iconst X0.here hx rfl (hb hby d12_36) k) ?_
  show gM s₁ 37 #[iv 4, iv c0, iv c1, iv c2, iv c3, iv c4] [(.int 2), (.int 4)]
  have hc702 : ¬ ((4 : Int32) = (2 : Int32)) := by decide
  refine sT (fun t k => XS.icmpYes X0.here hx rfl (pc0 := 37) (pc' := 59) rfl (hb hby d12_37) rfl (feq hc702).2 (by decide) (by decide) k) ?_
  show gM s₁ 59 #[iv 4, iv c0, iv c1, iv c2, iv c3, iv c4] []
  refine sT (fun t k => XS.iloadN X0.here hx rfl (hb hby d12_59) rfl k) ?_
  show gM s₁ 60 #[iv 4, iv c0, iv c1, iv c2, iv c3, iv c4] [(.int 4)]
  refine sT (fun t k => XS.iconst X0.here hx rfl (hb hby d12_60) k) ?_
  show gM s₁ 61 #[iv 4, iv c0, iv c1, iv c2, iv c3, iv c4] [(.int 3), (.int 4)]
  have hc703 : ¬ ((4 : Int32) = (3 : Int32)) := by decide
  refine sT (fun t k => XS.icmpYes X0.here hx rfl (pc0 := 61) (pc' := 87) rfl (hb hby d12_61) rfl (feq hc703).2 (by decide) (by decide) k) ?_
  show gM s₁ 87 #[iv 4, iv c0, iv c1, iv c2, iv c3, iv c4] []
  refine sT (fun t k => XS.iloadN X0.here hx rfl (hb hby d12_87) rfl k) ?_
  show gM s₁ 88 #[iv 4, iv c0, iv c1, iv c2, iv c3, iv c4] [(.int 4)]
  refine sT (fun t k => XS.iconst X0.here hx rfl (hb hby d12_88) k) ?_
  show gM s₁ 89 #[iv 4, iv c0, iv c1, iv c2, iv c3, iv c4] [(.int 4), (.int 4)]
  have hc704 : (4 : Int32) = (4 : Int32) := rfl
  refine sT (fun t k => XS.icmpNo X0.here hx rfl (hb hby d12_89) rfl (teq hc704).2 k) ?_
  show gM s₁ 92 #[iv 4, iv c0, iv c1, iv c2, iv c3, iv c4] []
  obtain ⟨T705, h705, X705, e705, E705, A705, D705, -, st705⟩ := newO X0 hx hZ hown w12 w13 w14 e0 (g := (mkF m 92 #[iv 4, iv c0, iv c1, iv c2, iv c3, iv c4] [])) rfl (hb hby d12_92) (by decide) (by decide)
  obtain ⟨b705, g705⟩ : ∃ z, z = h0.size := ⟨_, rfl⟩
  rw [← g705] at A705 D705 st705
  have g_b705 : n0 ≤ b705 := Nat.le_trans Z0 (Nat.le_of_eq g705.symm)
  have sz_b705 : h0.size ≤ b705 := Nat.le_trans K0.1 (Nat.le_of_eq g705.symm)
  have K706 : Keep h0 h705 [] := K0.ext E705
  have F_value_b705 : Fld Z h705 b705 "java/lang/String" "value" "[B" .null := D705 (Or.inr w28) (ty := (.array .byte)) (by decide)
  have F_coder_b705 : Fld Z h705 b705 "java/lang/String" "coder" "B" (.int 0) := D705 (Or.inr w29) (ty := .byte) (by decide)
  refine sT st705 ?_
  show gM T705 95 #[iv 4, iv c0, iv c1, iv c2, iv c3, iv c4] [(.ref b705)]
  refine sT (fun t k => XS.dup X705.here hx rfl (hb hby d12_95) rfl rfl k) ?_
  show gM T705 96 #[iv 4, iv c0, iv c1, iv c2, iv c3, iv c4] [(.ref b705), (.ref b705)]
  refine sT (fun t k => XS.iconst X705.here hx rfl (hb hby d12_96) k) ?_
  show gM T705 97 #[iv 4, iv c0, iv c1, iv c2, iv c3, iv c4] [(.int 4), (.ref b705), (.ref b705)]
  obtain ⟨T707, h707, k707, X707, e707, E707, A707, st707⟩ := newP (aty := .char) X705 hx hZ w15 e705 (g := (mkF m 97 #[iv 4, iv c0, iv c1, iv c2, iv c3, iv c4] [(.int 4), (.ref b705), (.ref b705)])) rfl (hb hby d12_97) rfl (by decide) (cap := 4) (by decide) (by decide) (by decide) (by decide)
  obtain ⟨b707, g707⟩ : ∃ z, z = h705.size := ⟨_, rfl⟩
  rw [← g707] at A707 st707
  have ne_b705_b707 : b705 ≠ b707 := Nat.ne_of_lt (Nat.lt_of_lt_of_le A705.lt (Nat.le_of_eq g707.symm))
  have g_b707 : n0 ≤ b707 := Nat.le_trans (Nat.le_trans Z0 E705.1) (Nat.le_of_eq g707.symm)
  have sz_b707 : h0.size ≤ b707 := Nat.le_trans K706.1 (Nat.le_of_eq g707.symm)
  have V707 : Arv Z h707 b707 k707 .char (4 : Int32) (([0, 0, 0, 0] : List Int32).map Value.int) (Value.int 0) := own_newC A707 (by decide) 4
  have K708 : Keep h0 h707 [] := K706.ext E707
  refine sT st707 ?_
  show gM T707 99 #[iv 4, iv c0, iv c1, iv c2, iv c3, iv c4] [(.ref b707), (.ref b705), (.ref b705)]
  refine sT (fun t k => XS.dup X707.here hx rfl (hb hby d12_99) rfl rfl k) ?_
  show gM T707 100 #[iv 4, iv c0, iv c1, iv c2, iv c3, iv c4] [(.ref b707), (.ref b707), (.ref b705), (.ref b705)]
  refine sT (fun t k => XS.iconst X707.here hx rfl (hb hby d12_100) k) ?_
  show gM T707 101 #[iv 4, iv c0, iv c1, iv c2, iv c3, iv c4] [(.int 0), (.ref b707), (.ref b707), (.ref b705), (.ref b705)]
  refine sT (fun t k => XS.iloadN X707.here hx rfl (hb hby d12_101) rfl k) ?_
  show gM T707 102 #[iv 4, iv c0, iv c1, iv c2, iv c3, iv c4] [(.int c0), (.int 0), (.ref b707), (.ref b707), (.ref b705), (.ref b705)]
  obtain ⟨T709, h709, X709, e709, W709, V709, st709⟩ := own_cst X707 hx hZ e707 V707 (j := (0 : Int32)) hN0 ⟨by decide, by decide⟩ (0) rfl (Nat.le_of_ble_eq_true rfl) (g := (mkF m 102 #[iv 4, iv c0, iv c1, iv c2, iv c3, iv c4] [(.int c0), (.int 0), (.ref b707), (.ref b707), (.ref b705), (.ref b705)])) rfl rfl (hb hby d12_102)
  have V709 : Arv Z h709 b707 k707 .char (4 : Int32) (([c0, 0, 0, 0] : List Int32).map Value.int) (Value.int 0) := V709
  have N709 := Fr.snoc X709 N0 g_b707
  have K710 : Keep h0 h709 [] := K708.wr W709 (Or.inr sz_b707)
  refine sT st709 ?_
  show gM T709 103 #[iv 4, iv c0, iv c1, iv c2, iv c3, iv c4] [(.ref b707), (.ref b705), (.ref b705)]
  refine sT (fun t k => XS.dup X709.here hx rfl (hb hby d12_103) rfl rfl k) ?_
  show gM T709 104 #[iv 4, iv c0, iv c1, iv c2, iv c3, iv c4] [(.ref b707), (.ref b707), (.ref b705), (.ref b705)]
  refine sT (fun t k => XS.iconst X709.here hx rfl (hb hby d12_104) k) ?_
  show gM T709 105 #[iv 4, iv c0, iv c1, iv c2, iv c3, iv c4] [(.int 1), (.ref b707), (.ref b707), (.ref b705), (.ref b705)]
  refine sT (fun t k => XS.iloadN X709.here hx rfl (hb hby d12_105) rfl k) ?_
  show gM T709 106 #[iv 4, iv c0, iv c1, iv c2, iv c3, iv c4] [(.int c1), (.int 1), (.ref b707), (.ref b707), (.ref b705), (.ref b705)]
  obtain ⟨T711, h711, X711, e711, W711, V711, st711⟩ := own_cst X709 hx hZ e709 V709 (j := (1 : Int32)) hN1 ⟨by decide, by decide⟩ (1) rfl (Nat.le_of_ble_eq_true rfl) (g := (mkF m 106 #[iv 4, iv c0, iv c1, iv c2, iv c3, iv c4] [(.int c1), (.int 1), (.ref b707), (.ref b707), (.ref b705), (.ref b705)])) rfl rfl (hb hby d12_106)
  have V711 : Arv Z h711 b707 k707 .char (4 : Int32) (([c0, c1, 0, 0] : List Int32).map Value.int) (Value.int 0) := V711
  have N711 := Fr.snoc X711 N709 g_b707
  have K712 : Keep h0 h711 [] := K710.wr W711 (Or.inr sz_b707)
  refine sT st711 ?_
  show gM T711 107 #[iv 4, iv c0, iv c1, iv c2, iv c3, iv c4] [(.ref b707), (.ref b705), (.ref b705)]
  refine sT (fun t k => XS.dup X711.here hx rfl (hb hby d12_107) rfl rfl k) ?_
  show gM T711 108 #[iv 4, iv c0, iv c1, iv c2, iv c3, iv c4] [(.ref b707), (.ref b707), (.ref b705), (.ref b705)]
  refine sT (fun t k => XS.iconst X711.here hx rfl (hb hby d12_108) k) ?_
  show gM T711 109 #[iv 4, iv c0, iv c1, iv c2, iv c3, iv c4] [(.int 2), (.ref b707), (.ref b707), (.ref b705), (.ref b705)]
  refine sT (fun t k => XS.iloadN X711.here hx rfl (hb hby d12_109) rfl k) ?_
  show gM T711 110 #[iv 4, iv c0, iv c1, iv c2, iv c3, iv c4] [(.int c2), (.int 2), (.ref b707), (.ref b707), (.ref b705), (.ref b705)]
  obtain ⟨T713, h713, X713, e713, W713, V713, st713⟩ := own_cst X711 hx hZ e711 V711 (j := (2 : Int32)) hN2 ⟨by decide, by decide⟩ (2) rfl (Nat.le_of_ble_eq_true rfl) (g := (mkF m 110 #[iv 4, iv c0, iv c1, iv c2, iv c3, iv c4] [(.int c2), (.int 2), (.ref b707), (.ref b707), (.ref b705), (.ref b705)])) rfl rfl (hb hby d12_110)
  have V713 : Arv Z h713 b707 k707 .char (4 : Int32) (([c0, c1, c2, 0] : List Int32).map Value.int) (Value.int 0) := V713
  have N713 := Fr.snoc X713 N711 g_b707
  have K714 : Keep h0 h713 [] := K712.wr W713 (Or.inr sz_b707)
  refine sT st713 ?_
  show gM T713 111 #[iv 4, iv c0, iv c1, iv c2, iv c3, iv c4] [(.ref b707), (.ref b705), (.ref b705)]
  refine sT (fun t k => XS.dup X713.here hx rfl (hb hby d12_111) rfl rfl k) ?_
  show gM T713 112 #[iv 4, iv c0, iv c1, iv c2, iv c3, iv c4] [(.ref b707), (.ref b707), (.ref b705), (.ref b705)]
  refine sT (fun t k => XS.iconst X713.here hx rfl (hb hby d12_112) k) ?_
  show gM T713 113 #[iv 4, iv c0, iv c1, iv c2, iv c3, iv c4] [(.int 3), (.ref b707), (.ref b707), (.ref b705), (.ref b705)]
  refine sT (fun t k => XS.iload X713.here hx rfl (hb hby d12_113) rfl k) ?_
  show gM T713 115 #[iv 4, iv c0, iv c1, iv c2, iv c3, iv c4] [(.int c3), (.int 3), (.ref b707), (.ref b707), (.ref b705), (.ref b705)]
  obtain ⟨T715, h715, X715, e715, W715, V715, st715⟩ := own_cst X713 hx hZ e713 V713 (j := (3 : Int32)) hN3 ⟨by decide, by decide⟩ (3) rfl (Nat.le_of_ble_eq_true rfl) (g := (mkF m 115 #[iv 4, iv c0, iv c1, iv c2, iv c3, iv c4] [(.int c3), (.int 3), (.ref b707), (.ref b707), (.ref b705), (.ref b705)])) rfl rfl (hb hby d12_115)
  have V715 : Arv Z h715 b707 k707 .char (4 : Int32) (([c0, c1, c2, c3] : List Int32).map Value.int) (Value.int 0) := V715
  have N715 := Fr.snoc X715 N713 g_b707
  have K716 : Keep h0 h715 [] := K714.wr W715 (Or.inr sz_b707)
  refine sT st715 ?_
  show gM T715 116 #[iv 4, iv c0, iv c1, iv c2, iv c3, iv c4] [(.ref b707), (.ref b705), (.ref b705)]
  obtain ⟨_, _, ⟨T717, L717, k717, n717⟩, -, X717, ⟨Lc717, hQ717, l717, y717, z717⟩, st717⟩ := X715.specialBack hx (y := mN11) rfl hown (mvT hZ w16) (mvT hZ w17) (mvT hZ w18) (by decide) (backOf (W := 1) (own_is4 l Z a0 hw [] b705 b707 (cs) (c0) (c1) (c2) (c3) (k707) h715 n0 (Nat.le_trans (Nat.le_trans (Nat.le_trans (Nat.le_trans (Nat.le_trans (Nat.le_trans Z0 E705.1) E707.1) (Keep.of_wr W709).1) (Keep.of_wr W711).1) (Keep.of_wr W713).1) (Keep.of_wr W715).1) (((((A705.ext E707).wr W709).wr W711).wr W713).wr W715) g_b705 (((((F_value_b705.ext E707).other W709 (Or.inl ne_b705_b707)).other W711 (Or.inl ne_b705_b707)).other W713 (Or.inl ne_b705_b707)).other W715 (Or.inl ne_b705_b707)) (((((F_coder_b705.ext E707).other W709 (Or.inl ne_b705_b707)).other W711 (Or.inl ne_b705_b707)).other W713 (Or.inl ne_b705_b707)).other W715 (Or.inl ne_b705_b707)) S__assertionsDisabled S_HI_BYTE_SHIFT S_LO_BYTE_SHIFT Zn ((((((O0.ext E705).ext E707).wr W709 (Nat.le_trans Zn g_b707)).wr W711 (Nat.le_trans Zn g_b707)).wr W713 (Nat.le_trans Zn g_b707)).wr W715 (Nat.le_trans Zn g_b707)).2 S_COMPACT_STRINGS hcs V715 ne_b705_b707 hN0 hN1 hN2 hN3) hZ w18 w14 (by decide) (by decide)) (g := (mkF m 116 #[iv 4, iv c0, iv c1, iv c2, iv c3, iv c4] [(.ref b707), (.ref b705), (.ref b705)])) rfl (by rw [hml]; rfl) (Steps.refl _) (a := b705) (argsL := [(.ref b707)]) (rest := [(.ref b705)]) (lenOf own_pd9 rfl) rfl (by show 2 * 0 + _ ≤ _; exact Nat.le_of_eq rfl) (hb hby d12_116) (fun _ hWq => ⟨rfl, e715, (by decide : 2 + 2 ≤ _), (by decide : 8 + 12 ≤ _)⟩)
  dsimp only [Pt.U, Pt.locs, Pt.cells, Pt.slots] at X717 l717 y717 z717 st717 hQ717
  subst y717 z717
  obtain ⟨cd_717, bv_717, kb_717, zl_717, ys_717, rfl, N717q, K717c, f717_0, f717_1, f717_2, f717_3, f717_4⟩ := hQ717
  have N717 : Fr n0 L717 := by rw [l717]; exact Fr.app N715 N717q
  refine own_jump st717 ?_
  have K718 : Keep h0 T717.heap [] := K716.trans K717c (allS (Or.inr sz_b705) all0)
  show gM T717 119 #[iv 4, iv c0, iv c1, iv c2, iv c3, iv c4] [(.ref b705)]
  refine own_retV X717 hx hlk Bd.returns (w := (.ref b705)) rfl (Or.inr (Or.inr (Or.inr (Or.inr ⟨rfl, rfl, rfl⟩)))) (hb hby d12_119) ?_ (by decide) (by decide)
  show own_st4_Q Z c0 c1 c2 c3 c4 cs h0 n0 _ T717.heap _
  exact ⟨b705, cd_717, bv_717, kb_717, zl_717, ys_717, rfl, N717, K718, f717_0, f717_1, f717_2, f717_3, f717_4⟩
theorem own_iv5_ef (m : MethodId) (a1 : Addr) (a2 : Addr) : entryFrame m #[(.ref a1), (.ref a2), (.int 0), (.int 5), .null] 6 = mkF m 0 #[rv a1, rv a2, iv 0, iv 5, .val .null, uN] [] := by first | (simp [entryFrame, mkF, argsToLocals, Value.category]; done) | rfl
def own_iv5_Q (Z : State) (a1 : Addr) (a2 : Addr) (cs : Int32) (c0 : Int32) (c1 : Int32) (c2 : Int32) (c3 : Int32) (c4 : Int32) (ka : ClassId) (h0 : Heap) (n0 : Nat) (v : Option Value) (h : Heap) (L : List Loc) : Prop := ∃ cd : Int32, ∃ bv : Addr, ∃ kb : ClassId, ∃ zl : Int32, ∃ ys : List Int32, v = none ∧ Fr n0 L ∧ Keep h0 h [a1] ∧ Exa Z h a1 "java/lang/String" ∧ Fld Z h a1 "java/lang/String" "coder" "B" (.int cd) ∧ Fld Z h a1 "java/lang/String" "value" "[B" (.ref bv) ∧ Arv Z h bv kb .byte zl (ys.map Value.int) (Value.int 0) ∧ ((cd = (0 : Int32) ∧ zl = (5 : Int32) ∧ ys = ([(c0.toInt8.toInt32), (c1.toInt8.toInt32), (c2.toInt8.toInt32), (c3.toInt8.toInt32), (c4.toInt8.toInt32)] : List Int32) ∧ ¬ (255 : Int32) < c0 ∧ ¬ (255 : Int32) < c1 ∧ ¬ (255 : Int32) < c2 ∧ ¬ (255 : Int32) < c3 ∧ ¬ (255 : Int32) < c4) ∨ (cd = (1 : Int32) ∧ ((255 : Int32) < c0 ∨ (255 : Int32) < c1 ∨ (255 : Int32) < c2 ∨ (255 : Int32) < c3 ∨ (255 : Int32) < c4)))
set_option maxRecDepth 65536 in
set_option maxHeartbeats 40000000 in
theorem own_iv5 (l : Launch) (Z : State) (a0 : Array Value) (hw : ∀ d ∈ tables_1, d.before a0 Z = true) (ws : List Jvm.Cond) (a1 : Addr) (a2 : Addr) (cs : Int32) (c0 : Int32) (c1 : Int32) (c2 : Int32) (c3 : Int32) (c4 : Int32) (ka : ClassId) (h0 : Heap) (n0 : Nat) (Z0 : n0 ≤ h0.size) (E_a1 : Exa Z h0 a1 "java/lang/String") (g_a1 : n0 ≤ a1) (F_value_a1 : Fld Z h0 a1 "java/lang/String" "value" "[B" .null) (F_coder_a1 : Fld Z h0 a1 "java/lang/String" "coder" "B" (.int 0)) (S__assertionsDisabled : Sta Z Z.heap "java/lang/StringUTF16" "$assertionsDisabled" "Z" (.int 1)) (S_HI_BYTE_SHIFT : Sta Z Z.heap "java/lang/StringUTF16" "HI_BYTE_SHIFT" "I" (.int 0)) (S_LO_BYTE_SHIFT : Sta Z Z.heap "java/lang/StringUTF16" "LO_BYTE_SHIFT" "I" (.int 8)) (Zn : Z.heap.size ≤ n0) (EZ : Ext Z.heap h0) (S_COMPACT_STRINGS : Sta Z Z.heap "java/lang/String" "COMPACT_STRINGS" "Z" (.int cs)) (hcs : ¬ cs = (0 : Int32)) (V_a2 : Arv Z h0 a2 ka .char (5 : Int32) (([c0, c1, c2, c3, c4] : List Int32).map Value.int) (Value.int 0)) (ne_a1_a2 : a1 ≠ a2) (hN0 : nar .char c0 = c0) (hN1 : nar .char c1 = c1) (hN2 : nar .char c2 = c2) (hN3 : nar .char c3 = c3) (hN4 : nar .char c4 = c4) :
    MetFree l mN10 (head1 (Jvm.Cond.code mN10 jdk_42_method_149_code 6 none :: ws) ({ frames := 4, cells := 2, slots := 15, locals := 57 } : Room)) (fun aa U => aa = #[(.ref a1), (.ref a2), (.int 0), (.int 5), .null] ∧ Z.Warmed39 U.vm ∧ U.heap = h0) (fun _ _ _ _ _ => True) (fun _ U o U' => ∃ v L, o = .returned v ∧ own_iv5_Q Z a1 a2 cs c0 c1 c2 c3 c4 ka h0 n0 v U'.heap L ∧ FrameEnd U o U' L ({ frames := 4, cells := 2, slots := 15, locals := 57 } : Room).cells ({ frames := 4, cells := 2, slots := 15, locals := 57 } : Room).slots) := by
  refine MetFree.of_bodySF (plainFor_of_name own_pn2) hisR ?_
  have w13 := wO hw 13 rfl
  have w23 := wO hw 23 rfl
  have w24 := wO hw 24 rfl
  have w25 := wO hw 25 rfl
  have w28 := wO hw 28 rfl
  have w29 := wO hw 29 rfl
  have w32 := wO hw 32 rfl
  have w33 := wO hw 33 rfl
  have w51 := wO hw 51 rfl
  have w57 := wO hw 57 rfl
  have w58 := wO hw 58 rfl
  have w59 := wO hw 59 rfl
  have w60 := wO hw 60 rfl
  have w64 := wO hw 64 rfl
  have w65 := wO hw 65 rfl
  have w66 := wO hw 66 rfl
  intro p e s m args below meth c s₁ Bd hml0 hP hK
  obtain ⟨rfl, hZ, hh⟩ := hP
  have hx := Bd.exec
  have hby := Bd.bytes
  have hlk := Bd.notSynchronized
  have hml : c.maxLocals = 6 := hml0
  have hown : s.vm.findClass "java/lang/String" = some m.cls := findClass_of_methodNamed Bd.named
  have hnm := (name_of_methodNamed Bd.named Bd.method).1
  have X0 : Stand p l e ({ frames := 4, cells := 2, slots := 15, locals := 57 } : Room) s m #[(.ref a1), (.ref a2), (.int 0), (.int 5), .null] below meth c s₁ [] 0 0 := Stand.of_body Bd
  have e0 : s₁.heap = h0 := by rw [← hh, Bd.state]; rfl
  have N0 := Fr.nil n0
  have K0 : Keep h0 h0 [a1] := Keep.refl h0 _
  have O0 : Old Z Z.heap.size h0 := ⟨rfl, EZ⟩
  show gS p e below (own_Fin s (own_iv5_Q Z a1 a2 cs c0 c1 c2 c3 c4 ka h0 n0) ({ frames := 4, cells := 2, slots := 15, locals := 57 } : Room).cells ({ frames := 4, cells := 2, slots := 15, locals := 57 } : Room).slots) _
  refine sT (fun t k => castTop (own_iv5_ef m a1 a2) k) ?_
  show gM s₁ 0 #[rv a1, rv a2, iv 0, iv 5, .val .null, uN] []
  refine sT (fun t k => XS.aloadN X0.here hx rfl (hb hby d10_0) rfl rfl k) ?_
  show gM s₁ 1 #[rv a1, rv a2, iv 0, iv 5, .val .null, uN] [(.ref a1)]
  obtain ⟨T735, X735, e735, st735⟩ := initO X0 hx hZ hown w23 w24 w25 e0 (g := (mkF m 1 #[rv a1, rv a2, iv 0, iv 5, .val .null, uN] [(.ref a1)])) rfl (by rw [hml]; rfl) rfl (hb hby d10_1) (by decide) (W := 0) (by show 2 * 0 + _ ≤ _; exact Nat.le_of_eq rfl) (by decide)
  refine sT st735 ?_
  show gM T735 4 #[rv a1, rv a2, iv 0, iv 5, .val .null, uN] []
  refine sT (fun t k => XS.iloadN X735.here hx rfl (hb hby d10_4) rfl k) ?_
  show gM T735 5 #[rv a1, rv a2, iv 0, iv 5, .val .null, uN] [(.int 5)]
  have hc736 : ¬ ((5 : Int32) = (0 : Int32)) := by decide
  refine sT (fun t k => XS.ifYes X735.here hx rfl (pc0 := 5) (pc' := 27) rfl (hb hby d10_5) rfl ((if0 _ _).trans (feq hc736).2) (by decide) (by decide) k) ?_
  show gM T735 27 #[rv a1, rv a2, iv 0, iv 5, .val .null, uN] []
  obtain ⟨T737, X737, e737, st737⟩ := getS2 X735 hx hZ hown (host := "") (Or.inl w51) Via.refl e735 (S_COMPACT_STRINGS.ext O0.2) (g := (mkF m 27 #[rv a1, rv a2, iv 0, iv 5, .val .null, uN] [])) rfl (hb hby d10_27)
  refine sT st737 ?_
  show gM T737 30 #[rv a1, rv a2, iv 0, iv 5, .val .null, uN] [(.int cs)]
  have hc738 : ¬ (cs = (0 : Int32)) := hcs
  refine sT (fun t k => XS.ifNo X737.here hx rfl (hb hby d10_30) rfl ((if0 _ _).trans (feq hc738).1) k) ?_
  show gM T737 33 #[rv a1, rv a2, iv 0, iv 5, .val .null, uN] []
  refine sT (fun t k => XS.aloadN X737.here hx rfl (hb hby d10_33) rfl rfl k) ?_
  show gM T737 34 #[rv a1, rv a2, iv 0, iv 5, .val .null, uN] [(.ref a2)]
  refine sT (fun t k => XS.iloadN X737.here hx rfl (hb hby d10_34) rfl k) ?_
  show gM T737 35 #[rv a1, rv a2, iv 0, iv 5, .val .null, uN] [(.int 0), (.ref a2)]
  refine sT (fun t k => XS.iloadN X737.here hx rfl (hb hby d10_35) rfl k) ?_
  show gM T737 36 #[rv a1, rv a2, iv 0, iv 5, .val .null, uN] [(.int 5), (.int 0), (.ref a2)]
  obtain ⟨_, _, ⟨T739, L739, k739, n739⟩, -, X739, ⟨Lc739, hQ739, l739, y739, z739⟩, st739⟩ := Jvm.LawKit.callS X737 hx (y := mN8) hown (mvT hZ w57) (mvT hZ w58) (mvT hZ w59) (mvT hZ w60) (by decide) (backOf (W := 0) (own_co5 l Z a0 hw [] a2 (c0) (c1) (c2) (c3) (c4) (ka) h0 n0 Z0 S__assertionsDisabled S_HI_BYTE_SHIFT S_LO_BYTE_SHIFT Zn O0.2 V_a2 hN0 hN1 hN2 hN3 hN4) hZ w60 w59 (by decide) (by decide)) (g := (mkF m 36 #[rv a1, rv a2, iv 0, iv 5, .val .null, uN] [(.int 5), (.int 0), (.ref a2)])) rfl (by rw [hml]; rfl) (argsL := [(.ref a2), (.int 0), (.int 5)]) (rest := []) (lenOf own_pd5 rfl) rfl (by show 2 * 0 + _ ≤ _; exact Nat.le_of_eq rfl) (hb hby d10_36) (fun _ hWq => ⟨rfl, e737, (by decide : 0 + 2 ≤ _), (by decide : 0 + 15 ≤ _)⟩)
  dsimp only [Pt.U, Pt.locs, Pt.cells, Pt.slots] at X739 l739 y739 z739 st739 hQ739
  subst y739 z739
  obtain ⟨bv_739, kb_739, zl_739, ys_739, rfl, N739q, K739c, f739_0, f739_1, f739_2⟩ := hQ739
  have N739 : Fr n0 L739 := by rw [l739]; exact Fr.app N0 N739q
  refine sT st739 ?_
  have K740 : Keep h0 T739.heap [a1] := K0.trans K739c all0
  have sz_bv_739 : h0.size ≤ bv_739 := Nat.le_trans K0.1 f739_0
  have g_bv_739 : n0 ≤ bv_739 := Nat.le_trans Z0 sz_bv_739
  have ne_a1_bv_739 : a1 ≠ bv_739 := Nat.ne_of_lt (Nat.lt_of_lt_of_le E_a1.lt f739_0)
  have ne_a2_bv_739 : a2 ≠ bv_739 := Nat.ne_of_lt (Nat.lt_of_lt_of_le V_a2.lt f739_0)
  show gM T739 39 #[rv a1, rv a2, iv 0, iv 5, .val .null, uN] [(.ref bv_739)]
  rcases f739_2 with ⟨rfl, rfl, hle⟩ | ⟨rfl, hgt⟩
  · --
   show gM T739 39 #[rv a1, rv a2, iv 0, iv 5, .val .null, uN] [(.ref bv_739)]
   refine sT (fun t k => XS.astore X739.here hx rfl (hb hby d10_39) rfl rfl (l' := #[rv a1, rv a2, iv 0, iv 5, .val .null, rv bv_739]) rfl k) ?_
   show gM T739 41 #[rv a1, rv a2, iv 0, iv 5, .val .null, rv bv_739] []
   refine sT (fun t k => XS.aloadN X739.here hx rfl (hb hby d10_41) rfl rfl k) ?_
   show gM T739 42 #[rv a1, rv a2, iv 0, iv 5, .val .null, rv bv_739] [(.ref a1)]
   refine sT (fun t k => XS.aload X739.here hx rfl (hb hby d10_42) rfl rfl k) ?_
   show gM T739 44 #[rv a1, rv a2, iv 0, iv 5, .val .null, rv bv_739] [(.ref bv_739), (.ref a1)]
   refine sT (fun t k => XS.iloadN X739.here hx rfl (hb hby d10_44) rfl k) ?_
   show gM T739 45 #[rv a1, rv a2, iv 0, iv 5, .val .null, rv bv_739] [(.int 5), (.ref bv_739), (.ref a1)]
   obtain ⟨_, _, ⟨T741, L741, k741, n741⟩, -, X741, ⟨Lc741, hQ741, l741, y741, z741⟩, st741⟩ := Jvm.LawKit.callS X739 hx (y := mN9) hown (mvT hZ w64) (mvT hZ w65) (mvT hZ w59) (mvT hZ w66) (by decide) (backOf (W := 1) (own_cf l Z a0 hw [] bv_739 (5 : Int32) ((5 : Int32)) (([(c0.toInt8.toInt32), (c1.toInt8.toInt32), (c2.toInt8.toInt32), (c3.toInt8.toInt32), (c4.toInt8.toInt32)] : List Int32)) (kb_739) ((0 : Int32)) T739.heap n0 (Nat.le_trans Z0 K739c.1) f739_1 (by decide)) hZ w66 w59 (by decide) (by decide)) (g := (mkF m 45 #[rv a1, rv a2, iv 0, iv 5, .val .null, rv bv_739] [(.int 5), (.ref bv_739), (.ref a1)])) rfl (by rw [hml]; rfl) (argsL := [(.ref bv_739), (.int 5)]) (rest := [(.ref a1)]) (lenOf own_pd7 rfl) rfl (by show 2 * 0 + _ ≤ _; exact Nat.le_of_eq rfl) (hb hby d10_45) (fun _ hWq => ⟨rfl, rfl, (by decide : 2 + 0 ≤ _), (by decide : 15 + 0 ≤ _)⟩)
   dsimp only [Pt.U, Pt.locs, Pt.cells, Pt.slots] at X741 l741 y741 z741 st741 hQ741
   subst y741 z741
   obtain ⟨rfl, N741q, eh741⟩ := hQ741
   have N741 : Fr n0 L741 := by rw [l741]; exact Fr.app N739 N741q
   refine sT st741 ?_
   show gM T741 48 #[rv a1, rv a2, iv 0, iv 5, .val .null, rv bv_739] [(.int 0), (.ref a1)]
   obtain ⟨T742, h742, X742, e742, W742, st742⟩ := putF X741 hx hZ hown (host := "") (Or.inl w33) Via.refl eh741 (F_coder_a1.keep K739c nin0) (E_a1.keep K739c) (Or.inr ⟨w29, rfl, hnm⟩) w13 (ty := .byte) (by decide) rfl rfl (g := (mkF m 48 #[rv a1, rv a2, iv 0, iv 5, .val .null, rv bv_739] [(.int 0), (.ref a1)])) rfl rfl (hb hby d10_48)
   have Fw742 := (F_coder_a1.keep K739c nin0).same W742
   have N742 := Fr.snoc X742 N741 g_a1
   have K743 : Keep h0 h742 [a1] := K740.wr W742 (Or.inl (List.mem_of_getElem? (i := 0) rfl))
   refine sT st742 ?_
   show gM T742 51 #[rv a1, rv a2, iv 0, iv 5, .val .null, rv bv_739] []
   refine sT (fun t k => XS.aloadN X742.here hx rfl (hb hby d10_51) rfl rfl k) ?_
   show gM T742 52 #[rv a1, rv a2, iv 0, iv 5, .val .null, rv bv_739] [(.ref a1)]
   refine sT (fun t k => XS.aload X742.here hx rfl (hb hby d10_52) rfl rfl k) ?_
   show gM T742 54 #[rv a1, rv a2, iv 0, iv 5, .val .null, rv bv_739] [(.ref bv_739), (.ref a1)]
   obtain ⟨T744, h744, X744, e744, W744, st744⟩ := putF X742 hx hZ hown (host := "") (Or.inl w32) Via.refl e742 ((F_value_a1.keep K739c nin0).other W742 (Or.inr (slot_ne (Or.inr w28) (Or.inr w29) (by decide) (t := (.array .byte)) (t' := .byte) (by decide) (by decide)))) ((E_a1.keep K739c).wr W742) (Or.inr ⟨w28, rfl, hnm⟩) w13 (ty := (.array .byte)) (by decide) rfl rfl (g := (mkF m 54 #[rv a1, rv a2, iv 0, iv 5, .val .null, rv bv_739] [(.ref bv_739), (.ref a1)])) rfl rfl (hb hby d10_54)
   have Fw744 := ((F_value_a1.keep K739c nin0).other W742 (Or.inr (slot_ne (Or.inr w28) (Or.inr w29) (by decide) (t := (.array .byte)) (t' := .byte) (by decide) (by decide)))).same W744
   have N744 := Fr.snoc X744 N742 g_a1
   have K745 : Keep h0 h744 [a1] := K743.wr W744 (Or.inl (List.mem_of_getElem? (i := 0) rfl))
   refine sT st744 ?_
   show gM T744 57 #[rv a1, rv a2, iv 0, iv 5, .val .null, rv bv_739] []
   refine own_ret0 X744 hx hlk Bd.returns (hb hby d10_57) ?_ (by decide) (by decide)
   show own_iv5_Q Z a1 a2 cs c0 c1 c2 c3 c4 ka h0 n0 _ T744.heap _
   rw [e744]
   exact ⟨(0 : Int32), bv_739, kb_739, 5, ([(c0.toInt8.toInt32), (c1.toInt8.toInt32), (c2.toInt8.toInt32), (c3.toInt8.toInt32), (c4.toInt8.toInt32)] : List Int32), rfl, N744, K745, (((E_a1.keep K739c).wr W742).wr W744), (Fw742.other W744 (Or.inr (slot_ne (Or.inr w29) (Or.inr w28) (by decide) (t := .byte) (t' := (.array .byte)) (by decide) (by decide)))), Fw744, ((f739_1.other W742 (Ne.symm ne_a1_bv_739)).other W744 (Ne.symm ne_a1_bv_739)), (Or.inl ⟨rfl, rfl, rfl, hle⟩)⟩
  · --
   show gM T739 39 #[rv a1, rv a2, iv 0, iv 5, .val .null, uN] [(.ref bv_739)]
   refine sT (fun t k => XS.astore X739.here hx rfl (hb hby d10_39) rfl rfl (l' := #[rv a1, rv a2, iv 0, iv 5, .val .null, rv bv_739]) rfl k) ?_
   show gM T739 41 #[rv a1, rv a2, iv 0, iv 5, .val .null, rv bv_739] []
   refine sT (fun t k => XS.aloadN X739.here hx rfl (hb hby d10_41) rfl rfl k) ?_
   show gM T739 42 #[rv a1, rv a2, iv 0, iv 5, .val .null, rv bv_739] [(.ref a1)]
   refine sT (fun t k => XS.aload X739.here hx rfl (hb hby d10_42) rfl rfl k) ?_
   show gM T739 44 #[rv a1, rv a2, iv 0, iv 5, .val .null, rv bv_739] [(.ref bv_739), (.ref a1)]
   refine sT (fun t k => XS.iloadN X739.here hx rfl (hb hby d10_44) rfl k) ?_
   show gM T739 45 #[rv a1, rv a2, iv 0, iv 5, .val .null, rv bv_739] [(.int 5), (.ref bv_739), (.ref a1)]
   obtain ⟨_, _, ⟨T746, L746, k746, n746⟩, -, X746, ⟨Lc746, hQ746, l746, y746, z746⟩, st746⟩ := Jvm.LawKit.callS X739 hx (y := mN9) hown (mvT hZ w64) (mvT hZ w65) (mvT hZ w59) (mvT hZ w66) (by decide) (backOf (W := 1) (own_cf l Z a0 hw [] bv_739 (5 : Int32) ((10 : Int32)) (ys_739) (kb_739) ((1 : Int32)) T739.heap n0 (Nat.le_trans Z0 K739c.1) f739_1 (by decide)) hZ w66 w59 (by decide) (by decide)) (g := (mkF m 45 #[rv a1, rv a2, iv 0, iv 5, .val .null, rv bv_739] [(.int 5), (.ref bv_739), (.ref a1)])) rfl (by rw [hml]; rfl) (argsL := [(.ref bv_739), (.int 5)]) (rest := [(.ref a1)]) (lenOf own_pd7 rfl) rfl (by show 2 * 0 + _ ≤ _; exact Nat.le_of_eq rfl) (hb hby d10_45) (fun _ hWq => ⟨rfl, rfl, (by decide : 2 + 0 ≤ _), (by decide : 15 + 0 ≤ _)⟩)
   dsimp only [Pt.U, Pt.locs, Pt.cells, Pt.slots] at X746 l746 y746 z746 st746 hQ746
   subst y746 z746
   obtain ⟨rfl, N746q, eh746⟩ := hQ746
   have N746 : Fr n0 L746 := by rw [l746]; exact Fr.app N739 N746q
   refine sT st746 ?_
   show gM T746 48 #[rv a1, rv a2, iv 0, iv 5, .val .null, rv bv_739] [(.int 1), (.ref a1)]
   obtain ⟨T747, h747, X747, e747, W747, st747⟩ := putF X746 hx hZ hown (host := "") (Or.inl w33) Via.refl eh746 (F_coder_a1.keep K739c nin0) (E_a1.keep K739c) (Or.inr ⟨w29, rfl, hnm⟩) w13 (ty := .byte) (by decide) rfl rfl (g := (mkF m 48 #[rv a1, rv a2, iv 0, iv 5, .val .null, rv bv_739] [(.int 1), (.ref a1)])) rfl rfl (hb hby d10_48)
   have Fw747 := (F_coder_a1.keep K739c nin0).same W747
   have N747 := Fr.snoc X747 N746 g_a1
   have K748 : Keep h0 h747 [a1] := K740.wr W747 (Or.inl (List.mem_of_getElem? (i := 0) rfl))
   refine sT st747 ?_
   show gM T747 51 #[rv a1, rv a2, iv 0, iv 5, .val .null, rv bv_739] []
   refine sT (fun t k => XS.aloadN X747.here hx rfl (hb hby d10_51) rfl rfl k) ?_
   show gM T747 52 #[rv a1, rv a2, iv 0, iv 5, .val .null, rv bv_739] [(.ref a1)]
   refine sT (fun t k => XS.aload X747.here hx rfl (hb hby d10_52) rfl rfl k) ?_
   show gM T747 54 #[rv a1, rv a2, iv 0, iv 5, .val .null, rv bv_739] [(.ref bv_739), (.ref a1)]
   obtain ⟨T749, h749, X749, e749, W749, st749⟩ := putF X747 hx hZ hown (host := "") (Or.inl w32) Via.refl e747 ((F_value_a1.keep K739c nin0).other W747 (Or.inr (slot_ne (Or.inr w28) (Or.inr w29) (by decide) (t := (.array .byte)) (t' := .byte) (by decide) (by decide)))) ((E_a1.keep K739c).wr W747) (Or.inr ⟨w28, rfl, hnm⟩) w13 (ty := (.array .byte)) (by decide) rfl rfl (g := (mkF m 54 #[rv a1, rv a2, iv 0, iv 5, .val .null, rv bv_739] [(.ref bv_739), (.ref a1)])) rfl rfl (hb hby d10_54)
   have Fw749 := ((F_value_a1.keep K739c nin0).other W747 (Or.inr (slot_ne (Or.inr w28) (Or.inr w29) (by decide) (t := (.array .byte)) (t' := .byte) (by decide) (by decide)))).same W749
   have N749 := Fr.snoc X749 N747 g_a1
   have K750 : Keep h0 h749 [a1] := K748.wr W749 (Or.inl (List.mem_of_getElem? (i := 0) rfl))
   refine sT st749 ?_
   show gM T749 57 #[rv a1, rv a2, iv 0, iv 5, .val .null, rv bv_739] []
   refine own_ret0 X749 hx hlk Bd.returns (hb hby d10_57) ?_ (by decide) (by decide)
   show own_iv5_Q Z a1 a2 cs c0 c1 c2 c3 c4 ka h0 n0 _ T749.heap _
   rw [e749]
   exact ⟨(1 : Int32), bv_739, kb_739, 10, ys_739, rfl, N749, K750, (((E_a1.keep K739c).wr W747).wr W749), (Fw747.other W749 (Or.inr (slot_ne (Or.inr w29) (Or.inr w28) (by decide) (t := .byte) (t' := (.array .byte)) (by decide) (by decide)))), Fw749, ((f739_1.other W747 (Ne.symm ne_a1_bv_739)).other W749 (Ne.symm ne_a1_bv_739)), (Or.inr ⟨rfl, hgt⟩)⟩
theorem own_is5_ef (m : MethodId) (a1 : Addr) (a2 : Addr) : entryFrame m #[(.ref a1), (.ref a2)] 2 = mkF m 0 #[rv a1, rv a2] [] := by first | (simp [entryFrame, mkF, argsToLocals, Value.category]; done) | rfl
def own_is5_Q (Z : State) (a1 : Addr) (a2 : Addr) (cs : Int32) (c0 : Int32) (c1 : Int32) (c2 : Int32) (c3 : Int32) (c4 : Int32) (ka : ClassId) (h0 : Heap) (n0 : Nat) (v : Option Value) (h : Heap) (L : List Loc) : Prop := ∃ cd : Int32, ∃ bv : Addr, ∃ kb : ClassId, ∃ zl : Int32, ∃ ys : List Int32, v = none ∧ Fr n0 L ∧ Keep h0 h [a1] ∧ Exa Z h a1 "java/lang/String" ∧ Fld Z h a1 "java/lang/String" "coder" "B" (.int cd) ∧ Fld Z h a1 "java/lang/String" "value" "[B" (.ref bv) ∧ Arv Z h bv kb .byte zl (ys.map Value.int) (Value.int 0) ∧ ((cd = (0 : Int32) ∧ zl = (5 : Int32) ∧ ys = ([(c0.toInt8.toInt32), (c1.toInt8.toInt32), (c2.toInt8.toInt32), (c3.toInt8.toInt32), (c4.toInt8.toInt32)] : List Int32) ∧ ¬ (255 : Int32) < c0 ∧ ¬ (255 : Int32) < c1 ∧ ¬ (255 : Int32) < c2 ∧ ¬ (255 : Int32) < c3 ∧ ¬ (255 : Int32) < c4) ∨ (cd = (1 : Int32) ∧ ((255 : Int32) < c0 ∨ (255 : Int32) < c1 ∨ (255 : Int32) < c2 ∨ (255 : Int32) < c3 ∨ (255 : Int32) < c4)))
set_option maxRecDepth 65536 in
set_option maxHeartbeats 40000000 in
theorem own_is5 (l : Launch) (Z : State) (a0 : Array Value) (hw : ∀ d ∈ tables_1, d.before a0 Z = true) (ws : List Jvm.Cond) (a1 : Addr) (a2 : Addr) (cs : Int32) (c0 : Int32) (c1 : Int32) (c2 : Int32) (c3 : Int32) (c4 : Int32) (ka : ClassId) (h0 : Heap) (n0 : Nat) (Z0 : n0 ≤ h0.size) (E_a1 : Exa Z h0 a1 "java/lang/String") (g_a1 : n0 ≤ a1) (F_value_a1 : Fld Z h0 a1 "java/lang/String" "value" "[B" .null) (F_coder_a1 : Fld Z h0 a1 "java/lang/String" "coder" "B" (.int 0)) (S__assertionsDisabled : Sta Z Z.heap "java/lang/StringUTF16" "$assertionsDisabled" "Z" (.int 1)) (S_HI_BYTE_SHIFT : Sta Z Z.heap "java/lang/StringUTF16" "HI_BYTE_SHIFT" "I" (.int 0)) (S_LO_BYTE_SHIFT : Sta Z Z.heap "java/lang/StringUTF16" "LO_BYTE_SHIFT" "I" (.int 8)) (Zn : Z.heap.size ≤ n0) (EZ : Ext Z.heap h0) (S_COMPACT_STRINGS : Sta Z Z.heap "java/lang/String" "COMPACT_STRINGS" "Z" (.int cs)) (hcs : ¬ cs = (0 : Int32)) (V_a2 : Arv Z h0 a2 ka .char (5 : Int32) (([c0, c1, c2, c3, c4] : List Int32).map Value.int) (Value.int 0)) (ne_a1_a2 : a1 ≠ a2) (hN0 : nar .char c0 = c0) (hN1 : nar .char c1 = c1) (hN2 : nar .char c2 = c2) (hN3 : nar .char c3 = c3) (hN4 : nar .char c4 = c4) :
    MetFree l mN11 (head1 (Jvm.Cond.code mN11 jdk_42_method_3_code 2 none :: ws) ({ frames := 5, cells := 2, slots := 15, locals := 74 } : Room)) (fun aa U => aa = #[(.ref a1), (.ref a2)] ∧ Z.Warmed39 U.vm ∧ U.heap = h0) (fun _ _ _ _ _ => True) (fun _ U o U' => ∃ v L, o = .returned v ∧ own_is5_Q Z a1 a2 cs c0 c1 c2 c3 c4 ka h0 n0 v U'.heap L ∧ FrameEnd U o U' L ({ frames := 5, cells := 2, slots := 15, locals := 74 } : Room).cells ({ frames := 5, cells := 2, slots := 15, locals := 74 } : Room).slots) := by
  refine MetFree.of_bodySF (plainFor_of_name own_pn2) hisR ?_
  have w14 := wO hw 14 rfl
  have w19 := wO hw 19 rfl
  have w20 := wO hw 20 rfl
  have w22 := wO hw 22 rfl
  intro p e s m args below meth c s₁ Bd hml0 hP hK
  obtain ⟨rfl, hZ, hh⟩ := hP
  have hx := Bd.exec
  have hby := Bd.bytes
  have hlk := Bd.notSynchronized
  have hml : c.maxLocals = 2 := hml0
  have hown : s.vm.findClass "java/lang/String" = some m.cls := findClass_of_methodNamed Bd.named
  have hnm := (name_of_methodNamed Bd.named Bd.method).1
  have X0 : Stand p l e ({ frames := 5, cells := 2, slots := 15, locals := 74 } : Room) s m #[(.ref a1), (.ref a2)] below meth c s₁ [] 0 0 := Stand.of_body Bd
  have e0 : s₁.heap = h0 := by rw [← hh, Bd.state]; rfl
  have N0 := Fr.nil n0
  have K0 : Keep h0 h0 [a1] := Keep.refl h0 _
  have O0 : Old Z Z.heap.size h0 := ⟨rfl, EZ⟩
  show gS p e below (own_Fin s (own_is5_Q Z a1 a2 cs c0 c1 c2 c3 c4 ka h0 n0) ({ frames := 5, cells := 2, slots := 15, locals := 74 } : Room).cells ({ frames := 5, cells := 2, slots := 15, locals := 74 } : Room).slots) _
  refine sT (fun t k => castTop (own_is5_ef m a1 a2) k) ?_
  show gM s₁ 0 #[rv a1, rv a2] []
  refine sT (fun t k => XS.aloadN X0.here hx rfl (hb hby d11_0) rfl rfl k) ?_
  show gM s₁ 1 #[rv a1, rv a2] [(.ref a1)]
  refine sT (fun t k => XS.aloadN X0.here hx rfl (hb hby d11_1) rfl rfl k) ?_
  show gM s₁ 2 #[rv a1, rv a2] [(.ref a2), (.ref a1)]
  refine sT (fun t k => XS.iconst X0.here hx rfl (hb hby d11_2) k) ?_
  show gM s₁ 3 #[rv a1, rv a2] [(.int 0), (.ref a2), (.ref a1)]
  refine sT (fun t k => XS.aloadN X0.here hx rfl (hb hby d11_3) rfl rfl k) ?_
  show gM s₁ 4 #[rv a1, rv a2] [(.ref a2), (.int 0), (.ref a2), (.ref a1)]
  refine sT (fun t k => own_len X0 hx hZ e0 V_a2 (g := (mkF m 4 #[rv a1, rv a2] [(.ref a2), (.int 0), (.ref a2), (.ref a1)])) rfl rfl (hb hby d11_4) _ k) ?_
  show gM s₁ 5 #[rv a1, rv a2] [(.int 5), (.int 0), (.ref a2), (.ref a1)]
  refine sT (fun t k => XS.aconstNull X0.here hx rfl (hb hby d11_5) k) ?_
  show gM s₁ 6 #[rv a1, rv a2] [.null, (.int 5), (.int 0), (.ref a2), (.ref a1)]
  obtain ⟨_, _, ⟨T753, L753, k753, n753⟩, -, X753, ⟨Lc753, hQ753, l753, y753, z753⟩, st753⟩ := X0.specialBack hx (y := mN10) rfl hown (mvT hZ w19) (mvT hZ w20) (mvT hZ w22) (by decide) (backOf (W := 0) (own_iv5 l Z a0 hw [] a1 a2 (cs) (c0) (c1) (c2) (c3) (c4) (ka) h0 n0 Z0 E_a1 g_a1 F_value_a1 F_coder_a1 S__assertionsDisabled S_HI_BYTE_SHIFT S_LO_BYTE_SHIFT Zn O0.2 S_COMPACT_STRINGS hcs V_a2 ne_a1_a2 hN0 hN1 hN2 hN3 hN4) hZ w22 w14 (by decide) (by decide)) (g := (mkF m 6 #[rv a1, rv a2] [.null, (.int 5), (.int 0), (.ref a2), (.ref a1)])) rfl (by rw [hml]; rfl) (Steps.refl _) (a := a1) (argsL := [(.ref a2), (.int 0), (.int 5), .null]) (rest := []) (lenOf own_pd8 rfl) rfl (by show 2 * 0 + _ ≤ _; exact Nat.le_of_eq rfl) (hb hby d11_6) (fun _ hWq => ⟨rfl, e0, (by decide : 0 + 2 ≤ _), (by decide : 0 + 15 ≤ _)⟩)
  dsimp only [Pt.U, Pt.locs, Pt.cells, Pt.slots] at X753 l753 y753 z753 st753 hQ753
  subst y753 z753
  obtain ⟨cd_753, bv_753, kb_753, zl_753, ys_753, rfl, N753q, K753c, f753_0, f753_1, f753_2, f753_3, f753_4⟩ := hQ753
  have N753 : Fr n0 L753 := by rw [l753]; exact Fr.app N0 N753q
  refine own_jump st753 ?_
  have K754 : Keep h0 T753.heap [a1] := K0.trans K753c (allS (Or.inl (List.mem_of_getElem? (i := 0) rfl)) all0)
  show gM T753 9 #[rv a1, rv a2] []
  refine own_ret0 X753 hx hlk Bd.returns (hb hby d11_9) ?_ (by decide) (by decide)
  show own_is5_Q Z a1 a2 cs c0 c1 c2 c3 c4 ka h0 n0 _ T753.heap _
  exact ⟨cd_753, bv_753, kb_753, zl_753, ys_753, rfl, N753, K754, f753_0, f753_1, f753_2, f753_3, f753_4⟩
theorem d12_120 : decode method_4_code 120 = .ok (.new 13, 3) := by decide +kernel
theorem d12_123 : decode method_4_code 123 = .ok (.dup, 1) := by decide +kernel
theorem d12_124 : decode method_4_code 124 = .ok (.iconst 5, 1) := by decide +kernel
theorem d12_125 : decode method_4_code 125 = .ok (.newarray .char, 2) := by decide +kernel
theorem d12_127 : decode method_4_code 127 = .ok (.dup, 1) := by decide +kernel
theorem d12_128 : decode method_4_code 128 = .ok (.iconst 0, 1) := by decide +kernel
theorem d12_129 : decode method_4_code 129 = .ok (.iload_n 1, 1) := by decide +kernel
theorem d12_130 : decode method_4_code 130 = .ok (.castore, 1) := by decide +kernel
theorem d12_131 : decode method_4_code 131 = .ok (.dup, 1) := by decide +kernel
theorem d12_132 : decode method_4_code 132 = .ok (.iconst 1, 1) := by decide +kernel
theorem d12_133 : decode method_4_code 133 = .ok (.iload_n 2, 1) := by decide +kernel
theorem d12_134 : decode method_4_code 134 = .ok (.castore, 1) := by decide +kernel
theorem d12_135 : decode method_4_code 135 = .ok (.dup, 1) := by decide +kernel
theorem d12_136 : decode method_4_code 136 = .ok (.iconst 2, 1) := by decide +kernel
theorem d12_137 : decode method_4_code 137 = .ok (.iload_n 3, 1) := by decide +kernel
theorem d12_138 : decode method_4_code 138 = .ok (.castore, 1) := by decide +kernel
theorem d12_139 : decode method_4_code 139 = .ok (.dup, 1) := by decide +kernel
theorem d12_140 : decode method_4_code 140 = .ok (.iconst 3, 1) := by decide +kernel
theorem d12_141 : decode method_4_code 141 = .ok (.iload 4, 2) := by decide +kernel
theorem d12_143 : decode method_4_code 143 = .ok (.castore, 1) := by decide +kernel
theorem d12_144 : decode method_4_code 144 = .ok (.dup, 1) := by decide +kernel
theorem d12_145 : decode method_4_code 145 = .ok (.iconst 4, 1) := by decide +kernel
theorem d12_146 : decode method_4_code 146 = .ok (.iload 5, 2) := by decide +kernel
theorem d12_148 : decode method_4_code 148 = .ok (.castore, 1) := by decide +kernel
theorem d12_149 : decode method_4_code 149 = .ok (.invokespecial 15, 3) := by decide +kernel
theorem d12_152 : decode method_4_code 152 = .ok (.areturn, 1) := by decide +kernel
theorem own_st5_ef (m : MethodId) (c0 : Int32) (c1 : Int32) (c2 : Int32) (c3 : Int32) (c4 : Int32) : entryFrame m #[(.int 5), (.int c0), (.int c1), (.int c2), (.int c3), (.int c4)] 6 = mkF m 0 #[iv 5, iv c0, iv c1, iv c2, iv c3, iv c4] [] := by first | (simp [entryFrame, mkF, argsToLocals, Value.category]; done) | rfl
def own_st5_Q (Z : State) (c0 : Int32) (c1 : Int32) (c2 : Int32) (c3 : Int32) (c4 : Int32) (cs : Int32) (h0 : Heap) (n0 : Nat) (v : Option Value) (h : Heap) (L : List Loc) : Prop := ∃ x : Addr, ∃ cd : Int32, ∃ bv : Addr, ∃ kb : ClassId, ∃ zl : Int32, ∃ ys : List Int32, v = some (.ref x) ∧ Fr n0 L ∧ Keep h0 h [] ∧ Exa Z h x "java/lang/String" ∧ Fld Z h x "java/lang/String" "coder" "B" (.int cd) ∧ Fld Z h x "java/lang/String" "value" "[B" (.ref bv) ∧ Arv Z h bv kb .byte zl (ys.map Value.int) (Value.int 0) ∧ ((cd = (0 : Int32) ∧ zl = (5 : Int32) ∧ ys = ([(c0.toInt8.toInt32), (c1.toInt8.toInt32), (c2.toInt8.toInt32), (c3.toInt8.toInt32), (c4.toInt8.toInt32)] : List Int32) ∧ ¬ (255 : Int32) < c0 ∧ ¬ (255 : Int32) < c1 ∧ ¬ (255 : Int32) < c2 ∧ ¬ (255 : Int32) < c3 ∧ ¬ (255 : Int32) < c4) ∨ (cd = (1 : Int32) ∧ ((255 : Int32) < c0 ∨ (255 : Int32) < c1 ∨ (255 : Int32) < c2 ∨ (255 : Int32) < c3 ∨ (255 : Int32) < c4)))
set_option maxRecDepth 65536 in
set_option maxHeartbeats 40000000 in
theorem own_st5 (l : Launch) (Z : State) (a0 : Array Value) (hw : ∀ d ∈ tables_1, d.before a0 Z = true) (ws : List Jvm.Cond) (c0 : Int32) (c1 : Int32) (c2 : Int32) (c3 : Int32) (c4 : Int32) (cs : Int32) (h0 : Heap) (n0 : Nat) (Z0 : n0 ≤ h0.size) (S__assertionsDisabled : Sta Z Z.heap "java/lang/StringUTF16" "$assertionsDisabled" "Z" (.int 1)) (S_HI_BYTE_SHIFT : Sta Z Z.heap "java/lang/StringUTF16" "HI_BYTE_SHIFT" "I" (.int 0)) (S_LO_BYTE_SHIFT : Sta Z Z.heap "java/lang/StringUTF16" "LO_BYTE_SHIFT" "I" (.int 8)) (Zn : Z.heap.size ≤ n0) (EZ : Ext Z.heap h0) (S_COMPACT_STRINGS : Sta Z Z.heap "java/lang/String" "COMPACT_STRINGS" "Z" (.int cs)) (hcs : ¬ cs = (0 : Int32)) (hN0 : nar .char c0 = c0) (hN1 : nar .char c1 = c1) (hN2 : nar .char c2 = c2) (hN3 : nar .char c3 = c3) (hN4 : nar .char c4 = c4) :
    MetFree l mN12 (head1 (Jvm.Cond.code mN12 method_4_code 6 (some (.object "java/lang/String")) :: ws) ({ frames := 6, cells := 4, slots := 24, locals := 88 } : Room)) (fun aa U => aa = #[(.int 5), (.int c0), (.int c1), (.int c2), (.int c3), (.int c4)] ∧ Z.Warmed39 U.vm ∧ U.heap = h0) (fun _ _ _ _ _ => True) (fun _ U o U' => ∃ v L, o = .returned v ∧ own_st5_Q Z c0 c1 c2 c3 c4 cs h0 n0 v U'.heap L ∧ FrameEnd U o U' L ({ frames := 6, cells := 4, slots := 24, locals := 88 } : Room).cells ({ frames := 6, cells := 4, slots := 24, locals := 88 } : Room).slots) := by
  refine MetFree.of_bodySF (plainFor_of_name own_pn0) hisR ?_
  have w12 := wO hw 12 rfl
  have w13 := wO hw 13 rfl
  have w14 := wO hw 14 rfl
  have w15 := wO hw 15 rfl
  have w16 := wO hw 16 rfl
  have w17 := wO hw 17 rfl
  have w18 := wO hw 18 rfl
  have w28 := wO hw 28 rfl
  have w29 := wO hw 29 rfl
  intro p e s m args below meth c s₁ Bd hml0 hP hK
  obtain ⟨rfl, hZ, hh⟩ := hP
  have hx := Bd.exec
  have hby := Bd.bytes
  have hlk := Bd.notSynchronized
  have hml : c.maxLocals = 6 := hml0
  have hown : s.vm.findClass "com/example/noctule/noctule/server/TokenScopeTakesPinLaw" = some m.cls := findClass_of_methodNamed Bd.named
  have hnm := (name_of_methodNamed Bd.named Bd.method).1
  have X0 : Stand p l e ({ frames := 6, cells := 4, slots := 24, locals := 88 } : Room) s m #[(.int 5), (.int c0), (.int c1), (.int c2), (.int c3), (.int c4)] below meth c s₁ [] 0 0 := Stand.of_body Bd
  have e0 : s₁.heap = h0 := by rw [← hh, Bd.state]; rfl
  have N0 := Fr.nil n0
  have K0 : Keep h0 h0 [] := Keep.refl h0 _
  have O0 : Old Z Z.heap.size h0 := ⟨rfl, EZ⟩
  show gS p e below (own_Fin s (own_st5_Q Z c0 c1 c2 c3 c4 cs h0 n0) ({ frames := 6, cells := 4, slots := 24, locals := 88 } : Room).cells ({ frames := 6, cells := 4, slots := 24, locals := 88 } : Room).slots) _
  refine sT (fun t k => castTop (own_st5_ef m c0 c1 c2 c3 c4) k) ?_
  show gM s₁ 0 #[iv 5, iv c0, iv c1, iv c2, iv c3, iv c4] []
  refine sT (fun t k => XS.iloadN X0.here hx rfl (hb hby d12_0) rfl k) ?_
  show gM s₁ 1 #[iv 5, iv c0, iv c1, iv c2, iv c3, iv c4] [(.int 5)]
  have hc776 : ¬ ((5 : Int32) = (0 : Int32)) := by decide
  refine sT (fun t k => XS.ifYes X0.here hx rfl (pc0 := 1) (pc' := 15) rfl (hb hby d12_1) rfl ((if0 _ _).trans (feq hc776).2) (by decide) (by decide) k) ?_
  show gM s₁ 15 #[iv 5, iv c0, iv c1, iv c2, iv c3, iv c4] []
  refine sT (fun t k => XS.iloadN X0.here hx rfl (hb hby d12_15) rfl k) ?_
  show gM s₁ 16 #[iv 5, iv c0, iv c1, iv c2, iv c3, iv c4] [(.int 5)]
  refine sT (fun t k => XS.iconst X0.here hx rfl (hb hby d12_16) k) ?_
  show gM s₁ 17 #[iv 5, iv c0, iv c1, iv c2, iv c3, iv c4] [(.int 1), (.int 5)]
  have hc777 : ¬ ((5 : Int32) = (1 : Int32)) := by decide
  refine sT (fun t k => XS.icmpYes X0.here hx rfl (pc0 := 17) (pc' := 35) rfl (hb hby d12_17) rfl (feq hc777).2 (by decide) (by decide) k) ?_
  show gM s₁ 35 #[iv 5, iv c0, iv c1, iv c2, iv c3, iv c4] []
  refine sT (fun t k => XS.iloadN X0.here hx rfl (hb hby d12_35) rfl k) ?_
  show gM s₁ 36 #[iv 5, iv c0, iv c1, iv c2, iv c3, iv c4] [(.int 5)]
  refine sT (fun t k => XS.iconst X0.here hx rfl (hb hby d12_36) k) ?_
  show gM s₁ 37 #[iv 5, iv c0, iv c1, iv c2, iv c3, iv c4] [(.int 2), (.int 5)]
  have hc778 : ¬ ((5 : Int32) = (2 : Int32)) := by decide
  refine sT (fun t k => XS.icmpYes X0.here hx rfl (pc0 := 37) (pc' := 59) rfl (hb hby d12_37) rfl (feq hc778).2 (by decide) (by decide) k) ?_
  show gM s₁ 59 #[iv 5, iv c0, iv c1, iv c2, iv c3, iv c4] []
  refine sT (fun t k => XS.iloadN X0.here hx rfl (hb hby d12_59) rfl k) ?_
  show gM s₁ 60 #[iv 5, iv c0, iv c1, iv c2, iv c3, iv c4] [(.int 5)]
  refine sT (fun t k => XS.iconst X0.here hx rfl (hb hby d12_60) k) ?_
  show gM s₁ 61 #[iv 5, iv c0, iv c1, iv c2, iv c3, iv c4] [(.int 3), (.int 5)]
  have hc779 : ¬ ((5 : Int32) = (3 : Int32)) := by decide
  refine sT (fun t k => XS.icmpYes X0.here hx rfl (pc0 := 61) (pc' := 87) rfl (hb hby d12_61) rfl (feq hc779).2 (by decide) (by decide) k) ?_
  show gM s₁ 87 #[iv 5, iv c0, iv c1, iv c2, iv c3, iv c4] []
  refine sT (fun t k => XS.iloadN X0.here hx rfl (hb hby d12_87) rfl k) ?_
  show gM s₁ 88 #[iv 5, iv c0, iv c1, iv c2, iv c3, iv c4] [(.int 5)]
  refine sT (fun t k => XS.iconst X0.here hx rfl (hb hby d12_88) k) ?_
  show gM s₁ 89 #[iv 5, iv c0, iv c1, iv c2, iv c3, iv c4] [(.int 4), (.int 5)]
  have hc780 : ¬ ((5 : Int32) = (4 : Int32)) := by decide
  refine sT (fun t k => XS.icmpYes X0.here hx rfl (pc0 := 89) (pc' := 120) rfl (hb hby d12_89) rfl (feq hc780).2 (by decide) (by decide) k) ?_
  show gM s₁ 120 #[iv 5, iv c0, iv c1, iv c2, iv c3, iv c4] []
  obtain ⟨T781, h781, X781, e781, E781, A781, D781, -, st781⟩ := newO X0 hx hZ hown w12 w13 w14 e0 (g := (mkF m 120 #[iv 5, iv c0, iv c1, iv c2, iv c3, iv c4] [])) rfl (hb hby d12_120) (by decide) (by decide)
  obtain ⟨b781, g781⟩ : ∃ z, z = h0.size := ⟨_, rfl⟩
  rw [← g781] at A781 D781 st781
  have g_b781 : n0 ≤ b781 := Nat.le_trans Z0 (Nat.le_of_eq g781.symm)
  have sz_b781 : h0.size ≤ b781 := Nat.le_trans K0.1 (Nat.le_of_eq g781.symm)
  have K782 : Keep h0 h781 [] := K0.ext E781
  have F_value_b781 : Fld Z h781 b781 "java/lang/String" "value" "[B" .null := D781 (Or.inr w28) (ty := (.array .byte)) (by decide)
  have F_coder_b781 : Fld Z h781 b781 "java/lang/String" "coder" "B" (.int 0) := D781 (Or.inr w29) (ty := .byte) (by decide)
  refine sT st781 ?_
  show gM T781 123 #[iv 5, iv c0, iv c1, iv c2, iv c3, iv c4] [(.ref b781)]
  refine sT (fun t k => XS.dup X781.here hx rfl (hb hby d12_123) rfl rfl k) ?_
  show gM T781 124 #[iv 5, iv c0, iv c1, iv c2, iv c3, iv c4] [(.ref b781), (.ref b781)]
  refine sT (fun t k => XS.iconst X781.here hx rfl (hb hby d12_124) k) ?_
  show gM T781 125 #[iv 5, iv c0, iv c1, iv c2, iv c3, iv c4] [(.int 5), (.ref b781), (.ref b781)]
  obtain ⟨T783, h783, k783, X783, e783, E783, A783, st783⟩ := newP (aty := .char) X781 hx hZ w15 e781 (g := (mkF m 125 #[iv 5, iv c0, iv c1, iv c2, iv c3, iv c4] [(.int 5), (.ref b781), (.ref b781)])) rfl (hb hby d12_125) rfl (by decide) (cap := 5) (by decide) (by decide) (by decide) (by decide)
  obtain ⟨b783, g783⟩ : ∃ z, z = h781.size := ⟨_, rfl⟩
  rw [← g783] at A783 st783
  have ne_b781_b783 : b781 ≠ b783 := Nat.ne_of_lt (Nat.lt_of_lt_of_le A781.lt (Nat.le_of_eq g783.symm))
  have g_b783 : n0 ≤ b783 := Nat.le_trans (Nat.le_trans Z0 E781.1) (Nat.le_of_eq g783.symm)
  have sz_b783 : h0.size ≤ b783 := Nat.le_trans K782.1 (Nat.le_of_eq g783.symm)
  have V783 : Arv Z h783 b783 k783 .char (5 : Int32) (([0, 0, 0, 0, 0] : List Int32).map Value.int) (Value.int 0) := own_newC A783 (by decide) 5
  have K784 : Keep h0 h783 [] := K782.ext E783
  refine sT st783 ?_
  show gM T783 127 #[iv 5, iv c0, iv c1, iv c2, iv c3, iv c4] [(.ref b783), (.ref b781), (.ref b781)]
  refine sT (fun t k => XS.dup X783.here hx rfl (hb hby d12_127) rfl rfl k) ?_
  show gM T783 128 #[iv 5, iv c0, iv c1, iv c2, iv c3, iv c4] [(.ref b783), (.ref b783), (.ref b781), (.ref b781)]
  refine sT (fun t k => XS.iconst X783.here hx rfl (hb hby d12_128) k) ?_
  show gM T783 129 #[iv 5, iv c0, iv c1, iv c2, iv c3, iv c4] [(.int 0), (.ref b783), (.ref b783), (.ref b781), (.ref b781)]
  refine sT (fun t k => XS.iloadN X783.here hx rfl (hb hby d12_129) rfl k) ?_
  show gM T783 130 #[iv 5, iv c0, iv c1, iv c2, iv c3, iv c4] [(.int c0), (.int 0), (.ref b783), (.ref b783), (.ref b781), (.ref b781)]
  obtain ⟨T785, h785, X785, e785, W785, V785, st785⟩ := own_cst X783 hx hZ e783 V783 (j := (0 : Int32)) hN0 ⟨by decide, by decide⟩ (0) rfl (Nat.le_of_ble_eq_true rfl) (g := (mkF m 130 #[iv 5, iv c0, iv c1, iv c2, iv c3, iv c4] [(.int c0), (.int 0), (.ref b783), (.ref b783), (.ref b781), (.ref b781)])) rfl rfl (hb hby d12_130)
  have V785 : Arv Z h785 b783 k783 .char (5 : Int32) (([c0, 0, 0, 0, 0] : List Int32).map Value.int) (Value.int 0) := V785
  have N785 := Fr.snoc X785 N0 g_b783
  have K786 : Keep h0 h785 [] := K784.wr W785 (Or.inr sz_b783)
  refine sT st785 ?_
  show gM T785 131 #[iv 5, iv c0, iv c1, iv c2, iv c3, iv c4] [(.ref b783), (.ref b781), (.ref b781)]
  refine sT (fun t k => XS.dup X785.here hx rfl (hb hby d12_131) rfl rfl k) ?_
  show gM T785 132 #[iv 5, iv c0, iv c1, iv c2, iv c3, iv c4] [(.ref b783), (.ref b783), (.ref b781), (.ref b781)]
  refine sT (fun t k => XS.iconst X785.here hx rfl (hb hby d12_132) k) ?_
  show gM T785 133 #[iv 5, iv c0, iv c1, iv c2, iv c3, iv c4] [(.int 1), (.ref b783), (.ref b783), (.ref b781), (.ref b781)]
  refine sT (fun t k => XS.iloadN X785.here hx rfl (hb hby d12_133) rfl k) ?_
  show gM T785 134 #[iv 5, iv c0, iv c1, iv c2, iv c3, iv c4] [(.int c1), (.int 1), (.ref b783), (.ref b783), (.ref b781), (.ref b781)]
  obtain ⟨T787, h787, X787, e787, W787, V787, st787⟩ := own_cst X785 hx hZ e785 V785 (j := (1 : Int32)) hN1 ⟨by decide, by decide⟩ (1) rfl (Nat.le_of_ble_eq_true rfl) (g := (mkF m 134 #[iv 5, iv c0, iv c1, iv c2, iv c3, iv c4] [(.int c1), (.int 1), (.ref b783), (.ref b783), (.ref b781), (.ref b781)])) rfl rfl (hb hby d12_134)
  have V787 : Arv Z h787 b783 k783 .char (5 : Int32) (([c0, c1, 0, 0, 0] : List Int32).map Value.int) (Value.int 0) := V787
  have N787 := Fr.snoc X787 N785 g_b783
  have K788 : Keep h0 h787 [] := K786.wr W787 (Or.inr sz_b783)
  refine sT st787 ?_
  show gM T787 135 #[iv 5, iv c0, iv c1, iv c2, iv c3, iv c4] [(.ref b783), (.ref b781), (.ref b781)]
  refine sT (fun t k => XS.dup X787.here hx rfl (hb hby d12_135) rfl rfl k) ?_
  show gM T787 136 #[iv 5, iv c0, iv c1, iv c2, iv c3, iv c4] [(.ref b783), (.ref b783), (.ref b781), (.ref b781)]
  refine sT (fun t k => XS.iconst X787.here hx rfl (hb hby d12_136) k) ?_
  show gM T787 137 #[iv 5, iv c0, iv c1, iv c2, iv c3, iv c4] [(.int 2), (.ref b783), (.ref b783), (.ref b781), (.ref b781)]
  refine sT (fun t k => XS.iloadN X787.here hx rfl (hb hby d12_137) rfl k) ?_
  show gM T787 138 #[iv 5, iv c0, iv c1, iv c2, iv c3, iv c4] [(.int c2), (.int 2), (.ref b783), (.ref b783), (.ref b781), (.ref b781)]
  obtain ⟨T789, h789, X789, e789, W789, V789, st789⟩ := own_cst X787 hx hZ e787 V787 (j := (2 : Int32)) hN2 ⟨by decide, by decide⟩ (2) rfl (Nat.le_of_ble_eq_true rfl) (g := (mkF m 138 #[iv 5, iv c0, iv c1, iv c2, iv c3, iv c4] [(.int c2), (.int 2), (.ref b783), (.ref b783), (.ref b781), (.ref b781)])) rfl rfl (hb hby d12_138)
  have V789 : Arv Z h789 b783 k783 .char (5 : Int32) (([c0, c1, c2, 0, 0] : List Int32).map Value.int) (Value.int 0) := V789
  have N789 := Fr.snoc X789 N787 g_b783
  have K790 : Keep h0 h789 [] := K788.wr W789 (Or.inr sz_b783)
  refine sT st789 ?_
  show gM T789 139 #[iv 5, iv c0, iv c1, iv c2, iv c3, iv c4] [(.ref b783), (.ref b781), (.ref b781)]
  refine sT (fun t k => XS.dup X789.here hx rfl (hb hby d12_139) rfl rfl k) ?_
  show gM T789 140 #[iv 5, iv c0, iv c1, iv c2, iv c3, iv c4] [(.ref b783), (.ref b783), (.ref b781), (.ref b781)]
  refine sT (fun t k => XS.iconst X789.here hx rfl (hb hby d12_140) k) ?_
  show gM T789 141 #[iv 5, iv c0, iv c1, iv c2, iv c3, iv c4] [(.int 3), (.ref b783), (.ref b783), (.ref b781), (.ref b781)]
  refine sT (fun t k => XS.iload X789.here hx rfl (hb hby d12_141) rfl k) ?_
  show gM T789 143 #[iv 5, iv c0, iv c1, iv c2, iv c3, iv c4] [(.int c3), (.int 3), (.ref b783), (.ref b783), (.ref b781), (.ref b781)]
  obtain ⟨T791, h791, X791, e791, W791, V791, st791⟩ := own_cst X789 hx hZ e789 V789 (j := (3 : Int32)) hN3 ⟨by decide, by decide⟩ (3) rfl (Nat.le_of_ble_eq_true rfl) (g := (mkF m 143 #[iv 5, iv c0, iv c1, iv c2, iv c3, iv c4] [(.int c3), (.int 3), (.ref b783), (.ref b783), (.ref b781), (.ref b781)])) rfl rfl (hb hby d12_143)
  have V791 : Arv Z h791 b783 k783 .char (5 : Int32) (([c0, c1, c2, c3, 0] : List Int32).map Value.int) (Value.int 0) := V791
  have N791 := Fr.snoc X791 N789 g_b783
  have K792 : Keep h0 h791 [] := K790.wr W791 (Or.inr sz_b783)
  refine sT st791 ?_
  show gM T791 144 #[iv 5, iv c0, iv c1, iv c2, iv c3, iv c4] [(.ref b783), (.ref b781), (.ref b781)]
  refine sT (fun t k => XS.dup X791.here hx rfl (hb hby d12_144) rfl rfl k) ?_
  show gM T791 145 #[iv 5, iv c0, iv c1, iv c2, iv c3, iv c4] [(.ref b783), (.ref b783), (.ref b781), (.ref b781)]
  refine sT (fun t k => XS.iconst X791.here hx rfl (hb hby d12_145) k) ?_
  show gM T791 146 #[iv 5, iv c0, iv c1, iv c2, iv c3, iv c4] [(.int 4), (.ref b783), (.ref b783), (.ref b781), (.ref b781)]
  refine sT (fun t k => XS.iload X791.here hx rfl (hb hby d12_146) rfl k) ?_
  show gM T791 148 #[iv 5, iv c0, iv c1, iv c2, iv c3, iv c4] [(.int c4), (.int 4), (.ref b783), (.ref b783), (.ref b781), (.ref b781)]
  obtain ⟨T793, h793, X793, e793, W793, V793, st793⟩ := own_cst X791 hx hZ e791 V791 (j := (4 : Int32)) hN4 ⟨by decide, by decide⟩ (4) rfl (Nat.le_of_ble_eq_true rfl) (g := (mkF m 148 #[iv 5, iv c0, iv c1, iv c2, iv c3, iv c4] [(.int c4), (.int 4), (.ref b783), (.ref b783), (.ref b781), (.ref b781)])) rfl rfl (hb hby d12_148)
  have V793 : Arv Z h793 b783 k783 .char (5 : Int32) (([c0, c1, c2, c3, c4] : List Int32).map Value.int) (Value.int 0) := V793
  have N793 := Fr.snoc X793 N791 g_b783
  have K794 : Keep h0 h793 [] := K792.wr W793 (Or.inr sz_b783)
  refine sT st793 ?_
  show gM T793 149 #[iv 5, iv c0, iv c1, iv c2, iv c3, iv c4] [(.ref b783), (.ref b781), (.ref b781)]
  obtain ⟨_, _, ⟨T795, L795, k795, n795⟩, -, X795, ⟨Lc795, hQ795, l795, y795, z795⟩, st795⟩ := X793.specialBack hx (y := mN11) rfl hown (mvT hZ w16) (mvT hZ w17) (mvT hZ w18) (by decide) (backOf (W := 1) (own_is5 l Z a0 hw [] b781 b783 (cs) (c0) (c1) (c2) (c3) (c4) (k783) h793 n0 (Nat.le_trans (Nat.le_trans (Nat.le_trans (Nat.le_trans (Nat.le_trans (Nat.le_trans (Nat.le_trans Z0 E781.1) E783.1) (Keep.of_wr W785).1) (Keep.of_wr W787).1) (Keep.of_wr W789).1) (Keep.of_wr W791).1) (Keep.of_wr W793).1) ((((((A781.ext E783).wr W785).wr W787).wr W789).wr W791).wr W793) g_b781 ((((((F_value_b781.ext E783).other W785 (Or.inl ne_b781_b783)).other W787 (Or.inl ne_b781_b783)).other W789 (Or.inl ne_b781_b783)).other W791 (Or.inl ne_b781_b783)).other W793 (Or.inl ne_b781_b783)) ((((((F_coder_b781.ext E783).other W785 (Or.inl ne_b781_b783)).other W787 (Or.inl ne_b781_b783)).other W789 (Or.inl ne_b781_b783)).other W791 (Or.inl ne_b781_b783)).other W793 (Or.inl ne_b781_b783)) S__assertionsDisabled S_HI_BYTE_SHIFT S_LO_BYTE_SHIFT Zn (((((((O0.ext E781).ext E783).wr W785 (Nat.le_trans Zn g_b783)).wr W787 (Nat.le_trans Zn g_b783)).wr W789 (Nat.le_trans Zn g_b783)).wr W791 (Nat.le_trans Zn g_b783)).wr W793 (Nat.le_trans Zn g_b783)).2 S_COMPACT_STRINGS hcs V793 ne_b781_b783 hN0 hN1 hN2 hN3 hN4) hZ w18 w14 (by decide) (by decide)) (g := (mkF m 149 #[iv 5, iv c0, iv c1, iv c2, iv c3, iv c4] [(.ref b783), (.ref b781), (.ref b781)])) rfl (by rw [hml]; rfl) (Steps.refl _) (a := b781) (argsL := [(.ref b783)]) (rest := [(.ref b781)]) (lenOf own_pd9 rfl) rfl (by show 2 * 0 + _ ≤ _; exact Nat.le_of_eq rfl) (hb hby d12_149) (fun _ hWq => ⟨rfl, e793, (by decide : 2 + 2 ≤ _), (by decide : 9 + 15 ≤ _)⟩)
  dsimp only [Pt.U, Pt.locs, Pt.cells, Pt.slots] at X795 l795 y795 z795 st795 hQ795
  subst y795 z795
  obtain ⟨cd_795, bv_795, kb_795, zl_795, ys_795, rfl, N795q, K795c, f795_0, f795_1, f795_2, f795_3, f795_4⟩ := hQ795
  have N795 : Fr n0 L795 := by rw [l795]; exact Fr.app N793 N795q
  refine own_jump st795 ?_
  have K796 : Keep h0 T795.heap [] := K794.trans K795c (allS (Or.inr sz_b781) all0)
  show gM T795 152 #[iv 5, iv c0, iv c1, iv c2, iv c3, iv c4] [(.ref b781)]
  refine own_retV X795 hx hlk Bd.returns (w := (.ref b781)) rfl (Or.inr (Or.inr (Or.inr (Or.inr ⟨rfl, rfl, rfl⟩)))) (hb hby d12_152) ?_ (by decide) (by decide)
  show own_st5_Q Z c0 c1 c2 c3 c4 cs h0 n0 _ T795.heap _
  exact ⟨b781, cd_795, bv_795, kb_795, zl_795, ys_795, rfl, N795, K796, f795_0, f795_1, f795_2, f795_3, f795_4⟩
theorem d10_8 : decode jdk_42_method_149_code 8 = .ok (.aload_n 0, 1) := by decide +kernel
theorem d10_9 : decode jdk_42_method_149_code 9 = .ok (.ldc 7, 2) := by decide +kernel
theorem d10_11 : decode jdk_42_method_149_code 11 = .ok (.getfield 9, 3) := by decide +kernel
theorem d10_14 : decode jdk_42_method_149_code 14 = .ok (.putfield 9, 3) := by decide +kernel
theorem d10_17 : decode jdk_42_method_149_code 17 = .ok (.aload_n 0, 1) := by decide +kernel
theorem d10_18 : decode jdk_42_method_149_code 18 = .ok (.ldc 7, 2) := by decide +kernel
theorem d10_20 : decode jdk_42_method_149_code 20 = .ok (.getfield 15, 3) := by decide +kernel
theorem d10_23 : decode jdk_42_method_149_code 23 = .ok (.putfield 15, 3) := by decide +kernel
theorem d10_26 : decode jdk_42_method_149_code 26 = .ok (.return_, 1) := by decide +kernel
theorem own_iv0_ef (m : MethodId) (a1 : Addr) (a2 : Addr) : entryFrame m #[(.ref a1), (.ref a2), (.int 0), (.int 0), .null] 6 = mkF m 0 #[rv a1, rv a2, iv 0, iv 0, .val .null, uN] [] := by first | (simp [entryFrame, mkF, argsToLocals, Value.category]; done) | rfl
def own_iv0_Q (Z : State) (a1 : Addr) (a2 : Addr) (Ts : List String) (h0 : Heap) (n0 : Nat) (v : Option Value) (h : Heap) (L : List Loc) : Prop := ∃ bv : Addr, ∃ kb : ClassId, v = none ∧ Fr n0 L ∧ Keep h0 h [a1] ∧ Exa Z h a1 "java/lang/String" ∧ Fld Z h a1 "java/lang/String" "coder" "B" (.int 0) ∧ Fld Z h a1 "java/lang/String" "value" "[B" (.ref bv) ∧ Arv Z h bv kb .byte (0 : Int32) (([] : List Int32).map Value.int) (Value.int 0)
set_option maxRecDepth 65536 in
set_option maxHeartbeats 40000000 in
theorem own_iv0 (l : Launch) (Z : State) (a0 : Array Value) (hw : ∀ d ∈ tables_1, d.before a0 Z = true) (ws : List Jvm.Cond) (a1 : Addr) (a2 : Addr) (Ts : List String) (h0 : Heap) (n0 : Nat) (Z0 : n0 ≤ h0.size) (E_a1 : Exa Z h0 a1 "java/lang/String") (g_a1 : n0 ≤ a1) (F_value_a1 : Fld Z h0 a1 "java/lang/String" "value" "[B" .null) (F_coder_a1 : Fld Z h0 a1 "java/lang/String" "coder" "B" (.int 0)) (Zn : Z.heap.size ≤ n0) (EZ : Ext Z.heap h0) (hk7 : Jvm.Lit.constHeld Z "java/lang/String" 7) (hcw : Jvm.Lit.compactW.before a0 Z = true) (hnot_E : "" ∉ Ts) :
    MetFree l mN10 (head1 (Jvm.Cond.code mN10 jdk_42_method_149_code 6 none :: ws) ({ frames := 1, cells := 2, slots := 4, locals := 12 } : Room)) (fun aa U => aa = #[(.ref a1), (.ref a2), (.int 0), (.int 0), .null] ∧ Z.Warmed39 U.vm ∧ U.heap = h0 ∧ IB Z U.vm Ts) (fun _ _ _ _ _ => True) (fun _ U o U' => ∃ v L, o = .returned v ∧ own_iv0_Q Z a1 a2 Ts h0 n0 v U'.heap L ∧ IB Z U'.vm ("" :: Ts) ∧ ReturnedEndW U o U' L ({ frames := 1, cells := 2, slots := 4, locals := 12 } : Room).cells ({ frames := 1, cells := 2, slots := 4, locals := 12 } : Room).slots) := by
  refine MetFree.of_bodySF (plainFor_of_name own_pn2) hisR ?_
  have w13 := wO hw 13 rfl
  have w23 := wO hw 23 rfl
  have w24 := wO hw 24 rfl
  have w25 := wO hw 25 rfl
  have w26 := wO hw 26 rfl
  have w28 := wO hw 28 rfl
  have w29 := wO hw 29 rfl
  have w32 := wO hw 32 rfl
  have w33 := wO hw 33 rfl
  intro p e s m args below meth c s₁ Bd hml0 hP hK
  obtain ⟨rfl, hZ, hh, hI0⟩ := hP
  have hx := Bd.exec
  have hby := Bd.bytes
  have hlk := Bd.notSynchronized
  have hml : c.maxLocals = 6 := hml0
  have hown : s.vm.findClass "java/lang/String" = some m.cls := findClass_of_methodNamed Bd.named
  have hnm := (name_of_methodNamed Bd.named Bd.method).1
  have X0 : Stand p l e ({ frames := 1, cells := 2, slots := 4, locals := 12 } : Room) (s.setVm s.vm) m #[(.ref a1), (.ref a2), (.int 0), (.int 0), .null] below meth c s₁ [] 0 0 := Stand.of_body Bd
  have e0 : s₁.heap = h0 := by rw [← hh, Bd.state]; rfl
  have N0 := Fr.nil n0
  have K0 : Keep h0 h0 [a1] := Keep.refl h0 _
  have O0 : Old Z Z.heap.size h0 := ⟨rfl, EZ⟩
  have hZ : Z.Warmed39 (s.setVm s.vm).vm := hZ
  have hown : (s.setVm s.vm).vm.findClass "java/lang/String" = some m.cls := hown
  have hS0 : s.Since s.vm 0 := (State.WarmedH.refl s).since 0
  have hk0 : 0 ≤ h0.size := Nat.zero_le _
  show gS p e below (own_FinW s Z ("" :: Ts) (own_iv0_Q Z a1 a2 Ts h0 n0) ({ frames := 1, cells := 2, slots := 4, locals := 12 } : Room).cells ({ frames := 1, cells := 2, slots := 4, locals := 12 } : Room).slots) _
  refine sT (fun t k => castTop (own_iv0_ef m a1 a2) k) ?_
  show gM s₁ 0 #[rv a1, rv a2, iv 0, iv 0, .val .null, uN] []
  refine sT (fun t k => XS.aloadN X0.here hx rfl (hb hby d10_0) rfl rfl k) ?_
  show gM s₁ 1 #[rv a1, rv a2, iv 0, iv 0, .val .null, uN] [(.ref a1)]
  obtain ⟨T807, X807, e807, st807⟩ := initO X0 hx hZ hown w23 w24 w25 e0 (g := (mkF m 1 #[rv a1, rv a2, iv 0, iv 0, .val .null, uN] [(.ref a1)])) rfl (by rw [hml]; rfl) rfl (hb hby d10_1) (by decide) (W := 0) (by show 2 * 0 + _ ≤ _; exact Nat.le_of_eq rfl) (by decide)
  refine sT st807 ?_
  show gM T807 4 #[rv a1, rv a2, iv 0, iv 0, .val .null, uN] []
  refine sT (fun t k => XS.iloadN X807.here hx rfl (hb hby d10_4) rfl k) ?_
  show gM T807 5 #[rv a1, rv a2, iv 0, iv 0, .val .null, uN] [(.int 0)]
  have hc808 : (0 : Int32) = (0 : Int32) := rfl
  refine sT (fun t k => XS.ifNo X807.here hx rfl (hb hby d10_5) rfl ((if0 _ _).trans (teq hc808).2) k) ?_
  show gM T807 8 #[rv a1, rv a2, iv 0, iv 0, .val .null, uN] []
  refine sT (fun t k => XS.aloadN X807.here hx rfl (hb hby d10_8) rfl rfl k) ?_
  show gM T807 9 #[rv a1, rv a2, iv 0, iv 0, .val .null, uN] [(.ref a1)]
  obtain ⟨b809, T809, h809, kn809, bv809, kc809, X809, e809, E809, S809, kk809, hZ, hown, A809, Fc809, Fv809, V809, -, -, I809, Lt809, st809⟩ := ldcSVL X807 hx hZ hown w26 (own_wS hw) e807 hS0 hk0 (Fr.nil _) (by rw [hh]; exact EZ.2) hI0 hnot_E hk7 hcw own_tE (z := (0 : Int32)) (by decide) rfl (g := (mkF m 9 #[rv a1, rv a2, iv 0, iv 0, .val .null, uN] [(.ref a1)])) rfl (hb hby d10_9) (n := 0) (by decide) (by decide) (by decide) (by decide)
  have K810 : Keep h0 h809 [a1] := K0.ext E809
  refine sT st809 ?_
  show gM T809 11 #[rv a1, rv a2, iv 0, iv 0, .val .null, uN] [(.ref b809), (.ref a1)]
  have ne_a1_b809 : a1 ≠ b809 := (F_value_a1.ext E809).ne Fv809 (fun zq => nomatch zq)
  have ne_a1_bv809 : a1 ≠ bv809 := Exa.neArv (E_a1.ext E809) V809 w13
  obtain ⟨T811, X811, e811, st811⟩ := getF X809 hx hZ hown (host := "") (Or.inl w32) Via.refl e809 Fv809 (g := (mkF m 11 #[rv a1, rv a2, iv 0, iv 0, .val .null, uN] [(.ref b809), (.ref a1)])) rfl rfl (hb hby d10_11)
  refine sT st811 ?_
  show gM T811 14 #[rv a1, rv a2, iv 0, iv 0, .val .null, uN] [(.ref bv809), (.ref a1)]
  obtain ⟨T812, h812, X812, e812, W812, st812⟩ := putF X811 hx hZ hown (host := "") (Or.inl w32) Via.refl e811 (F_value_a1.ext E809) (E_a1.ext E809) (Or.inr ⟨w28, rfl, hnm⟩) w13 (ty := (.array .byte)) (by decide) rfl rfl (g := (mkF m 14 #[rv a1, rv a2, iv 0, iv 0, .val .null, uN] [(.ref bv809), (.ref a1)])) rfl rfl (hb hby d10_14)
  have Fw812 := (F_value_a1.ext E809).same W812
  have N812 := Fr.snoc X812 N0 g_a1
  have K813 : Keep h0 h812 [a1] := K810.wr W812 (Or.inl (List.mem_of_getElem? (i := 0) rfl))
  refine sT st812 ?_
  show gM T812 17 #[rv a1, rv a2, iv 0, iv 0, .val .null, uN] []
  refine sT (fun t k => XS.aloadN X812.here hx rfl (hb hby d10_17) rfl rfl k) ?_
  show gM T812 18 #[rv a1, rv a2, iv 0, iv 0, .val .null, uN] [(.ref a1)]
  refine sT (fun t k => ldcAgain X812 hx hZ hown w26 Lt809 (g := (mkF m 18 #[rv a1, rv a2, iv 0, iv 0, .val .null, uN] [(.ref a1)])) rfl (hb hby d10_18) t k) ?_
  show gM T812 20 #[rv a1, rv a2, iv 0, iv 0, .val .null, uN] [(.ref b809), (.ref a1)]
  obtain ⟨T814, X814, e814, st814⟩ := getF X812 hx hZ hown (host := "") (Or.inl w33) Via.refl e812 (Fc809.other W812 (Or.inl (Ne.symm ne_a1_b809))) (g := (mkF m 20 #[rv a1, rv a2, iv 0, iv 0, .val .null, uN] [(.ref b809), (.ref a1)])) rfl rfl (hb hby d10_20)
  refine sT st814 ?_
  show gM T814 23 #[rv a1, rv a2, iv 0, iv 0, .val .null, uN] [(.int 0), (.ref a1)]
  obtain ⟨T815, h815, X815, e815, W815, st815⟩ := putF X814 hx hZ hown (host := "") (Or.inl w33) Via.refl e814 ((F_coder_a1.ext E809).other W812 (Or.inr (slot_ne (Or.inr w29) (Or.inr w28) (by decide) (t := .byte) (t' := (.array .byte)) (by decide) (by decide)))) ((E_a1.ext E809).wr W812) (Or.inr ⟨w29, rfl, hnm⟩) w13 (ty := .byte) (by decide) rfl rfl (g := (mkF m 23 #[rv a1, rv a2, iv 0, iv 0, .val .null, uN] [(.int 0), (.ref a1)])) rfl rfl (hb hby d10_23)
  have Fw815 := ((F_coder_a1.ext E809).other W812 (Or.inr (slot_ne (Or.inr w29) (Or.inr w28) (by decide) (t := .byte) (t' := (.array .byte)) (by decide) (by decide)))).same W815
  have N815 := Fr.snoc X815 N812 g_a1
  have K816 : Keep h0 h815 [a1] := K813.wr W815 (Or.inl (List.mem_of_getElem? (i := 0) rfl))
  refine sT st815 ?_
  show gM T815 26 #[rv a1, rv a2, iv 0, iv 0, .val .null, uN] []
  refine own_ret0W X815 S809 (by rw [e815]; exact (Nat.le_trans (Nat.le_trans kk809 (Keep.of_wr W812).1) (Keep.of_wr W815).1)) I809 hx hlk Bd.returns (hb hby d10_26) ?_ (by decide) (by decide)
  show own_iv0_Q Z a1 a2 Ts h0 n0 _ T815.heap _
  rw [e815]
  exact ⟨bv809, kc809, rfl, N815, K816, (((E_a1.ext E809).wr W812).wr W815), Fw815, (Fw812.other W815 (Or.inr (slot_ne (Or.inr w28) (Or.inr w29) (by decide) (t := (.array .byte)) (t' := .byte) (by decide) (by decide)))), ((V809.other W812 (Ne.symm ne_a1_bv809)).other W815 (Ne.symm ne_a1_bv809))⟩
theorem own_is0_ef (m : MethodId) (a1 : Addr) (a2 : Addr) : entryFrame m #[(.ref a1), (.ref a2)] 2 = mkF m 0 #[rv a1, rv a2] [] := by first | (simp [entryFrame, mkF, argsToLocals, Value.category]; done) | rfl
def own_is0_Q (Z : State) (a1 : Addr) (a2 : Addr) (Ts : List String) (ka : ClassId) (h0 : Heap) (n0 : Nat) (v : Option Value) (h : Heap) (L : List Loc) : Prop := ∃ bv : Addr, ∃ kb : ClassId, v = none ∧ Fr n0 L ∧ Keep h0 h [a1] ∧ Exa Z h a1 "java/lang/String" ∧ Fld Z h a1 "java/lang/String" "coder" "B" (.int 0) ∧ Fld Z h a1 "java/lang/String" "value" "[B" (.ref bv) ∧ Arv Z h bv kb .byte (0 : Int32) (([] : List Int32).map Value.int) (Value.int 0)
set_option maxRecDepth 65536 in
set_option maxHeartbeats 40000000 in
theorem own_is0 (l : Launch) (Z : State) (a0 : Array Value) (hw : ∀ d ∈ tables_1, d.before a0 Z = true) (ws : List Jvm.Cond) (a1 : Addr) (a2 : Addr) (Ts : List String) (ka : ClassId) (h0 : Heap) (n0 : Nat) (Z0 : n0 ≤ h0.size) (E_a1 : Exa Z h0 a1 "java/lang/String") (g_a1 : n0 ≤ a1) (F_value_a1 : Fld Z h0 a1 "java/lang/String" "value" "[B" .null) (F_coder_a1 : Fld Z h0 a1 "java/lang/String" "coder" "B" (.int 0)) (Zn : Z.heap.size ≤ n0) (EZ : Ext Z.heap h0) (hk7 : Jvm.Lit.constHeld Z "java/lang/String" 7) (hcw : Jvm.Lit.compactW.before a0 Z = true) (hnot_E : "" ∉ Ts) (V_a2 : Arv Z h0 a2 ka .char (0 : Int32) (([] : List Int32).map Value.int) (Value.int 0)) :
    MetFree l mN11 (head1 (Jvm.Cond.code mN11 jdk_42_method_3_code 2 none :: ws) ({ frames := 2, cells := 2, slots := 4, locals := 29 } : Room)) (fun aa U => aa = #[(.ref a1), (.ref a2)] ∧ Z.Warmed39 U.vm ∧ U.heap = h0 ∧ IB Z U.vm Ts) (fun _ _ _ _ _ => True) (fun _ U o U' => ∃ v L, o = .returned v ∧ own_is0_Q Z a1 a2 Ts ka h0 n0 v U'.heap L ∧ IB Z U'.vm ("" :: Ts) ∧ ReturnedEndW U o U' L ({ frames := 2, cells := 2, slots := 4, locals := 29 } : Room).cells ({ frames := 2, cells := 2, slots := 4, locals := 29 } : Room).slots) := by
  refine MetFree.of_bodySF (plainFor_of_name own_pn2) hisR ?_
  have w14 := wO hw 14 rfl
  have w19 := wO hw 19 rfl
  have w20 := wO hw 20 rfl
  have w22 := wO hw 22 rfl
  intro p e s m args below meth c s₁ Bd hml0 hP hK
  obtain ⟨rfl, hZ, hh, hI0⟩ := hP
  have hx := Bd.exec
  have hby := Bd.bytes
  have hlk := Bd.notSynchronized
  have hml : c.maxLocals = 2 := hml0
  have hown : s.vm.findClass "java/lang/String" = some m.cls := findClass_of_methodNamed Bd.named
  have hnm := (name_of_methodNamed Bd.named Bd.method).1
  have X0 : Stand p l e ({ frames := 2, cells := 2, slots := 4, locals := 29 } : Room) (s.setVm s.vm) m #[(.ref a1), (.ref a2)] below meth c s₁ [] 0 0 := Stand.of_body Bd
  have e0 : s₁.heap = h0 := by rw [← hh, Bd.state]; rfl
  have N0 := Fr.nil n0
  have K0 : Keep h0 h0 [a1] := Keep.refl h0 _
  have O0 : Old Z Z.heap.size h0 := ⟨rfl, EZ⟩
  have hZ : Z.Warmed39 (s.setVm s.vm).vm := hZ
  have hown : (s.setVm s.vm).vm.findClass "java/lang/String" = some m.cls := hown
  have hS0 : s.Since s.vm 0 := (State.WarmedH.refl s).since 0
  have hk0 : 0 ≤ h0.size := Nat.zero_le _
  show gS p e below (own_FinW s Z ("" :: Ts) (own_is0_Q Z a1 a2 Ts ka h0 n0) ({ frames := 2, cells := 2, slots := 4, locals := 29 } : Room).cells ({ frames := 2, cells := 2, slots := 4, locals := 29 } : Room).slots) _
  refine sT (fun t k => castTop (own_is0_ef m a1 a2) k) ?_
  show gM s₁ 0 #[rv a1, rv a2] []
  refine sT (fun t k => XS.aloadN X0.here hx rfl (hb hby d11_0) rfl rfl k) ?_
  show gM s₁ 1 #[rv a1, rv a2] [(.ref a1)]
  refine sT (fun t k => XS.aloadN X0.here hx rfl (hb hby d11_1) rfl rfl k) ?_
  show gM s₁ 2 #[rv a1, rv a2] [(.ref a2), (.ref a1)]
  refine sT (fun t k => XS.iconst X0.here hx rfl (hb hby d11_2) k) ?_
  show gM s₁ 3 #[rv a1, rv a2] [(.int 0), (.ref a2), (.ref a1)]
  refine sT (fun t k => XS.aloadN X0.here hx rfl (hb hby d11_3) rfl rfl k) ?_
  show gM s₁ 4 #[rv a1, rv a2] [(.ref a2), (.int 0), (.ref a2), (.ref a1)]
  refine sT (fun t k => own_len X0 hx hZ e0 V_a2 (g := (mkF m 4 #[rv a1, rv a2] [(.ref a2), (.int 0), (.ref a2), (.ref a1)])) rfl rfl (hb hby d11_4) _ k) ?_
  show gM s₁ 5 #[rv a1, rv a2] [(.int 0), (.int 0), (.ref a2), (.ref a1)]
  refine sT (fun t k => XS.aconstNull X0.here hx rfl (hb hby d11_5) k) ?_
  show gM s₁ 6 #[rv a1, rv a2] [.null, (.int 0), (.int 0), (.ref a2), (.ref a1)]
  obtain ⟨_, _, ⟨T819, L819, k819, n819⟩, -, X819, q2819, gr819, ⟨Lc819, ⟨hQ819, I819⟩, l819, y819, z819⟩, st819⟩ := X0.specialBackS hx (y := mN10) rfl hown (mvT hZ w19) (mvT hZ w20) (mvT hZ w22) (by decide) (own_backW (W := 0) (own_iv0 l Z a0 hw [] a1 a2 (Ts) h0 n0 Z0 E_a1 g_a1 F_value_a1 F_coder_a1 Zn O0.2 (hk7) (hcw) (hnot_E)) hZ w22 w14 (by decide) (by decide)) (g := (mkF m 6 #[rv a1, rv a2] [.null, (.int 0), (.int 0), (.ref a2), (.ref a1)])) rfl (by rw [hml]; rfl) (Steps.refl _) (a := a1) (argsL := [(.ref a2), (.int 0), (.int 0), .null]) (rest := []) (lenOf own_pd8 rfl) rfl (by show 2 * 0 + _ ≤ _; exact Nat.le_of_eq rfl) (hb hby d11_6) (fun _ hWq => ⟨rfl, e0, own_ibH (s := s.setVm s.vm) hI0 hWq, (by decide : 0 + 2 ≤ _), (by decide : 0 + 4 ≤ _)⟩)
  dsimp only [Pt.U, Pt.locs, Pt.cells, Pt.slots] at X819 l819 y819 z819 st819 hQ819 q2819 gr819 I819
  subst y819 z819
  obtain ⟨X819, S819, hZ, hown⟩ := rebS hS0 (by rw [e0]; exact hk0) X819 q2819 gr819 hZ hown
  obtain ⟨bv_819, kb_819, rfl, N819q, K819c, f819_0, f819_1, f819_2, f819_3⟩ := hQ819
  have N819 : Fr n0 L819 := by rw [l819]; exact Fr.app N0 N819q
  refine own_jump st819 ?_
  have K820 : Keep h0 T819.heap [a1] := K0.trans K819c (allS (Or.inl (List.mem_of_getElem? (i := 0) rfl)) all0)
  show gM T819 9 #[rv a1, rv a2] []
  refine own_ret0W X819 S819 (Nat.le_refl _) I819 hx hlk Bd.returns (hb hby d11_9) ?_ (by decide) (by decide)
  show own_is0_Q Z a1 a2 Ts ka h0 n0 _ T819.heap _
  exact ⟨bv_819, kb_819, rfl, N819, K820, f819_0, f819_1, f819_2, f819_3⟩
theorem d12_4 : decode method_4_code 4 = .ok (.new 13, 3) := by decide +kernel
theorem d12_7 : decode method_4_code 7 = .ok (.dup, 1) := by decide +kernel
theorem d12_8 : decode method_4_code 8 = .ok (.iconst 0, 1) := by decide +kernel
theorem d12_9 : decode method_4_code 9 = .ok (.newarray .char, 2) := by decide +kernel
theorem d12_11 : decode method_4_code 11 = .ok (.invokespecial 15, 3) := by decide +kernel
theorem d12_14 : decode method_4_code 14 = .ok (.areturn, 1) := by decide +kernel
theorem own_st0_ef (m : MethodId) (c0 : Int32) (c1 : Int32) (c2 : Int32) (c3 : Int32) (c4 : Int32) : entryFrame m #[(.int 0), (.int c0), (.int c1), (.int c2), (.int c3), (.int c4)] 6 = mkF m 0 #[iv 0, iv c0, iv c1, iv c2, iv c3, iv c4] [] := by first | (simp [entryFrame, mkF, argsToLocals, Value.category]; done) | rfl
def own_st0_Q (Z : State) (c0 : Int32) (c1 : Int32) (c2 : Int32) (c3 : Int32) (c4 : Int32) (Ts : List String) (h0 : Heap) (n0 : Nat) (v : Option Value) (h : Heap) (L : List Loc) : Prop := ∃ x : Addr, ∃ bv : Addr, ∃ kb : ClassId, v = some (.ref x) ∧ Fr n0 L ∧ Keep h0 h [] ∧ Exa Z h x "java/lang/String" ∧ Fld Z h x "java/lang/String" "coder" "B" (.int 0) ∧ Fld Z h x "java/lang/String" "value" "[B" (.ref bv) ∧ Arv Z h bv kb .byte (0 : Int32) (([] : List Int32).map Value.int) (Value.int 0)
set_option maxRecDepth 65536 in
set_option maxHeartbeats 40000000 in
theorem own_st0 (l : Launch) (Z : State) (a0 : Array Value) (hw : ∀ d ∈ tables_1, d.before a0 Z = true) (ws : List Jvm.Cond) (c0 : Int32) (c1 : Int32) (c2 : Int32) (c3 : Int32) (c4 : Int32) (Ts : List String) (h0 : Heap) (n0 : Nat) (Z0 : n0 ≤ h0.size) (Zn : Z.heap.size ≤ n0) (EZ : Ext Z.heap h0) (hk7 : Jvm.Lit.constHeld Z "java/lang/String" 7) (hcw : Jvm.Lit.compactW.before a0 Z = true) (hnot_E : "" ∉ Ts) :
    MetFree l mN12 (head1 (Jvm.Cond.code mN12 method_4_code 6 (some (.object "java/lang/String")) :: ws) ({ frames := 3, cells := 4, slots := 8, locals := 43 } : Room)) (fun aa U => aa = #[(.int 0), (.int c0), (.int c1), (.int c2), (.int c3), (.int c4)] ∧ Z.Warmed39 U.vm ∧ U.heap = h0 ∧ IB Z U.vm Ts) (fun _ _ _ _ _ => True) (fun _ U o U' => ∃ v L, o = .returned v ∧ own_st0_Q Z c0 c1 c2 c3 c4 Ts h0 n0 v U'.heap L ∧ IB Z U'.vm ("" :: Ts) ∧ ReturnedEndW U o U' L ({ frames := 3, cells := 4, slots := 8, locals := 43 } : Room).cells ({ frames := 3, cells := 4, slots := 8, locals := 43 } : Room).slots) := by
  refine MetFree.of_bodySF (plainFor_of_name own_pn0) hisR ?_
  have w12 := wO hw 12 rfl
  have w13 := wO hw 13 rfl
  have w14 := wO hw 14 rfl
  have w15 := wO hw 15 rfl
  have w16 := wO hw 16 rfl
  have w17 := wO hw 17 rfl
  have w18 := wO hw 18 rfl
  have w28 := wO hw 28 rfl
  have w29 := wO hw 29 rfl
  intro p e s m args below meth c s₁ Bd hml0 hP hK
  obtain ⟨rfl, hZ, hh, hI0⟩ := hP
  have hx := Bd.exec
  have hby := Bd.bytes
  have hlk := Bd.notSynchronized
  have hml : c.maxLocals = 6 := hml0
  have hown : s.vm.findClass "com/example/noctule/noctule/server/TokenScopeTakesPinLaw" = some m.cls := findClass_of_methodNamed Bd.named
  have hnm := (name_of_methodNamed Bd.named Bd.method).1
  have X0 : Stand p l e ({ frames := 3, cells := 4, slots := 8, locals := 43 } : Room) (s.setVm s.vm) m #[(.int 0), (.int c0), (.int c1), (.int c2), (.int c3), (.int c4)] below meth c s₁ [] 0 0 := Stand.of_body Bd
  have e0 : s₁.heap = h0 := by rw [← hh, Bd.state]; rfl
  have N0 := Fr.nil n0
  have K0 : Keep h0 h0 [] := Keep.refl h0 _
  have O0 : Old Z Z.heap.size h0 := ⟨rfl, EZ⟩
  have hZ : Z.Warmed39 (s.setVm s.vm).vm := hZ
  have hown : (s.setVm s.vm).vm.findClass "com/example/noctule/noctule/server/TokenScopeTakesPinLaw" = some m.cls := hown
  have hS0 : s.Since s.vm 0 := (State.WarmedH.refl s).since 0
  have hk0 : 0 ≤ h0.size := Nat.zero_le _
  show gS p e below (own_FinW s Z ("" :: Ts) (own_st0_Q Z c0 c1 c2 c3 c4 Ts h0 n0) ({ frames := 3, cells := 4, slots := 8, locals := 43 } : Room).cells ({ frames := 3, cells := 4, slots := 8, locals := 43 } : Room).slots) _
  refine sT (fun t k => castTop (own_st0_ef m c0 c1 c2 c3 c4) k) ?_
  show gM s₁ 0 #[iv 0, iv c0, iv c1, iv c2, iv c3, iv c4] []
  refine sT (fun t k => XS.iloadN X0.here hx rfl (hb hby d12_0) rfl k) ?_
  show gM s₁ 1 #[iv 0, iv c0, iv c1, iv c2, iv c3, iv c4] [(.int 0)]
  have hc828 : (0 : Int32) = (0 : Int32) := rfl
  refine sT (fun t k => XS.ifNo X0.here hx rfl (hb hby d12_1) rfl ((if0 _ _).trans (teq hc828).2) k) ?_
  show gM s₁ 4 #[iv 0, iv c0, iv c1, iv c2, iv c3, iv c4] []
  obtain ⟨T829, h829, X829, e829, E829, A829, D829, -, st829⟩ := newO X0 hx hZ hown w12 w13 w14 e0 (g := (mkF m 4 #[iv 0, iv c0, iv c1, iv c2, iv c3, iv c4] [])) rfl (hb hby d12_4) (by decide) (by decide)
  obtain ⟨b829, g829⟩ : ∃ z, z = h0.size := ⟨_, rfl⟩
  rw [← g829] at A829 D829 st829
  have g_b829 : n0 ≤ b829 := Nat.le_trans Z0 (Nat.le_of_eq g829.symm)
  have sz_b829 : h0.size ≤ b829 := Nat.le_trans K0.1 (Nat.le_of_eq g829.symm)
  have K830 : Keep h0 h829 [] := K0.ext E829
  have F_value_b829 : Fld Z h829 b829 "java/lang/String" "value" "[B" .null := D829 (Or.inr w28) (ty := (.array .byte)) (by decide)
  have F_coder_b829 : Fld Z h829 b829 "java/lang/String" "coder" "B" (.int 0) := D829 (Or.inr w29) (ty := .byte) (by decide)
  refine sT st829 ?_
  show gM T829 7 #[iv 0, iv c0, iv c1, iv c2, iv c3, iv c4] [(.ref b829)]
  refine sT (fun t k => XS.dup X829.here hx rfl (hb hby d12_7) rfl rfl k) ?_
  show gM T829 8 #[iv 0, iv c0, iv c1, iv c2, iv c3, iv c4] [(.ref b829), (.ref b829)]
  refine sT (fun t k => XS.iconst X829.here hx rfl (hb hby d12_8) k) ?_
  show gM T829 9 #[iv 0, iv c0, iv c1, iv c2, iv c3, iv c4] [(.int 0), (.ref b829), (.ref b829)]
  obtain ⟨T831, h831, k831, X831, e831, E831, A831, st831⟩ := newP (aty := .char) X829 hx hZ w15 e829 (g := (mkF m 9 #[iv 0, iv c0, iv c1, iv c2, iv c3, iv c4] [(.int 0), (.ref b829), (.ref b829)])) rfl (hb hby d12_9) rfl (by decide) (cap := 0) (by decide) (by decide) (by decide) (by decide)
  obtain ⟨b831, g831⟩ : ∃ z, z = h829.size := ⟨_, rfl⟩
  rw [← g831] at A831 st831
  have ne_b829_b831 : b829 ≠ b831 := Nat.ne_of_lt (Nat.lt_of_lt_of_le A829.lt (Nat.le_of_eq g831.symm))
  have g_b831 : n0 ≤ b831 := Nat.le_trans (Nat.le_trans Z0 E829.1) (Nat.le_of_eq g831.symm)
  have sz_b831 : h0.size ≤ b831 := Nat.le_trans K830.1 (Nat.le_of_eq g831.symm)
  have V831 : Arv Z h831 b831 k831 .char (0 : Int32) (([] : List Int32).map Value.int) (Value.int 0) := own_newC A831 (by decide) 0
  have K832 : Keep h0 h831 [] := K830.ext E831
  refine sT st831 ?_
  show gM T831 11 #[iv 0, iv c0, iv c1, iv c2, iv c3, iv c4] [(.ref b831), (.ref b829), (.ref b829)]
  obtain ⟨_, _, ⟨T833, L833, k833, n833⟩, -, X833, q2833, gr833, ⟨Lc833, ⟨hQ833, I833⟩, l833, y833, z833⟩, st833⟩ := X831.specialBackS hx (y := mN11) rfl hown (mvT hZ w16) (mvT hZ w17) (mvT hZ w18) (by decide) (own_backW (W := 1) (own_is0 l Z a0 hw [] b829 b831 (Ts) (k831) h831 n0 (Nat.le_trans (Nat.le_trans Z0 E829.1) E831.1) (A829.ext E831) g_b829 (F_value_b829.ext E831) (F_coder_b829.ext E831) Zn ((O0.ext E829).ext E831).2 (hk7) (hcw) (hnot_E) V831) hZ w18 w14 (by decide) (by decide)) (g := (mkF m 11 #[iv 0, iv c0, iv c1, iv c2, iv c3, iv c4] [(.ref b831), (.ref b829), (.ref b829)])) rfl (by rw [hml]; rfl) (Steps.refl _) (a := b829) (argsL := [(.ref b831)]) (rest := [(.ref b829)]) (lenOf own_pd9 rfl) rfl (by show 2 * 0 + _ ≤ _; exact Nat.le_of_eq rfl) (hb hby d12_11) (fun _ hWq => ⟨rfl, e831, own_ibH (s := s.setVm s.vm) hI0 hWq, (by decide : 2 + 2 ≤ _), (by decide : 4 + 4 ≤ _)⟩)
  dsimp only [Pt.U, Pt.locs, Pt.cells, Pt.slots] at X833 l833 y833 z833 st833 hQ833 q2833 gr833 I833
  subst y833 z833
  obtain ⟨X833, S833, hZ, hown⟩ := rebS hS0 (by rw [e831]; exact (Nat.le_trans (Nat.le_trans hk0 E829.1) E831.1)) X833 q2833 gr833 hZ hown
  obtain ⟨bv_833, kb_833, rfl, N833q, K833c, f833_0, f833_1, f833_2, f833_3⟩ := hQ833
  have N833 : Fr n0 L833 := by rw [l833]; exact Fr.app N0 N833q
  refine own_jump st833 ?_
  have K834 : Keep h0 T833.heap [] := K832.trans K833c (allS (Or.inr sz_b829) all0)
  show gM T833 14 #[iv 0, iv c0, iv c1, iv c2, iv c3, iv c4] [(.ref b829)]
  refine own_retVW X833 S833 (Nat.le_refl _) I833 hx hlk Bd.returns (w := (.ref b829)) rfl (Or.inr (Or.inr (Or.inr (Or.inr ⟨rfl, rfl, rfl⟩)))) (hb hby d12_14) ?_ (by decide) (by decide)
  show own_st0_Q Z c0 c1 c2 c3 c4 Ts h0 n0 _ T833.heap _
  exact ⟨b829, bv_833, kb_833, rfl, N833, K834, f833_0, f833_1, f833_2, f833_3⟩
theorem own_pn3 : plainName "java/lang/StringLatin1" = true := by first | (simp [plainName, overriddenIn]; done) | decide +kernel
theorem d13_0 : decode jdk_43_method_13_code 0 = .ok (.aload_n 0, 1) := by decide +kernel
theorem d13_1 : decode jdk_43_method_13_code 1 = .ok (.arraylength, 1) := by decide +kernel
theorem d13_2 : decode jdk_43_method_13_code 2 = .ok (.aload_n 1, 1) := by decide +kernel
theorem d13_3 : decode jdk_43_method_13_code 3 = .ok (.arraylength, 1) := by decide +kernel
theorem d13_4 : decode jdk_43_method_13_code 4 = .ok (.if_icmp .ne 30, 3) := by decide +kernel
theorem d13_34 : decode jdk_43_method_13_code 34 = .ok (.iconst 0, 1) := by decide +kernel
theorem d13_35 : decode jdk_43_method_13_code 35 = .ok (.ireturn, 1) := by decide +kernel
theorem own_lb_ef (m : MethodId) (a1 : Addr) (a2 : Addr) : entryFrame m #[(.ref a1), (.ref a2)] 3 = mkF m 0 #[rv a1, rv a2, uN] [] := by first | (simp [entryFrame, mkF, argsToLocals, Value.category]; done) | rfl
def own_lb_Q (Z : State) (a1 : Addr) (a2 : Addr) (z1 : Int32) (x1 : List Int32) (k1 : ClassId) (z2 : Int32) (x2 : List Int32) (k2 : ClassId) (h0 : Heap) (n0 : Nat) (v : Option Value) (h : Heap) (L : List Loc) : Prop := v = some (.int 0) ∧ Fr n0 L ∧ h = h0
set_option maxRecDepth 65536 in
set_option maxHeartbeats 40000000 in
theorem own_lb (l : Launch) (Z : State) (a0 : Array Value) (hw : ∀ d ∈ tables_1, d.before a0 Z = true) (ws : List Jvm.Cond) (a1 : Addr) (a2 : Addr) (z1 : Int32) (x1 : List Int32) (k1 : ClassId) (z2 : Int32) (x2 : List Int32) (k2 : ClassId) (h0 : Heap) (n0 : Nat) (Z0 : n0 ≤ h0.size) (V_a1 : Arv Z h0 a1 k1 .byte z1 (x1.map Value.int) (Value.int 0)) (V_a2 : Arv Z h0 a2 k2 .byte z2 (x2.map Value.int) (Value.int 0)) (hz : z1 ≠ z2) :
    MetFree l mN13 (head1 (Jvm.Cond.code mN13 jdk_43_method_13_code 3 (some .boolean) :: ws) ({ frames := 0, cells := 0, slots := 0, locals := 0 } : Room)) (fun aa U => aa = #[(.ref a1), (.ref a2)] ∧ Z.Warmed39 U.vm ∧ U.heap = h0) (fun _ _ _ _ _ => True) (fun _ U o U' => ∃ v L, o = .returned v ∧ own_lb_Q Z a1 a2 z1 x1 k1 z2 x2 k2 h0 n0 v U'.heap L ∧ FrameEnd U o U' L ({ frames := 0, cells := 0, slots := 0, locals := 0 } : Room).cells ({ frames := 0, cells := 0, slots := 0, locals := 0 } : Room).slots) := by
  refine MetFree.of_bodySF (plainFor_of_name own_pn3) hisR ?_
  intro p e s m args below meth c s₁ Bd hml0 hP hK
  obtain ⟨rfl, hZ, hh⟩ := hP
  have hx := Bd.exec
  have hby := Bd.bytes
  have hlk := Bd.notSynchronized
  have hml : c.maxLocals = 3 := hml0
  have hown : s.vm.findClass "java/lang/StringLatin1" = some m.cls := findClass_of_methodNamed Bd.named
  have hnm := (name_of_methodNamed Bd.named Bd.method).1
  have X0 : Stand p l e ({ frames := 0, cells := 0, slots := 0, locals := 0 } : Room) s m #[(.ref a1), (.ref a2)] below meth c s₁ [] 0 0 := Stand.of_body Bd
  have e0 : s₁.heap = h0 := by rw [← hh, Bd.state]; rfl
  have N0 := Fr.nil n0
  have K0 : Keep h0 h0 [] := Keep.refl h0 _
  show gS p e below (own_Fin s (own_lb_Q Z a1 a2 z1 x1 k1 z2 x2 k2 h0 n0) ({ frames := 0, cells := 0, slots := 0, locals := 0 } : Room).cells ({ frames := 0, cells := 0, slots := 0, locals := 0 } : Room).slots) _
  refine sT (fun t k => castTop (own_lb_ef m a1 a2) k) ?_
  show gM s₁ 0 #[rv a1, rv a2, uN] []
  refine sT (fun t k => XS.aloadN X0.here hx rfl (hb hby d13_0) rfl rfl k) ?_
  show gM s₁ 1 #[rv a1, rv a2, uN] [(.ref a1)]
  refine sT (fun t k => own_len X0 hx hZ e0 V_a1 (g := (mkF m 1 #[rv a1, rv a2, uN] [(.ref a1)])) rfl rfl (hb hby d13_1) _ k) ?_
  show gM s₁ 2 #[rv a1, rv a2, uN] [(.int z1)]
  refine sT (fun t k => XS.aloadN X0.here hx rfl (hb hby d13_2) rfl rfl k) ?_
  show gM s₁ 3 #[rv a1, rv a2, uN] [(.ref a2), (.int z1)]
  refine sT (fun t k => own_len X0 hx hZ e0 V_a2 (g := (mkF m 3 #[rv a1, rv a2, uN] [(.ref a2), (.int z1)])) rfl rfl (hb hby d13_3) _ k) ?_
  show gM s₁ 4 #[rv a1, rv a2, uN] [(.int z2), (.int z1)]
  have hc836 : ¬ (z1 = z2) := hz
  refine sT (fun t k => XS.icmpYes X0.here hx rfl (pc0 := 4) (pc' := 34) rfl (hb hby d13_4) rfl (feq hc836).2 (by decide) (by decide) k) ?_
  show gM s₁ 34 #[rv a1, rv a2, uN] []
  refine sT (fun t k => XS.iconst X0.here hx rfl (hb hby d13_34) k) ?_
  show gM s₁ 35 #[rv a1, rv a2, uN] [(.int 0)]
  refine own_retV X0 hx hlk Bd.returns (w := (.int 0)) (own_nb (Or.inl rfl)) (Or.inl ⟨rfl, Or.inr (Or.inl rfl), _, rfl⟩) (hb hby d13_35) ?_ (by decide) (by decide)
  show own_lb_Q Z a1 a2 z1 x1 k1 z2 x2 k2 h0 n0 _ s₁.heap _
  rw [e0]
  exact ⟨rfl, N0, rfl⟩
theorem d13_7 : decode jdk_43_method_13_code 7 = .ok (.iconst 0, 1) := by decide +kernel
theorem d13_8 : decode jdk_43_method_13_code 8 = .ok (.istore_n 2, 1) := by decide +kernel
theorem d13_9 : decode jdk_43_method_13_code 9 = .ok (.iload_n 2, 1) := by decide +kernel
theorem d13_10 : decode jdk_43_method_13_code 10 = .ok (.aload_n 0, 1) := by decide +kernel
theorem d13_11 : decode jdk_43_method_13_code 11 = .ok (.arraylength, 1) := by decide +kernel
theorem d13_12 : decode jdk_43_method_13_code 12 = .ok (.if_icmp .ge 20, 3) := by decide +kernel
theorem d13_15 : decode jdk_43_method_13_code 15 = .ok (.aload_n 0, 1) := by decide +kernel
theorem d13_16 : decode jdk_43_method_13_code 16 = .ok (.iload_n 2, 1) := by decide +kernel
theorem d13_17 : decode jdk_43_method_13_code 17 = .ok (.baload, 1) := by decide +kernel
theorem d13_18 : decode jdk_43_method_13_code 18 = .ok (.aload_n 1, 1) := by decide +kernel
theorem d13_19 : decode jdk_43_method_13_code 19 = .ok (.iload_n 2, 1) := by decide +kernel
theorem d13_20 : decode jdk_43_method_13_code 20 = .ok (.baload, 1) := by decide +kernel
theorem d13_21 : decode jdk_43_method_13_code 21 = .ok (.if_icmp .eq 5, 3) := by decide +kernel
theorem d13_26 : decode jdk_43_method_13_code 26 = .ok (.iinc 2 1, 3) := by decide +kernel
theorem d13_29 : decode jdk_43_method_13_code 29 = .ok (.goto (-20), 3) := by decide +kernel
theorem d13_32 : decode jdk_43_method_13_code 32 = .ok (.iconst 1, 1) := by decide +kernel
theorem d13_33 : decode jdk_43_method_13_code 33 = .ok (.ireturn, 1) := by decide +kernel
theorem d13_24 : decode jdk_43_method_13_code 24 = .ok (.iconst 0, 1) := by decide +kernel
theorem d13_25 : decode jdk_43_method_13_code 25 = .ok (.ireturn, 1) := by decide +kernel
theorem own_l3_ef (m : MethodId) (a1 : Addr) (a2 : Addr) : entryFrame m #[(.ref a1), (.ref a2)] 3 = mkF m 0 #[rv a1, rv a2, uN] [] := by first | (simp [entryFrame, mkF, argsToLocals, Value.category]; done) | rfl
def own_l3_Q (Z : State) (a1 : Addr) (a2 : Addr) (y0 : Int32) (y1 : Int32) (y2 : Int32) (w0 : Int32) (w1 : Int32) (w2 : Int32) (k1 : ClassId) (k2 : ClassId) (h0 : Heap) (n0 : Nat) (v : Option Value) (h : Heap) (L : List Loc) : Prop := v = some (.int (own_n3 y0 y1 y2 w0 w1 w2)) ∧ Fr n0 L ∧ h = h0
set_option maxRecDepth 65536 in
set_option maxHeartbeats 40000000 in
theorem own_l3 (l : Launch) (Z : State) (a0 : Array Value) (hw : ∀ d ∈ tables_1, d.before a0 Z = true) (ws : List Jvm.Cond) (a1 : Addr) (a2 : Addr) (y0 : Int32) (y1 : Int32) (y2 : Int32) (w0 : Int32) (w1 : Int32) (w2 : Int32) (k1 : ClassId) (k2 : ClassId) (h0 : Heap) (n0 : Nat) (Z0 : n0 ≤ h0.size) (V_a1 : Arv Z h0 a1 k1 .byte (3 : Int32) (([y0, y1, y2] : List Int32).map Value.int) (Value.int 0)) (V_a2 : Arv Z h0 a2 k2 .byte (3 : Int32) (([w0, w1, w2] : List Int32).map Value.int) (Value.int 0)) :
    MetFree l mN13 (head1 (Jvm.Cond.code mN13 jdk_43_method_13_code 3 (some .boolean) :: ws) ({ frames := 0, cells := 0, slots := 0, locals := 0 } : Room)) (fun aa U => aa = #[(.ref a1), (.ref a2)] ∧ Z.Warmed39 U.vm ∧ U.heap = h0) (fun _ _ _ _ _ => True) (fun _ U o U' => ∃ v L, o = .returned v ∧ own_l3_Q Z a1 a2 y0 y1 y2 w0 w1 w2 k1 k2 h0 n0 v U'.heap L ∧ FrameEnd U o U' L ({ frames := 0, cells := 0, slots := 0, locals := 0 } : Room).cells ({ frames := 0, cells := 0, slots := 0, locals := 0 } : Room).slots) := by
  refine MetFree.of_bodySF (plainFor_of_name own_pn3) hisR ?_
  intro p e s m args below meth c s₁ Bd hml0 hP hK
  obtain ⟨rfl, hZ, hh⟩ := hP
  have hx := Bd.exec
  have hby := Bd.bytes
  have hlk := Bd.notSynchronized
  have hml : c.maxLocals = 3 := hml0
  have hown : s.vm.findClass "java/lang/StringLatin1" = some m.cls := findClass_of_methodNamed Bd.named
  have hnm := (name_of_methodNamed Bd.named Bd.method).1
  have X0 : Stand p l e ({ frames := 0, cells := 0, slots := 0, locals := 0 } : Room) s m #[(.ref a1), (.ref a2)] below meth c s₁ [] 0 0 := Stand.of_body Bd
  have e0 : s₁.heap = h0 := by rw [← hh, Bd.state]; rfl
  have N0 := Fr.nil n0
  have K0 : Keep h0 h0 [] := Keep.refl h0 _
  show gS p e below (own_Fin s (own_l3_Q Z a1 a2 y0 y1 y2 w0 w1 w2 k1 k2 h0 n0) ({ frames := 0, cells := 0, slots := 0, locals := 0 } : Room).cells ({ frames := 0, cells := 0, slots := 0, locals := 0 } : Room).slots) _
  refine sT (fun t k => castTop (own_l3_ef m a1 a2) k) ?_
  show gM s₁ 0 #[rv a1, rv a2, uN] []
  refine sT (fun t k => XS.aloadN X0.here hx rfl (hb hby d13_0) rfl rfl k) ?_
  show gM s₁ 1 #[rv a1, rv a2, uN] [(.ref a1)]
  refine sT (fun t k => own_len X0 hx hZ e0 V_a1 (g := (mkF m 1 #[rv a1, rv a2, uN] [(.ref a1)])) rfl rfl (hb hby d13_1) _ k) ?_
  show gM s₁ 2 #[rv a1, rv a2, uN] [(.int 3)]
  refine sT (fun t k => XS.aloadN X0.here hx rfl (hb hby d13_2) rfl rfl k) ?_
  show gM s₁ 3 #[rv a1, rv a2, uN] [(.ref a2), (.int 3)]
  refine sT (fun t k => own_len X0 hx hZ e0 V_a2 (g := (mkF m 3 #[rv a1, rv a2, uN] [(.ref a2), (.int 3)])) rfl rfl (hb hby d13_3) _ k) ?_
  show gM s₁ 4 #[rv a1, rv a2, uN] [(.int 3), (.int 3)]
  have hc845 : (3 : Int32) = (3 : Int32) := rfl
  refine sT (fun t k => XS.icmpNo X0.here hx rfl (hb hby d13_4) rfl (teq hc845).2 k) ?_
  show gM s₁ 7 #[rv a1, rv a2, uN] []
  refine sT (fun t k => XS.iconst X0.here hx rfl (hb hby d13_7) k) ?_
  show gM s₁ 8 #[rv a1, rv a2, uN] [(.int 0)]
  refine sT (fun t k => XS.istoreN X0.here hx rfl (hb hby d13_8) rfl (l' := #[rv a1, rv a2, iv 0]) rfl k) ?_
  show gM s₁ 9 #[rv a1, rv a2, iv 0] []
  refine sT (fun t k => XS.iloadN X0.here hx rfl (hb hby d13_9) rfl k) ?_
  show gM s₁ 10 #[rv a1, rv a2, iv 0] [(.int 0)]
  refine sT (fun t k => XS.aloadN X0.here hx rfl (hb hby d13_10) rfl rfl k) ?_
  show gM s₁ 11 #[rv a1, rv a2, iv 0] [(.ref a1), (.int 0)]
  refine sT (fun t k => own_len X0 hx hZ e0 V_a1 (g := (mkF m 11 #[rv a1, rv a2, iv 0] [(.ref a1), (.int 0)])) rfl rfl (hb hby d13_11) _ k) ?_
  show gM s₁ 12 #[rv a1, rv a2, iv 0] [(.int 3), (.int 0)]
  have hc846 : (0 : Int32) < (3 : Int32) := by decide
  refine sT (fun t k => XS.icmpNo X0.here hx rfl (hb hby d13_12) rfl (tlt hc846).2.1 k) ?_
  show gM s₁ 15 #[rv a1, rv a2, iv 0] []
  refine sT (fun t k => XS.aloadN X0.here hx rfl (hb hby d13_15) rfl rfl k) ?_
  show gM s₁ 16 #[rv a1, rv a2, iv 0] [(.ref a1)]
  refine sT (fun t k => XS.iloadN X0.here hx rfl (hb hby d13_16) rfl k) ?_
  show gM s₁ 17 #[rv a1, rv a2, iv 0] [(.int 0), (.ref a1)]
  refine sT (fun t k => own_bal X0 hx hZ e0 V_a1 ⟨by decide, by decide⟩ (g := (mkF m 17 #[rv a1, rv a2, iv 0] [(.int 0), (.ref a1)])) rfl rfl (hb hby d13_17) _ k) ?_
  show gM s₁ 18 #[rv a1, rv a2, iv 0] [(.int y0)]
  refine sT (fun t k => XS.aloadN X0.here hx rfl (hb hby d13_18) rfl rfl k) ?_
  show gM s₁ 19 #[rv a1, rv a2, iv 0] [(.ref a2), (.int y0)]
  refine sT (fun t k => XS.iloadN X0.here hx rfl (hb hby d13_19) rfl k) ?_
  show gM s₁ 20 #[rv a1, rv a2, iv 0] [(.int 0), (.ref a2), (.int y0)]
  refine sT (fun t k => own_bal X0 hx hZ e0 V_a2 ⟨by decide, by decide⟩ (g := (mkF m 20 #[rv a1, rv a2, iv 0] [(.int 0), (.ref a2), (.int y0)])) rfl rfl (hb hby d13_20) _ k) ?_
  show gM s₁ 21 #[rv a1, rv a2, iv 0] [(.int w0), (.int y0)]
  by_cases hc847 : y0 = w0
  · --
   refine sT (fun t k => XS.icmpYes X0.here hx rfl (pc0 := 21) (pc' := 26) rfl (hb hby d13_21) rfl (teq hc847).1 (by decide) (by decide) k) ?_
   show gM s₁ 26 #[rv a1, rv a2, iv 0] []
   refine sT (fun t k => XS.iinc X0.here hx rfl (hb hby d13_26) rfl (l' := #[rv a1, rv a2, iv 1]) rfl k) ?_
   show gM s₁ 29 #[rv a1, rv a2, iv 1] []
   refine sT (fun t k => XS.goto X0.here hx rfl (pc0 := 29) (pc' := 9) rfl (hb hby d13_29) (by decide) (by decide) k) ?_
   show gM s₁ 9 #[rv a1, rv a2, iv 1] []
   refine sT (fun t k => XS.iloadN X0.here hx rfl (hb hby d13_9) rfl k) ?_
   show gM s₁ 10 #[rv a1, rv a2, iv 1] [(.int 1)]
   refine sT (fun t k => XS.aloadN X0.here hx rfl (hb hby d13_10) rfl rfl k) ?_
   show gM s₁ 11 #[rv a1, rv a2, iv 1] [(.ref a1), (.int 1)]
   refine sT (fun t k => own_len X0 hx hZ e0 V_a1 (g := (mkF m 11 #[rv a1, rv a2, iv 1] [(.ref a1), (.int 1)])) rfl rfl (hb hby d13_11) _ k) ?_
   show gM s₁ 12 #[rv a1, rv a2, iv 1] [(.int 3), (.int 1)]
   have hc848 : (1 : Int32) < (3 : Int32) := by decide
   refine sT (fun t k => XS.icmpNo X0.here hx rfl (hb hby d13_12) rfl (tlt hc848).2.1 k) ?_
   show gM s₁ 15 #[rv a1, rv a2, iv 1] []
   refine sT (fun t k => XS.aloadN X0.here hx rfl (hb hby d13_15) rfl rfl k) ?_
   show gM s₁ 16 #[rv a1, rv a2, iv 1] [(.ref a1)]
   refine sT (fun t k => XS.iloadN X0.here hx rfl (hb hby d13_16) rfl k) ?_
   show gM s₁ 17 #[rv a1, rv a2, iv 1] [(.int 1), (.ref a1)]
   refine sT (fun t k => own_bal X0 hx hZ e0 V_a1 ⟨by decide, by decide⟩ (g := (mkF m 17 #[rv a1, rv a2, iv 1] [(.int 1), (.ref a1)])) rfl rfl (hb hby d13_17) _ k) ?_
   show gM s₁ 18 #[rv a1, rv a2, iv 1] [(.int y1)]
   refine sT (fun t k => XS.aloadN X0.here hx rfl (hb hby d13_18) rfl rfl k) ?_
   show gM s₁ 19 #[rv a1, rv a2, iv 1] [(.ref a2), (.int y1)]
   refine sT (fun t k => XS.iloadN X0.here hx rfl (hb hby d13_19) rfl k) ?_
   show gM s₁ 20 #[rv a1, rv a2, iv 1] [(.int 1), (.ref a2), (.int y1)]
   refine sT (fun t k => own_bal X0 hx hZ e0 V_a2 ⟨by decide, by decide⟩ (g := (mkF m 20 #[rv a1, rv a2, iv 1] [(.int 1), (.ref a2), (.int y1)])) rfl rfl (hb hby d13_20) _ k) ?_
   show gM s₁ 21 #[rv a1, rv a2, iv 1] [(.int w1), (.int y1)]
   by_cases hc849 : y1 = w1
   · --
    refine sT (fun t k => XS.icmpYes X0.here hx rfl (pc0 := 21) (pc' := 26) rfl (hb hby d13_21) rfl (teq hc849).1 (by decide) (by decide) k) ?_
    show gM s₁ 26 #[rv a1, rv a2, iv 1] []
    refine sT (fun t k => XS.iinc X0.here hx rfl (hb hby d13_26) rfl (l' := #[rv a1, rv a2, iv 2]) rfl k) ?_
    show gM s₁ 29 #[rv a1, rv a2, iv 2] []
    refine sT (fun t k => XS.goto X0.here hx rfl (pc0 := 29) (pc' := 9) rfl (hb hby d13_29) (by decide) (by decide) k) ?_
    show gM s₁ 9 #[rv a1, rv a2, iv 2] []
    refine sT (fun t k => XS.iloadN X0.here hx rfl (hb hby d13_9) rfl k) ?_
    show gM s₁ 10 #[rv a1, rv a2, iv 2] [(.int 2)]
    refine sT (fun t k => XS.aloadN X0.here hx rfl (hb hby d13_10) rfl rfl k) ?_
    show gM s₁ 11 #[rv a1, rv a2, iv 2] [(.ref a1), (.int 2)]
    refine sT (fun t k => own_len X0 hx hZ e0 V_a1 (g := (mkF m 11 #[rv a1, rv a2, iv 2] [(.ref a1), (.int 2)])) rfl rfl (hb hby d13_11) _ k) ?_
    show gM s₁ 12 #[rv a1, rv a2, iv 2] [(.int 3), (.int 2)]
    have hc850 : (2 : Int32) < (3 : Int32) := by decide
    refine sT (fun t k => XS.icmpNo X0.here hx rfl (hb hby d13_12) rfl (tlt hc850).2.1 k) ?_
    show gM s₁ 15 #[rv a1, rv a2, iv 2] []
    refine sT (fun t k => XS.aloadN X0.here hx rfl (hb hby d13_15) rfl rfl k) ?_
    show gM s₁ 16 #[rv a1, rv a2, iv 2] [(.ref a1)]
    refine sT (fun t k => XS.iloadN X0.here hx rfl (hb hby d13_16) rfl k) ?_
    show gM s₁ 17 #[rv a1, rv a2, iv 2] [(.int 2), (.ref a1)]
    refine sT (fun t k => own_bal X0 hx hZ e0 V_a1 ⟨by decide, by decide⟩ (g := (mkF m 17 #[rv a1, rv a2, iv 2] [(.int 2), (.ref a1)])) rfl rfl (hb hby d13_17) _ k) ?_
    show gM s₁ 18 #[rv a1, rv a2, iv 2] [(.int y2)]
    refine sT (fun t k => XS.aloadN X0.here hx rfl (hb hby d13_18) rfl rfl k) ?_
    show gM s₁ 19 #[rv a1, rv a2, iv 2] [(.ref a2), (.int y2)]
    refine sT (fun t k => XS.iloadN X0.here hx rfl (hb hby d13_19) rfl k) ?_
    show gM s₁ 20 #[rv a1, rv a2, iv 2] [(.int 2), (.ref a2), (.int y2)]
    refine sT (fun t k => own_bal X0 hx hZ e0 V_a2 ⟨by decide, by decide⟩ (g := (mkF m 20 #[rv a1, rv a2, iv 2] [(.int 2), (.ref a2), (.int y2)])) rfl rfl (hb hby d13_20) _ k) ?_
    show gM s₁ 21 #[rv a1, rv a2, iv 2] [(.int w2), (.int y2)]
    by_cases hc851 : y2 = w2
    · --
     refine sT (fun t k => XS.icmpYes X0.here hx rfl (pc0 := 21) (pc' := 26) rfl (hb hby d13_21) rfl (teq hc851).1 (by decide) (by decide) k) ?_
     show gM s₁ 26 #[rv a1, rv a2, iv 2] []
     refine sT (fun t k => XS.iinc X0.here hx rfl (hb hby d13_26) rfl (l' := #[rv a1, rv a2, iv 3]) rfl k) ?_
     show gM s₁ 29 #[rv a1, rv a2, iv 3] []
     refine sT (fun t k => XS.goto X0.here hx rfl (pc0 := 29) (pc' := 9) rfl (hb hby d13_29) (by decide) (by decide) k) ?_
     show gM s₁ 9 #[rv a1, rv a2, iv 3] []
     refine sT (fun t k => XS.iloadN X0.here hx rfl (hb hby d13_9) rfl k) ?_
     show gM s₁ 10 #[rv a1, rv a2, iv 3] [(.int 3)]
     refine sT (fun t k => XS.aloadN X0.here hx rfl (hb hby d13_10) rfl rfl k) ?_
     show gM s₁ 11 #[rv a1, rv a2, iv 3] [(.ref a1), (.int 3)]
     refine sT (fun t k => own_len X0 hx hZ e0 V_a1 (g := (mkF m 11 #[rv a1, rv a2, iv 3] [(.ref a1), (.int 3)])) rfl rfl (hb hby d13_11) _ k) ?_
     show gM s₁ 12 #[rv a1, rv a2, iv 3] [(.int 3), (.int 3)]
     have hc852 : ¬ ((3 : Int32) < (3 : Int32)) := by decide
     refine sT (fun t k => XS.icmpYes X0.here hx rfl (pc0 := 12) (pc' := 32) rfl (hb hby d13_12) rfl (flt hc852).2.1 (by decide) (by decide) k) ?_
     show gM s₁ 32 #[rv a1, rv a2, iv 3] []
     refine sT (fun t k => XS.iconst X0.here hx rfl (hb hby d13_32) k) ?_
     show gM s₁ 33 #[rv a1, rv a2, iv 3] [(.int 1)]
     refine own_retV X0 hx hlk Bd.returns (w := (.int 1)) (own_nb (Or.inr rfl)) (Or.inl ⟨rfl, Or.inr (Or.inl rfl), _, rfl⟩) (hb hby d13_33) ?_ (by decide) (by decide)
     show own_l3_Q Z a1 a2 y0 y1 y2 w0 w1 w2 k1 k2 h0 n0 _ s₁.heap _
     rw [e0]
     exact ⟨(by simp only [own_n3, if_pos hc847, if_pos hc849, if_pos hc851]), N0, rfl⟩
    · --
     refine sT (fun t k => XS.icmpNo X0.here hx rfl (hb hby d13_21) rfl (feq hc851).1 k) ?_
     show gM s₁ 24 #[rv a1, rv a2, iv 2] []
     refine sT (fun t k => XS.iconst X0.here hx rfl (hb hby d13_24) k) ?_
     show gM s₁ 25 #[rv a1, rv a2, iv 2] [(.int 0)]
     refine own_retV X0 hx hlk Bd.returns (w := (.int 0)) (own_nb (Or.inl rfl)) (Or.inl ⟨rfl, Or.inr (Or.inl rfl), _, rfl⟩) (hb hby d13_25) ?_ (by decide) (by decide)
     show own_l3_Q Z a1 a2 y0 y1 y2 w0 w1 w2 k1 k2 h0 n0 _ s₁.heap _
     rw [e0]
     exact ⟨(by simp only [own_n3, if_pos hc847, if_pos hc849, if_neg hc851]), N0, rfl⟩
   · --
    refine sT (fun t k => XS.icmpNo X0.here hx rfl (hb hby d13_21) rfl (feq hc849).1 k) ?_
    show gM s₁ 24 #[rv a1, rv a2, iv 1] []
    refine sT (fun t k => XS.iconst X0.here hx rfl (hb hby d13_24) k) ?_
    show gM s₁ 25 #[rv a1, rv a2, iv 1] [(.int 0)]
    refine own_retV X0 hx hlk Bd.returns (w := (.int 0)) (own_nb (Or.inl rfl)) (Or.inl ⟨rfl, Or.inr (Or.inl rfl), _, rfl⟩) (hb hby d13_25) ?_ (by decide) (by decide)
    show own_l3_Q Z a1 a2 y0 y1 y2 w0 w1 w2 k1 k2 h0 n0 _ s₁.heap _
    rw [e0]
    exact ⟨(by simp only [own_n3, if_pos hc847, if_neg hc849]), N0, rfl⟩
  · --
   refine sT (fun t k => XS.icmpNo X0.here hx rfl (hb hby d13_21) rfl (feq hc847).1 k) ?_
   show gM s₁ 24 #[rv a1, rv a2, iv 0] []
   refine sT (fun t k => XS.iconst X0.here hx rfl (hb hby d13_24) k) ?_
   show gM s₁ 25 #[rv a1, rv a2, iv 0] [(.int 0)]
   refine own_retV X0 hx hlk Bd.returns (w := (.int 0)) (own_nb (Or.inl rfl)) (Or.inl ⟨rfl, Or.inr (Or.inl rfl), _, rfl⟩) (hb hby d13_25) ?_ (by decide) (by decide)
   show own_l3_Q Z a1 a2 y0 y1 y2 w0 w1 w2 k1 k2 h0 n0 _ s₁.heap _
   rw [e0]
   exact ⟨(by simp only [own_n3, if_neg hc847]), N0, rfl⟩
theorem own_l4_ef (m : MethodId) (a1 : Addr) (a2 : Addr) : entryFrame m #[(.ref a1), (.ref a2)] 3 = mkF m 0 #[rv a1, rv a2, uN] [] := by first | (simp [entryFrame, mkF, argsToLocals, Value.category]; done) | rfl
def own_l4_Q (Z : State) (a1 : Addr) (a2 : Addr) (y0 : Int32) (y1 : Int32) (y2 : Int32) (y3 : Int32) (w0 : Int32) (w1 : Int32) (w2 : Int32) (w3 : Int32) (k1 : ClassId) (k2 : ClassId) (h0 : Heap) (n0 : Nat) (v : Option Value) (h : Heap) (L : List Loc) : Prop := v = some (.int (own_n4 y0 y1 y2 y3 w0 w1 w2 w3)) ∧ Fr n0 L ∧ h = h0
set_option maxRecDepth 65536 in
set_option maxHeartbeats 40000000 in
theorem own_l4 (l : Launch) (Z : State) (a0 : Array Value) (hw : ∀ d ∈ tables_1, d.before a0 Z = true) (ws : List Jvm.Cond) (a1 : Addr) (a2 : Addr) (y0 : Int32) (y1 : Int32) (y2 : Int32) (y3 : Int32) (w0 : Int32) (w1 : Int32) (w2 : Int32) (w3 : Int32) (k1 : ClassId) (k2 : ClassId) (h0 : Heap) (n0 : Nat) (Z0 : n0 ≤ h0.size) (V_a1 : Arv Z h0 a1 k1 .byte (4 : Int32) (([y0, y1, y2, y3] : List Int32).map Value.int) (Value.int 0)) (V_a2 : Arv Z h0 a2 k2 .byte (4 : Int32) (([w0, w1, w2, w3] : List Int32).map Value.int) (Value.int 0)) :
    MetFree l mN13 (head1 (Jvm.Cond.code mN13 jdk_43_method_13_code 3 (some .boolean) :: ws) ({ frames := 0, cells := 0, slots := 0, locals := 0 } : Room)) (fun aa U => aa = #[(.ref a1), (.ref a2)] ∧ Z.Warmed39 U.vm ∧ U.heap = h0) (fun _ _ _ _ _ => True) (fun _ U o U' => ∃ v L, o = .returned v ∧ own_l4_Q Z a1 a2 y0 y1 y2 y3 w0 w1 w2 w3 k1 k2 h0 n0 v U'.heap L ∧ FrameEnd U o U' L ({ frames := 0, cells := 0, slots := 0, locals := 0 } : Room).cells ({ frames := 0, cells := 0, slots := 0, locals := 0 } : Room).slots) := by
  refine MetFree.of_bodySF (plainFor_of_name own_pn3) hisR ?_
  intro p e s m args below meth c s₁ Bd hml0 hP hK
  obtain ⟨rfl, hZ, hh⟩ := hP
  have hx := Bd.exec
  have hby := Bd.bytes
  have hlk := Bd.notSynchronized
  have hml : c.maxLocals = 3 := hml0
  have hown : s.vm.findClass "java/lang/StringLatin1" = some m.cls := findClass_of_methodNamed Bd.named
  have hnm := (name_of_methodNamed Bd.named Bd.method).1
  have X0 : Stand p l e ({ frames := 0, cells := 0, slots := 0, locals := 0 } : Room) s m #[(.ref a1), (.ref a2)] below meth c s₁ [] 0 0 := Stand.of_body Bd
  have e0 : s₁.heap = h0 := by rw [← hh, Bd.state]; rfl
  have N0 := Fr.nil n0
  have K0 : Keep h0 h0 [] := Keep.refl h0 _
  show gS p e below (own_Fin s (own_l4_Q Z a1 a2 y0 y1 y2 y3 w0 w1 w2 w3 k1 k2 h0 n0) ({ frames := 0, cells := 0, slots := 0, locals := 0 } : Room).cells ({ frames := 0, cells := 0, slots := 0, locals := 0 } : Room).slots) _
  refine sT (fun t k => castTop (own_l4_ef m a1 a2) k) ?_
  show gM s₁ 0 #[rv a1, rv a2, uN] []
  refine sT (fun t k => XS.aloadN X0.here hx rfl (hb hby d13_0) rfl rfl k) ?_
  show gM s₁ 1 #[rv a1, rv a2, uN] [(.ref a1)]
  refine sT (fun t k => own_len X0 hx hZ e0 V_a1 (g := (mkF m 1 #[rv a1, rv a2, uN] [(.ref a1)])) rfl rfl (hb hby d13_1) _ k) ?_
  show gM s₁ 2 #[rv a1, rv a2, uN] [(.int 4)]
  refine sT (fun t k => XS.aloadN X0.here hx rfl (hb hby d13_2) rfl rfl k) ?_
  show gM s₁ 3 #[rv a1, rv a2, uN] [(.ref a2), (.int 4)]
  refine sT (fun t k => own_len X0 hx hZ e0 V_a2 (g := (mkF m 3 #[rv a1, rv a2, uN] [(.ref a2), (.int 4)])) rfl rfl (hb hby d13_3) _ k) ?_
  show gM s₁ 4 #[rv a1, rv a2, uN] [(.int 4), (.int 4)]
  have hc863 : (4 : Int32) = (4 : Int32) := rfl
  refine sT (fun t k => XS.icmpNo X0.here hx rfl (hb hby d13_4) rfl (teq hc863).2 k) ?_
  show gM s₁ 7 #[rv a1, rv a2, uN] []
  refine sT (fun t k => XS.iconst X0.here hx rfl (hb hby d13_7) k) ?_
  show gM s₁ 8 #[rv a1, rv a2, uN] [(.int 0)]
  refine sT (fun t k => XS.istoreN X0.here hx rfl (hb hby d13_8) rfl (l' := #[rv a1, rv a2, iv 0]) rfl k) ?_
  show gM s₁ 9 #[rv a1, rv a2, iv 0] []
  refine sT (fun t k => XS.iloadN X0.here hx rfl (hb hby d13_9) rfl k) ?_
  show gM s₁ 10 #[rv a1, rv a2, iv 0] [(.int 0)]
  refine sT (fun t k => XS.aloadN X0.here hx rfl (hb hby d13_10) rfl rfl k) ?_
  show gM s₁ 11 #[rv a1, rv a2, iv 0] [(.ref a1), (.int 0)]
  refine sT (fun t k => own_len X0 hx hZ e0 V_a1 (g := (mkF m 11 #[rv a1, rv a2, iv 0] [(.ref a1), (.int 0)])) rfl rfl (hb hby d13_11) _ k) ?_
  show gM s₁ 12 #[rv a1, rv a2, iv 0] [(.int 4), (.int 0)]
  have hc864 : (0 : Int32) < (4 : Int32) := by decide
  refine sT (fun t k => XS.icmpNo X0.here hx rfl (hb hby d13_12) rfl (tlt hc864).2.1 k) ?_
  show gM s₁ 15 #[rv a1, rv a2, iv 0] []
  refine sT (fun t k => XS.aloadN X0.here hx rfl (hb hby d13_15) rfl rfl k) ?_
  show gM s₁ 16 #[rv a1, rv a2, iv 0] [(.ref a1)]
  refine sT (fun t k => XS.iloadN X0.here hx rfl (hb hby d13_16) rfl k) ?_
  show gM s₁ 17 #[rv a1, rv a2, iv 0] [(.int 0), (.ref a1)]
  refine sT (fun t k => own_bal X0 hx hZ e0 V_a1 ⟨by decide, by decide⟩ (g := (mkF m 17 #[rv a1, rv a2, iv 0] [(.int 0), (.ref a1)])) rfl rfl (hb hby d13_17) _ k) ?_
  show gM s₁ 18 #[rv a1, rv a2, iv 0] [(.int y0)]
  refine sT (fun t k => XS.aloadN X0.here hx rfl (hb hby d13_18) rfl rfl k) ?_
  show gM s₁ 19 #[rv a1, rv a2, iv 0] [(.ref a2), (.int y0)]
  refine sT (fun t k => XS.iloadN X0.here hx rfl (hb hby d13_19) rfl k) ?_
  show gM s₁ 20 #[rv a1, rv a2, iv 0] [(.int 0), (.ref a2), (.int y0)]
  refine sT (fun t k => own_bal X0 hx hZ e0 V_a2 ⟨by decide, by decide⟩ (g := (mkF m 20 #[rv a1, rv a2, iv 0] [(.int 0), (.ref a2), (.int y0)])) rfl rfl (hb hby d13_20) _ k) ?_
  show gM s₁ 21 #[rv a1, rv a2, iv 0] [(.int w0), (.int y0)]
  by_cases hc865 : y0 = w0
  · --
   refine sT (fun t k => XS.icmpYes X0.here hx rfl (pc0 := 21) (pc' := 26) rfl (hb hby d13_21) rfl (teq hc865).1 (by decide) (by decide) k) ?_
   show gM s₁ 26 #[rv a1, rv a2, iv 0] []
   refine sT (fun t k => XS.iinc X0.here hx rfl (hb hby d13_26) rfl (l' := #[rv a1, rv a2, iv 1]) rfl k) ?_
   show gM s₁ 29 #[rv a1, rv a2, iv 1] []
   refine sT (fun t k => XS.goto X0.here hx rfl (pc0 := 29) (pc' := 9) rfl (hb hby d13_29) (by decide) (by decide) k) ?_
   show gM s₁ 9 #[rv a1, rv a2, iv 1] []
   refine sT (fun t k => XS.iloadN X0.here hx rfl (hb hby d13_9) rfl k) ?_
   show gM s₁ 10 #[rv a1, rv a2, iv 1] [(.int 1)]
   refine sT (fun t k => XS.aloadN X0.here hx rfl (hb hby d13_10) rfl rfl k) ?_
   show gM s₁ 11 #[rv a1, rv a2, iv 1] [(.ref a1), (.int 1)]
   refine sT (fun t k => own_len X0 hx hZ e0 V_a1 (g := (mkF m 11 #[rv a1, rv a2, iv 1] [(.ref a1), (.int 1)])) rfl rfl (hb hby d13_11) _ k) ?_
   show gM s₁ 12 #[rv a1, rv a2, iv 1] [(.int 4), (.int 1)]
   have hc866 : (1 : Int32) < (4 : Int32) := by decide
   refine sT (fun t k => XS.icmpNo X0.here hx rfl (hb hby d13_12) rfl (tlt hc866).2.1 k) ?_
   show gM s₁ 15 #[rv a1, rv a2, iv 1] []
   refine sT (fun t k => XS.aloadN X0.here hx rfl (hb hby d13_15) rfl rfl k) ?_
   show gM s₁ 16 #[rv a1, rv a2, iv 1] [(.ref a1)]
   refine sT (fun t k => XS.iloadN X0.here hx rfl (hb hby d13_16) rfl k) ?_
   show gM s₁ 17 #[rv a1, rv a2, iv 1] [(.int 1), (.ref a1)]
   refine sT (fun t k => own_bal X0 hx hZ e0 V_a1 ⟨by decide, by decide⟩ (g := (mkF m 17 #[rv a1, rv a2, iv 1] [(.int 1), (.ref a1)])) rfl rfl (hb hby d13_17) _ k) ?_
   show gM s₁ 18 #[rv a1, rv a2, iv 1] [(.int y1)]
   refine sT (fun t k => XS.aloadN X0.here hx rfl (hb hby d13_18) rfl rfl k) ?_
   show gM s₁ 19 #[rv a1, rv a2, iv 1] [(.ref a2), (.int y1)]
   refine sT (fun t k => XS.iloadN X0.here hx rfl (hb hby d13_19) rfl k) ?_
   show gM s₁ 20 #[rv a1, rv a2, iv 1] [(.int 1), (.ref a2), (.int y1)]
   refine sT (fun t k => own_bal X0 hx hZ e0 V_a2 ⟨by decide, by decide⟩ (g := (mkF m 20 #[rv a1, rv a2, iv 1] [(.int 1), (.ref a2), (.int y1)])) rfl rfl (hb hby d13_20) _ k) ?_
   show gM s₁ 21 #[rv a1, rv a2, iv 1] [(.int w1), (.int y1)]
   by_cases hc867 : y1 = w1
   · --
    refine sT (fun t k => XS.icmpYes X0.here hx rfl (pc0 := 21) (pc' := 26) rfl (hb hby d13_21) rfl (teq hc867).1 (by decide) (by decide) k) ?_
    show gM s₁ 26 #[rv a1, rv a2, iv 1] []
    refine sT (fun t k => XS.iinc X0.here hx rfl (hb hby d13_26) rfl (l' := #[rv a1, rv a2, iv 2]) rfl k) ?_
    show gM s₁ 29 #[rv a1, rv a2, iv 2] []
    refine sT (fun t k => XS.goto X0.here hx rfl (pc0 := 29) (pc' := 9) rfl (hb hby d13_29) (by decide) (by decide) k) ?_
    show gM s₁ 9 #[rv a1, rv a2, iv 2] []
    refine sT (fun t k => XS.iloadN X0.here hx rfl (hb hby d13_9) rfl k) ?_
    show gM s₁ 10 #[rv a1, rv a2, iv 2] [(.int 2)]
    refine sT (fun t k => XS.aloadN X0.here hx rfl (hb hby d13_10) rfl rfl k) ?_
    show gM s₁ 11 #[rv a1, rv a2, iv 2] [(.ref a1), (.int 2)]
    refine sT (fun t k => own_len X0 hx hZ e0 V_a1 (g := (mkF m 11 #[rv a1, rv a2, iv 2] [(.ref a1), (.int 2)])) rfl rfl (hb hby d13_11) _ k) ?_
    show gM s₁ 12 #[rv a1, rv a2, iv 2] [(.int 4), (.int 2)]
    have hc868 : (2 : Int32) < (4 : Int32) := by decide
    refine sT (fun t k => XS.icmpNo X0.here hx rfl (hb hby d13_12) rfl (tlt hc868).2.1 k) ?_
    show gM s₁ 15 #[rv a1, rv a2, iv 2] []
    refine sT (fun t k => XS.aloadN X0.here hx rfl (hb hby d13_15) rfl rfl k) ?_
    show gM s₁ 16 #[rv a1, rv a2, iv 2] [(.ref a1)]
    refine sT (fun t k => XS.iloadN X0.here hx rfl (hb hby d13_16) rfl k) ?_
    show gM s₁ 17 #[rv a1, rv a2, iv 2] [(.int 2), (.ref a1)]
    refine sT (fun t k => own_bal X0 hx hZ e0 V_a1 ⟨by decide, by decide⟩ (g := (mkF m 17 #[rv a1, rv a2, iv 2] [(.int 2), (.ref a1)])) rfl rfl (hb hby d13_17) _ k) ?_
    show gM s₁ 18 #[rv a1, rv a2, iv 2] [(.int y2)]
    refine sT (fun t k => XS.aloadN X0.here hx rfl (hb hby d13_18) rfl rfl k) ?_
    show gM s₁ 19 #[rv a1, rv a2, iv 2] [(.ref a2), (.int y2)]
    refine sT (fun t k => XS.iloadN X0.here hx rfl (hb hby d13_19) rfl k) ?_
    show gM s₁ 20 #[rv a1, rv a2, iv 2] [(.int 2), (.ref a2), (.int y2)]
    refine sT (fun t k => own_bal X0 hx hZ e0 V_a2 ⟨by decide, by decide⟩ (g := (mkF m 20 #[rv a1, rv a2, iv 2] [(.int 2), (.ref a2), (.int y2)])) rfl rfl (hb hby d13_20) _ k) ?_
    show gM s₁ 21 #[rv a1, rv a2, iv 2] [(.int w2), (.int y2)]
    by_cases hc869 : y2 = w2
    · --
     refine sT (fun t k => XS.icmpYes X0.here hx rfl (pc0 := 21) (pc' := 26) rfl (hb hby d13_21) rfl (teq hc869).1 (by decide) (by decide) k) ?_
     show gM s₁ 26 #[rv a1, rv a2, iv 2] []
     refine sT (fun t k => XS.iinc X0.here hx rfl (hb hby d13_26) rfl (l' := #[rv a1, rv a2, iv 3]) rfl k) ?_
     show gM s₁ 29 #[rv a1, rv a2, iv 3] []
     refine sT (fun t k => XS.goto X0.here hx rfl (pc0 := 29) (pc' := 9) rfl (hb hby d13_29) (by decide) (by decide) k) ?_
     show gM s₁ 9 #[rv a1, rv a2, iv 3] []
     refine sT (fun t k => XS.iloadN X0.here hx rfl (hb hby d13_9) rfl k) ?_
     show gM s₁ 10 #[rv a1, rv a2, iv 3] [(.int 3)]
     refine sT (fun t k => XS.aloadN X0.here hx rfl (hb hby d13_10) rfl rfl k) ?_
     show gM s₁ 11 #[rv a1, rv a2, iv 3] [(.ref a1), (.int 3)]
     refine sT (fun t k => own_len X0 hx hZ e0 V_a1 (g := (mkF m 11 #[rv a1, rv a2, iv 3] [(.ref a1), (.int 3)])) rfl rfl (hb hby d13_11) _ k) ?_
     show gM s₁ 12 #[rv a1, rv a2, iv 3] [(.int 4), (.int 3)]
     have hc870 : (3 : Int32) < (4 : Int32) := by decide
     refine sT (fun t k => XS.icmpNo X0.here hx rfl (hb hby d13_12) rfl (tlt hc870).2.1 k) ?_
     show gM s₁ 15 #[rv a1, rv a2, iv 3] []
     refine sT (fun t k => XS.aloadN X0.here hx rfl (hb hby d13_15) rfl rfl k) ?_
     show gM s₁ 16 #[rv a1, rv a2, iv 3] [(.ref a1)]
     refine sT (fun t k => XS.iloadN X0.here hx rfl (hb hby d13_16) rfl k) ?_
     show gM s₁ 17 #[rv a1, rv a2, iv 3] [(.int 3), (.ref a1)]
     refine sT (fun t k => own_bal X0 hx hZ e0 V_a1 ⟨by decide, by decide⟩ (g := (mkF m 17 #[rv a1, rv a2, iv 3] [(.int 3), (.ref a1)])) rfl rfl (hb hby d13_17) _ k) ?_
     show gM s₁ 18 #[rv a1, rv a2, iv 3] [(.int y3)]
     refine sT (fun t k => XS.aloadN X0.here hx rfl (hb hby d13_18) rfl rfl k) ?_
     show gM s₁ 19 #[rv a1, rv a2, iv 3] [(.ref a2), (.int y3)]
     refine sT (fun t k => XS.iloadN X0.here hx rfl (hb hby d13_19) rfl k) ?_
     show gM s₁ 20 #[rv a1, rv a2, iv 3] [(.int 3), (.ref a2), (.int y3)]
     refine sT (fun t k => own_bal X0 hx hZ e0 V_a2 ⟨by decide, by decide⟩ (g := (mkF m 20 #[rv a1, rv a2, iv 3] [(.int 3), (.ref a2), (.int y3)])) rfl rfl (hb hby d13_20) _ k) ?_
     show gM s₁ 21 #[rv a1, rv a2, iv 3] [(.int w3), (.int y3)]
     by_cases hc871 : y3 = w3
     · --
      refine sT (fun t k => XS.icmpYes X0.here hx rfl (pc0 := 21) (pc' := 26) rfl (hb hby d13_21) rfl (teq hc871).1 (by decide) (by decide) k) ?_
      show gM s₁ 26 #[rv a1, rv a2, iv 3] []
      refine sT (fun t k => XS.iinc X0.here hx rfl (hb hby d13_26) rfl (l' := #[rv a1, rv a2, iv 4]) rfl k) ?_
      show gM s₁ 29 #[rv a1, rv a2, iv 4] []
      refine sT (fun t k => XS.goto X0.here hx rfl (pc0 := 29) (pc' := 9) rfl (hb hby d13_29) (by decide) (by decide) k) ?_
      show gM s₁ 9 #[rv a1, rv a2, iv 4] []
      refine sT (fun t k => XS.iloadN X0.here hx rfl (hb hby d13_9) rfl k) ?_
      show gM s₁ 10 #[rv a1, rv a2, iv 4] [(.int 4)]
      refine sT (fun t k => XS.aloadN X0.here hx rfl (hb hby d13_10) rfl rfl k) ?_
      show gM s₁ 11 #[rv a1, rv a2, iv 4] [(.ref a1), (.int 4)]
      refine sT (fun t k => own_len X0 hx hZ e0 V_a1 (g := (mkF m 11 #[rv a1, rv a2, iv 4] [(.ref a1), (.int 4)])) rfl rfl (hb hby d13_11) _ k) ?_
      show gM s₁ 12 #[rv a1, rv a2, iv 4] [(.int 4), (.int 4)]
      have hc872 : ¬ ((4 : Int32) < (4 : Int32)) := by decide
      refine sT (fun t k => XS.icmpYes X0.here hx rfl (pc0 := 12) (pc' := 32) rfl (hb hby d13_12) rfl (flt hc872).2.1 (by decide) (by decide) k) ?_
      show gM s₁ 32 #[rv a1, rv a2, iv 4] []
      refine sT (fun t k => XS.iconst X0.here hx rfl (hb hby d13_32) k) ?_
      show gM s₁ 33 #[rv a1, rv a2, iv 4] [(.int 1)]
      refine own_retV X0 hx hlk Bd.returns (w := (.int 1)) (own_nb (Or.inr rfl)) (Or.inl ⟨rfl, Or.inr (Or.inl rfl), _, rfl⟩) (hb hby d13_33) ?_ (by decide) (by decide)
      show own_l4_Q Z a1 a2 y0 y1 y2 y3 w0 w1 w2 w3 k1 k2 h0 n0 _ s₁.heap _
      rw [e0]
      exact ⟨(by simp only [own_n4, if_pos hc865, if_pos hc867, if_pos hc869, if_pos hc871]), N0, rfl⟩
     · --
      refine sT (fun t k => XS.icmpNo X0.here hx rfl (hb hby d13_21) rfl (feq hc871).1 k) ?_
      show gM s₁ 24 #[rv a1, rv a2, iv 3] []
      refine sT (fun t k => XS.iconst X0.here hx rfl (hb hby d13_24) k) ?_
      show gM s₁ 25 #[rv a1, rv a2, iv 3] [(.int 0)]
      refine own_retV X0 hx hlk Bd.returns (w := (.int 0)) (own_nb (Or.inl rfl)) (Or.inl ⟨rfl, Or.inr (Or.inl rfl), _, rfl⟩) (hb hby d13_25) ?_ (by decide) (by decide)
      show own_l4_Q Z a1 a2 y0 y1 y2 y3 w0 w1 w2 w3 k1 k2 h0 n0 _ s₁.heap _
      rw [e0]
      exact ⟨(by simp only [own_n4, if_pos hc865, if_pos hc867, if_pos hc869, if_neg hc871]), N0, rfl⟩
    · --
     refine sT (fun t k => XS.icmpNo X0.here hx rfl (hb hby d13_21) rfl (feq hc869).1 k) ?_
     show gM s₁ 24 #[rv a1, rv a2, iv 2] []
     refine sT (fun t k => XS.iconst X0.here hx rfl (hb hby d13_24) k) ?_
     show gM s₁ 25 #[rv a1, rv a2, iv 2] [(.int 0)]
     refine own_retV X0 hx hlk Bd.returns (w := (.int 0)) (own_nb (Or.inl rfl)) (Or.inl ⟨rfl, Or.inr (Or.inl rfl), _, rfl⟩) (hb hby d13_25) ?_ (by decide) (by decide)
     show own_l4_Q Z a1 a2 y0 y1 y2 y3 w0 w1 w2 w3 k1 k2 h0 n0 _ s₁.heap _
     rw [e0]
     exact ⟨(by simp only [own_n4, if_pos hc865, if_pos hc867, if_neg hc869]), N0, rfl⟩
   · --
    refine sT (fun t k => XS.icmpNo X0.here hx rfl (hb hby d13_21) rfl (feq hc867).1 k) ?_
    show gM s₁ 24 #[rv a1, rv a2, iv 1] []
    refine sT (fun t k => XS.iconst X0.here hx rfl (hb hby d13_24) k) ?_
    show gM s₁ 25 #[rv a1, rv a2, iv 1] [(.int 0)]
    refine own_retV X0 hx hlk Bd.returns (w := (.int 0)) (own_nb (Or.inl rfl)) (Or.inl ⟨rfl, Or.inr (Or.inl rfl), _, rfl⟩) (hb hby d13_25) ?_ (by decide) (by decide)
    show own_l4_Q Z a1 a2 y0 y1 y2 y3 w0 w1 w2 w3 k1 k2 h0 n0 _ s₁.heap _
    rw [e0]
    exact ⟨(by simp only [own_n4, if_pos hc865, if_neg hc867]), N0, rfl⟩
  · --
   refine sT (fun t k => XS.icmpNo X0.here hx rfl (hb hby d13_21) rfl (feq hc865).1 k) ?_
   show gM s₁ 24 #[rv a1, rv a2, iv 0] []
   refine sT (fun t k => XS.iconst X0.here hx rfl (hb hby d13_24) k) ?_
   show gM s₁ 25 #[rv a1, rv a2, iv 0] [(.int 0)]
   refine own_retV X0 hx hlk Bd.returns (w := (.int 0)) (own_nb (Or.inl rfl)) (Or.inl ⟨rfl, Or.inr (Or.inl rfl), _, rfl⟩) (hb hby d13_25) ?_ (by decide) (by decide)
   show own_l4_Q Z a1 a2 y0 y1 y2 y3 w0 w1 w2 w3 k1 k2 h0 n0 _ s₁.heap _
   rw [e0]
   exact ⟨(by simp only [own_n4, if_neg hc865]), N0, rfl⟩
theorem d14_0 : decode jdk_42_method_66_code 0 = .ok (.aload_n 0, 1) := by decide +kernel
theorem d14_1 : decode jdk_42_method_66_code 1 = .ok (.aload_n 1, 1) := by decide +kernel
theorem d14_2 : decode jdk_42_method_66_code 2 = .ok (.if_acmp .ne 5, 3) := by decide +kernel
theorem d14_7 : decode jdk_42_method_66_code 7 = .ok (.aload_n 1, 1) := by decide +kernel
theorem d14_8 : decode jdk_42_method_66_code 8 = .ok (.instanceof 10, 3) := by decide +kernel
theorem d14_11 : decode jdk_42_method_66_code 11 = .ok (.ifCond .eq 43, 3) := by decide +kernel
theorem d14_14 : decode jdk_42_method_66_code 14 = .ok (.aload_n 1, 1) := by decide +kernel
theorem d14_15 : decode jdk_42_method_66_code 15 = .ok (.checkcast 10, 3) := by decide +kernel
theorem d14_18 : decode jdk_42_method_66_code 18 = .ok (.astore_n 2, 1) := by decide +kernel
theorem d14_19 : decode jdk_42_method_66_code 19 = .ok (.getstatic 38, 3) := by decide +kernel
theorem d14_22 : decode jdk_42_method_66_code 22 = .ok (.ifCond .eq 14, 3) := by decide +kernel
theorem d14_25 : decode jdk_42_method_66_code 25 = .ok (.aload_n 0, 1) := by decide +kernel
theorem d14_26 : decode jdk_42_method_66_code 26 = .ok (.getfield 15, 3) := by decide +kernel
theorem d14_29 : decode jdk_42_method_66_code 29 = .ok (.aload_n 2, 1) := by decide +kernel
theorem d14_30 : decode jdk_42_method_66_code 30 = .ok (.getfield 15, 3) := by decide +kernel
theorem d14_33 : decode jdk_42_method_66_code 33 = .ok (.if_icmp .ne 21, 3) := by decide +kernel
theorem d14_54 : decode jdk_42_method_66_code 54 = .ok (.iconst 0, 1) := by decide +kernel
theorem d14_55 : decode jdk_42_method_66_code 55 = .ok (.ireturn, 1) := by decide +kernel
theorem own_ea_ef (m : MethodId) (a1 : Addr) (o1 : Addr) : entryFrame m #[(.ref a1), (.ref o1)] 3 = mkF m 0 #[rv a1, rv o1, uN] [] := by first | (simp [entryFrame, mkF, argsToLocals, Value.category]; done) | rfl
def own_ea_Q (Z : State) (a1 : Addr) (o1 : Addr) (cs : Int32) (h0 : Heap) (n0 : Nat) (v : Option Value) (h : Heap) (L : List Loc) : Prop := v = some (.int 0) ∧ Fr n0 L ∧ h = h0
set_option maxRecDepth 65536 in
set_option maxHeartbeats 40000000 in
theorem own_ea (l : Launch) (Z : State) (a0 : Array Value) (hw : ∀ d ∈ tables_1, d.before a0 Z = true) (ws : List Jvm.Cond) (a1 : Addr) (o1 : Addr) (cs : Int32) (h0 : Heap) (n0 : Nat) (Z0 : n0 ≤ h0.size) (E_o1 : Exa Z h0 o1 "java/lang/String") (S_COMPACT_STRINGS : Sta Z Z.heap "java/lang/String" "COMPACT_STRINGS" "Z" (.int cs)) (hcs : ¬ cs = (0 : Int32)) (Zn : Z.heap.size ≤ n0) (EZ : Ext Z.heap h0) (F_coder_a1 : Fld Z h0 a1 "java/lang/String" "coder" "B" (.int 1)) (F_coder_o1 : Fld Z h0 o1 "java/lang/String" "coder" "B" (.int 0)) :
    MetFree l mN14 (head1 (Jvm.Cond.code mN14 jdk_42_method_66_code 3 (some .boolean) :: ws) ({ frames := 0, cells := 0, slots := 0, locals := 0 } : Room)) (fun aa U => aa = #[(.ref a1), (.ref o1)] ∧ Z.Warmed39 U.vm ∧ U.heap = h0) (fun _ _ _ _ _ => True) (fun _ U o U' => ∃ v L, o = .returned v ∧ own_ea_Q Z a1 o1 cs h0 n0 v U'.heap L ∧ FrameEnd U o U' L ({ frames := 0, cells := 0, slots := 0, locals := 0 } : Room).cells ({ frames := 0, cells := 0, slots := 0, locals := 0 } : Room).slots) := by
  refine MetFree.of_bodySF (plainFor_of_name own_pn2) hisR ?_
  have w33 := wO hw 33 rfl
  have w50 := wO hw 50 rfl
  have w51 := wO hw 51 rfl
  intro p e s m args below meth c s₁ Bd hml0 hP hK
  obtain ⟨rfl, hZ, hh⟩ := hP
  have hx := Bd.exec
  have hby := Bd.bytes
  have hlk := Bd.notSynchronized
  have hml : c.maxLocals = 3 := hml0
  have hown : s.vm.findClass "java/lang/String" = some m.cls := findClass_of_methodNamed Bd.named
  have hnm := (name_of_methodNamed Bd.named Bd.method).1
  have X0 : Stand p l e ({ frames := 0, cells := 0, slots := 0, locals := 0 } : Room) s m #[(.ref a1), (.ref o1)] below meth c s₁ [] 0 0 := Stand.of_body Bd
  have e0 : s₁.heap = h0 := by rw [← hh, Bd.state]; rfl
  have N0 := Fr.nil n0
  have K0 : Keep h0 h0 [] := Keep.refl h0 _
  have O0 : Old Z Z.heap.size h0 := ⟨rfl, EZ⟩
  show gS p e below (own_Fin s (own_ea_Q Z a1 o1 cs h0 n0) ({ frames := 0, cells := 0, slots := 0, locals := 0 } : Room).cells ({ frames := 0, cells := 0, slots := 0, locals := 0 } : Room).slots) _
  refine sT (fun t k => castTop (own_ea_ef m a1 o1) k) ?_
  show gM s₁ 0 #[rv a1, rv o1, uN] []
  refine sT (fun t k => XS.aloadN X0.here hx rfl (hb hby d14_0) rfl rfl k) ?_
  show gM s₁ 1 #[rv a1, rv o1, uN] [(.ref a1)]
  refine sT (fun t k => XS.aloadN X0.here hx rfl (hb hby d14_1) rfl rfl k) ?_
  show gM s₁ 2 #[rv a1, rv o1, uN] [(.ref o1), (.ref a1)]
  refine sT (fun t k => Jvm.RoadKit.acmp (g := (mkF m 2 #[rv a1, rv o1, uN] [(.ref o1), (.ref a1)])) X0 hx rfl rfl rfl (pc0 := 2) (pc' := 7) (same := false) rfl (hb hby d14_2) rfl (decide_eq_false fun zq => (F_coder_a1.ne F_coder_o1 (fun zq => absurd (Value.int.inj zq) (by decide))) (Value.ref.inj zq)) (by decide) (by decide) k) ?_
  show gM s₁ 7 #[rv a1, rv o1, uN] []
  refine sT (fun t k => XS.aloadN X0.here hx rfl (hb hby d14_7) rfl rfl k) ?_
  show gM s₁ 8 #[rv a1, rv o1, uN] [(.ref o1)]
  obtain ⟨T881, X881, e881, st881⟩ := instY X0 hx hZ hown w50 e0 (Ins.self E_o1) (g := (mkF m 8 #[rv a1, rv o1, uN] [(.ref o1)])) rfl rfl (hb hby d14_8)
  refine sT st881 ?_
  show gM T881 11 #[rv a1, rv o1, uN] [(.int 1)]
  have hc882 : ¬ ((1 : Int32) = (0 : Int32)) := by decide
  refine sT (fun t k => XS.ifNo X881.here hx rfl (hb hby d14_11) rfl ((if0 _ _).trans (feq hc882).1) k) ?_
  show gM T881 14 #[rv a1, rv o1, uN] []
  refine sT (fun t k => XS.aloadN X881.here hx rfl (hb hby d14_14) rfl rfl k) ?_
  show gM T881 15 #[rv a1, rv o1, uN] [(.ref o1)]
  obtain ⟨T883, X883, e883, st883⟩ := castY X881 hx hZ hown w50 e881 (Ins.self E_o1) (g := (mkF m 15 #[rv a1, rv o1, uN] [(.ref o1)])) rfl rfl (hb hby d14_15)
  refine sT st883 ?_
  show gM T883 18 #[rv a1, rv o1, uN] [(.ref o1)]
  refine sT (fun t k => XS.astoreN X883.here hx rfl (hb hby d14_18) rfl rfl (l' := #[rv a1, rv o1, rv o1]) rfl k) ?_
  show gM T883 19 #[rv a1, rv o1, rv o1] []
  obtain ⟨T884, X884, e884, st884⟩ := getS2 X883 hx hZ hown (host := "") (Or.inl w51) Via.refl e883 (S_COMPACT_STRINGS.ext O0.2) (g := (mkF m 19 #[rv a1, rv o1, rv o1] [])) rfl (hb hby d14_19)
  refine sT st884 ?_
  show gM T884 22 #[rv a1, rv o1, rv o1] [(.int cs)]
  have hc885 : ¬ (cs = (0 : Int32)) := hcs
  refine sT (fun t k => XS.ifNo X884.here hx rfl (hb hby d14_22) rfl ((if0 _ _).trans (feq hc885).1) k) ?_
  show gM T884 25 #[rv a1, rv o1, rv o1] []
  refine sT (fun t k => XS.aloadN X884.here hx rfl (hb hby d14_25) rfl rfl k) ?_
  show gM T884 26 #[rv a1, rv o1, rv o1] [(.ref a1)]
  obtain ⟨T886, X886, e886, st886⟩ := getF X884 hx hZ hown (host := "") (Or.inl w33) Via.refl e884 F_coder_a1 (g := (mkF m 26 #[rv a1, rv o1, rv o1] [(.ref a1)])) rfl rfl (hb hby d14_26)
  refine sT st886 ?_
  show gM T886 29 #[rv a1, rv o1, rv o1] [(.int 1)]
  refine sT (fun t k => XS.aloadN X886.here hx rfl (hb hby d14_29) rfl rfl k) ?_
  show gM T886 30 #[rv a1, rv o1, rv o1] [(.ref o1), (.int 1)]
  obtain ⟨T887, X887, e887, st887⟩ := getF X886 hx hZ hown (host := "") (Or.inl w33) Via.refl e886 F_coder_o1 (g := (mkF m 30 #[rv a1, rv o1, rv o1] [(.ref o1), (.int 1)])) rfl rfl (hb hby d14_30)
  refine sT st887 ?_
  show gM T887 33 #[rv a1, rv o1, rv o1] [(.int 0), (.int 1)]
  have hc888 : ¬ ((1 : Int32) = (0 : Int32)) := by decide
  refine sT (fun t k => XS.icmpYes X887.here hx rfl (pc0 := 33) (pc' := 54) rfl (hb hby d14_33) rfl (feq hc888).2 (by decide) (by decide) k) ?_
  show gM T887 54 #[rv a1, rv o1, rv o1] []
  refine sT (fun t k => XS.iconst X887.here hx rfl (hb hby d14_54) k) ?_
  show gM T887 55 #[rv a1, rv o1, rv o1] [(.int 0)]
  refine own_retV X887 hx hlk Bd.returns (w := (.int 0)) (own_nb (Or.inl rfl)) (Or.inl ⟨rfl, Or.inr (Or.inl rfl), _, rfl⟩) (hb hby d14_55) ?_ (by decide) (by decide)
  show own_ea_Q Z a1 o1 cs h0 n0 _ T887.heap _
  rw [e887]
  exact ⟨rfl, N0, rfl⟩
theorem d14_36 : decode jdk_42_method_66_code 36 = .ok (.aload_n 0, 1) := by decide +kernel
theorem d14_37 : decode jdk_42_method_66_code 37 = .ok (.getfield 9, 3) := by decide +kernel
theorem d14_40 : decode jdk_42_method_66_code 40 = .ok (.aload_n 2, 1) := by decide +kernel
theorem d14_41 : decode jdk_42_method_66_code 41 = .ok (.getfield 9, 3) := by decide +kernel
theorem own_pd10 : parseMethodDescriptor "([B[B)Z" = some ⟨[(.array .byte), (.array .byte)], some .boolean⟩ := by decide +kernel
theorem d14_44 : decode jdk_42_method_66_code 44 = .ok (.invokestatic 541, 3) := by decide +kernel
theorem d14_47 : decode jdk_42_method_66_code 47 = .ok (.ifCond .eq 7, 3) := by decide +kernel
theorem own_eb_ef (m : MethodId) (a1 : Addr) (o1 : Addr) : entryFrame m #[(.ref a1), (.ref o1)] 3 = mkF m 0 #[rv a1, rv o1, uN] [] := by first | (simp [entryFrame, mkF, argsToLocals, Value.category]; done) | rfl
def own_eb_Q (Z : State) (a1 : Addr) (o1 : Addr) (cs : Int32) (v1 : Addr) (v2 : Addr) (z1 : Int32) (x1 : List Int32) (k1 : ClassId) (z2 : Int32) (x2 : List Int32) (k2 : ClassId) (h0 : Heap) (n0 : Nat) (v : Option Value) (h : Heap) (L : List Loc) : Prop := v = some (.int 0) ∧ Fr n0 L ∧ h = h0
set_option maxRecDepth 65536 in
set_option maxHeartbeats 40000000 in
theorem own_eb (l : Launch) (Z : State) (a0 : Array Value) (hw : ∀ d ∈ tables_1, d.before a0 Z = true) (ws : List Jvm.Cond) (a1 : Addr) (o1 : Addr) (cs : Int32) (v1 : Addr) (v2 : Addr) (z1 : Int32) (x1 : List Int32) (k1 : ClassId) (z2 : Int32) (x2 : List Int32) (k2 : ClassId) (h0 : Heap) (n0 : Nat) (Z0 : n0 ≤ h0.size) (E_o1 : Exa Z h0 o1 "java/lang/String") (S_COMPACT_STRINGS : Sta Z Z.heap "java/lang/String" "COMPACT_STRINGS" "Z" (.int cs)) (hcs : ¬ cs = (0 : Int32)) (Zn : Z.heap.size ≤ n0) (EZ : Ext Z.heap h0) (F_coder_a1 : Fld Z h0 a1 "java/lang/String" "coder" "B" (.int 0)) (F_coder_o1 : Fld Z h0 o1 "java/lang/String" "coder" "B" (.int 0)) (F_value_a1 : Fld Z h0 a1 "java/lang/String" "value" "[B" (.ref v1)) (F_value_o1 : Fld Z h0 o1 "java/lang/String" "value" "[B" (.ref v2)) (V_v1 : Arv Z h0 v1 k1 .byte z1 (x1.map Value.int) (Value.int 0)) (V_v2 : Arv Z h0 v2 k2 .byte z2 (x2.map Value.int) (Value.int 0)) (hz : z1 ≠ z2) :
    MetFree l mN14 (head1 (Jvm.Cond.code mN14 jdk_42_method_66_code 3 (some .boolean) :: ws) ({ frames := 1, cells := 0, slots := 0, locals := 14 } : Room)) (fun aa U => aa = #[(.ref a1), (.ref o1)] ∧ Z.Warmed39 U.vm ∧ U.heap = h0) (fun _ _ _ _ _ => True) (fun _ U o U' => ∃ v L, o = .returned v ∧ own_eb_Q Z a1 o1 cs v1 v2 z1 x1 k1 z2 x2 k2 h0 n0 v U'.heap L ∧ FrameEnd U o U' L ({ frames := 1, cells := 0, slots := 0, locals := 14 } : Room).cells ({ frames := 1, cells := 0, slots := 0, locals := 14 } : Room).slots) := by
  refine MetFree.of_bodySF (plainFor_of_name own_pn2) hisR ?_
  have w32 := wO hw 32 rfl
  have w33 := wO hw 33 rfl
  have w50 := wO hw 50 rfl
  have w51 := wO hw 51 rfl
  have w52 := wO hw 52 rfl
  have w53 := wO hw 53 rfl
  have w54 := wO hw 54 rfl
  have w55 := wO hw 55 rfl
  intro p e s m args below meth c s₁ Bd hml0 hP hK
  obtain ⟨rfl, hZ, hh⟩ := hP
  have hx := Bd.exec
  have hby := Bd.bytes
  have hlk := Bd.notSynchronized
  have hml : c.maxLocals = 3 := hml0
  have hown : s.vm.findClass "java/lang/String" = some m.cls := findClass_of_methodNamed Bd.named
  have hnm := (name_of_methodNamed Bd.named Bd.method).1
  have X0 : Stand p l e ({ frames := 1, cells := 0, slots := 0, locals := 14 } : Room) s m #[(.ref a1), (.ref o1)] below meth c s₁ [] 0 0 := Stand.of_body Bd
  have e0 : s₁.heap = h0 := by rw [← hh, Bd.state]; rfl
  have N0 := Fr.nil n0
  have K0 : Keep h0 h0 [] := Keep.refl h0 _
  have O0 : Old Z Z.heap.size h0 := ⟨rfl, EZ⟩
  show gS p e below (own_Fin s (own_eb_Q Z a1 o1 cs v1 v2 z1 x1 k1 z2 x2 k2 h0 n0) ({ frames := 1, cells := 0, slots := 0, locals := 14 } : Room).cells ({ frames := 1, cells := 0, slots := 0, locals := 14 } : Room).slots) _
  refine sT (fun t k => castTop (own_eb_ef m a1 o1) k) ?_
  show gM s₁ 0 #[rv a1, rv o1, uN] []
  refine sT (fun t k => XS.aloadN X0.here hx rfl (hb hby d14_0) rfl rfl k) ?_
  show gM s₁ 1 #[rv a1, rv o1, uN] [(.ref a1)]
  refine sT (fun t k => XS.aloadN X0.here hx rfl (hb hby d14_1) rfl rfl k) ?_
  show gM s₁ 2 #[rv a1, rv o1, uN] [(.ref o1), (.ref a1)]
  refine sT (fun t k => Jvm.RoadKit.acmp (g := (mkF m 2 #[rv a1, rv o1, uN] [(.ref o1), (.ref a1)])) X0 hx rfl rfl rfl (pc0 := 2) (pc' := 7) (same := false) rfl (hb hby d14_2) rfl (decide_eq_false fun zq => (own_difflen F_value_a1 F_value_o1 V_v1 V_v2 hz) (Value.ref.inj zq)) (by decide) (by decide) k) ?_
  show gM s₁ 7 #[rv a1, rv o1, uN] []
  refine sT (fun t k => XS.aloadN X0.here hx rfl (hb hby d14_7) rfl rfl k) ?_
  show gM s₁ 8 #[rv a1, rv o1, uN] [(.ref o1)]
  obtain ⟨T901, X901, e901, st901⟩ := instY X0 hx hZ hown w50 e0 (Ins.self E_o1) (g := (mkF m 8 #[rv a1, rv o1, uN] [(.ref o1)])) rfl rfl (hb hby d14_8)
  refine sT st901 ?_
  show gM T901 11 #[rv a1, rv o1, uN] [(.int 1)]
  have hc902 : ¬ ((1 : Int32) = (0 : Int32)) := by decide
  refine sT (fun t k => XS.ifNo X901.here hx rfl (hb hby d14_11) rfl ((if0 _ _).trans (feq hc902).1) k) ?_
  show gM T901 14 #[rv a1, rv o1, uN] []
  refine sT (fun t k => XS.aloadN X901.here hx rfl (hb hby d14_14) rfl rfl k) ?_
  show gM T901 15 #[rv a1, rv o1, uN] [(.ref o1)]
  obtain ⟨T903, X903, e903, st903⟩ := castY X901 hx hZ hown w50 e901 (Ins.self E_o1) (g := (mkF m 15 #[rv a1, rv o1, uN] [(.ref o1)])) rfl rfl (hb hby d14_15)
  refine sT st903 ?_
  show gM T903 18 #[rv a1, rv o1, uN] [(.ref o1)]
  refine sT (fun t k => XS.astoreN X903.here hx rfl (hb hby d14_18) rfl rfl (l' := #[rv a1, rv o1, rv o1]) rfl k) ?_
  show gM T903 19 #[rv a1, rv o1, rv o1] []
  obtain ⟨T904, X904, e904, st904⟩ := getS2 X903 hx hZ hown (host := "") (Or.inl w51) Via.refl e903 (S_COMPACT_STRINGS.ext O0.2) (g := (mkF m 19 #[rv a1, rv o1, rv o1] [])) rfl (hb hby d14_19)
  refine sT st904 ?_
  show gM T904 22 #[rv a1, rv o1, rv o1] [(.int cs)]
  have hc905 : ¬ (cs = (0 : Int32)) := hcs
  refine sT (fun t k => XS.ifNo X904.here hx rfl (hb hby d14_22) rfl ((if0 _ _).trans (feq hc905).1) k) ?_
  show gM T904 25 #[rv a1, rv o1, rv o1] []
  refine sT (fun t k => XS.aloadN X904.here hx rfl (hb hby d14_25) rfl rfl k) ?_
  show gM T904 26 #[rv a1, rv o1, rv o1] [(.ref a1)]
  obtain ⟨T906, X906, e906, st906⟩ := getF X904 hx hZ hown (host := "") (Or.inl w33) Via.refl e904 F_coder_a1 (g := (mkF m 26 #[rv a1, rv o1, rv o1] [(.ref a1)])) rfl rfl (hb hby d14_26)
  refine sT st906 ?_
  show gM T906 29 #[rv a1, rv o1, rv o1] [(.int 0)]
  refine sT (fun t k => XS.aloadN X906.here hx rfl (hb hby d14_29) rfl rfl k) ?_
  show gM T906 30 #[rv a1, rv o1, rv o1] [(.ref o1), (.int 0)]
  obtain ⟨T907, X907, e907, st907⟩ := getF X906 hx hZ hown (host := "") (Or.inl w33) Via.refl e906 F_coder_o1 (g := (mkF m 30 #[rv a1, rv o1, rv o1] [(.ref o1), (.int 0)])) rfl rfl (hb hby d14_30)
  refine sT st907 ?_
  show gM T907 33 #[rv a1, rv o1, rv o1] [(.int 0), (.int 0)]
  have hc908 : (0 : Int32) = (0 : Int32) := rfl
  refine sT (fun t k => XS.icmpNo X907.here hx rfl (hb hby d14_33) rfl (teq hc908).2 k) ?_
  show gM T907 36 #[rv a1, rv o1, rv o1] []
  refine sT (fun t k => XS.aloadN X907.here hx rfl (hb hby d14_36) rfl rfl k) ?_
  show gM T907 37 #[rv a1, rv o1, rv o1] [(.ref a1)]
  obtain ⟨T909, X909, e909, st909⟩ := getF X907 hx hZ hown (host := "") (Or.inl w32) Via.refl e907 F_value_a1 (g := (mkF m 37 #[rv a1, rv o1, rv o1] [(.ref a1)])) rfl rfl (hb hby d14_37)
  refine sT st909 ?_
  show gM T909 40 #[rv a1, rv o1, rv o1] [(.ref v1)]
  refine sT (fun t k => XS.aloadN X909.here hx rfl (hb hby d14_40) rfl rfl k) ?_
  show gM T909 41 #[rv a1, rv o1, rv o1] [(.ref o1), (.ref v1)]
  obtain ⟨T910, X910, e910, st910⟩ := getF X909 hx hZ hown (host := "") (Or.inl w32) Via.refl e909 F_value_o1 (g := (mkF m 41 #[rv a1, rv o1, rv o1] [(.ref o1), (.ref v1)])) rfl rfl (hb hby d14_41)
  refine sT st910 ?_
  show gM T910 44 #[rv a1, rv o1, rv o1] [(.ref v2), (.ref v1)]
  obtain ⟨_, _, ⟨T911, L911, k911, n911⟩, -, X911, ⟨Lc911, hQ911, l911, y911, z911⟩, st911⟩ := Jvm.LawKit.callS X910 hx (y := mN13) hown (mvT hZ w52) (mvT hZ w53) (mvT hZ w54) (mvT hZ w55) (by decide) (backOf (W := 0) (own_lb l Z a0 hw [] v1 v2 (z1) (x1) (k1) (z2) (x2) (k2) h0 n0 Z0 V_v1 V_v2 (hz)) hZ w55 w54 (by decide) (by decide)) (g := (mkF m 44 #[rv a1, rv o1, rv o1] [(.ref v2), (.ref v1)])) rfl (by rw [hml]; rfl) (argsL := [(.ref v1), (.ref v2)]) (rest := []) (lenOf own_pd10 rfl) rfl (by show 2 * 0 + _ ≤ _; exact Nat.le_of_eq rfl) (hb hby d14_44) (fun _ hWq => ⟨rfl, e910, (by decide : 0 + 0 ≤ _), (by decide : 0 + 0 ≤ _)⟩)
  dsimp only [Pt.U, Pt.locs, Pt.cells, Pt.slots] at X911 l911 y911 z911 st911 hQ911
  subst y911 z911
  obtain ⟨rfl, N911q, eh911⟩ := hQ911
  have N911 : Fr n0 L911 := by rw [l911]; exact Fr.app N0 N911q
  refine sT st911 ?_
  show gM T911 47 #[rv a1, rv o1, rv o1] [(.int 0)]
  have hc912 : (0 : Int32) = (0 : Int32) := rfl
  refine sT (fun t k => XS.ifYes X911.here hx rfl (pc0 := 47) (pc' := 54) rfl (hb hby d14_47) rfl ((if0 _ _).trans (teq hc912).1) (by decide) (by decide) k) ?_
  show gM T911 54 #[rv a1, rv o1, rv o1] []
  refine sT (fun t k => XS.iconst X911.here hx rfl (hb hby d14_54) k) ?_
  show gM T911 55 #[rv a1, rv o1, rv o1] [(.int 0)]
  refine own_retV X911 hx hlk Bd.returns (w := (.int 0)) (own_nb (Or.inl rfl)) (Or.inl ⟨rfl, Or.inr (Or.inl rfl), _, rfl⟩) (hb hby d14_55) ?_ (by decide) (by decide)
  show own_eb_Q Z a1 o1 cs v1 v2 z1 x1 k1 z2 x2 k2 h0 n0 _ T911.heap _
  rw [eh911]
  exact ⟨rfl, N911, rfl⟩
theorem d14_5 : decode jdk_42_method_66_code 5 = .ok (.iconst 1, 1) := by decide +kernel
theorem d14_6 : decode jdk_42_method_66_code 6 = .ok (.ireturn, 1) := by decide +kernel
theorem d14_50 : decode jdk_42_method_66_code 50 = .ok (.iconst 1, 1) := by decide +kernel
theorem d14_51 : decode jdk_42_method_66_code 51 = .ok (.goto 4, 3) := by decide +kernel
theorem own_e3_ef (m : MethodId) (a1 : Addr) (o1 : Addr) : entryFrame m #[(.ref a1), (.ref o1)] 3 = mkF m 0 #[rv a1, rv o1, uN] [] := by first | (simp [entryFrame, mkF, argsToLocals, Value.category]; done) | rfl
def own_e3_Q (Z : State) (a1 : Addr) (o1 : Addr) (cs : Int32) (v1 : Addr) (v2 : Addr) (y0 : Int32) (y1 : Int32) (y2 : Int32) (w0 : Int32) (w1 : Int32) (w2 : Int32) (k1 : ClassId) (k2 : ClassId) (h0 : Heap) (n0 : Nat) (v : Option Value) (h : Heap) (L : List Loc) : Prop := v = some (.int (if (own_n3 y0 y1 y2 w0 w1 w2) = (0 : Int32) then (0 : Int32) else (1 : Int32))) ∧ Fr n0 L ∧ h = h0
set_option maxRecDepth 65536 in
set_option maxHeartbeats 40000000 in
theorem own_e3 (l : Launch) (Z : State) (a0 : Array Value) (hw : ∀ d ∈ tables_1, d.before a0 Z = true) (ws : List Jvm.Cond) (a1 : Addr) (o1 : Addr) (cs : Int32) (v1 : Addr) (v2 : Addr) (y0 : Int32) (y1 : Int32) (y2 : Int32) (w0 : Int32) (w1 : Int32) (w2 : Int32) (k1 : ClassId) (k2 : ClassId) (h0 : Heap) (n0 : Nat) (Z0 : n0 ≤ h0.size) (E_o1 : Exa Z h0 o1 "java/lang/String") (S_COMPACT_STRINGS : Sta Z Z.heap "java/lang/String" "COMPACT_STRINGS" "Z" (.int cs)) (hcs : ¬ cs = (0 : Int32)) (Zn : Z.heap.size ≤ n0) (EZ : Ext Z.heap h0) (F_coder_a1 : Fld Z h0 a1 "java/lang/String" "coder" "B" (.int 0)) (F_coder_o1 : Fld Z h0 o1 "java/lang/String" "coder" "B" (.int 0)) (F_value_a1 : Fld Z h0 a1 "java/lang/String" "value" "[B" (.ref v1)) (F_value_o1 : Fld Z h0 o1 "java/lang/String" "value" "[B" (.ref v2)) (V_v1 : Arv Z h0 v1 k1 .byte (3 : Int32) (([y0, y1, y2] : List Int32).map Value.int) (Value.int 0)) (V_v2 : Arv Z h0 v2 k2 .byte (3 : Int32) (([w0, w1, w2] : List Int32).map Value.int) (Value.int 0)) :
    MetFree l mN14 (head1 (Jvm.Cond.code mN14 jdk_42_method_66_code 3 (some .boolean) :: ws) ({ frames := 1, cells := 0, slots := 0, locals := 14 } : Room)) (fun aa U => aa = #[(.ref a1), (.ref o1)] ∧ Z.Warmed39 U.vm ∧ U.heap = h0) (fun _ _ _ _ _ => True) (fun _ U o U' => ∃ v L, o = .returned v ∧ own_e3_Q Z a1 o1 cs v1 v2 y0 y1 y2 w0 w1 w2 k1 k2 h0 n0 v U'.heap L ∧ FrameEnd U o U' L ({ frames := 1, cells := 0, slots := 0, locals := 14 } : Room).cells ({ frames := 1, cells := 0, slots := 0, locals := 14 } : Room).slots) := by
  refine MetFree.of_bodySF (plainFor_of_name own_pn2) hisR ?_
  have w32 := wO hw 32 rfl
  have w33 := wO hw 33 rfl
  have w50 := wO hw 50 rfl
  have w51 := wO hw 51 rfl
  have w52 := wO hw 52 rfl
  have w53 := wO hw 53 rfl
  have w54 := wO hw 54 rfl
  have w55 := wO hw 55 rfl
  intro p e s m args below meth c s₁ Bd hml0 hP hK
  obtain ⟨rfl, hZ, hh⟩ := hP
  have hx := Bd.exec
  have hby := Bd.bytes
  have hlk := Bd.notSynchronized
  have hml : c.maxLocals = 3 := hml0
  have hown : s.vm.findClass "java/lang/String" = some m.cls := findClass_of_methodNamed Bd.named
  have hnm := (name_of_methodNamed Bd.named Bd.method).1
  have X0 : Stand p l e ({ frames := 1, cells := 0, slots := 0, locals := 14 } : Room) s m #[(.ref a1), (.ref o1)] below meth c s₁ [] 0 0 := Stand.of_body Bd
  have e0 : s₁.heap = h0 := by rw [← hh, Bd.state]; rfl
  have N0 := Fr.nil n0
  have K0 : Keep h0 h0 [] := Keep.refl h0 _
  have O0 : Old Z Z.heap.size h0 := ⟨rfl, EZ⟩
  show gS p e below (own_Fin s (own_e3_Q Z a1 o1 cs v1 v2 y0 y1 y2 w0 w1 w2 k1 k2 h0 n0) ({ frames := 1, cells := 0, slots := 0, locals := 14 } : Room).cells ({ frames := 1, cells := 0, slots := 0, locals := 14 } : Room).slots) _
  refine sT (fun t k => castTop (own_e3_ef m a1 o1) k) ?_
  show gM s₁ 0 #[rv a1, rv o1, uN] []
  refine sT (fun t k => XS.aloadN X0.here hx rfl (hb hby d14_0) rfl rfl k) ?_
  show gM s₁ 1 #[rv a1, rv o1, uN] [(.ref a1)]
  refine sT (fun t k => XS.aloadN X0.here hx rfl (hb hby d14_1) rfl rfl k) ?_
  show gM s₁ 2 #[rv a1, rv o1, uN] [(.ref o1), (.ref a1)]
  by_cases ha926 : a1 = o1
  · --
   refine sT (fun t k => Jvm.RoadKit.acmp (g := (mkF m 2 #[rv a1, rv o1, uN] [(.ref o1), (.ref a1)])) X0 hx rfl rfl rfl (pc0 := 2) (pc' := 5) (same := true) rfl (hb hby d14_2) rfl (decide_eq_true (congrArg Value.ref ha926)) (by decide) (by decide) k) ?_
   show gM s₁ 5 #[rv a1, rv o1, uN] []
   refine sT (fun t k => XS.iconst X0.here hx rfl (hb hby d14_5) k) ?_
   show gM s₁ 6 #[rv a1, rv o1, uN] [(.int 1)]
   refine own_retV X0 hx hlk Bd.returns (w := (.int 1)) (own_nb (Or.inr rfl)) (Or.inl ⟨rfl, Or.inr (Or.inl rfl), _, rfl⟩) (hb hby d14_6) ?_ (by decide) (by decide)
   show own_e3_Q Z a1 o1 cs v1 v2 y0 y1 y2 w0 w1 w2 k1 k2 h0 n0 _ s₁.heap _
   rw [e0]
   exact ⟨(congrArg (fun zq => some (Value.int zq)) (own_e1 (own_same3 F_value_a1 F_value_o1 V_v1 V_v2 ha926))), N0, rfl⟩
  · --
   refine sT (fun t k => Jvm.RoadKit.acmp (g := (mkF m 2 #[rv a1, rv o1, uN] [(.ref o1), (.ref a1)])) X0 hx rfl rfl rfl (pc0 := 2) (pc' := 7) (same := false) rfl (hb hby d14_2) rfl (decide_eq_false fun zq => ha926 (Value.ref.inj zq)) (by decide) (by decide) k) ?_
   show gM s₁ 7 #[rv a1, rv o1, uN] []
   refine sT (fun t k => XS.aloadN X0.here hx rfl (hb hby d14_7) rfl rfl k) ?_
   show gM s₁ 8 #[rv a1, rv o1, uN] [(.ref o1)]
   obtain ⟨T927, X927, e927, st927⟩ := instY X0 hx hZ hown w50 e0 (Ins.self E_o1) (g := (mkF m 8 #[rv a1, rv o1, uN] [(.ref o1)])) rfl rfl (hb hby d14_8)
   refine sT st927 ?_
   show gM T927 11 #[rv a1, rv o1, uN] [(.int 1)]
   have hc928 : ¬ ((1 : Int32) = (0 : Int32)) := by decide
   refine sT (fun t k => XS.ifNo X927.here hx rfl (hb hby d14_11) rfl ((if0 _ _).trans (feq hc928).1) k) ?_
   show gM T927 14 #[rv a1, rv o1, uN] []
   refine sT (fun t k => XS.aloadN X927.here hx rfl (hb hby d14_14) rfl rfl k) ?_
   show gM T927 15 #[rv a1, rv o1, uN] [(.ref o1)]
   obtain ⟨T929, X929, e929, st929⟩ := castY X927 hx hZ hown w50 e927 (Ins.self E_o1) (g := (mkF m 15 #[rv a1, rv o1, uN] [(.ref o1)])) rfl rfl (hb hby d14_15)
   refine sT st929 ?_
   show gM T929 18 #[rv a1, rv o1, uN] [(.ref o1)]
   refine sT (fun t k => XS.astoreN X929.here hx rfl (hb hby d14_18) rfl rfl (l' := #[rv a1, rv o1, rv o1]) rfl k) ?_
   show gM T929 19 #[rv a1, rv o1, rv o1] []
   obtain ⟨T930, X930, e930, st930⟩ := getS2 X929 hx hZ hown (host := "") (Or.inl w51) Via.refl e929 (S_COMPACT_STRINGS.ext O0.2) (g := (mkF m 19 #[rv a1, rv o1, rv o1] [])) rfl (hb hby d14_19)
   refine sT st930 ?_
   show gM T930 22 #[rv a1, rv o1, rv o1] [(.int cs)]
   have hc931 : ¬ (cs = (0 : Int32)) := hcs
   refine sT (fun t k => XS.ifNo X930.here hx rfl (hb hby d14_22) rfl ((if0 _ _).trans (feq hc931).1) k) ?_
   show gM T930 25 #[rv a1, rv o1, rv o1] []
   refine sT (fun t k => XS.aloadN X930.here hx rfl (hb hby d14_25) rfl rfl k) ?_
   show gM T930 26 #[rv a1, rv o1, rv o1] [(.ref a1)]
   obtain ⟨T932, X932, e932, st932⟩ := getF X930 hx hZ hown (host := "") (Or.inl w33) Via.refl e930 F_coder_a1 (g := (mkF m 26 #[rv a1, rv o1, rv o1] [(.ref a1)])) rfl rfl (hb hby d14_26)
   refine sT st932 ?_
   show gM T932 29 #[rv a1, rv o1, rv o1] [(.int 0)]
   refine sT (fun t k => XS.aloadN X932.here hx rfl (hb hby d14_29) rfl rfl k) ?_
   show gM T932 30 #[rv a1, rv o1, rv o1] [(.ref o1), (.int 0)]
   obtain ⟨T933, X933, e933, st933⟩ := getF X932 hx hZ hown (host := "") (Or.inl w33) Via.refl e932 F_coder_o1 (g := (mkF m 30 #[rv a1, rv o1, rv o1] [(.ref o1), (.int 0)])) rfl rfl (hb hby d14_30)
   refine sT st933 ?_
   show gM T933 33 #[rv a1, rv o1, rv o1] [(.int 0), (.int 0)]
   have hc934 : (0 : Int32) = (0 : Int32) := rfl
   refine sT (fun t k => XS.icmpNo X933.here hx rfl (hb hby d14_33) rfl (teq hc934).2 k) ?_
   show gM T933 36 #[rv a1, rv o1, rv o1] []
   refine sT (fun t k => XS.aloadN X933.here hx rfl (hb hby d14_36) rfl rfl k) ?_
   show gM T933 37 #[rv a1, rv o1, rv o1] [(.ref a1)]
   obtain ⟨T935, X935, e935, st935⟩ := getF X933 hx hZ hown (host := "") (Or.inl w32) Via.refl e933 F_value_a1 (g := (mkF m 37 #[rv a1, rv o1, rv o1] [(.ref a1)])) rfl rfl (hb hby d14_37)
   refine sT st935 ?_
   show gM T935 40 #[rv a1, rv o1, rv o1] [(.ref v1)]
   refine sT (fun t k => XS.aloadN X935.here hx rfl (hb hby d14_40) rfl rfl k) ?_
   show gM T935 41 #[rv a1, rv o1, rv o1] [(.ref o1), (.ref v1)]
   obtain ⟨T936, X936, e936, st936⟩ := getF X935 hx hZ hown (host := "") (Or.inl w32) Via.refl e935 F_value_o1 (g := (mkF m 41 #[rv a1, rv o1, rv o1] [(.ref o1), (.ref v1)])) rfl rfl (hb hby d14_41)
   refine sT st936 ?_
   show gM T936 44 #[rv a1, rv o1, rv o1] [(.ref v2), (.ref v1)]
   obtain ⟨_, _, ⟨T937, L937, k937, n937⟩, -, X937, ⟨Lc937, hQ937, l937, y937, z937⟩, st937⟩ := Jvm.LawKit.callS X936 hx (y := mN13) hown (mvT hZ w52) (mvT hZ w53) (mvT hZ w54) (mvT hZ w55) (by decide) (backOf (W := 0) (own_l3 l Z a0 hw [] v1 v2 (y0) (y1) (y2) (w0) (w1) (w2) (k1) (k2) h0 n0 Z0 V_v1 V_v2) hZ w55 w54 (by decide) (by decide)) (g := (mkF m 44 #[rv a1, rv o1, rv o1] [(.ref v2), (.ref v1)])) rfl (by rw [hml]; rfl) (argsL := [(.ref v1), (.ref v2)]) (rest := []) (lenOf own_pd10 rfl) rfl (by show 2 * 0 + _ ≤ _; exact Nat.le_of_eq rfl) (hb hby d14_44) (fun _ hWq => ⟨rfl, e936, (by decide : 0 + 0 ≤ _), (by decide : 0 + 0 ≤ _)⟩)
   dsimp only [Pt.U, Pt.locs, Pt.cells, Pt.slots] at X937 l937 y937 z937 st937 hQ937
   subst y937 z937
   obtain ⟨rfl, N937q, eh937⟩ := hQ937
   have N937 : Fr n0 L937 := by rw [l937]; exact Fr.app N0 N937q
   refine sT st937 ?_
   show gM T937 47 #[rv a1, rv o1, rv o1] [(.int (own_n3 y0 y1 y2 w0 w1 w2))]
   refine sT (S' := T937.setTop (mkF m 55 #[rv a1, rv o1, rv o1] [(.int (if (own_n3 y0 y1 y2 w0 w1 w2) = (0 : Int32) then (0 : Int32) else (1 : Int32)))])) (fun t k => ?_) ?_
   · --
    show sM T937 47 #[rv a1, rv o1, rv o1] [(.int (own_n3 y0 y1 y2 w0 w1 w2))] _
    by_cases hc938 : (own_n3 y0 y1 y2 w0 w1 w2) = (0 : Int32)
    · --
     refine XS.ifYes X937.here hx rfl (pc0 := 47) (pc' := 54) rfl (hb hby d14_47) rfl ((if0 _ _).trans (teq hc938).1) (by decide) (by decide) ?_
     show sM T937 54 #[rv a1, rv o1, rv o1] [] _
     refine XS.iconst X937.here hx rfl (hb hby d14_54) ?_
     show sM T937 55 #[rv a1, rv o1, rv o1] [(.int 0)] _
     simp only [if_pos hc938] at k
     exact k
    · --
     refine XS.ifNo X937.here hx rfl (hb hby d14_47) rfl ((if0 _ _).trans (feq hc938).1) ?_
     show sM T937 50 #[rv a1, rv o1, rv o1] [] _
     refine XS.iconst X937.here hx rfl (hb hby d14_50) ?_
     show sM T937 51 #[rv a1, rv o1, rv o1] [(.int 1)] _
     refine XS.goto X937.here hx rfl (pc0 := 51) (pc' := 55) rfl (hb hby d14_51) (by decide) (by decide) ?_
     show sM T937 55 #[rv a1, rv o1, rv o1] [(.int 1)] _
     simp only [if_neg hc938] at k
     exact k
   show gM T937 55 #[rv a1, rv o1, rv o1] [(.int (if (own_n3 y0 y1 y2 w0 w1 w2) = (0 : Int32) then (0 : Int32) else (1 : Int32)))]
   refine own_retV X937 hx hlk Bd.returns (w := (.int (if (own_n3 y0 y1 y2 w0 w1 w2) = (0 : Int32) then (0 : Int32) else (1 : Int32)))) (own_nb (own_01 (Or.inl rfl) (Or.inr rfl))) (Or.inl ⟨rfl, Or.inr (Or.inl rfl), _, rfl⟩) (hb hby d14_55) ?_ (by decide) (by decide)
   show own_e3_Q Z a1 o1 cs v1 v2 y0 y1 y2 w0 w1 w2 k1 k2 h0 n0 _ T937.heap _
   rw [eh937]
   exact ⟨rfl, N937, rfl⟩
theorem own_e4_ef (m : MethodId) (a1 : Addr) (o1 : Addr) : entryFrame m #[(.ref a1), (.ref o1)] 3 = mkF m 0 #[rv a1, rv o1, uN] [] := by first | (simp [entryFrame, mkF, argsToLocals, Value.category]; done) | rfl
def own_e4_Q (Z : State) (a1 : Addr) (o1 : Addr) (cs : Int32) (v1 : Addr) (v2 : Addr) (y0 : Int32) (y1 : Int32) (y2 : Int32) (y3 : Int32) (w0 : Int32) (w1 : Int32) (w2 : Int32) (w3 : Int32) (k1 : ClassId) (k2 : ClassId) (h0 : Heap) (n0 : Nat) (v : Option Value) (h : Heap) (L : List Loc) : Prop := v = some (.int (if (own_n4 y0 y1 y2 y3 w0 w1 w2 w3) = (0 : Int32) then (0 : Int32) else (1 : Int32))) ∧ Fr n0 L ∧ h = h0
set_option maxRecDepth 65536 in
set_option maxHeartbeats 40000000 in
theorem own_e4 (l : Launch) (Z : State) (a0 : Array Value) (hw : ∀ d ∈ tables_1, d.before a0 Z = true) (ws : List Jvm.Cond) (a1 : Addr) (o1 : Addr) (cs : Int32) (v1 : Addr) (v2 : Addr) (y0 : Int32) (y1 : Int32) (y2 : Int32) (y3 : Int32) (w0 : Int32) (w1 : Int32) (w2 : Int32) (w3 : Int32) (k1 : ClassId) (k2 : ClassId) (h0 : Heap) (n0 : Nat) (Z0 : n0 ≤ h0.size) (E_o1 : Exa Z h0 o1 "java/lang/String") (S_COMPACT_STRINGS : Sta Z Z.heap "java/lang/String" "COMPACT_STRINGS" "Z" (.int cs)) (hcs : ¬ cs = (0 : Int32)) (Zn : Z.heap.size ≤ n0) (EZ : Ext Z.heap h0) (F_coder_a1 : Fld Z h0 a1 "java/lang/String" "coder" "B" (.int 0)) (F_coder_o1 : Fld Z h0 o1 "java/lang/String" "coder" "B" (.int 0)) (F_value_a1 : Fld Z h0 a1 "java/lang/String" "value" "[B" (.ref v1)) (F_value_o1 : Fld Z h0 o1 "java/lang/String" "value" "[B" (.ref v2)) (V_v1 : Arv Z h0 v1 k1 .byte (4 : Int32) (([y0, y1, y2, y3] : List Int32).map Value.int) (Value.int 0)) (V_v2 : Arv Z h0 v2 k2 .byte (4 : Int32) (([w0, w1, w2, w3] : List Int32).map Value.int) (Value.int 0)) :
    MetFree l mN14 (head1 (Jvm.Cond.code mN14 jdk_42_method_66_code 3 (some .boolean) :: ws) ({ frames := 1, cells := 0, slots := 0, locals := 14 } : Room)) (fun aa U => aa = #[(.ref a1), (.ref o1)] ∧ Z.Warmed39 U.vm ∧ U.heap = h0) (fun _ _ _ _ _ => True) (fun _ U o U' => ∃ v L, o = .returned v ∧ own_e4_Q Z a1 o1 cs v1 v2 y0 y1 y2 y3 w0 w1 w2 w3 k1 k2 h0 n0 v U'.heap L ∧ FrameEnd U o U' L ({ frames := 1, cells := 0, slots := 0, locals := 14 } : Room).cells ({ frames := 1, cells := 0, slots := 0, locals := 14 } : Room).slots) := by
  refine MetFree.of_bodySF (plainFor_of_name own_pn2) hisR ?_
  have w32 := wO hw 32 rfl
  have w33 := wO hw 33 rfl
  have w50 := wO hw 50 rfl
  have w51 := wO hw 51 rfl
  have w52 := wO hw 52 rfl
  have w53 := wO hw 53 rfl
  have w54 := wO hw 54 rfl
  have w55 := wO hw 55 rfl
  intro p e s m args below meth c s₁ Bd hml0 hP hK
  obtain ⟨rfl, hZ, hh⟩ := hP
  have hx := Bd.exec
  have hby := Bd.bytes
  have hlk := Bd.notSynchronized
  have hml : c.maxLocals = 3 := hml0
  have hown : s.vm.findClass "java/lang/String" = some m.cls := findClass_of_methodNamed Bd.named
  have hnm := (name_of_methodNamed Bd.named Bd.method).1
  have X0 : Stand p l e ({ frames := 1, cells := 0, slots := 0, locals := 14 } : Room) s m #[(.ref a1), (.ref o1)] below meth c s₁ [] 0 0 := Stand.of_body Bd
  have e0 : s₁.heap = h0 := by rw [← hh, Bd.state]; rfl
  have N0 := Fr.nil n0
  have K0 : Keep h0 h0 [] := Keep.refl h0 _
  have O0 : Old Z Z.heap.size h0 := ⟨rfl, EZ⟩
  show gS p e below (own_Fin s (own_e4_Q Z a1 o1 cs v1 v2 y0 y1 y2 y3 w0 w1 w2 w3 k1 k2 h0 n0) ({ frames := 1, cells := 0, slots := 0, locals := 14 } : Room).cells ({ frames := 1, cells := 0, slots := 0, locals := 14 } : Room).slots) _
  refine sT (fun t k => castTop (own_e4_ef m a1 o1) k) ?_
  show gM s₁ 0 #[rv a1, rv o1, uN] []
  refine sT (fun t k => XS.aloadN X0.here hx rfl (hb hby d14_0) rfl rfl k) ?_
  show gM s₁ 1 #[rv a1, rv o1, uN] [(.ref a1)]
  refine sT (fun t k => XS.aloadN X0.here hx rfl (hb hby d14_1) rfl rfl k) ?_
  show gM s₁ 2 #[rv a1, rv o1, uN] [(.ref o1), (.ref a1)]
  by_cases ha952 : a1 = o1
  · --
   refine sT (fun t k => Jvm.RoadKit.acmp (g := (mkF m 2 #[rv a1, rv o1, uN] [(.ref o1), (.ref a1)])) X0 hx rfl rfl rfl (pc0 := 2) (pc' := 5) (same := true) rfl (hb hby d14_2) rfl (decide_eq_true (congrArg Value.ref ha952)) (by decide) (by decide) k) ?_
   show gM s₁ 5 #[rv a1, rv o1, uN] []
   refine sT (fun t k => XS.iconst X0.here hx rfl (hb hby d14_5) k) ?_
   show gM s₁ 6 #[rv a1, rv o1, uN] [(.int 1)]
   refine own_retV X0 hx hlk Bd.returns (w := (.int 1)) (own_nb (Or.inr rfl)) (Or.inl ⟨rfl, Or.inr (Or.inl rfl), _, rfl⟩) (hb hby d14_6) ?_ (by decide) (by decide)
   show own_e4_Q Z a1 o1 cs v1 v2 y0 y1 y2 y3 w0 w1 w2 w3 k1 k2 h0 n0 _ s₁.heap _
   rw [e0]
   exact ⟨(congrArg (fun zq => some (Value.int zq)) (own_e1 (own_same4 F_value_a1 F_value_o1 V_v1 V_v2 ha952))), N0, rfl⟩
  · --
   refine sT (fun t k => Jvm.RoadKit.acmp (g := (mkF m 2 #[rv a1, rv o1, uN] [(.ref o1), (.ref a1)])) X0 hx rfl rfl rfl (pc0 := 2) (pc' := 7) (same := false) rfl (hb hby d14_2) rfl (decide_eq_false fun zq => ha952 (Value.ref.inj zq)) (by decide) (by decide) k) ?_
   show gM s₁ 7 #[rv a1, rv o1, uN] []
   refine sT (fun t k => XS.aloadN X0.here hx rfl (hb hby d14_7) rfl rfl k) ?_
   show gM s₁ 8 #[rv a1, rv o1, uN] [(.ref o1)]
   obtain ⟨T953, X953, e953, st953⟩ := instY X0 hx hZ hown w50 e0 (Ins.self E_o1) (g := (mkF m 8 #[rv a1, rv o1, uN] [(.ref o1)])) rfl rfl (hb hby d14_8)
   refine sT st953 ?_
   show gM T953 11 #[rv a1, rv o1, uN] [(.int 1)]
   have hc954 : ¬ ((1 : Int32) = (0 : Int32)) := by decide
   refine sT (fun t k => XS.ifNo X953.here hx rfl (hb hby d14_11) rfl ((if0 _ _).trans (feq hc954).1) k) ?_
   show gM T953 14 #[rv a1, rv o1, uN] []
   refine sT (fun t k => XS.aloadN X953.here hx rfl (hb hby d14_14) rfl rfl k) ?_
   show gM T953 15 #[rv a1, rv o1, uN] [(.ref o1)]
   obtain ⟨T955, X955, e955, st955⟩ := castY X953 hx hZ hown w50 e953 (Ins.self E_o1) (g := (mkF m 15 #[rv a1, rv o1, uN] [(.ref o1)])) rfl rfl (hb hby d14_15)
   refine sT st955 ?_
   show gM T955 18 #[rv a1, rv o1, uN] [(.ref o1)]
   refine sT (fun t k => XS.astoreN X955.here hx rfl (hb hby d14_18) rfl rfl (l' := #[rv a1, rv o1, rv o1]) rfl k) ?_
   show gM T955 19 #[rv a1, rv o1, rv o1] []
   obtain ⟨T956, X956, e956, st956⟩ := getS2 X955 hx hZ hown (host := "") (Or.inl w51) Via.refl e955 (S_COMPACT_STRINGS.ext O0.2) (g := (mkF m 19 #[rv a1, rv o1, rv o1] [])) rfl (hb hby d14_19)
   refine sT st956 ?_
   show gM T956 22 #[rv a1, rv o1, rv o1] [(.int cs)]
   have hc957 : ¬ (cs = (0 : Int32)) := hcs
   refine sT (fun t k => XS.ifNo X956.here hx rfl (hb hby d14_22) rfl ((if0 _ _).trans (feq hc957).1) k) ?_
   show gM T956 25 #[rv a1, rv o1, rv o1] []
   refine sT (fun t k => XS.aloadN X956.here hx rfl (hb hby d14_25) rfl rfl k) ?_
   show gM T956 26 #[rv a1, rv o1, rv o1] [(.ref a1)]
   obtain ⟨T958, X958, e958, st958⟩ := getF X956 hx hZ hown (host := "") (Or.inl w33) Via.refl e956 F_coder_a1 (g := (mkF m 26 #[rv a1, rv o1, rv o1] [(.ref a1)])) rfl rfl (hb hby d14_26)
   refine sT st958 ?_
   show gM T958 29 #[rv a1, rv o1, rv o1] [(.int 0)]
   refine sT (fun t k => XS.aloadN X958.here hx rfl (hb hby d14_29) rfl rfl k) ?_
   show gM T958 30 #[rv a1, rv o1, rv o1] [(.ref o1), (.int 0)]
   obtain ⟨T959, X959, e959, st959⟩ := getF X958 hx hZ hown (host := "") (Or.inl w33) Via.refl e958 F_coder_o1 (g := (mkF m 30 #[rv a1, rv o1, rv o1] [(.ref o1), (.int 0)])) rfl rfl (hb hby d14_30)
   refine sT st959 ?_
   show gM T959 33 #[rv a1, rv o1, rv o1] [(.int 0), (.int 0)]
   have hc960 : (0 : Int32) = (0 : Int32) := rfl
   refine sT (fun t k => XS.icmpNo X959.here hx rfl (hb hby d14_33) rfl (teq hc960).2 k) ?_
   show gM T959 36 #[rv a1, rv o1, rv o1] []
   refine sT (fun t k => XS.aloadN X959.here hx rfl (hb hby d14_36) rfl rfl k) ?_
   show gM T959 37 #[rv a1, rv o1, rv o1] [(.ref a1)]
   obtain ⟨T961, X961, e961, st961⟩ := getF X959 hx hZ hown (host := "") (Or.inl w32) Via.refl e959 F_value_a1 (g := (mkF m 37 #[rv a1, rv o1, rv o1] [(.ref a1)])) rfl rfl (hb hby d14_37)
   refine sT st961 ?_
   show gM T961 40 #[rv a1, rv o1, rv o1] [(.ref v1)]
   refine sT (fun t k => XS.aloadN X961.here hx rfl (hb hby d14_40) rfl rfl k) ?_
   show gM T961 41 #[rv a1, rv o1, rv o1] [(.ref o1), (.ref v1)]
   obtain ⟨T962, X962, e962, st962⟩ := getF X961 hx hZ hown (host := "") (Or.inl w32) Via.refl e961 F_value_o1 (g := (mkF m 41 #[rv a1, rv o1, rv o1] [(.ref o1), (.ref v1)])) rfl rfl (hb hby d14_41)
   refine sT st962 ?_
   show gM T962 44 #[rv a1, rv o1, rv o1] [(.ref v2), (.ref v1)]
   obtain ⟨_, _, ⟨T963, L963, k963, n963⟩, -, X963, ⟨Lc963, hQ963, l963, y963, z963⟩, st963⟩ := Jvm.LawKit.callS X962 hx (y := mN13) hown (mvT hZ w52) (mvT hZ w53) (mvT hZ w54) (mvT hZ w55) (by decide) (backOf (W := 0) (own_l4 l Z a0 hw [] v1 v2 (y0) (y1) (y2) (y3) (w0) (w1) (w2) (w3) (k1) (k2) h0 n0 Z0 V_v1 V_v2) hZ w55 w54 (by decide) (by decide)) (g := (mkF m 44 #[rv a1, rv o1, rv o1] [(.ref v2), (.ref v1)])) rfl (by rw [hml]; rfl) (argsL := [(.ref v1), (.ref v2)]) (rest := []) (lenOf own_pd10 rfl) rfl (by show 2 * 0 + _ ≤ _; exact Nat.le_of_eq rfl) (hb hby d14_44) (fun _ hWq => ⟨rfl, e962, (by decide : 0 + 0 ≤ _), (by decide : 0 + 0 ≤ _)⟩)
   dsimp only [Pt.U, Pt.locs, Pt.cells, Pt.slots] at X963 l963 y963 z963 st963 hQ963
   subst y963 z963
   obtain ⟨rfl, N963q, eh963⟩ := hQ963
   have N963 : Fr n0 L963 := by rw [l963]; exact Fr.app N0 N963q
   refine sT st963 ?_
   show gM T963 47 #[rv a1, rv o1, rv o1] [(.int (own_n4 y0 y1 y2 y3 w0 w1 w2 w3))]
   refine sT (S' := T963.setTop (mkF m 55 #[rv a1, rv o1, rv o1] [(.int (if (own_n4 y0 y1 y2 y3 w0 w1 w2 w3) = (0 : Int32) then (0 : Int32) else (1 : Int32)))])) (fun t k => ?_) ?_
   · --
    show sM T963 47 #[rv a1, rv o1, rv o1] [(.int (own_n4 y0 y1 y2 y3 w0 w1 w2 w3))] _
    by_cases hc964 : (own_n4 y0 y1 y2 y3 w0 w1 w2 w3) = (0 : Int32)
    · --
     refine XS.ifYes X963.here hx rfl (pc0 := 47) (pc' := 54) rfl (hb hby d14_47) rfl ((if0 _ _).trans (teq hc964).1) (by decide) (by decide) ?_
     show sM T963 54 #[rv a1, rv o1, rv o1] [] _
     refine XS.iconst X963.here hx rfl (hb hby d14_54) ?_
     show sM T963 55 #[rv a1, rv o1, rv o1] [(.int 0)] _
     simp only [if_pos hc964] at k
     exact k
    · --
     refine XS.ifNo X963.here hx rfl (hb hby d14_47) rfl ((if0 _ _).trans (feq hc964).1) ?_
     show sM T963 50 #[rv a1, rv o1, rv o1] [] _
     refine XS.iconst X963.here hx rfl (hb hby d14_50) ?_
     show sM T963 51 #[rv a1, rv o1, rv o1] [(.int 1)] _
     refine XS.goto X963.here hx rfl (pc0 := 51) (pc' := 55) rfl (hb hby d14_51) (by decide) (by decide) ?_
     show sM T963 55 #[rv a1, rv o1, rv o1] [(.int 1)] _
     simp only [if_neg hc964] at k
     exact k
   show gM T963 55 #[rv a1, rv o1, rv o1] [(.int (if (own_n4 y0 y1 y2 y3 w0 w1 w2 w3) = (0 : Int32) then (0 : Int32) else (1 : Int32)))]
   refine own_retV X963 hx hlk Bd.returns (w := (.int (if (own_n4 y0 y1 y2 y3 w0 w1 w2 w3) = (0 : Int32) then (0 : Int32) else (1 : Int32)))) (own_nb (own_01 (Or.inl rfl) (Or.inr rfl))) (Or.inl ⟨rfl, Or.inr (Or.inl rfl), _, rfl⟩) (hb hby d14_55) ?_ (by decide) (by decide)
   show own_e4_Q Z a1 o1 cs v1 v2 y0 y1 y2 y3 w0 w1 w2 w3 k1 k2 h0 n0 _ T963.heap _
   rw [eh963]
   exact ⟨rfl, N963, rfl⟩
theorem own_pn4 : plainName "com/example/noctule/noctule/server/TokenScope" = true := by first | (simp [plainName, overriddenIn]; done) | decide +kernel
theorem d15_0 : decode prog_94_method_6_code 0 = .ok (.aload_n 0, 1) := by decide +kernel
theorem d15_1 : decode prog_94_method_6_code 1 = .ok (.getstatic 7, 3) := by decide +kernel
theorem d15_4 : decode prog_94_method_6_code 4 = .ok (.if_acmp .eq 21, 3) := by decide +kernel
theorem d15_25 : decode prog_94_method_6_code 25 = .ok (.iconst 1, 1) := by decide +kernel
theorem d15_26 : decode prog_94_method_6_code 26 = .ok (.goto 4, 3) := by decide +kernel
theorem d15_30 : decode prog_94_method_6_code 30 = .ok (.ireturn, 1) := by decide +kernel
theorem own_tw_ef (m : MethodId) (wW : Addr) (o1 : Addr) : entryFrame m #[(.ref wW), (.ref o1)] 2 = mkF m 0 #[rv wW, rv o1] [] := by first | (simp [entryFrame, mkF, argsToLocals, Value.category]; done) | rfl
def own_tw_Q (Z : State) (wW : Addr) (o1 : Addr) (h0 : Heap) (n0 : Nat) (v : Option Value) (h : Heap) (L : List Loc) : Prop := v = some (.int 1) ∧ Fr n0 L ∧ h = h0
set_option maxRecDepth 65536 in
set_option maxHeartbeats 40000000 in
theorem own_tw (l : Launch) (Z : State) (a0 : Array Value) (hw : ∀ d ∈ tables_1, d.before a0 Z = true) (ws : List Jvm.Cond) (wW : Addr) (o1 : Addr) (h0 : Heap) (n0 : Nat) (Z0 : n0 ≤ h0.size) (S_WRITE : Sta Z Z.heap "com/example/noctule/noctule/server/TokenScope" "WRITE" "Lcom/example/noctule/noctule/server/TokenScope;" (.ref wW)) (Zn : Z.heap.size ≤ n0) (EZ : Ext Z.heap h0) :
    MetFree l mN15 (head1 (Jvm.Cond.code mN15 prog_94_method_6_code 2 (some .boolean) :: ws) ({ frames := 0, cells := 0, slots := 0, locals := 0 } : Room)) (fun aa U => aa = #[(.ref wW), (.ref o1)] ∧ Z.Warmed39 U.vm ∧ U.heap = h0) (fun _ _ _ _ _ => True) (fun _ U o U' => ∃ v L, o = .returned v ∧ own_tw_Q Z wW o1 h0 n0 v U'.heap L ∧ FrameEnd U o U' L ({ frames := 0, cells := 0, slots := 0, locals := 0 } : Room).cells ({ frames := 0, cells := 0, slots := 0, locals := 0 } : Room).slots) := by
  refine MetFree.of_bodySF (plainFor_of_name own_pn4) hisR ?_
  have w42 := wO hw 42 rfl
  intro p e s m args below meth c s₁ Bd hml0 hP hK
  obtain ⟨rfl, hZ, hh⟩ := hP
  have hx := Bd.exec
  have hby := Bd.bytes
  have hlk := Bd.notSynchronized
  have hml : c.maxLocals = 2 := hml0
  have hown : s.vm.findClass "com/example/noctule/noctule/server/TokenScope" = some m.cls := findClass_of_methodNamed Bd.named
  have hnm := (name_of_methodNamed Bd.named Bd.method).1
  have X0 : Stand p l e ({ frames := 0, cells := 0, slots := 0, locals := 0 } : Room) s m #[(.ref wW), (.ref o1)] below meth c s₁ [] 0 0 := Stand.of_body Bd
  have e0 : s₁.heap = h0 := by rw [← hh, Bd.state]; rfl
  have N0 := Fr.nil n0
  have K0 : Keep h0 h0 [] := Keep.refl h0 _
  have O0 : Old Z Z.heap.size h0 := ⟨rfl, EZ⟩
  show gS p e below (own_Fin s (own_tw_Q Z wW o1 h0 n0) ({ frames := 0, cells := 0, slots := 0, locals := 0 } : Room).cells ({ frames := 0, cells := 0, slots := 0, locals := 0 } : Room).slots) _
  refine sT (fun t k => castTop (own_tw_ef m wW o1) k) ?_
  show gM s₁ 0 #[rv wW, rv o1] []
  refine sT (fun t k => XS.aloadN X0.here hx rfl (hb hby d15_0) rfl rfl k) ?_
  show gM s₁ 1 #[rv wW, rv o1] [(.ref wW)]
  obtain ⟨T966, X966, e966, st966⟩ := getS2 X0 hx hZ hown (host := "") (Or.inl w42) Via.refl e0 (S_WRITE.ext O0.2) (g := (mkF m 1 #[rv wW, rv o1] [(.ref wW)])) rfl (hb hby d15_1)
  refine sT st966 ?_
  show gM T966 4 #[rv wW, rv o1] [(.ref wW), (.ref wW)]
  refine sT (fun t k => Jvm.RoadKit.acmp (g := (mkF m 4 #[rv wW, rv o1] [(.ref wW), (.ref wW)])) X966 hx rfl rfl rfl (pc0 := 4) (pc' := 25) (same := true) rfl (hb hby d15_4) rfl (decide_eq_true rfl) (by decide) (by decide) k) ?_
  show gM T966 25 #[rv wW, rv o1] []
  refine sT (fun t k => XS.iconst X966.here hx rfl (hb hby d15_25) k) ?_
  show gM T966 26 #[rv wW, rv o1] [(.int 1)]
  refine sT (fun t k => XS.goto X966.here hx rfl (pc0 := 26) (pc' := 30) rfl (hb hby d15_26) (by decide) (by decide) k) ?_
  show gM T966 30 #[rv wW, rv o1] [(.int 1)]
  refine own_retV X966 hx hlk Bd.returns (w := (.int 1)) (own_nb (Or.inr rfl)) (Or.inl ⟨rfl, Or.inr (Or.inl rfl), _, rfl⟩) (hb hby d15_30) ?_ (by decide) (by decide)
  show own_tw_Q Z wW o1 h0 n0 _ T966.heap _
  rw [e966]
  exact ⟨rfl, N0, rfl⟩
theorem d15_7 : decode prog_94_method_6_code 7 = .ok (.aload_n 1, 1) := by decide +kernel
theorem d15_8 : decode prog_94_method_6_code 8 = .ok (.ldc 41, 2) := by decide +kernel
theorem own_pd11 : parseMethodDescriptor "(Ljava/lang/Object;)Z" = some ⟨[(.object "java/lang/Object")], some .boolean⟩ := by decide +kernel
theorem d15_10 : decode prog_94_method_6_code 10 = .ok (.invokevirtual 43, 3) := by decide +kernel
theorem d15_13 : decode prog_94_method_6_code 13 = .ok (.ifCond .ne 12, 3) := by decide +kernel
theorem d15_16 : decode prog_94_method_6_code 16 = .ok (.aload_n 1, 1) := by decide +kernel
theorem d15_17 : decode prog_94_method_6_code 17 = .ok (.ldc 49, 2) := by decide +kernel
theorem d15_19 : decode prog_94_method_6_code 19 = .ok (.invokevirtual 43, 3) := by decide +kernel
theorem d15_22 : decode prog_94_method_6_code 22 = .ok (.ifCond .eq 7, 3) := by decide +kernel
theorem d15_29 : decode prog_94_method_6_code 29 = .ok (.iconst 0, 1) := by decide +kernel
theorem own_t1_ef (m : MethodId) (a1 : Addr) (o1 : Addr) : entryFrame m #[(.ref a1), (.ref o1)] 2 = mkF m 0 #[rv a1, rv o1] [] := by first | (simp [entryFrame, mkF, argsToLocals, Value.category]; done) | rfl
def own_t1_Q (Z : State) (a1 : Addr) (o1 : Addr) (wW : Addr) (cs : Int32) (Ts : List String) (h0 : Heap) (n0 : Nat) (v : Option Value) (h : Heap) (L : List Loc) : Prop := v = some (.int 0) ∧ Fr n0 L ∧ Keep h0 h []
set_option maxRecDepth 65536 in
set_option maxHeartbeats 40000000 in
theorem own_t1 (l : Launch) (Z : State) (a0 : Array Value) (hw : ∀ d ∈ tables_1, d.before a0 Z = true) (ws : List Jvm.Cond) (a1 : Addr) (o1 : Addr) (wW : Addr) (cs : Int32) (Ts : List String) (h0 : Heap) (n0 : Nat) (Z0 : n0 ≤ h0.size) (S_WRITE : Sta Z Z.heap "com/example/noctule/noctule/server/TokenScope" "WRITE" "Lcom/example/noctule/noctule/server/TokenScope;" (.ref wW)) (Zn : Z.heap.size ≤ n0) (EZ : Ext Z.heap h0) (ne_a1_wW : a1 ≠ wW) (E_o1 : Exa Z h0 o1 "java/lang/String") (S_COMPACT_STRINGS : Sta Z Z.heap "java/lang/String" "COMPACT_STRINGS" "Z" (.int cs)) (hcs : ¬ cs = (0 : Int32)) (hk41 : Jvm.Lit.constHeld Z "com/example/noctule/noctule/server/TokenScope" 41) (hk49 : Jvm.Lit.constHeld Z "com/example/noctule/noctule/server/TokenScope" 49) (hcw : Jvm.Lit.compactW.before a0 Z = true) (hnot_GET : "GET" ∉ Ts) (hnot_HEAD : "HEAD" ∉ Ts) (hn0 : n0 = h0.size) (F_coder_o1 : Fld Z h0 o1 "java/lang/String" "coder" "B" (.int 1)) :
    MetFree l mN15 (head1 (Jvm.Cond.code mN15 prog_94_method_6_code 2 (some .boolean) :: ws) ({ frames := 1, cells := 4, slots := 36, locals := 14 } : Room)) (fun aa U => aa = #[(.ref a1), (.ref o1)] ∧ Z.Warmed39 U.vm ∧ U.heap = h0 ∧ IB Z U.vm Ts) (fun _ _ _ _ _ => True) (fun _ U o U' => ∃ v L, o = .returned v ∧ own_t1_Q Z a1 o1 wW cs Ts h0 n0 v U'.heap L ∧ IB Z U'.vm ("HEAD" :: "GET" :: Ts) ∧ ReturnedEndW U o U' L ({ frames := 1, cells := 4, slots := 36, locals := 14 } : Room).cells ({ frames := 1, cells := 4, slots := 36, locals := 14 } : Room).slots) := by
  refine MetFree.of_bodySF (plainFor_of_name own_pn4) hisR ?_
  have w14 := wO hw 14 rfl
  have w42 := wO hw 42 rfl
  have w44 := wO hw 44 rfl
  have w45 := wO hw 45 rfl
  have w46 := wO hw 46 rfl
  have w47 := wO hw 47 rfl
  have w48 := wO hw 48 rfl
  have w49 := wO hw 49 rfl
  have w56 := wO hw 56 rfl
  intro p e s m args below meth c s₁ Bd hml0 hP hK
  obtain ⟨rfl, hZ, hh, hI0⟩ := hP
  have hx := Bd.exec
  have hby := Bd.bytes
  have hlk := Bd.notSynchronized
  have hml : c.maxLocals = 2 := hml0
  have hown : s.vm.findClass "com/example/noctule/noctule/server/TokenScope" = some m.cls := findClass_of_methodNamed Bd.named
  have hnm := (name_of_methodNamed Bd.named Bd.method).1
  have X0 : Stand p l e ({ frames := 1, cells := 4, slots := 36, locals := 14 } : Room) (s.setVm s.vm) m #[(.ref a1), (.ref o1)] below meth c s₁ [] 0 0 := Stand.of_body Bd
  have e0 : s₁.heap = h0 := by rw [← hh, Bd.state]; rfl
  have N0 := Fr.nil n0
  have K0 : Keep h0 h0 [] := Keep.refl h0 _
  have O0 : Old Z Z.heap.size h0 := ⟨rfl, EZ⟩
  have hZ : Z.Warmed39 (s.setVm s.vm).vm := hZ
  have hown : (s.setVm s.vm).vm.findClass "com/example/noctule/noctule/server/TokenScope" = some m.cls := hown
  have hS0 : s.Since s.vm 0 := (State.WarmedH.refl s).since 0
  have hk0 : 0 ≤ h0.size := Nat.zero_le _
  show gS p e below (own_FinW s Z ("HEAD" :: "GET" :: Ts) (own_t1_Q Z a1 o1 wW cs Ts h0 n0) ({ frames := 1, cells := 4, slots := 36, locals := 14 } : Room).cells ({ frames := 1, cells := 4, slots := 36, locals := 14 } : Room).slots) _
  refine sT (fun t k => castTop (own_t1_ef m a1 o1) k) ?_
  show gM s₁ 0 #[rv a1, rv o1] []
  refine sT (fun t k => XS.aloadN X0.here hx rfl (hb hby d15_0) rfl rfl k) ?_
  show gM s₁ 1 #[rv a1, rv o1] [(.ref a1)]
  obtain ⟨T976, X976, e976, st976⟩ := getS2 X0 hx hZ hown (host := "") (Or.inl w42) Via.refl e0 (S_WRITE.ext O0.2) (g := (mkF m 1 #[rv a1, rv o1] [(.ref a1)])) rfl (hb hby d15_1)
  refine sT st976 ?_
  show gM T976 4 #[rv a1, rv o1] [(.ref wW), (.ref a1)]
  refine sT (fun t k => Jvm.RoadKit.acmp (g := (mkF m 4 #[rv a1, rv o1] [(.ref wW), (.ref a1)])) X976 hx rfl rfl rfl (pc0 := 4) (pc' := 7) (same := false) rfl (hb hby d15_4) rfl (decide_eq_false fun zq => ne_a1_wW (Value.ref.inj zq)) (by decide) (by decide) k) ?_
  show gM T976 7 #[rv a1, rv o1] []
  refine sT (fun t k => XS.aloadN X976.here hx rfl (hb hby d15_7) rfl rfl k) ?_
  show gM T976 8 #[rv a1, rv o1] [(.ref o1)]
  obtain ⟨b977, T977, h977, kn977, bv977, kc977, X977, e977, E977, S977, kk977, hZ, hown, A977, Fc977, Fv977, V977, -, -, I977, Lt977, st977⟩ := ldcSVL X976 hx hZ hown w44 (own_wS hw) e976 hS0 hk0 (by rw [hh, ← hn0]; exact N0) (by rw [hh]; exact EZ.2) hI0 hnot_GET hk41 hcw own_tGET (z := (3 : Int32)) (by decide) rfl (g := (mkF m 8 #[rv a1, rv o1] [(.ref o1)])) rfl (hb hby d15_8) (n := 12) (by decide) (by decide) (by decide) (by decide)
  have K978 : Keep h0 h977 [] := K0.ext E977
  refine sT st977 ?_
  show gM T977 10 #[rv a1, rv o1] [(.ref b977), (.ref o1)]
  obtain ⟨cq979, kq979, q979a, q979b, q979c⟩ := isOf hZ e977 (E_o1.ext E977)
  obtain ⟨_, _, ⟨T979, L979, k979, n979⟩, -, X979, ⟨Lc979, hQ979, l979, y979, z979⟩, st979⟩ := X977.virtualBack hx (y := mN14) (z := mN14) hown (mvT hZ w45) (mvT hZ w46) (notFace_of_selects (args := #[]) (mvT hZ w48)) (mvT hZ w48) (mvT hZ w47) (by decide) (backOf (W := 0) (own_ea l Z a0 hw [] o1 b977 (cs) h977 n0 (Nat.le_trans Z0 E977.1) A977 S_COMPACT_STRINGS hcs Zn (O0.ext E977).2 (F_coder_o1.ext E977) Fc977) hZ w49 w14 (by decide) (by decide)) q979a q979c (g := (mkF m 10 #[rv a1, rv o1] [(.ref b977), (.ref o1)])) rfl (by rw [hml]; rfl) (Steps.refl _) (argsL := [(.ref b977)]) (rest := []) (lenOf own_pd11 rfl) rfl (by show 2 * 0 + _ ≤ _; exact Nat.le_of_eq rfl) (hb hby d15_10) (fun _ hWq => ⟨rfl, e977, (by decide : 2 + 0 ≤ _), (by decide : 16 + 0 ≤ _)⟩)
  dsimp only [Pt.U, Pt.locs, Pt.cells, Pt.slots] at X979 l979 y979 z979 st979 hQ979
  subst y979 z979
  obtain ⟨rfl, N979q, eh979⟩ := hQ979
  have N979 : Fr n0 L979 := by rw [l979]; exact Fr.app N0 N979q
  refine own_jump st979 ?_
  show gM T979 13 #[rv a1, rv o1] [(.int 0)]
  have hc980 : (0 : Int32) = (0 : Int32) := rfl
  refine sT (fun t k => XS.ifNo X979.here hx rfl (hb hby d15_13) rfl ((if0 _ _).trans (teq hc980).2) k) ?_
  show gM T979 16 #[rv a1, rv o1] []
  refine sT (fun t k => XS.aloadN X979.here hx rfl (hb hby d15_16) rfl rfl k) ?_
  show gM T979 17 #[rv a1, rv o1] [(.ref o1)]
  obtain ⟨b981, T981, h981, kn981, bv981, kc981, X981, e981, E981, S981, kk981, hZ, hown, A981, Fc981, Fv981, V981, -, -, I981, Lt981, st981⟩ := ldcSVL X979 hx hZ hown w56 (own_wS hw) eh979 S977 kk977 (by rw [hh, ← hn0]; exact N979) (by rw [hh]; exact EZ.2) I977 (own_notin (by decide) hnot_HEAD) hk49 hcw own_tHEAD (z := (4 : Int32)) (by decide) rfl (g := (mkF m 17 #[rv a1, rv o1] [(.ref o1)])) rfl (hb hby d15_17) (n := 16) (by decide) (by decide) (by decide) (by decide)
  have K982 : Keep h0 h981 [] := K978.ext E981
  refine sT st981 ?_
  show gM T981 19 #[rv a1, rv o1] [(.ref b981), (.ref o1)]
  obtain ⟨cq983, kq983, q983a, q983b, q983c⟩ := isOf hZ e981 ((E_o1.ext E977).ext E981)
  obtain ⟨_, _, ⟨T983, L983, k983, n983⟩, -, X983, ⟨Lc983, hQ983, l983, y983, z983⟩, st983⟩ := X981.virtualBack hx (y := mN14) (z := mN14) hown (mvT hZ w45) (mvT hZ w46) (notFace_of_selects (args := #[]) (mvT hZ w48)) (mvT hZ w48) (mvT hZ w47) (by decide) (backOf (W := 0) (own_ea l Z a0 hw [] o1 b981 (cs) h981 n0 (Nat.le_trans (Nat.le_trans Z0 E977.1) E981.1) A981 S_COMPACT_STRINGS hcs Zn ((O0.ext E977).ext E981).2 ((F_coder_o1.ext E977).ext E981) Fc981) hZ w49 w14 (by decide) (by decide)) q983a q983c (g := (mkF m 19 #[rv a1, rv o1] [(.ref b981), (.ref o1)])) rfl (by rw [hml]; rfl) (Steps.refl _) (argsL := [(.ref b981)]) (rest := []) (lenOf own_pd11 rfl) rfl (by show 2 * 0 + _ ≤ _; exact Nat.le_of_eq rfl) (hb hby d15_19) (fun _ hWq => ⟨rfl, e981, (by decide : 4 + 0 ≤ _), (by decide : 36 + 0 ≤ _)⟩)
  dsimp only [Pt.U, Pt.locs, Pt.cells, Pt.slots] at X983 l983 y983 z983 st983 hQ983
  subst y983 z983
  obtain ⟨rfl, N983q, eh983⟩ := hQ983
  have N983 : Fr n0 L983 := by rw [l983]; exact Fr.app N979 N983q
  refine own_jump st983 ?_
  show gM T983 22 #[rv a1, rv o1] [(.int 0)]
  have hc984 : (0 : Int32) = (0 : Int32) := rfl
  refine sT (fun t k => XS.ifYes X983.here hx rfl (pc0 := 22) (pc' := 29) rfl (hb hby d15_22) rfl ((if0 _ _).trans (teq hc984).1) (by decide) (by decide) k) ?_
  show gM T983 29 #[rv a1, rv o1] []
  refine sT (fun t k => XS.iconst X983.here hx rfl (hb hby d15_29) k) ?_
  show gM T983 30 #[rv a1, rv o1] [(.int 0)]
  refine own_retVW X983 S981 (by rw [eh983]; exact kk981) I981 hx hlk Bd.returns (w := (.int 0)) (own_nb (Or.inl rfl)) (Or.inl ⟨rfl, Or.inr (Or.inl rfl), _, rfl⟩) (hb hby d15_30) ?_ (by decide) (by decide)
  show own_t1_Q Z a1 o1 wW cs Ts h0 n0 _ T983.heap _
  rw [eh983]
  exact ⟨rfl, N983, K982⟩
theorem own_t0_ef (m : MethodId) (a1 : Addr) (o1 : Addr) : entryFrame m #[(.ref a1), (.ref o1)] 2 = mkF m 0 #[rv a1, rv o1] [] := by first | (simp [entryFrame, mkF, argsToLocals, Value.category]; done) | rfl
def own_t0_Q (Z : State) (a1 : Addr) (o1 : Addr) (wW : Addr) (cs : Int32) (Ts : List String) (bv : Addr) (zl : Int32) (xs : List Int32) (kb : ClassId) (h0 : Heap) (n0 : Nat) (v : Option Value) (h : Heap) (L : List Loc) : Prop := v = some (.int 0) ∧ Fr n0 L ∧ Keep h0 h []
set_option maxRecDepth 65536 in
set_option maxHeartbeats 40000000 in
theorem own_t0 (l : Launch) (Z : State) (a0 : Array Value) (hw : ∀ d ∈ tables_1, d.before a0 Z = true) (ws : List Jvm.Cond) (a1 : Addr) (o1 : Addr) (wW : Addr) (cs : Int32) (Ts : List String) (bv : Addr) (zl : Int32) (xs : List Int32) (kb : ClassId) (h0 : Heap) (n0 : Nat) (Z0 : n0 ≤ h0.size) (S_WRITE : Sta Z Z.heap "com/example/noctule/noctule/server/TokenScope" "WRITE" "Lcom/example/noctule/noctule/server/TokenScope;" (.ref wW)) (Zn : Z.heap.size ≤ n0) (EZ : Ext Z.heap h0) (ne_a1_wW : a1 ≠ wW) (E_o1 : Exa Z h0 o1 "java/lang/String") (S_COMPACT_STRINGS : Sta Z Z.heap "java/lang/String" "COMPACT_STRINGS" "Z" (.int cs)) (hcs : ¬ cs = (0 : Int32)) (hk41 : Jvm.Lit.constHeld Z "com/example/noctule/noctule/server/TokenScope" 41) (hk49 : Jvm.Lit.constHeld Z "com/example/noctule/noctule/server/TokenScope" 49) (hcw : Jvm.Lit.compactW.before a0 Z = true) (hnot_GET : "GET" ∉ Ts) (hnot_HEAD : "HEAD" ∉ Ts) (hn0 : n0 = h0.size) (F_coder_o1 : Fld Z h0 o1 "java/lang/String" "coder" "B" (.int 0)) (F_value_o1 : Fld Z h0 o1 "java/lang/String" "value" "[B" (.ref bv)) (V_bv : Arv Z h0 bv kb .byte zl (xs.map Value.int) (Value.int 0)) (hz3 : zl ≠ (3 : Int32)) (hz4 : zl ≠ (4 : Int32)) :
    MetFree l mN15 (head1 (Jvm.Cond.code mN15 prog_94_method_6_code 2 (some .boolean) :: ws) ({ frames := 2, cells := 4, slots := 36, locals := 28 } : Room)) (fun aa U => aa = #[(.ref a1), (.ref o1)] ∧ Z.Warmed39 U.vm ∧ U.heap = h0 ∧ IB Z U.vm Ts) (fun _ _ _ _ _ => True) (fun _ U o U' => ∃ v L, o = .returned v ∧ own_t0_Q Z a1 o1 wW cs Ts bv zl xs kb h0 n0 v U'.heap L ∧ IB Z U'.vm ("HEAD" :: "GET" :: Ts) ∧ ReturnedEndW U o U' L ({ frames := 2, cells := 4, slots := 36, locals := 28 } : Room).cells ({ frames := 2, cells := 4, slots := 36, locals := 28 } : Room).slots) := by
  refine MetFree.of_bodySF (plainFor_of_name own_pn4) hisR ?_
  have w14 := wO hw 14 rfl
  have w42 := wO hw 42 rfl
  have w44 := wO hw 44 rfl
  have w45 := wO hw 45 rfl
  have w46 := wO hw 46 rfl
  have w47 := wO hw 47 rfl
  have w48 := wO hw 48 rfl
  have w49 := wO hw 49 rfl
  have w56 := wO hw 56 rfl
  intro p e s m args below meth c s₁ Bd hml0 hP hK
  obtain ⟨rfl, hZ, hh, hI0⟩ := hP
  have hx := Bd.exec
  have hby := Bd.bytes
  have hlk := Bd.notSynchronized
  have hml : c.maxLocals = 2 := hml0
  have hown : s.vm.findClass "com/example/noctule/noctule/server/TokenScope" = some m.cls := findClass_of_methodNamed Bd.named
  have hnm := (name_of_methodNamed Bd.named Bd.method).1
  have X0 : Stand p l e ({ frames := 2, cells := 4, slots := 36, locals := 28 } : Room) (s.setVm s.vm) m #[(.ref a1), (.ref o1)] below meth c s₁ [] 0 0 := Stand.of_body Bd
  have e0 : s₁.heap = h0 := by rw [← hh, Bd.state]; rfl
  have N0 := Fr.nil n0
  have K0 : Keep h0 h0 [] := Keep.refl h0 _
  have O0 : Old Z Z.heap.size h0 := ⟨rfl, EZ⟩
  have hZ : Z.Warmed39 (s.setVm s.vm).vm := hZ
  have hown : (s.setVm s.vm).vm.findClass "com/example/noctule/noctule/server/TokenScope" = some m.cls := hown
  have hS0 : s.Since s.vm 0 := (State.WarmedH.refl s).since 0
  have hk0 : 0 ≤ h0.size := Nat.zero_le _
  show gS p e below (own_FinW s Z ("HEAD" :: "GET" :: Ts) (own_t0_Q Z a1 o1 wW cs Ts bv zl xs kb h0 n0) ({ frames := 2, cells := 4, slots := 36, locals := 28 } : Room).cells ({ frames := 2, cells := 4, slots := 36, locals := 28 } : Room).slots) _
  refine sT (fun t k => castTop (own_t0_ef m a1 o1) k) ?_
  show gM s₁ 0 #[rv a1, rv o1] []
  refine sT (fun t k => XS.aloadN X0.here hx rfl (hb hby d15_0) rfl rfl k) ?_
  show gM s₁ 1 #[rv a1, rv o1] [(.ref a1)]
  obtain ⟨T994, X994, e994, st994⟩ := getS2 X0 hx hZ hown (host := "") (Or.inl w42) Via.refl e0 (S_WRITE.ext O0.2) (g := (mkF m 1 #[rv a1, rv o1] [(.ref a1)])) rfl (hb hby d15_1)
  refine sT st994 ?_
  show gM T994 4 #[rv a1, rv o1] [(.ref wW), (.ref a1)]
  refine sT (fun t k => Jvm.RoadKit.acmp (g := (mkF m 4 #[rv a1, rv o1] [(.ref wW), (.ref a1)])) X994 hx rfl rfl rfl (pc0 := 4) (pc' := 7) (same := false) rfl (hb hby d15_4) rfl (decide_eq_false fun zq => ne_a1_wW (Value.ref.inj zq)) (by decide) (by decide) k) ?_
  show gM T994 7 #[rv a1, rv o1] []
  refine sT (fun t k => XS.aloadN X994.here hx rfl (hb hby d15_7) rfl rfl k) ?_
  show gM T994 8 #[rv a1, rv o1] [(.ref o1)]
  obtain ⟨b995, T995, h995, kn995, bv995, kc995, X995, e995, E995, S995, kk995, hZ, hown, A995, Fc995, Fv995, V995, -, -, I995, Lt995, st995⟩ := ldcSVL X994 hx hZ hown w44 (own_wS hw) e994 hS0 hk0 (by rw [hh, ← hn0]; exact N0) (by rw [hh]; exact EZ.2) hI0 hnot_GET hk41 hcw own_tGET (z := (3 : Int32)) (by decide) rfl (g := (mkF m 8 #[rv a1, rv o1] [(.ref o1)])) rfl (hb hby d15_8) (n := 12) (by decide) (by decide) (by decide) (by decide)
  have K996 : Keep h0 h995 [] := K0.ext E995
  refine sT st995 ?_
  show gM T995 10 #[rv a1, rv o1] [(.ref b995), (.ref o1)]
  obtain ⟨cq997, kq997, q997a, q997b, q997c⟩ := isOf hZ e995 (E_o1.ext E995)
  obtain ⟨_, _, ⟨T997, L997, k997, n997⟩, -, X997, ⟨Lc997, hQ997, l997, y997, z997⟩, st997⟩ := X995.virtualBack hx (y := mN14) (z := mN14) hown (mvT hZ w45) (mvT hZ w46) (notFace_of_selects (args := #[]) (mvT hZ w48)) (mvT hZ w48) (mvT hZ w47) (by decide) (backOf (W := 0) (own_eb l Z a0 hw [] o1 b995 (cs) (bv) (bv995) (zl) (xs) (kb) ((3 : Int32)) (([71, 69, 84] : List Int32)) (kc995) h995 n0 (Nat.le_trans Z0 E995.1) A995 S_COMPACT_STRINGS hcs Zn (O0.ext E995).2 (F_coder_o1.ext E995) Fc995 (F_value_o1.ext E995) Fv995 (V_bv.ext E995) V995 hz3) hZ w49 w14 (by decide) (by decide)) q997a q997c (g := (mkF m 10 #[rv a1, rv o1] [(.ref b995), (.ref o1)])) rfl (by rw [hml]; rfl) (Steps.refl _) (argsL := [(.ref b995)]) (rest := []) (lenOf own_pd11 rfl) rfl (by show 2 * 0 + _ ≤ _; exact Nat.le_of_eq rfl) (hb hby d15_10) (fun _ hWq => ⟨rfl, e995, (by decide : 2 + 0 ≤ _), (by decide : 16 + 0 ≤ _)⟩)
  dsimp only [Pt.U, Pt.locs, Pt.cells, Pt.slots] at X997 l997 y997 z997 st997 hQ997
  subst y997 z997
  obtain ⟨rfl, N997q, eh997⟩ := hQ997
  have N997 : Fr n0 L997 := by rw [l997]; exact Fr.app N0 N997q
  refine own_jump st997 ?_
  show gM T997 13 #[rv a1, rv o1] [(.int 0)]
  have hc998 : (0 : Int32) = (0 : Int32) := rfl
  refine sT (fun t k => XS.ifNo X997.here hx rfl (hb hby d15_13) rfl ((if0 _ _).trans (teq hc998).2) k) ?_
  show gM T997 16 #[rv a1, rv o1] []
  refine sT (fun t k => XS.aloadN X997.here hx rfl (hb hby d15_16) rfl rfl k) ?_
  show gM T997 17 #[rv a1, rv o1] [(.ref o1)]
  obtain ⟨b999, T999, h999, kn999, bv999, kc999, X999, e999, E999, S999, kk999, hZ, hown, A999, Fc999, Fv999, V999, -, -, I999, Lt999, st999⟩ := ldcSVL X997 hx hZ hown w56 (own_wS hw) eh997 S995 kk995 (by rw [hh, ← hn0]; exact N997) (by rw [hh]; exact EZ.2) I995 (own_notin (by decide) hnot_HEAD) hk49 hcw own_tHEAD (z := (4 : Int32)) (by decide) rfl (g := (mkF m 17 #[rv a1, rv o1] [(.ref o1)])) rfl (hb hby d15_17) (n := 16) (by decide) (by decide) (by decide) (by decide)
  have K1000 : Keep h0 h999 [] := K996.ext E999
  refine sT st999 ?_
  show gM T999 19 #[rv a1, rv o1] [(.ref b999), (.ref o1)]
  obtain ⟨cq1001, kq1001, q1001a, q1001b, q1001c⟩ := isOf hZ e999 ((E_o1.ext E995).ext E999)
  obtain ⟨_, _, ⟨T1001, L1001, k1001, n1001⟩, -, X1001, ⟨Lc1001, hQ1001, l1001, y1001, z1001⟩, st1001⟩ := X999.virtualBack hx (y := mN14) (z := mN14) hown (mvT hZ w45) (mvT hZ w46) (notFace_of_selects (args := #[]) (mvT hZ w48)) (mvT hZ w48) (mvT hZ w47) (by decide) (backOf (W := 0) (own_eb l Z a0 hw [] o1 b999 (cs) (bv) (bv999) (zl) (xs) (kb) ((4 : Int32)) (([72, 69, 65, 68] : List Int32)) (kc999) h999 n0 (Nat.le_trans (Nat.le_trans Z0 E995.1) E999.1) A999 S_COMPACT_STRINGS hcs Zn ((O0.ext E995).ext E999).2 ((F_coder_o1.ext E995).ext E999) Fc999 ((F_value_o1.ext E995).ext E999) Fv999 ((V_bv.ext E995).ext E999) V999 hz4) hZ w49 w14 (by decide) (by decide)) q1001a q1001c (g := (mkF m 19 #[rv a1, rv o1] [(.ref b999), (.ref o1)])) rfl (by rw [hml]; rfl) (Steps.refl _) (argsL := [(.ref b999)]) (rest := []) (lenOf own_pd11 rfl) rfl (by show 2 * 0 + _ ≤ _; exact Nat.le_of_eq rfl) (hb hby d15_19) (fun _ hWq => ⟨rfl, e999, (by decide : 4 + 0 ≤ _), (by decide : 36 + 0 ≤ _)⟩)
  dsimp only [Pt.U, Pt.locs, Pt.cells, Pt.slots] at X1001 l1001 y1001 z1001 st1001 hQ1001
  subst y1001 z1001
  obtain ⟨rfl, N1001q, eh1001⟩ := hQ1001
  have N1001 : Fr n0 L1001 := by rw [l1001]; exact Fr.app N997 N1001q
  refine own_jump st1001 ?_
  show gM T1001 22 #[rv a1, rv o1] [(.int 0)]
  have hc1002 : (0 : Int32) = (0 : Int32) := rfl
  refine sT (fun t k => XS.ifYes X1001.here hx rfl (pc0 := 22) (pc' := 29) rfl (hb hby d15_22) rfl ((if0 _ _).trans (teq hc1002).1) (by decide) (by decide) k) ?_
  show gM T1001 29 #[rv a1, rv o1] []
  refine sT (fun t k => XS.iconst X1001.here hx rfl (hb hby d15_29) k) ?_
  show gM T1001 30 #[rv a1, rv o1] [(.int 0)]
  refine own_retVW X1001 S999 (by rw [eh1001]; exact kk999) I999 hx hlk Bd.returns (w := (.int 0)) (own_nb (Or.inl rfl)) (Or.inl ⟨rfl, Or.inr (Or.inl rfl), _, rfl⟩) (hb hby d15_30) ?_ (by decide) (by decide)
  show own_t0_Q Z a1 o1 wW cs Ts bv zl xs kb h0 n0 _ T1001.heap _
  rw [eh1001]
  exact ⟨rfl, N1001, K1000⟩
theorem own_t3_ef (m : MethodId) (a1 : Addr) (o1 : Addr) : entryFrame m #[(.ref a1), (.ref o1)] 2 = mkF m 0 #[rv a1, rv o1] [] := by first | (simp [entryFrame, mkF, argsToLocals, Value.category]; done) | rfl
def own_t3_Q (Z : State) (a1 : Addr) (o1 : Addr) (wW : Addr) (cs : Int32) (Ts : List String) (bv : Addr) (y0 : Int32) (y1 : Int32) (y2 : Int32) (kb : ClassId) (h0 : Heap) (n0 : Nat) (v : Option Value) (h : Heap) (L : List Loc) : Prop := v = some (.int (if (if (own_n3 y0 y1 y2 (71 : Int32) (69 : Int32) (84 : Int32)) = (0 : Int32) then (0 : Int32) else (1 : Int32)) = (0 : Int32) then (0 : Int32) else (1 : Int32))) ∧ Fr n0 L ∧ Keep h0 h []
set_option maxRecDepth 65536 in
set_option maxHeartbeats 40000000 in
theorem own_t3 (l : Launch) (Z : State) (a0 : Array Value) (hw : ∀ d ∈ tables_1, d.before a0 Z = true) (ws : List Jvm.Cond) (a1 : Addr) (o1 : Addr) (wW : Addr) (cs : Int32) (Ts : List String) (bv : Addr) (y0 : Int32) (y1 : Int32) (y2 : Int32) (kb : ClassId) (h0 : Heap) (n0 : Nat) (Z0 : n0 ≤ h0.size) (S_WRITE : Sta Z Z.heap "com/example/noctule/noctule/server/TokenScope" "WRITE" "Lcom/example/noctule/noctule/server/TokenScope;" (.ref wW)) (Zn : Z.heap.size ≤ n0) (EZ : Ext Z.heap h0) (ne_a1_wW : a1 ≠ wW) (E_o1 : Exa Z h0 o1 "java/lang/String") (S_COMPACT_STRINGS : Sta Z Z.heap "java/lang/String" "COMPACT_STRINGS" "Z" (.int cs)) (hcs : ¬ cs = (0 : Int32)) (hk41 : Jvm.Lit.constHeld Z "com/example/noctule/noctule/server/TokenScope" 41) (hk49 : Jvm.Lit.constHeld Z "com/example/noctule/noctule/server/TokenScope" 49) (hcw : Jvm.Lit.compactW.before a0 Z = true) (hnot_GET : "GET" ∉ Ts) (hnot_HEAD : "HEAD" ∉ Ts) (hn0 : n0 = h0.size) (F_coder_o1 : Fld Z h0 o1 "java/lang/String" "coder" "B" (.int 0)) (F_value_o1 : Fld Z h0 o1 "java/lang/String" "value" "[B" (.ref bv)) (V_bv : Arv Z h0 bv kb .byte (3 : Int32) (([y0, y1, y2] : List Int32).map Value.int) (Value.int 0)) :
    MetFree l mN15 (head1 (Jvm.Cond.code mN15 prog_94_method_6_code 2 (some .boolean) :: ws) ({ frames := 2, cells := 4, slots := 36, locals := 28 } : Room)) (fun aa U => aa = #[(.ref a1), (.ref o1)] ∧ Z.Warmed39 U.vm ∧ U.heap = h0 ∧ IB Z U.vm Ts) (fun _ _ _ _ _ => True) (fun _ U o U' => ∃ v L, o = .returned v ∧ own_t3_Q Z a1 o1 wW cs Ts bv y0 y1 y2 kb h0 n0 v U'.heap L ∧ IB Z U'.vm ("HEAD" :: "GET" :: Ts) ∧ ReturnedEndW U o U' L ({ frames := 2, cells := 4, slots := 36, locals := 28 } : Room).cells ({ frames := 2, cells := 4, slots := 36, locals := 28 } : Room).slots) := by
  refine MetFree.of_bodySF (plainFor_of_name own_pn4) hisR ?_
  have w14 := wO hw 14 rfl
  have w42 := wO hw 42 rfl
  have w44 := wO hw 44 rfl
  have w45 := wO hw 45 rfl
  have w46 := wO hw 46 rfl
  have w47 := wO hw 47 rfl
  have w48 := wO hw 48 rfl
  have w49 := wO hw 49 rfl
  have w56 := wO hw 56 rfl
  intro p e s m args below meth c s₁ Bd hml0 hP hK
  obtain ⟨rfl, hZ, hh, hI0⟩ := hP
  have hx := Bd.exec
  have hby := Bd.bytes
  have hlk := Bd.notSynchronized
  have hml : c.maxLocals = 2 := hml0
  have hown : s.vm.findClass "com/example/noctule/noctule/server/TokenScope" = some m.cls := findClass_of_methodNamed Bd.named
  have hnm := (name_of_methodNamed Bd.named Bd.method).1
  have X0 : Stand p l e ({ frames := 2, cells := 4, slots := 36, locals := 28 } : Room) (s.setVm s.vm) m #[(.ref a1), (.ref o1)] below meth c s₁ [] 0 0 := Stand.of_body Bd
  have e0 : s₁.heap = h0 := by rw [← hh, Bd.state]; rfl
  have N0 := Fr.nil n0
  have K0 : Keep h0 h0 [] := Keep.refl h0 _
  have O0 : Old Z Z.heap.size h0 := ⟨rfl, EZ⟩
  have hZ : Z.Warmed39 (s.setVm s.vm).vm := hZ
  have hown : (s.setVm s.vm).vm.findClass "com/example/noctule/noctule/server/TokenScope" = some m.cls := hown
  have hS0 : s.Since s.vm 0 := (State.WarmedH.refl s).since 0
  have hk0 : 0 ≤ h0.size := Nat.zero_le _
  show gS p e below (own_FinW s Z ("HEAD" :: "GET" :: Ts) (own_t3_Q Z a1 o1 wW cs Ts bv y0 y1 y2 kb h0 n0) ({ frames := 2, cells := 4, slots := 36, locals := 28 } : Room).cells ({ frames := 2, cells := 4, slots := 36, locals := 28 } : Room).slots) _
  refine sT (fun t k => castTop (own_t3_ef m a1 o1) k) ?_
  show gM s₁ 0 #[rv a1, rv o1] []
  refine sT (fun t k => XS.aloadN X0.here hx rfl (hb hby d15_0) rfl rfl k) ?_
  show gM s₁ 1 #[rv a1, rv o1] [(.ref a1)]
  obtain ⟨T1012, X1012, e1012, st1012⟩ := getS2 X0 hx hZ hown (host := "") (Or.inl w42) Via.refl e0 (S_WRITE.ext O0.2) (g := (mkF m 1 #[rv a1, rv o1] [(.ref a1)])) rfl (hb hby d15_1)
  refine sT st1012 ?_
  show gM T1012 4 #[rv a1, rv o1] [(.ref wW), (.ref a1)]
  refine sT (fun t k => Jvm.RoadKit.acmp (g := (mkF m 4 #[rv a1, rv o1] [(.ref wW), (.ref a1)])) X1012 hx rfl rfl rfl (pc0 := 4) (pc' := 7) (same := false) rfl (hb hby d15_4) rfl (decide_eq_false fun zq => ne_a1_wW (Value.ref.inj zq)) (by decide) (by decide) k) ?_
  show gM T1012 7 #[rv a1, rv o1] []
  refine sT (fun t k => XS.aloadN X1012.here hx rfl (hb hby d15_7) rfl rfl k) ?_
  show gM T1012 8 #[rv a1, rv o1] [(.ref o1)]
  obtain ⟨b1013, T1013, h1013, kn1013, bv1013, kc1013, X1013, e1013, E1013, S1013, kk1013, hZ, hown, A1013, Fc1013, Fv1013, V1013, -, -, I1013, Lt1013, st1013⟩ := ldcSVL X1012 hx hZ hown w44 (own_wS hw) e1012 hS0 hk0 (by rw [hh, ← hn0]; exact N0) (by rw [hh]; exact EZ.2) hI0 hnot_GET hk41 hcw own_tGET (z := (3 : Int32)) (by decide) rfl (g := (mkF m 8 #[rv a1, rv o1] [(.ref o1)])) rfl (hb hby d15_8) (n := 12) (by decide) (by decide) (by decide) (by decide)
  have K1014 : Keep h0 h1013 [] := K0.ext E1013
  refine sT st1013 ?_
  show gM T1013 10 #[rv a1, rv o1] [(.ref b1013), (.ref o1)]
  obtain ⟨cq1015, kq1015, q1015a, q1015b, q1015c⟩ := isOf hZ e1013 (E_o1.ext E1013)
  obtain ⟨_, _, ⟨T1015, L1015, k1015, n1015⟩, -, X1015, ⟨Lc1015, hQ1015, l1015, y1015, z1015⟩, st1015⟩ := X1013.virtualBack hx (y := mN14) (z := mN14) hown (mvT hZ w45) (mvT hZ w46) (notFace_of_selects (args := #[]) (mvT hZ w48)) (mvT hZ w48) (mvT hZ w47) (by decide) (backOf (W := 0) (own_e3 l Z a0 hw [] o1 b1013 (cs) (bv) (bv1013) (y0) (y1) (y2) ((71 : Int32)) ((69 : Int32)) ((84 : Int32)) (kb) (kc1013) h1013 n0 (Nat.le_trans Z0 E1013.1) A1013 S_COMPACT_STRINGS hcs Zn (O0.ext E1013).2 (F_coder_o1.ext E1013) Fc1013 (F_value_o1.ext E1013) Fv1013 (V_bv.ext E1013) V1013) hZ w49 w14 (by decide) (by decide)) q1015a q1015c (g := (mkF m 10 #[rv a1, rv o1] [(.ref b1013), (.ref o1)])) rfl (by rw [hml]; rfl) (Steps.refl _) (argsL := [(.ref b1013)]) (rest := []) (lenOf own_pd11 rfl) rfl (by show 2 * 0 + _ ≤ _; exact Nat.le_of_eq rfl) (hb hby d15_10) (fun _ hWq => ⟨rfl, e1013, (by decide : 2 + 0 ≤ _), (by decide : 16 + 0 ≤ _)⟩)
  dsimp only [Pt.U, Pt.locs, Pt.cells, Pt.slots] at X1015 l1015 y1015 z1015 st1015 hQ1015
  subst y1015 z1015
  obtain ⟨rfl, N1015q, eh1015⟩ := hQ1015
  have N1015 : Fr n0 L1015 := by rw [l1015]; exact Fr.app N0 N1015q
  refine own_jump st1015 ?_
  show gM T1015 13 #[rv a1, rv o1] [(.int (if (own_n3 y0 y1 y2 (71 : Int32) (69 : Int32) (84 : Int32)) = (0 : Int32) then (0 : Int32) else (1 : Int32)))]
  by_cases hc1016 : (if (own_n3 y0 y1 y2 (71 : Int32) (69 : Int32) (84 : Int32)) = (0 : Int32) then (0 : Int32) else (1 : Int32)) = (0 : Int32)
  · --
   refine sT (fun t k => XS.ifNo X1015.here hx rfl (hb hby d15_13) rfl ((if0 _ _).trans (teq hc1016).2) k) ?_
   show gM T1015 16 #[rv a1, rv o1] []
   refine sT (fun t k => XS.aloadN X1015.here hx rfl (hb hby d15_16) rfl rfl k) ?_
   show gM T1015 17 #[rv a1, rv o1] [(.ref o1)]
   obtain ⟨b1017, T1017, h1017, kn1017, bv1017, kc1017, X1017, e1017, E1017, S1017, kk1017, hZ, hown, A1017, Fc1017, Fv1017, V1017, -, -, I1017, Lt1017, st1017⟩ := ldcSVL X1015 hx hZ hown w56 (own_wS hw) eh1015 S1013 kk1013 (by rw [hh, ← hn0]; exact N1015) (by rw [hh]; exact EZ.2) I1013 (own_notin (by decide) hnot_HEAD) hk49 hcw own_tHEAD (z := (4 : Int32)) (by decide) rfl (g := (mkF m 17 #[rv a1, rv o1] [(.ref o1)])) rfl (hb hby d15_17) (n := 16) (by decide) (by decide) (by decide) (by decide)
   have K1018 : Keep h0 h1017 [] := K1014.ext E1017
   refine sT st1017 ?_
   show gM T1017 19 #[rv a1, rv o1] [(.ref b1017), (.ref o1)]
   obtain ⟨cq1019, kq1019, q1019a, q1019b, q1019c⟩ := isOf hZ e1017 ((E_o1.ext E1013).ext E1017)
   obtain ⟨_, _, ⟨T1019, L1019, k1019, n1019⟩, -, X1019, ⟨Lc1019, hQ1019, l1019, y1019, z1019⟩, st1019⟩ := X1017.virtualBack hx (y := mN14) (z := mN14) hown (mvT hZ w45) (mvT hZ w46) (notFace_of_selects (args := #[]) (mvT hZ w48)) (mvT hZ w48) (mvT hZ w47) (by decide) (backOf (W := 0) (own_eb l Z a0 hw [] o1 b1017 (cs) (bv) (bv1017) ((3 : Int32)) (([y0, y1, y2] : List Int32)) (kb) ((4 : Int32)) (([72, 69, 65, 68] : List Int32)) (kc1017) h1017 n0 (Nat.le_trans (Nat.le_trans Z0 E1013.1) E1017.1) A1017 S_COMPACT_STRINGS hcs Zn ((O0.ext E1013).ext E1017).2 ((F_coder_o1.ext E1013).ext E1017) Fc1017 ((F_value_o1.ext E1013).ext E1017) Fv1017 ((V_bv.ext E1013).ext E1017) V1017 (by decide)) hZ w49 w14 (by decide) (by decide)) q1019a q1019c (g := (mkF m 19 #[rv a1, rv o1] [(.ref b1017), (.ref o1)])) rfl (by rw [hml]; rfl) (Steps.refl _) (argsL := [(.ref b1017)]) (rest := []) (lenOf own_pd11 rfl) rfl (by show 2 * 0 + _ ≤ _; exact Nat.le_of_eq rfl) (hb hby d15_19) (fun _ hWq => ⟨rfl, e1017, (by decide : 4 + 0 ≤ _), (by decide : 36 + 0 ≤ _)⟩)
   dsimp only [Pt.U, Pt.locs, Pt.cells, Pt.slots] at X1019 l1019 y1019 z1019 st1019 hQ1019
   subst y1019 z1019
   obtain ⟨rfl, N1019q, eh1019⟩ := hQ1019
   have N1019 : Fr n0 L1019 := by rw [l1019]; exact Fr.app N1015 N1019q
   refine own_jump st1019 ?_
   show gM T1019 22 #[rv a1, rv o1] [(.int 0)]
   have hc1020 : (0 : Int32) = (0 : Int32) := rfl
   refine sT (fun t k => XS.ifYes X1019.here hx rfl (pc0 := 22) (pc' := 29) rfl (hb hby d15_22) rfl ((if0 _ _).trans (teq hc1020).1) (by decide) (by decide) k) ?_
   show gM T1019 29 #[rv a1, rv o1] []
   refine sT (fun t k => XS.iconst X1019.here hx rfl (hb hby d15_29) k) ?_
   show gM T1019 30 #[rv a1, rv o1] [(.int 0)]
   refine own_retVW X1019 S1017 (by rw [eh1019]; exact kk1017) I1017 hx hlk Bd.returns (w := (.int 0)) (own_nb (Or.inl rfl)) (Or.inl ⟨rfl, Or.inr (Or.inl rfl), _, rfl⟩) (hb hby d15_30) ?_ (by decide) (by decide)
   show own_t3_Q Z a1 o1 wW cs Ts bv y0 y1 y2 kb h0 n0 _ T1019.heap _
   rw [eh1019]
   exact ⟨(by simp only [if_pos hc1016]), N1019, K1018⟩
  · --
   refine sT (fun t k => XS.ifYes X1015.here hx rfl (pc0 := 13) (pc' := 25) rfl (hb hby d15_13) rfl ((if0 _ _).trans (feq hc1016).2) (by decide) (by decide) k) ?_
   show gM T1015 25 #[rv a1, rv o1] []
   refine sT (fun t k => XS.iconst X1015.here hx rfl (hb hby d15_25) k) ?_
   show gM T1015 26 #[rv a1, rv o1] [(.int 1)]
   refine sT (fun t k => XS.goto X1015.here hx rfl (pc0 := 26) (pc' := 30) rfl (hb hby d15_26) (by decide) (by decide) k) ?_
   show gM T1015 30 #[rv a1, rv o1] [(.int 1)]
   refine own_retVW X1015 S1013 (by rw [eh1015]; exact kk1013) (IB.step (text := "HEAD") I1013 (Or.inl rfl)) hx hlk Bd.returns (w := (.int 1)) (own_nb (Or.inr rfl)) (Or.inl ⟨rfl, Or.inr (Or.inl rfl), _, rfl⟩) (hb hby d15_30) ?_ (by decide) (by decide)
   show own_t3_Q Z a1 o1 wW cs Ts bv y0 y1 y2 kb h0 n0 _ T1015.heap _
   rw [eh1015]
   exact ⟨(by simp only [if_neg hc1016]), N1015, K1014⟩
theorem own_t4_ef (m : MethodId) (a1 : Addr) (o1 : Addr) : entryFrame m #[(.ref a1), (.ref o1)] 2 = mkF m 0 #[rv a1, rv o1] [] := by first | (simp [entryFrame, mkF, argsToLocals, Value.category]; done) | rfl
def own_t4_Q (Z : State) (a1 : Addr) (o1 : Addr) (wW : Addr) (cs : Int32) (Ts : List String) (bv : Addr) (y0 : Int32) (y1 : Int32) (y2 : Int32) (y3 : Int32) (kb : ClassId) (h0 : Heap) (n0 : Nat) (v : Option Value) (h : Heap) (L : List Loc) : Prop := v = some (.int (if (if (own_n4 y0 y1 y2 y3 (72 : Int32) (69 : Int32) (65 : Int32) (68 : Int32)) = (0 : Int32) then (0 : Int32) else (1 : Int32)) = (0 : Int32) then (0 : Int32) else (1 : Int32))) ∧ Fr n0 L ∧ Keep h0 h []
set_option maxRecDepth 65536 in
set_option maxHeartbeats 40000000 in
theorem own_t4 (l : Launch) (Z : State) (a0 : Array Value) (hw : ∀ d ∈ tables_1, d.before a0 Z = true) (ws : List Jvm.Cond) (a1 : Addr) (o1 : Addr) (wW : Addr) (cs : Int32) (Ts : List String) (bv : Addr) (y0 : Int32) (y1 : Int32) (y2 : Int32) (y3 : Int32) (kb : ClassId) (h0 : Heap) (n0 : Nat) (Z0 : n0 ≤ h0.size) (S_WRITE : Sta Z Z.heap "com/example/noctule/noctule/server/TokenScope" "WRITE" "Lcom/example/noctule/noctule/server/TokenScope;" (.ref wW)) (Zn : Z.heap.size ≤ n0) (EZ : Ext Z.heap h0) (ne_a1_wW : a1 ≠ wW) (E_o1 : Exa Z h0 o1 "java/lang/String") (S_COMPACT_STRINGS : Sta Z Z.heap "java/lang/String" "COMPACT_STRINGS" "Z" (.int cs)) (hcs : ¬ cs = (0 : Int32)) (hk41 : Jvm.Lit.constHeld Z "com/example/noctule/noctule/server/TokenScope" 41) (hk49 : Jvm.Lit.constHeld Z "com/example/noctule/noctule/server/TokenScope" 49) (hcw : Jvm.Lit.compactW.before a0 Z = true) (hnot_GET : "GET" ∉ Ts) (hnot_HEAD : "HEAD" ∉ Ts) (hn0 : n0 = h0.size) (F_coder_o1 : Fld Z h0 o1 "java/lang/String" "coder" "B" (.int 0)) (F_value_o1 : Fld Z h0 o1 "java/lang/String" "value" "[B" (.ref bv)) (V_bv : Arv Z h0 bv kb .byte (4 : Int32) (([y0, y1, y2, y3] : List Int32).map Value.int) (Value.int 0)) :
    MetFree l mN15 (head1 (Jvm.Cond.code mN15 prog_94_method_6_code 2 (some .boolean) :: ws) ({ frames := 2, cells := 4, slots := 36, locals := 28 } : Room)) (fun aa U => aa = #[(.ref a1), (.ref o1)] ∧ Z.Warmed39 U.vm ∧ U.heap = h0 ∧ IB Z U.vm Ts) (fun _ _ _ _ _ => True) (fun _ U o U' => ∃ v L, o = .returned v ∧ own_t4_Q Z a1 o1 wW cs Ts bv y0 y1 y2 y3 kb h0 n0 v U'.heap L ∧ IB Z U'.vm ("HEAD" :: "GET" :: Ts) ∧ ReturnedEndW U o U' L ({ frames := 2, cells := 4, slots := 36, locals := 28 } : Room).cells ({ frames := 2, cells := 4, slots := 36, locals := 28 } : Room).slots) := by
  refine MetFree.of_bodySF (plainFor_of_name own_pn4) hisR ?_
  have w14 := wO hw 14 rfl
  have w42 := wO hw 42 rfl
  have w44 := wO hw 44 rfl
  have w45 := wO hw 45 rfl
  have w46 := wO hw 46 rfl
  have w47 := wO hw 47 rfl
  have w48 := wO hw 48 rfl
  have w49 := wO hw 49 rfl
  have w56 := wO hw 56 rfl
  intro p e s m args below meth c s₁ Bd hml0 hP hK
  obtain ⟨rfl, hZ, hh, hI0⟩ := hP
  have hx := Bd.exec
  have hby := Bd.bytes
  have hlk := Bd.notSynchronized
  have hml : c.maxLocals = 2 := hml0
  have hown : s.vm.findClass "com/example/noctule/noctule/server/TokenScope" = some m.cls := findClass_of_methodNamed Bd.named
  have hnm := (name_of_methodNamed Bd.named Bd.method).1
  have X0 : Stand p l e ({ frames := 2, cells := 4, slots := 36, locals := 28 } : Room) (s.setVm s.vm) m #[(.ref a1), (.ref o1)] below meth c s₁ [] 0 0 := Stand.of_body Bd
  have e0 : s₁.heap = h0 := by rw [← hh, Bd.state]; rfl
  have N0 := Fr.nil n0
  have K0 : Keep h0 h0 [] := Keep.refl h0 _
  have O0 : Old Z Z.heap.size h0 := ⟨rfl, EZ⟩
  have hZ : Z.Warmed39 (s.setVm s.vm).vm := hZ
  have hown : (s.setVm s.vm).vm.findClass "com/example/noctule/noctule/server/TokenScope" = some m.cls := hown
  have hS0 : s.Since s.vm 0 := (State.WarmedH.refl s).since 0
  have hk0 : 0 ≤ h0.size := Nat.zero_le _
  show gS p e below (own_FinW s Z ("HEAD" :: "GET" :: Ts) (own_t4_Q Z a1 o1 wW cs Ts bv y0 y1 y2 y3 kb h0 n0) ({ frames := 2, cells := 4, slots := 36, locals := 28 } : Room).cells ({ frames := 2, cells := 4, slots := 36, locals := 28 } : Room).slots) _
  refine sT (fun t k => castTop (own_t4_ef m a1 o1) k) ?_
  show gM s₁ 0 #[rv a1, rv o1] []
  refine sT (fun t k => XS.aloadN X0.here hx rfl (hb hby d15_0) rfl rfl k) ?_
  show gM s₁ 1 #[rv a1, rv o1] [(.ref a1)]
  obtain ⟨T1030, X1030, e1030, st1030⟩ := getS2 X0 hx hZ hown (host := "") (Or.inl w42) Via.refl e0 (S_WRITE.ext O0.2) (g := (mkF m 1 #[rv a1, rv o1] [(.ref a1)])) rfl (hb hby d15_1)
  refine sT st1030 ?_
  show gM T1030 4 #[rv a1, rv o1] [(.ref wW), (.ref a1)]
  refine sT (fun t k => Jvm.RoadKit.acmp (g := (mkF m 4 #[rv a1, rv o1] [(.ref wW), (.ref a1)])) X1030 hx rfl rfl rfl (pc0 := 4) (pc' := 7) (same := false) rfl (hb hby d15_4) rfl (decide_eq_false fun zq => ne_a1_wW (Value.ref.inj zq)) (by decide) (by decide) k) ?_
  show gM T1030 7 #[rv a1, rv o1] []
  refine sT (fun t k => XS.aloadN X1030.here hx rfl (hb hby d15_7) rfl rfl k) ?_
  show gM T1030 8 #[rv a1, rv o1] [(.ref o1)]
  obtain ⟨b1031, T1031, h1031, kn1031, bv1031, kc1031, X1031, e1031, E1031, S1031, kk1031, hZ, hown, A1031, Fc1031, Fv1031, V1031, -, -, I1031, Lt1031, st1031⟩ := ldcSVL X1030 hx hZ hown w44 (own_wS hw) e1030 hS0 hk0 (by rw [hh, ← hn0]; exact N0) (by rw [hh]; exact EZ.2) hI0 hnot_GET hk41 hcw own_tGET (z := (3 : Int32)) (by decide) rfl (g := (mkF m 8 #[rv a1, rv o1] [(.ref o1)])) rfl (hb hby d15_8) (n := 12) (by decide) (by decide) (by decide) (by decide)
  have K1032 : Keep h0 h1031 [] := K0.ext E1031
  refine sT st1031 ?_
  show gM T1031 10 #[rv a1, rv o1] [(.ref b1031), (.ref o1)]
  obtain ⟨cq1033, kq1033, q1033a, q1033b, q1033c⟩ := isOf hZ e1031 (E_o1.ext E1031)
  obtain ⟨_, _, ⟨T1033, L1033, k1033, n1033⟩, -, X1033, ⟨Lc1033, hQ1033, l1033, y1033, z1033⟩, st1033⟩ := X1031.virtualBack hx (y := mN14) (z := mN14) hown (mvT hZ w45) (mvT hZ w46) (notFace_of_selects (args := #[]) (mvT hZ w48)) (mvT hZ w48) (mvT hZ w47) (by decide) (backOf (W := 0) (own_eb l Z a0 hw [] o1 b1031 (cs) (bv) (bv1031) ((4 : Int32)) (([y0, y1, y2, y3] : List Int32)) (kb) ((3 : Int32)) (([71, 69, 84] : List Int32)) (kc1031) h1031 n0 (Nat.le_trans Z0 E1031.1) A1031 S_COMPACT_STRINGS hcs Zn (O0.ext E1031).2 (F_coder_o1.ext E1031) Fc1031 (F_value_o1.ext E1031) Fv1031 (V_bv.ext E1031) V1031 (by decide)) hZ w49 w14 (by decide) (by decide)) q1033a q1033c (g := (mkF m 10 #[rv a1, rv o1] [(.ref b1031), (.ref o1)])) rfl (by rw [hml]; rfl) (Steps.refl _) (argsL := [(.ref b1031)]) (rest := []) (lenOf own_pd11 rfl) rfl (by show 2 * 0 + _ ≤ _; exact Nat.le_of_eq rfl) (hb hby d15_10) (fun _ hWq => ⟨rfl, e1031, (by decide : 2 + 0 ≤ _), (by decide : 16 + 0 ≤ _)⟩)
  dsimp only [Pt.U, Pt.locs, Pt.cells, Pt.slots] at X1033 l1033 y1033 z1033 st1033 hQ1033
  subst y1033 z1033
  obtain ⟨rfl, N1033q, eh1033⟩ := hQ1033
  have N1033 : Fr n0 L1033 := by rw [l1033]; exact Fr.app N0 N1033q
  refine own_jump st1033 ?_
  show gM T1033 13 #[rv a1, rv o1] [(.int 0)]
  have hc1034 : (0 : Int32) = (0 : Int32) := rfl
  refine sT (fun t k => XS.ifNo X1033.here hx rfl (hb hby d15_13) rfl ((if0 _ _).trans (teq hc1034).2) k) ?_
  show gM T1033 16 #[rv a1, rv o1] []
  refine sT (fun t k => XS.aloadN X1033.here hx rfl (hb hby d15_16) rfl rfl k) ?_
  show gM T1033 17 #[rv a1, rv o1] [(.ref o1)]
  obtain ⟨b1035, T1035, h1035, kn1035, bv1035, kc1035, X1035, e1035, E1035, S1035, kk1035, hZ, hown, A1035, Fc1035, Fv1035, V1035, -, -, I1035, Lt1035, st1035⟩ := ldcSVL X1033 hx hZ hown w56 (own_wS hw) eh1033 S1031 kk1031 (by rw [hh, ← hn0]; exact N1033) (by rw [hh]; exact EZ.2) I1031 (own_notin (by decide) hnot_HEAD) hk49 hcw own_tHEAD (z := (4 : Int32)) (by decide) rfl (g := (mkF m 17 #[rv a1, rv o1] [(.ref o1)])) rfl (hb hby d15_17) (n := 16) (by decide) (by decide) (by decide) (by decide)
  have K1036 : Keep h0 h1035 [] := K1032.ext E1035
  refine sT st1035 ?_
  show gM T1035 19 #[rv a1, rv o1] [(.ref b1035), (.ref o1)]
  obtain ⟨cq1037, kq1037, q1037a, q1037b, q1037c⟩ := isOf hZ e1035 ((E_o1.ext E1031).ext E1035)
  obtain ⟨_, _, ⟨T1037, L1037, k1037, n1037⟩, -, X1037, ⟨Lc1037, hQ1037, l1037, y1037, z1037⟩, st1037⟩ := X1035.virtualBack hx (y := mN14) (z := mN14) hown (mvT hZ w45) (mvT hZ w46) (notFace_of_selects (args := #[]) (mvT hZ w48)) (mvT hZ w48) (mvT hZ w47) (by decide) (backOf (W := 0) (own_e4 l Z a0 hw [] o1 b1035 (cs) (bv) (bv1035) (y0) (y1) (y2) (y3) ((72 : Int32)) ((69 : Int32)) ((65 : Int32)) ((68 : Int32)) (kb) (kc1035) h1035 n0 (Nat.le_trans (Nat.le_trans Z0 E1031.1) E1035.1) A1035 S_COMPACT_STRINGS hcs Zn ((O0.ext E1031).ext E1035).2 ((F_coder_o1.ext E1031).ext E1035) Fc1035 ((F_value_o1.ext E1031).ext E1035) Fv1035 ((V_bv.ext E1031).ext E1035) V1035) hZ w49 w14 (by decide) (by decide)) q1037a q1037c (g := (mkF m 19 #[rv a1, rv o1] [(.ref b1035), (.ref o1)])) rfl (by rw [hml]; rfl) (Steps.refl _) (argsL := [(.ref b1035)]) (rest := []) (lenOf own_pd11 rfl) rfl (by show 2 * 0 + _ ≤ _; exact Nat.le_of_eq rfl) (hb hby d15_19) (fun _ hWq => ⟨rfl, e1035, (by decide : 4 + 0 ≤ _), (by decide : 36 + 0 ≤ _)⟩)
  dsimp only [Pt.U, Pt.locs, Pt.cells, Pt.slots] at X1037 l1037 y1037 z1037 st1037 hQ1037
  subst y1037 z1037
  obtain ⟨rfl, N1037q, eh1037⟩ := hQ1037
  have N1037 : Fr n0 L1037 := by rw [l1037]; exact Fr.app N1033 N1037q
  refine own_jump st1037 ?_
  show gM T1037 22 #[rv a1, rv o1] [(.int (if (own_n4 y0 y1 y2 y3 (72 : Int32) (69 : Int32) (65 : Int32) (68 : Int32)) = (0 : Int32) then (0 : Int32) else (1 : Int32)))]
  refine sT (S' := T1037.setTop (mkF m 30 #[rv a1, rv o1] [(.int (if (if (own_n4 y0 y1 y2 y3 (72 : Int32) (69 : Int32) (65 : Int32) (68 : Int32)) = (0 : Int32) then (0 : Int32) else (1 : Int32)) = (0 : Int32) then (0 : Int32) else (1 : Int32)))])) (fun t k => ?_) ?_
  · --
   show sM T1037 22 #[rv a1, rv o1] [(.int (if (own_n4 y0 y1 y2 y3 (72 : Int32) (69 : Int32) (65 : Int32) (68 : Int32)) = (0 : Int32) then (0 : Int32) else (1 : Int32)))] _
   by_cases hc1038 : (if (own_n4 y0 y1 y2 y3 (72 : Int32) (69 : Int32) (65 : Int32) (68 : Int32)) = (0 : Int32) then (0 : Int32) else (1 : Int32)) = (0 : Int32)
   · --
    refine XS.ifYes X1037.here hx rfl (pc0 := 22) (pc' := 29) rfl (hb hby d15_22) rfl ((if0 _ _).trans (teq hc1038).1) (by decide) (by decide) ?_
    show sM T1037 29 #[rv a1, rv o1] [] _
    refine XS.iconst X1037.here hx rfl (hb hby d15_29) ?_
    show sM T1037 30 #[rv a1, rv o1] [(.int 0)] _
    simp only [if_pos hc1038] at k
    exact k
   · --
    refine XS.ifNo X1037.here hx rfl (hb hby d15_22) rfl ((if0 _ _).trans (feq hc1038).1) ?_
    show sM T1037 25 #[rv a1, rv o1] [] _
    refine XS.iconst X1037.here hx rfl (hb hby d15_25) ?_
    show sM T1037 26 #[rv a1, rv o1] [(.int 1)] _
    refine XS.goto X1037.here hx rfl (pc0 := 26) (pc' := 30) rfl (hb hby d15_26) (by decide) (by decide) ?_
    show sM T1037 30 #[rv a1, rv o1] [(.int 1)] _
    simp only [if_neg hc1038] at k
    exact k
  show gM T1037 30 #[rv a1, rv o1] [(.int (if (if (own_n4 y0 y1 y2 y3 (72 : Int32) (69 : Int32) (65 : Int32) (68 : Int32)) = (0 : Int32) then (0 : Int32) else (1 : Int32)) = (0 : Int32) then (0 : Int32) else (1 : Int32)))]
  refine own_retVW X1037 S1035 (by rw [eh1037]; exact kk1035) I1035 hx hlk Bd.returns (w := (.int (if (if (own_n4 y0 y1 y2 y3 (72 : Int32) (69 : Int32) (65 : Int32) (68 : Int32)) = (0 : Int32) then (0 : Int32) else (1 : Int32)) = (0 : Int32) then (0 : Int32) else (1 : Int32)))) (own_nb (own_01 (Or.inl rfl) (Or.inr rfl))) (Or.inl ⟨rfl, Or.inr (Or.inl rfl), _, rfl⟩) (hb hby d15_30) ?_ (by decide) (by decide)
  show own_t4_Q Z a1 o1 wW cs Ts bv y0 y1 y2 y3 kb h0 n0 _ T1037.heap _
  rw [eh1037]
  exact ⟨rfl, N1037, K1036⟩
theorem own_pd12 : parseMethodDescriptor "(IIZC)C" = some ⟨[.int, .int, .boolean, .char], some .char⟩ := by decide +kernel
theorem own_pd13 : parseMethodDescriptor "(Ljava/lang/String;)Z" = some ⟨[(.object "java/lang/String")], some .boolean⟩ := by decide +kernel
theorem own_pd14 : parseMethodDescriptor "(ICCCCC)Ljava/lang/String;" = some ⟨[.int, .char, .char, .char, .char, .char], some (.object "java/lang/String")⟩ := by decide +kernel
theorem own_law_ef (m : MethodId) (p0 : Int32) (p1 : Int64) (p2 : Int32) : entryFrame m #[(.int p0), (.long p1), (.int p2)] maxLocals = mkF m 0 #[iv p0, lv p1, sN, iv p2, uN, uN, uN, uN, uN, uN, uN, uN, uN, uN, uN, uN, uN] [] := by first | (simp [entryFrame, mkF, argsToLocals, Value.category, maxLocals]; done) | rfl
set_option maxRecDepth 65536 in
set_option maxHeartbeats 40000000 in
theorem own_law (l : Launch) (Z : State) (a0 : Array Value) (hw : ∀ d ∈ tables_1, d.before a0 Z = true) (ws : List Jvm.Cond) (p0 : Int32) (p1 : Int64) (p2 : Int32) (cs : Int32) (wW : Addr) (wR : Addr) (h0 : Heap) (n0 : Nat) (Z0 : n0 ≤ h0.size) (S__assertionsDisabled : Sta Z Z.heap "java/lang/StringUTF16" "$assertionsDisabled" "Z" (.int 1)) (S_HI_BYTE_SHIFT : Sta Z Z.heap "java/lang/StringUTF16" "HI_BYTE_SHIFT" "I" (.int 0)) (S_LO_BYTE_SHIFT : Sta Z Z.heap "java/lang/StringUTF16" "LO_BYTE_SHIFT" "I" (.int 8)) (Zn : Z.heap.size ≤ n0) (EZ : Ext Z.heap h0) (S_COMPACT_STRINGS : Sta Z Z.heap "java/lang/String" "COMPACT_STRINGS" "Z" (.int cs)) (hcs : ¬ cs = (0 : Int32)) (S_WRITE : Sta Z Z.heap "com/example/noctule/noctule/server/TokenScope" "WRITE" "Lcom/example/noctule/noctule/server/TokenScope;" (.ref wW)) (S_READ : Sta Z Z.heap "com/example/noctule/noctule/server/TokenScope" "READ" "Lcom/example/noctule/noctule/server/TokenScope;" (.ref wR)) (E_wR : Exa Z h0 wR "com/example/noctule/noctule/server/TokenScope") (E_wW : Exa Z h0 wW "com/example/noctule/noctule/server/TokenScope") (ne_wR_wW : wR ≠ wW) (hk7 : Jvm.Lit.constHeld Z "java/lang/String" 7) (hk41 : Jvm.Lit.constHeld Z "com/example/noctule/noctule/server/TokenScope" 41) (hk49 : Jvm.Lit.constHeld Z "com/example/noctule/noctule/server/TokenScope" 49) (hcw : Jvm.Lit.compactW.before a0 Z = true) :
    MetFree l x (head1 (Jvm.Cond.code x code maxLocals ret :: ws) room_1) (fun aa U => aa = #[(.int p0), (.long p1), (.int p2)] ∧ Z.Warmed39 U.vm ∧ U.heap = h0 ∧ IB Z U.vm []) (fun _ _ _ _ _ => True) (fun _ U o U' => ∃ v L, o = .returned v ∧ own_Q0 n0 v U'.heap L ∧ ReturnedEndW U o U' L 24 3200) := by
  refine MetFree.of_bodySF (plainFor_of_name own_pn0) hisR ?_
  have w0 := wO hw 0 rfl
  have w1 := wO hw 1 rfl
  have w2 := wO hw 2 rfl
  have w3 := wO hw 3 rfl
  have w4 := wO hw 4 rfl
  have w8 := wO hw 8 rfl
  have w9 := wO hw 9 rfl
  have w10 := wO hw 10 rfl
  have w11 := wO hw 11 rfl
  have w34 := wO hw 34 rfl
  have w35 := wO hw 35 rfl
  have w37 := wO hw 37 rfl
  have w38 := wO hw 38 rfl
  have w39 := wO hw 39 rfl
  have w40 := wO hw 40 rfl
  have w41 := wO hw 41 rfl
  have w67 := wO hw 67 rfl
  intro p e s m args below meth c s₁ Bd hml0 hP hK
  obtain ⟨rfl, hZ, hh, hI0⟩ := hP
  have hx := Bd.exec
  have hby := Bd.bytes
  have hlk := Bd.notSynchronized
  have hml : c.maxLocals = 17 := hml0
  have hown : s.vm.findClass "com/example/noctule/noctule/server/TokenScopeTakesPinLaw" = some m.cls := findClass_of_methodNamed Bd.named
  have hnm := (name_of_methodNamed Bd.named Bd.method).1
  have X0 : Stand p l e room_1 (s.setVm s.vm) m #[(.int p0), (.long p1), (.int p2)] below meth c s₁ [] 0 0 := Stand.of_body Bd
  have e0 : s₁.heap = h0 := by rw [← hh, Bd.state]; rfl
  have N0 := Fr.nil n0
  have K0 : Keep h0 h0 [] := Keep.refl h0 _
  have O0 : Old Z Z.heap.size h0 := ⟨rfl, EZ⟩
  have hZ : Z.Warmed39 (s.setVm s.vm).vm := hZ
  have hown : (s.setVm s.vm).vm.findClass "com/example/noctule/noctule/server/TokenScopeTakesPinLaw" = some m.cls := hown
  have hS0 : s.Since s.vm 0 := (State.WarmedH.refl s).since 0
  have hk0 : 0 ≤ h0.size := Nat.zero_le _
  show gS p e below (own_FinL s (own_Q0 n0) 24 3200) _
  refine sT (fun t k => castTop (own_law_ef m p0 p1 p2) k) ?_
  show gM s₁ 0 #[iv p0, lv p1, sN, iv p2, uN, uN, uN, uN, uN, uN, uN, uN, uN, uN, uN, uN, uN] []
  refine sT (fun t k => XS.iloadN X0.here hx rfl (hb hby at_0) rfl k) ?_
  show gM s₁ 1 #[iv p0, lv p1, sN, iv p2, uN, uN, uN, uN, uN, uN, uN, uN, uN, uN, uN, uN, uN] [(.int p0)]
  refine sT (fun t k => XS.iconst X0.here hx rfl (hb hby at_1) k) ?_
  show gM s₁ 2 #[iv p0, lv p1, sN, iv p2, uN, uN, uN, uN, uN, uN, uN, uN, uN, uN, uN, uN, uN] [(.int 1), (.int p0)]
  refine sT (fun t k => XS.iand X0.here hx rfl (hb hby at_2) rfl k) ?_
  show gM s₁ 3 #[iv p0, lv p1, sN, iv p2, uN, uN, uN, uN, uN, uN, uN, uN, uN, uN, uN, uN, uN] [(.int (p0 &&& (1 : Int32)))]
  refine sT (S' := s₁.setTop (mkF m 11 #[iv p0, lv p1, sN, iv p2, uN, uN, uN, uN, uN, uN, uN, uN, uN, uN, uN, uN, uN] [(.int (if (p0 &&& (1 : Int32)) = (0 : Int32) then (0 : Int32) else (1 : Int32)))])) (fun t k => ?_) ?_
  · --
   show sM s₁ 3 #[iv p0, lv p1, sN, iv p2, uN, uN, uN, uN, uN, uN, uN, uN, uN, uN, uN, uN, uN] [(.int (p0 &&& (1 : Int32)))] _
   by_cases hc1039 : (p0 &&& (1 : Int32)) = (0 : Int32)
   · --
    refine XS.ifYes X0.here hx rfl (pc0 := 3) (pc' := 10) rfl (hb hby at_3) rfl ((if0 _ _).trans (teq hc1039).1) (by decide) (by decide) ?_
    show sM s₁ 10 #[iv p0, lv p1, sN, iv p2, uN, uN, uN, uN, uN, uN, uN, uN, uN, uN, uN, uN, uN] [] _
    refine XS.iconst X0.here hx rfl (hb hby at_10) ?_
    show sM s₁ 11 #[iv p0, lv p1, sN, iv p2, uN, uN, uN, uN, uN, uN, uN, uN, uN, uN, uN, uN, uN] [(.int 0)] _
    simp only [if_pos hc1039] at k
    exact k
   · --
    refine XS.ifNo X0.here hx rfl (hb hby at_3) rfl ((if0 _ _).trans (feq hc1039).1) ?_
    show sM s₁ 6 #[iv p0, lv p1, sN, iv p2, uN, uN, uN, uN, uN, uN, uN, uN, uN, uN, uN, uN, uN] [] _
    refine XS.iconst X0.here hx rfl (hb hby at_6) ?_
    show sM s₁ 7 #[iv p0, lv p1, sN, iv p2, uN, uN, uN, uN, uN, uN, uN, uN, uN, uN, uN, uN, uN] [(.int 1)] _
    refine XS.goto X0.here hx rfl (pc0 := 7) (pc' := 11) rfl (hb hby at_7) (by decide) (by decide) ?_
    show sM s₁ 11 #[iv p0, lv p1, sN, iv p2, uN, uN, uN, uN, uN, uN, uN, uN, uN, uN, uN, uN, uN] [(.int 1)] _
    simp only [if_neg hc1039] at k
    exact k
  show gM s₁ 11 #[iv p0, lv p1, sN, iv p2, uN, uN, uN, uN, uN, uN, uN, uN, uN, uN, uN, uN, uN] [(.int (if (p0 &&& (1 : Int32)) = (0 : Int32) then (0 : Int32) else (1 : Int32)))]
  refine sT (fun t k => XS.istore X0.here hx rfl (hb hby at_11) rfl (l' := #[iv p0, lv p1, sN, iv p2, iv (if (p0 &&& (1 : Int32)) = (0 : Int32) then (0 : Int32) else (1 : Int32)), uN, uN, uN, uN, uN, uN, uN, uN, uN, uN, uN, uN]) rfl k) ?_
  show gM s₁ 13 #[iv p0, lv p1, sN, iv p2, iv (if (p0 &&& (1 : Int32)) = (0 : Int32) then (0 : Int32) else (1 : Int32)), uN, uN, uN, uN, uN, uN, uN, uN, uN, uN, uN, uN] []
  generalize hv_vw : (if (p0 &&& (1 : Int32)) = (0 : Int32) then (0 : Int32) else (1 : Int32)) = vw
  refine sT (fun t k => XS.iloadN X0.here hx rfl (hb hby at_13) rfl k) ?_
  show gM s₁ 14 #[iv p0, lv p1, sN, iv p2, iv vw, uN, uN, uN, uN, uN, uN, uN, uN, uN, uN, uN, uN] [(.int p0)]
  refine sT (fun t k => XS.iconst X0.here hx rfl (hb hby at_14) k) ?_
  show gM s₁ 15 #[iv p0, lv p1, sN, iv p2, iv vw, uN, uN, uN, uN, uN, uN, uN, uN, uN, uN, uN, uN] [(.int 2), (.int p0)]
  refine sT (fun t k => XS.iand X0.here hx rfl (hb hby at_15) rfl k) ?_
  show gM s₁ 16 #[iv p0, lv p1, sN, iv p2, iv vw, uN, uN, uN, uN, uN, uN, uN, uN, uN, uN, uN, uN] [(.int (p0 &&& (2 : Int32)))]
  refine sT (S' := s₁.setTop (mkF m 24 #[iv p0, lv p1, sN, iv p2, iv vw, uN, uN, uN, uN, uN, uN, uN, uN, uN, uN, uN, uN] [(.int (if (p0 &&& (2 : Int32)) = (0 : Int32) then (0 : Int32) else (1 : Int32)))])) (fun t k => ?_) ?_
  · --
   show sM s₁ 16 #[iv p0, lv p1, sN, iv p2, iv vw, uN, uN, uN, uN, uN, uN, uN, uN, uN, uN, uN, uN] [(.int (p0 &&& (2 : Int32)))] _
   by_cases hc1040 : (p0 &&& (2 : Int32)) = (0 : Int32)
   · --
    refine XS.ifYes X0.here hx rfl (pc0 := 16) (pc' := 23) rfl (hb hby at_16) rfl ((if0 _ _).trans (teq hc1040).1) (by decide) (by decide) ?_
    show sM s₁ 23 #[iv p0, lv p1, sN, iv p2, iv vw, uN, uN, uN, uN, uN, uN, uN, uN, uN, uN, uN, uN] [] _
    refine XS.iconst X0.here hx rfl (hb hby at_23) ?_
    show sM s₁ 24 #[iv p0, lv p1, sN, iv p2, iv vw, uN, uN, uN, uN, uN, uN, uN, uN, uN, uN, uN, uN] [(.int 0)] _
    simp only [if_pos hc1040] at k
    exact k
   · --
    refine XS.ifNo X0.here hx rfl (hb hby at_16) rfl ((if0 _ _).trans (feq hc1040).1) ?_
    show sM s₁ 19 #[iv p0, lv p1, sN, iv p2, iv vw, uN, uN, uN, uN, uN, uN, uN, uN, uN, uN, uN, uN] [] _
    refine XS.iconst X0.here hx rfl (hb hby at_19) ?_
    show sM s₁ 20 #[iv p0, lv p1, sN, iv p2, iv vw, uN, uN, uN, uN, uN, uN, uN, uN, uN, uN, uN, uN] [(.int 1)] _
    refine XS.goto X0.here hx rfl (pc0 := 20) (pc' := 24) rfl (hb hby at_20) (by decide) (by decide) ?_
    show sM s₁ 24 #[iv p0, lv p1, sN, iv p2, iv vw, uN, uN, uN, uN, uN, uN, uN, uN, uN, uN, uN, uN] [(.int 1)] _
    simp only [if_neg hc1040] at k
    exact k
  show gM s₁ 24 #[iv p0, lv p1, sN, iv p2, iv vw, uN, uN, uN, uN, uN, uN, uN, uN, uN, uN, uN, uN] [(.int (if (p0 &&& (2 : Int32)) = (0 : Int32) then (0 : Int32) else (1 : Int32)))]
  refine sT (fun t k => XS.istore X0.here hx rfl (hb hby at_24) rfl (l' := #[iv p0, lv p1, sN, iv p2, iv vw, iv (if (p0 &&& (2 : Int32)) = (0 : Int32) then (0 : Int32) else (1 : Int32)), uN, uN, uN, uN, uN, uN, uN, uN, uN, uN, uN]) rfl k) ?_
  show gM s₁ 26 #[iv p0, lv p1, sN, iv p2, iv vw, iv (if (p0 &&& (2 : Int32)) = (0 : Int32) then (0 : Int32) else (1 : Int32)), uN, uN, uN, uN, uN, uN, uN, uN, uN, uN, uN] []
  generalize hv_vh : (if (p0 &&& (2 : Int32)) = (0 : Int32) then (0 : Int32) else (1 : Int32)) = vh
  refine sT (fun t k => XS.iloadN X0.here hx rfl (hb hby at_26) rfl k) ?_
  show gM s₁ 27 #[iv p0, lv p1, sN, iv p2, iv vw, iv vh, uN, uN, uN, uN, uN, uN, uN, uN, uN, uN, uN] [(.int p0)]
  refine sT (fun t k => XS.iconst X0.here hx rfl (hb hby at_27) k) ?_
  show gM s₁ 28 #[iv p0, lv p1, sN, iv p2, iv vw, iv vh, uN, uN, uN, uN, uN, uN, uN, uN, uN, uN, uN] [(.int 2), (.int p0)]
  refine sT (fun t k => XS.iushr X0.here hx rfl (hb hby at_28) rfl k) ?_
  show gM s₁ 29 #[iv p0, lv p1, sN, iv p2, iv vw, iv vh, uN, uN, uN, uN, uN, uN, uN, uN, uN, uN, uN] [(.int ((p0.toUInt32 >>> ((2 : Int32) &&& 31).toUInt32).toInt32))]
  refine sT (fun t k => XS.bipush X0.here hx rfl (hb hby at_29) k) ?_
  show gM s₁ 31 #[iv p0, lv p1, sN, iv p2, iv vw, iv vh, uN, uN, uN, uN, uN, uN, uN, uN, uN, uN, uN] [(.int 7), (.int ((p0.toUInt32 >>> ((2 : Int32) &&& 31).toUInt32).toInt32))]
  refine sT (fun t k => XS.iand X0.here hx rfl (hb hby at_31) rfl k) ?_
  show gM s₁ 32 #[iv p0, lv p1, sN, iv p2, iv vw, iv vh, uN, uN, uN, uN, uN, uN, uN, uN, uN, uN, uN] [(.int (((p0.toUInt32 >>> ((2 : Int32) &&& 31).toUInt32).toInt32) &&& (7 : Int32)))]
  refine sT (fun t k => XS.bipush X0.here hx rfl (hb hby at_32) k) ?_
  show gM s₁ 34 #[iv p0, lv p1, sN, iv p2, iv vw, iv vh, uN, uN, uN, uN, uN, uN, uN, uN, uN, uN, uN] [(.int 6), (.int (((p0.toUInt32 >>> ((2 : Int32) &&& 31).toUInt32).toInt32) &&& (7 : Int32)))]
  refine sT (fun t k => Jvm.RoadKit.iremM X0 hx rfl (hb hby at_34) rfl (by decide) k) ?_
  show gM s₁ 35 #[iv p0, lv p1, sN, iv p2, iv vw, iv vh, uN, uN, uN, uN, uN, uN, uN, uN, uN, uN, uN] [(.int ((((p0.toUInt32 >>> ((2 : Int32) &&& 31).toUInt32).toInt32) &&& (7 : Int32)) % (6 : Int32)))]
  refine sT (fun t k => XS.istore X0.here hx rfl (hb hby at_35) rfl (l' := #[iv p0, lv p1, sN, iv p2, iv vw, iv vh, iv ((((p0.toUInt32 >>> ((2 : Int32) &&& 31).toUInt32).toInt32) &&& (7 : Int32)) % (6 : Int32)), uN, uN, uN, uN, uN, uN, uN, uN, uN, uN]) rfl k) ?_
  show gM s₁ 37 #[iv p0, lv p1, sN, iv p2, iv vw, iv vh, iv ((((p0.toUInt32 >>> ((2 : Int32) &&& 31).toUInt32).toInt32) &&& (7 : Int32)) % (6 : Int32)), uN, uN, uN, uN, uN, uN, uN, uN, uN, uN] []
  generalize hv_vn : ((((p0.toUInt32 >>> ((2 : Int32) &&& 31).toUInt32).toInt32) &&& (7 : Int32)) % (6 : Int32)) = vn
  refine sT (fun t k => XS.iloadN X0.here hx rfl (hb hby at_37) rfl k) ?_
  show gM s₁ 38 #[iv p0, lv p1, sN, iv p2, iv vw, iv vh, iv vn, uN, uN, uN, uN, uN, uN, uN, uN, uN, uN] [(.int p0)]
  refine sT (fun t k => XS.iconst X0.here hx rfl (hb hby at_38) k) ?_
  show gM s₁ 39 #[iv p0, lv p1, sN, iv p2, iv vw, iv vh, iv vn, uN, uN, uN, uN, uN, uN, uN, uN, uN, uN] [(.int 0), (.int p0)]
  refine sT (fun t k => XS.iload X0.here hx rfl (hb hby at_39) rfl k) ?_
  show gM s₁ 41 #[iv p0, lv p1, sN, iv p2, iv vw, iv vh, iv vn, uN, uN, uN, uN, uN, uN, uN, uN, uN, uN] [(.int vh), (.int 0), (.int p0)]
  refine sT (fun t k => XS.lloadN X0.here hx rfl (hb hby at_41) rfl k) ?_
  show gM s₁ 42 #[iv p0, lv p1, sN, iv p2, iv vw, iv vh, iv vn, uN, uN, uN, uN, uN, uN, uN, uN, uN, uN] [(.long p1), (.int vh), (.int 0), (.int p0)]
  refine sT (fun t k => X0.ldc2Long hx hown (mvT hZ w0) (g := (mkF m 42 #[iv p0, lv p1, sN, iv p2, iv vw, iv vh, iv vn, uN, uN, uN, uN, uN, uN, uN, uN, uN, uN] [(.long p1), (.int vh), (.int 0), (.int p0)])) rfl (hb hby at_42) _ k) ?_
  show gM s₁ 45 #[iv p0, lv p1, sN, iv p2, iv vw, iv vh, iv vn, uN, uN, uN, uN, uN, uN, uN, uN, uN, uN] [(.long 65535), (.long p1), (.int vh), (.int 0), (.int p0)]
  refine sT (fun t k => XS.land X0.here hx rfl (hb hby at_45) rfl k) ?_
  show gM s₁ 46 #[iv p0, lv p1, sN, iv p2, iv vw, iv vh, iv vn, uN, uN, uN, uN, uN, uN, uN, uN, uN, uN] [(.long (p1 &&& (65535 : Int64))), (.int vh), (.int 0), (.int p0)]
  refine sT (fun t k => XS.l2i X0.here hx rfl (hb hby at_46) rfl k) ?_
  show gM s₁ 47 #[iv p0, lv p1, sN, iv p2, iv vw, iv vh, iv vn, uN, uN, uN, uN, uN, uN, uN, uN, uN, uN] [(.int ((p1 &&& (65535 : Int64)).toInt32)), (.int vh), (.int 0), (.int p0)]
  refine sT (fun t k => XS.i2c X0.here hx rfl (hb hby at_47) rfl k) ?_
  show gM s₁ 48 #[iv p0, lv p1, sN, iv p2, iv vw, iv vh, iv vn, uN, uN, uN, uN, uN, uN, uN, uN, uN, uN] [(.int (((p1 &&& (65535 : Int64)).toInt32).toUInt32.toUInt16.toUInt32.toInt32)), (.int vh), (.int 0), (.int p0)]
  obtain ⟨_, _, ⟨T1041, L1041, k1041, n1041⟩, -, X1041, ⟨Lc1041, hQ1041, l1041, y1041, z1041⟩, st1041⟩ := Jvm.LawKit.callS X0 hx (y := mN1) hown (mvT hZ w1) (mvT hZ w2) (mvT hZ w3) (mvT hZ w4) (by decide) (backOf (W := 0) (own_pk l Z a0 hw [] p0 (0 : Int32) vh (((p1 &&& (65535 : Int64)).toInt32).toUInt32.toUInt16.toUInt32.toInt32)  h0 n0 Z0 (own_c16 _)) hZ w4 w3 (by decide) (by decide)) (g := (mkF m 48 #[iv p0, lv p1, sN, iv p2, iv vw, iv vh, iv vn, uN, uN, uN, uN, uN, uN, uN, uN, uN, uN] [(.int (((p1 &&& (65535 : Int64)).toInt32).toUInt32.toUInt16.toUInt32.toInt32)), (.int vh), (.int 0), (.int p0)])) rfl (by rw [hml]; rfl) (argsL := [(.int p0), (.int 0), (.int vh), (.int (((p1 &&& (65535 : Int64)).toInt32).toUInt32.toUInt16.toUInt32.toInt32))]) (rest := []) (lenOf own_pd12 rfl) rfl (by show 2 * 0 + _ ≤ _; exact Nat.le_of_eq rfl) (hb hby at_48) (fun _ hWq => ⟨rfl, e0, (by decide : 0 + 0 ≤ _), (by decide : 0 + 0 ≤ _)⟩)
  dsimp only [Pt.U, Pt.locs, Pt.cells, Pt.slots] at X1041 l1041 y1041 z1041 st1041 hQ1041
  subst y1041 z1041
  obtain ⟨c0, rfl, N1041q, eh1041, f1041_0⟩ := hQ1041
  have N1041 : Fr n0 L1041 := by rw [l1041]; exact Fr.app N0 N1041q
  refine sT st1041 ?_
  show gM T1041 51 #[iv p0, lv p1, sN, iv p2, iv vw, iv vh, iv vn, uN, uN, uN, uN, uN, uN, uN, uN, uN, uN] [(.int c0)]
  refine sT (fun t k => XS.istore X1041.here hx rfl (hb hby at_51) rfl (l' := #[iv p0, lv p1, sN, iv p2, iv vw, iv vh, iv vn, iv c0, uN, uN, uN, uN, uN, uN, uN, uN, uN]) rfl k) ?_
  show gM T1041 53 #[iv p0, lv p1, sN, iv p2, iv vw, iv vh, iv vn, iv c0, uN, uN, uN, uN, uN, uN, uN, uN, uN] []
  refine sT (fun t k => XS.iloadN X1041.here hx rfl (hb hby at_53) rfl k) ?_
  show gM T1041 54 #[iv p0, lv p1, sN, iv p2, iv vw, iv vh, iv vn, iv c0, uN, uN, uN, uN, uN, uN, uN, uN, uN] [(.int p0)]
  refine sT (fun t k => XS.iconst X1041.here hx rfl (hb hby at_54) k) ?_
  show gM T1041 55 #[iv p0, lv p1, sN, iv p2, iv vw, iv vh, iv vn, iv c0, uN, uN, uN, uN, uN, uN, uN, uN, uN] [(.int 1), (.int p0)]
  refine sT (fun t k => XS.iload X1041.here hx rfl (hb hby at_55) rfl k) ?_
  show gM T1041 57 #[iv p0, lv p1, sN, iv p2, iv vw, iv vh, iv vn, iv c0, uN, uN, uN, uN, uN, uN, uN, uN, uN] [(.int vh), (.int 1), (.int p0)]
  refine sT (fun t k => XS.lloadN X1041.here hx rfl (hb hby at_57) rfl k) ?_
  show gM T1041 58 #[iv p0, lv p1, sN, iv p2, iv vw, iv vh, iv vn, iv c0, uN, uN, uN, uN, uN, uN, uN, uN, uN] [(.long p1), (.int vh), (.int 1), (.int p0)]
  refine sT (fun t k => XS.bipush X1041.here hx rfl (hb hby at_58) k) ?_
  show gM T1041 60 #[iv p0, lv p1, sN, iv p2, iv vw, iv vh, iv vn, iv c0, uN, uN, uN, uN, uN, uN, uN, uN, uN] [(.int 16), (.long p1), (.int vh), (.int 1), (.int p0)]
  refine sT (fun t k => XS.lushr X1041.here hx rfl (hb hby at_60) rfl k) ?_
  show gM T1041 61 #[iv p0, lv p1, sN, iv p2, iv vw, iv vh, iv vn, iv c0, uN, uN, uN, uN, uN, uN, uN, uN, uN] [(.long ((p1.toUInt64 >>> ((16 : Int32) &&& 0x3f).toInt64.toUInt64).toInt64)), (.int vh), (.int 1), (.int p0)]
  refine sT (fun t k => X1041.ldc2Long hx hown (mvT hZ w0) (g := (mkF m 61 #[iv p0, lv p1, sN, iv p2, iv vw, iv vh, iv vn, iv c0, uN, uN, uN, uN, uN, uN, uN, uN, uN] [(.long ((p1.toUInt64 >>> ((16 : Int32) &&& 0x3f).toInt64.toUInt64).toInt64)), (.int vh), (.int 1), (.int p0)])) rfl (hb hby at_61) _ k) ?_
  show gM T1041 64 #[iv p0, lv p1, sN, iv p2, iv vw, iv vh, iv vn, iv c0, uN, uN, uN, uN, uN, uN, uN, uN, uN] [(.long 65535), (.long ((p1.toUInt64 >>> ((16 : Int32) &&& 0x3f).toInt64.toUInt64).toInt64)), (.int vh), (.int 1), (.int p0)]
  refine sT (fun t k => XS.land X1041.here hx rfl (hb hby at_64) rfl k) ?_
  show gM T1041 65 #[iv p0, lv p1, sN, iv p2, iv vw, iv vh, iv vn, iv c0, uN, uN, uN, uN, uN, uN, uN, uN, uN] [(.long (((p1.toUInt64 >>> ((16 : Int32) &&& 0x3f).toInt64.toUInt64).toInt64) &&& (65535 : Int64))), (.int vh), (.int 1), (.int p0)]
  refine sT (fun t k => XS.l2i X1041.here hx rfl (hb hby at_65) rfl k) ?_
  show gM T1041 66 #[iv p0, lv p1, sN, iv p2, iv vw, iv vh, iv vn, iv c0, uN, uN, uN, uN, uN, uN, uN, uN, uN] [(.int ((((p1.toUInt64 >>> ((16 : Int32) &&& 0x3f).toInt64.toUInt64).toInt64) &&& (65535 : Int64)).toInt32)), (.int vh), (.int 1), (.int p0)]
  refine sT (fun t k => XS.i2c X1041.here hx rfl (hb hby at_66) rfl k) ?_
  show gM T1041 67 #[iv p0, lv p1, sN, iv p2, iv vw, iv vh, iv vn, iv c0, uN, uN, uN, uN, uN, uN, uN, uN, uN] [(.int (((((p1.toUInt64 >>> ((16 : Int32) &&& 0x3f).toInt64.toUInt64).toInt64) &&& (65535 : Int64)).toInt32).toUInt32.toUInt16.toUInt32.toInt32)), (.int vh), (.int 1), (.int p0)]
  obtain ⟨_, _, ⟨T1042, L1042, k1042, n1042⟩, -, X1042, ⟨Lc1042, hQ1042, l1042, y1042, z1042⟩, st1042⟩ := Jvm.LawKit.callS X1041 hx (y := mN1) hown (mvT hZ w1) (mvT hZ w2) (mvT hZ w3) (mvT hZ w4) (by decide) (backOf (W := 0) (own_pk l Z a0 hw [] p0 (1 : Int32) vh (((((p1.toUInt64 >>> ((16 : Int32) &&& 0x3f).toInt64.toUInt64).toInt64) &&& (65535 : Int64)).toInt32).toUInt32.toUInt16.toUInt32.toInt32)  h0 n0 Z0 (own_c16 _)) hZ w4 w3 (by decide) (by decide)) (g := (mkF m 67 #[iv p0, lv p1, sN, iv p2, iv vw, iv vh, iv vn, iv c0, uN, uN, uN, uN, uN, uN, uN, uN, uN] [(.int (((((p1.toUInt64 >>> ((16 : Int32) &&& 0x3f).toInt64.toUInt64).toInt64) &&& (65535 : Int64)).toInt32).toUInt32.toUInt16.toUInt32.toInt32)), (.int vh), (.int 1), (.int p0)])) rfl (by rw [hml]; rfl) (argsL := [(.int p0), (.int 1), (.int vh), (.int (((((p1.toUInt64 >>> ((16 : Int32) &&& 0x3f).toInt64.toUInt64).toInt64) &&& (65535 : Int64)).toInt32).toUInt32.toUInt16.toUInt32.toInt32))]) (rest := []) (lenOf own_pd12 rfl) rfl (by show 2 * 0 + _ ≤ _; exact Nat.le_of_eq rfl) (hb hby at_67) (fun _ hWq => ⟨rfl, eh1041, (by decide : 0 + 0 ≤ _), (by decide : 0 + 0 ≤ _)⟩)
  dsimp only [Pt.U, Pt.locs, Pt.cells, Pt.slots] at X1042 l1042 y1042 z1042 st1042 hQ1042
  subst y1042 z1042
  obtain ⟨c1, rfl, N1042q, eh1042, f1042_0⟩ := hQ1042
  have N1042 : Fr n0 L1042 := by rw [l1042]; exact Fr.app N1041 N1042q
  refine sT st1042 ?_
  show gM T1042 70 #[iv p0, lv p1, sN, iv p2, iv vw, iv vh, iv vn, iv c0, uN, uN, uN, uN, uN, uN, uN, uN, uN] [(.int c1)]
  refine sT (fun t k => XS.istore X1042.here hx rfl (hb hby at_70) rfl (l' := #[iv p0, lv p1, sN, iv p2, iv vw, iv vh, iv vn, iv c0, iv c1, uN, uN, uN, uN, uN, uN, uN, uN]) rfl k) ?_
  show gM T1042 72 #[iv p0, lv p1, sN, iv p2, iv vw, iv vh, iv vn, iv c0, iv c1, uN, uN, uN, uN, uN, uN, uN, uN] []
  refine sT (fun t k => XS.iloadN X1042.here hx rfl (hb hby at_72) rfl k) ?_
  show gM T1042 73 #[iv p0, lv p1, sN, iv p2, iv vw, iv vh, iv vn, iv c0, iv c1, uN, uN, uN, uN, uN, uN, uN, uN] [(.int p0)]
  refine sT (fun t k => XS.iconst X1042.here hx rfl (hb hby at_73) k) ?_
  show gM T1042 74 #[iv p0, lv p1, sN, iv p2, iv vw, iv vh, iv vn, iv c0, iv c1, uN, uN, uN, uN, uN, uN, uN, uN] [(.int 2), (.int p0)]
  refine sT (fun t k => XS.iload X1042.here hx rfl (hb hby at_74) rfl k) ?_
  show gM T1042 76 #[iv p0, lv p1, sN, iv p2, iv vw, iv vh, iv vn, iv c0, iv c1, uN, uN, uN, uN, uN, uN, uN, uN] [(.int vh), (.int 2), (.int p0)]
  refine sT (fun t k => XS.lloadN X1042.here hx rfl (hb hby at_76) rfl k) ?_
  show gM T1042 77 #[iv p0, lv p1, sN, iv p2, iv vw, iv vh, iv vn, iv c0, iv c1, uN, uN, uN, uN, uN, uN, uN, uN] [(.long p1), (.int vh), (.int 2), (.int p0)]
  refine sT (fun t k => XS.bipush X1042.here hx rfl (hb hby at_77) k) ?_
  show gM T1042 79 #[iv p0, lv p1, sN, iv p2, iv vw, iv vh, iv vn, iv c0, iv c1, uN, uN, uN, uN, uN, uN, uN, uN] [(.int 32), (.long p1), (.int vh), (.int 2), (.int p0)]
  refine sT (fun t k => XS.lushr X1042.here hx rfl (hb hby at_79) rfl k) ?_
  show gM T1042 80 #[iv p0, lv p1, sN, iv p2, iv vw, iv vh, iv vn, iv c0, iv c1, uN, uN, uN, uN, uN, uN, uN, uN] [(.long ((p1.toUInt64 >>> ((32 : Int32) &&& 0x3f).toInt64.toUInt64).toInt64)), (.int vh), (.int 2), (.int p0)]
  refine sT (fun t k => X1042.ldc2Long hx hown (mvT hZ w0) (g := (mkF m 80 #[iv p0, lv p1, sN, iv p2, iv vw, iv vh, iv vn, iv c0, iv c1, uN, uN, uN, uN, uN, uN, uN, uN] [(.long ((p1.toUInt64 >>> ((32 : Int32) &&& 0x3f).toInt64.toUInt64).toInt64)), (.int vh), (.int 2), (.int p0)])) rfl (hb hby at_80) _ k) ?_
  show gM T1042 83 #[iv p0, lv p1, sN, iv p2, iv vw, iv vh, iv vn, iv c0, iv c1, uN, uN, uN, uN, uN, uN, uN, uN] [(.long 65535), (.long ((p1.toUInt64 >>> ((32 : Int32) &&& 0x3f).toInt64.toUInt64).toInt64)), (.int vh), (.int 2), (.int p0)]
  refine sT (fun t k => XS.land X1042.here hx rfl (hb hby at_83) rfl k) ?_
  show gM T1042 84 #[iv p0, lv p1, sN, iv p2, iv vw, iv vh, iv vn, iv c0, iv c1, uN, uN, uN, uN, uN, uN, uN, uN] [(.long (((p1.toUInt64 >>> ((32 : Int32) &&& 0x3f).toInt64.toUInt64).toInt64) &&& (65535 : Int64))), (.int vh), (.int 2), (.int p0)]
  refine sT (fun t k => XS.l2i X1042.here hx rfl (hb hby at_84) rfl k) ?_
  show gM T1042 85 #[iv p0, lv p1, sN, iv p2, iv vw, iv vh, iv vn, iv c0, iv c1, uN, uN, uN, uN, uN, uN, uN, uN] [(.int ((((p1.toUInt64 >>> ((32 : Int32) &&& 0x3f).toInt64.toUInt64).toInt64) &&& (65535 : Int64)).toInt32)), (.int vh), (.int 2), (.int p0)]
  refine sT (fun t k => XS.i2c X1042.here hx rfl (hb hby at_85) rfl k) ?_
  show gM T1042 86 #[iv p0, lv p1, sN, iv p2, iv vw, iv vh, iv vn, iv c0, iv c1, uN, uN, uN, uN, uN, uN, uN, uN] [(.int (((((p1.toUInt64 >>> ((32 : Int32) &&& 0x3f).toInt64.toUInt64).toInt64) &&& (65535 : Int64)).toInt32).toUInt32.toUInt16.toUInt32.toInt32)), (.int vh), (.int 2), (.int p0)]
  obtain ⟨_, _, ⟨T1043, L1043, k1043, n1043⟩, -, X1043, ⟨Lc1043, hQ1043, l1043, y1043, z1043⟩, st1043⟩ := Jvm.LawKit.callS X1042 hx (y := mN1) hown (mvT hZ w1) (mvT hZ w2) (mvT hZ w3) (mvT hZ w4) (by decide) (backOf (W := 0) (own_pk l Z a0 hw [] p0 (2 : Int32) vh (((((p1.toUInt64 >>> ((32 : Int32) &&& 0x3f).toInt64.toUInt64).toInt64) &&& (65535 : Int64)).toInt32).toUInt32.toUInt16.toUInt32.toInt32)  h0 n0 Z0 (own_c16 _)) hZ w4 w3 (by decide) (by decide)) (g := (mkF m 86 #[iv p0, lv p1, sN, iv p2, iv vw, iv vh, iv vn, iv c0, iv c1, uN, uN, uN, uN, uN, uN, uN, uN] [(.int (((((p1.toUInt64 >>> ((32 : Int32) &&& 0x3f).toInt64.toUInt64).toInt64) &&& (65535 : Int64)).toInt32).toUInt32.toUInt16.toUInt32.toInt32)), (.int vh), (.int 2), (.int p0)])) rfl (by rw [hml]; rfl) (argsL := [(.int p0), (.int 2), (.int vh), (.int (((((p1.toUInt64 >>> ((32 : Int32) &&& 0x3f).toInt64.toUInt64).toInt64) &&& (65535 : Int64)).toInt32).toUInt32.toUInt16.toUInt32.toInt32))]) (rest := []) (lenOf own_pd12 rfl) rfl (by show 2 * 0 + _ ≤ _; exact Nat.le_of_eq rfl) (hb hby at_86) (fun _ hWq => ⟨rfl, eh1042, (by decide : 0 + 0 ≤ _), (by decide : 0 + 0 ≤ _)⟩)
  dsimp only [Pt.U, Pt.locs, Pt.cells, Pt.slots] at X1043 l1043 y1043 z1043 st1043 hQ1043
  subst y1043 z1043
  obtain ⟨c2, rfl, N1043q, eh1043, f1043_0⟩ := hQ1043
  have N1043 : Fr n0 L1043 := by rw [l1043]; exact Fr.app N1042 N1043q
  refine sT st1043 ?_
  show gM T1043 89 #[iv p0, lv p1, sN, iv p2, iv vw, iv vh, iv vn, iv c0, iv c1, uN, uN, uN, uN, uN, uN, uN, uN] [(.int c2)]
  refine sT (fun t k => XS.istore X1043.here hx rfl (hb hby at_89) rfl (l' := #[iv p0, lv p1, sN, iv p2, iv vw, iv vh, iv vn, iv c0, iv c1, iv c2, uN, uN, uN, uN, uN, uN, uN]) rfl k) ?_
  show gM T1043 91 #[iv p0, lv p1, sN, iv p2, iv vw, iv vh, iv vn, iv c0, iv c1, iv c2, uN, uN, uN, uN, uN, uN, uN] []
  refine sT (fun t k => XS.iloadN X1043.here hx rfl (hb hby at_91) rfl k) ?_
  show gM T1043 92 #[iv p0, lv p1, sN, iv p2, iv vw, iv vh, iv vn, iv c0, iv c1, iv c2, uN, uN, uN, uN, uN, uN, uN] [(.int p0)]
  refine sT (fun t k => XS.iconst X1043.here hx rfl (hb hby at_92) k) ?_
  show gM T1043 93 #[iv p0, lv p1, sN, iv p2, iv vw, iv vh, iv vn, iv c0, iv c1, iv c2, uN, uN, uN, uN, uN, uN, uN] [(.int 3), (.int p0)]
  refine sT (fun t k => XS.iload X1043.here hx rfl (hb hby at_93) rfl k) ?_
  show gM T1043 95 #[iv p0, lv p1, sN, iv p2, iv vw, iv vh, iv vn, iv c0, iv c1, iv c2, uN, uN, uN, uN, uN, uN, uN] [(.int vh), (.int 3), (.int p0)]
  refine sT (fun t k => XS.lloadN X1043.here hx rfl (hb hby at_95) rfl k) ?_
  show gM T1043 96 #[iv p0, lv p1, sN, iv p2, iv vw, iv vh, iv vn, iv c0, iv c1, iv c2, uN, uN, uN, uN, uN, uN, uN] [(.long p1), (.int vh), (.int 3), (.int p0)]
  refine sT (fun t k => XS.bipush X1043.here hx rfl (hb hby at_96) k) ?_
  show gM T1043 98 #[iv p0, lv p1, sN, iv p2, iv vw, iv vh, iv vn, iv c0, iv c1, iv c2, uN, uN, uN, uN, uN, uN, uN] [(.int 48), (.long p1), (.int vh), (.int 3), (.int p0)]
  refine sT (fun t k => XS.lushr X1043.here hx rfl (hb hby at_98) rfl k) ?_
  show gM T1043 99 #[iv p0, lv p1, sN, iv p2, iv vw, iv vh, iv vn, iv c0, iv c1, iv c2, uN, uN, uN, uN, uN, uN, uN] [(.long ((p1.toUInt64 >>> ((48 : Int32) &&& 0x3f).toInt64.toUInt64).toInt64)), (.int vh), (.int 3), (.int p0)]
  refine sT (fun t k => X1043.ldc2Long hx hown (mvT hZ w0) (g := (mkF m 99 #[iv p0, lv p1, sN, iv p2, iv vw, iv vh, iv vn, iv c0, iv c1, iv c2, uN, uN, uN, uN, uN, uN, uN] [(.long ((p1.toUInt64 >>> ((48 : Int32) &&& 0x3f).toInt64.toUInt64).toInt64)), (.int vh), (.int 3), (.int p0)])) rfl (hb hby at_99) _ k) ?_
  show gM T1043 102 #[iv p0, lv p1, sN, iv p2, iv vw, iv vh, iv vn, iv c0, iv c1, iv c2, uN, uN, uN, uN, uN, uN, uN] [(.long 65535), (.long ((p1.toUInt64 >>> ((48 : Int32) &&& 0x3f).toInt64.toUInt64).toInt64)), (.int vh), (.int 3), (.int p0)]
  refine sT (fun t k => XS.land X1043.here hx rfl (hb hby at_102) rfl k) ?_
  show gM T1043 103 #[iv p0, lv p1, sN, iv p2, iv vw, iv vh, iv vn, iv c0, iv c1, iv c2, uN, uN, uN, uN, uN, uN, uN] [(.long (((p1.toUInt64 >>> ((48 : Int32) &&& 0x3f).toInt64.toUInt64).toInt64) &&& (65535 : Int64))), (.int vh), (.int 3), (.int p0)]
  refine sT (fun t k => XS.l2i X1043.here hx rfl (hb hby at_103) rfl k) ?_
  show gM T1043 104 #[iv p0, lv p1, sN, iv p2, iv vw, iv vh, iv vn, iv c0, iv c1, iv c2, uN, uN, uN, uN, uN, uN, uN] [(.int ((((p1.toUInt64 >>> ((48 : Int32) &&& 0x3f).toInt64.toUInt64).toInt64) &&& (65535 : Int64)).toInt32)), (.int vh), (.int 3), (.int p0)]
  refine sT (fun t k => XS.i2c X1043.here hx rfl (hb hby at_104) rfl k) ?_
  show gM T1043 105 #[iv p0, lv p1, sN, iv p2, iv vw, iv vh, iv vn, iv c0, iv c1, iv c2, uN, uN, uN, uN, uN, uN, uN] [(.int (((((p1.toUInt64 >>> ((48 : Int32) &&& 0x3f).toInt64.toUInt64).toInt64) &&& (65535 : Int64)).toInt32).toUInt32.toUInt16.toUInt32.toInt32)), (.int vh), (.int 3), (.int p0)]
  obtain ⟨_, _, ⟨T1044, L1044, k1044, n1044⟩, -, X1044, ⟨Lc1044, hQ1044, l1044, y1044, z1044⟩, st1044⟩ := Jvm.LawKit.callS X1043 hx (y := mN1) hown (mvT hZ w1) (mvT hZ w2) (mvT hZ w3) (mvT hZ w4) (by decide) (backOf (W := 0) (own_pk l Z a0 hw [] p0 (3 : Int32) vh (((((p1.toUInt64 >>> ((48 : Int32) &&& 0x3f).toInt64.toUInt64).toInt64) &&& (65535 : Int64)).toInt32).toUInt32.toUInt16.toUInt32.toInt32)  h0 n0 Z0 (own_c16 _)) hZ w4 w3 (by decide) (by decide)) (g := (mkF m 105 #[iv p0, lv p1, sN, iv p2, iv vw, iv vh, iv vn, iv c0, iv c1, iv c2, uN, uN, uN, uN, uN, uN, uN] [(.int (((((p1.toUInt64 >>> ((48 : Int32) &&& 0x3f).toInt64.toUInt64).toInt64) &&& (65535 : Int64)).toInt32).toUInt32.toUInt16.toUInt32.toInt32)), (.int vh), (.int 3), (.int p0)])) rfl (by rw [hml]; rfl) (argsL := [(.int p0), (.int 3), (.int vh), (.int (((((p1.toUInt64 >>> ((48 : Int32) &&& 0x3f).toInt64.toUInt64).toInt64) &&& (65535 : Int64)).toInt32).toUInt32.toUInt16.toUInt32.toInt32))]) (rest := []) (lenOf own_pd12 rfl) rfl (by show 2 * 0 + _ ≤ _; exact Nat.le_of_eq rfl) (hb hby at_105) (fun _ hWq => ⟨rfl, eh1043, (by decide : 0 + 0 ≤ _), (by decide : 0 + 0 ≤ _)⟩)
  dsimp only [Pt.U, Pt.locs, Pt.cells, Pt.slots] at X1044 l1044 y1044 z1044 st1044 hQ1044
  subst y1044 z1044
  obtain ⟨c3, rfl, N1044q, eh1044, f1044_0⟩ := hQ1044
  have N1044 : Fr n0 L1044 := by rw [l1044]; exact Fr.app N1043 N1044q
  refine sT st1044 ?_
  show gM T1044 108 #[iv p0, lv p1, sN, iv p2, iv vw, iv vh, iv vn, iv c0, iv c1, iv c2, uN, uN, uN, uN, uN, uN, uN] [(.int c3)]
  refine sT (fun t k => XS.istore X1044.here hx rfl (hb hby at_108) rfl (l' := #[iv p0, lv p1, sN, iv p2, iv vw, iv vh, iv vn, iv c0, iv c1, iv c2, iv c3, uN, uN, uN, uN, uN, uN]) rfl k) ?_
  show gM T1044 110 #[iv p0, lv p1, sN, iv p2, iv vw, iv vh, iv vn, iv c0, iv c1, iv c2, iv c3, uN, uN, uN, uN, uN, uN] []
  refine sT (fun t k => XS.iloadN X1044.here hx rfl (hb hby at_110) rfl k) ?_
  show gM T1044 111 #[iv p0, lv p1, sN, iv p2, iv vw, iv vh, iv vn, iv c0, iv c1, iv c2, iv c3, uN, uN, uN, uN, uN, uN] [(.int p0)]
  refine sT (fun t k => XS.iconst X1044.here hx rfl (hb hby at_111) k) ?_
  show gM T1044 112 #[iv p0, lv p1, sN, iv p2, iv vw, iv vh, iv vn, iv c0, iv c1, iv c2, iv c3, uN, uN, uN, uN, uN, uN] [(.int 4), (.int p0)]
  refine sT (fun t k => XS.iload X1044.here hx rfl (hb hby at_112) rfl k) ?_
  show gM T1044 114 #[iv p0, lv p1, sN, iv p2, iv vw, iv vh, iv vn, iv c0, iv c1, iv c2, iv c3, uN, uN, uN, uN, uN, uN] [(.int vh), (.int 4), (.int p0)]
  refine sT (fun t k => XS.iloadN X1044.here hx rfl (hb hby at_114) rfl k) ?_
  show gM T1044 115 #[iv p0, lv p1, sN, iv p2, iv vw, iv vh, iv vn, iv c0, iv c1, iv c2, iv c3, uN, uN, uN, uN, uN, uN] [(.int p2), (.int vh), (.int 4), (.int p0)]
  refine sT (fun t k => X1044.ldcInt hx hown (mvT hZ w8) (g := (mkF m 115 #[iv p0, lv p1, sN, iv p2, iv vw, iv vh, iv vn, iv c0, iv c1, iv c2, iv c3, uN, uN, uN, uN, uN, uN] [(.int p2), (.int vh), (.int 4), (.int p0)])) rfl (hb hby at_115) _ k) ?_
  show gM T1044 117 #[iv p0, lv p1, sN, iv p2, iv vw, iv vh, iv vn, iv c0, iv c1, iv c2, iv c3, uN, uN, uN, uN, uN, uN] [(.int 65535), (.int p2), (.int vh), (.int 4), (.int p0)]
  refine sT (fun t k => XS.iand X1044.here hx rfl (hb hby at_117) rfl k) ?_
  show gM T1044 118 #[iv p0, lv p1, sN, iv p2, iv vw, iv vh, iv vn, iv c0, iv c1, iv c2, iv c3, uN, uN, uN, uN, uN, uN] [(.int (p2 &&& (65535 : Int32))), (.int vh), (.int 4), (.int p0)]
  refine sT (fun t k => XS.i2c X1044.here hx rfl (hb hby at_118) rfl k) ?_
  show gM T1044 119 #[iv p0, lv p1, sN, iv p2, iv vw, iv vh, iv vn, iv c0, iv c1, iv c2, iv c3, uN, uN, uN, uN, uN, uN] [(.int ((p2 &&& (65535 : Int32)).toUInt32.toUInt16.toUInt32.toInt32)), (.int vh), (.int 4), (.int p0)]
  obtain ⟨_, _, ⟨T1045, L1045, k1045, n1045⟩, -, X1045, ⟨Lc1045, hQ1045, l1045, y1045, z1045⟩, st1045⟩ := Jvm.LawKit.callS X1044 hx (y := mN1) hown (mvT hZ w1) (mvT hZ w2) (mvT hZ w3) (mvT hZ w4) (by decide) (backOf (W := 0) (own_pk l Z a0 hw [] p0 (4 : Int32) vh ((p2 &&& (65535 : Int32)).toUInt32.toUInt16.toUInt32.toInt32)  h0 n0 Z0 (own_c16 _)) hZ w4 w3 (by decide) (by decide)) (g := (mkF m 119 #[iv p0, lv p1, sN, iv p2, iv vw, iv vh, iv vn, iv c0, iv c1, iv c2, iv c3, uN, uN, uN, uN, uN, uN] [(.int ((p2 &&& (65535 : Int32)).toUInt32.toUInt16.toUInt32.toInt32)), (.int vh), (.int 4), (.int p0)])) rfl (by rw [hml]; rfl) (argsL := [(.int p0), (.int 4), (.int vh), (.int ((p2 &&& (65535 : Int32)).toUInt32.toUInt16.toUInt32.toInt32))]) (rest := []) (lenOf own_pd12 rfl) rfl (by show 2 * 0 + _ ≤ _; exact Nat.le_of_eq rfl) (hb hby at_119) (fun _ hWq => ⟨rfl, eh1044, (by decide : 0 + 0 ≤ _), (by decide : 0 + 0 ≤ _)⟩)
  dsimp only [Pt.U, Pt.locs, Pt.cells, Pt.slots] at X1045 l1045 y1045 z1045 st1045 hQ1045
  subst y1045 z1045
  obtain ⟨c4, rfl, N1045q, eh1045, f1045_0⟩ := hQ1045
  have N1045 : Fr n0 L1045 := by rw [l1045]; exact Fr.app N1044 N1045q
  refine sT st1045 ?_
  show gM T1045 122 #[iv p0, lv p1, sN, iv p2, iv vw, iv vh, iv vn, iv c0, iv c1, iv c2, iv c3, uN, uN, uN, uN, uN, uN] [(.int c4)]
  refine sT (fun t k => XS.istore X1045.here hx rfl (hb hby at_122) rfl (l' := (oF p0 p1 p2 vh c0 c1 c2 c3 c4 vw vn uN uN uN uN uN)) rfl k) ?_
  show gM T1045 124 (oF p0 p1 p2 vh c0 c1 c2 c3 c4 vw vn uN uN uN uN uN) []
  have JW : ∀ {Tj : State} {Hj : Heap} {Lj : List Loc} {vj : Vm} {kj : Nat} {Ts : List String} (Xj : Stand p l e room_1 (s.setVm vj) m #[(.int p0), (.long p1), (.int p2)] below meth c Tj Lj 4 24) (ej : Tj.heap = Hj) (Nj : Fr n0 Lj) (Sj : s.Since vj kj) (kkj : kj ≤ Hj.size) (Ij : IB Z vj Ts) (hZ : Z.Warmed39 (s.setVm vj).vm) (hown : (s.setVm vj).vm.findClass "com/example/noctule/noctule/server/TokenScopeTakesPinLaw" = some m.cls) (Kj : Keep h0 Hj []) (x : Addr) (nj : Int32), gS p e below (own_FinL s (own_Q0 n0) 24 3200) (Tj.setTop (mkF m 139 (oF p0 p1 p2 vh c0 c1 c2 c3 c4 (1 : Int32) nj uN uN uN uN uN) [(.ref x)])) := by
   intro Tj Hj Lj vj kj Ts Xj ej Nj Sj kkj Ij hZ hown Kj x nj
   show gM Tj 139 (oF p0 p1 p2 vh c0 c1 c2 c3 c4 (1 : Int32) nj uN uN uN uN uN) [(.ref x)]
   refine sT (fun t k => XS.astore Xj.here hx rfl (hb hby at_139) rfl rfl (l' := (oF p0 p1 p2 vh c0 c1 c2 c3 c4 (1 : Int32) nj (rv x) uN uN uN uN)) rfl k) ?_
   show gM Tj 141 (oF p0 p1 p2 vh c0 c1 c2 c3 c4 (1 : Int32) nj (rv x) uN uN uN uN) []
   refine sT (fun t k => XS.iload Xj.here hx rfl (hb hby at_141) rfl k) ?_
   show gM Tj 143 (oF p0 p1 p2 vh c0 c1 c2 c3 c4 (1 : Int32) nj (rv x) uN uN uN uN) [(.int 1)]
   have hc1046 : ¬ ((1 : Int32) = (0 : Int32)) := by decide
   refine sT (fun t k => XS.ifNo Xj.here hx rfl (hb hby at_143) rfl ((if0 _ _).trans (feq hc1046).1) k) ?_
   show gM Tj 146 (oF p0 p1 p2 vh c0 c1 c2 c3 c4 (1 : Int32) nj (rv x) uN uN uN uN) []
   obtain ⟨T1047, X1047, e1047, st1047⟩ := getS2 Xj hx hZ hown (host := "") (Or.inl w67) Via.refl ej (S_WRITE.ext (O0.keep Kj all0).2) (g := (mkF m 146 (oF p0 p1 p2 vh c0 c1 c2 c3 c4 (1 : Int32) nj (rv x) uN uN uN uN) [])) rfl (hb hby at_146)
   refine sT st1047 ?_
   show gM T1047 149 (oF p0 p1 p2 vh c0 c1 c2 c3 c4 (1 : Int32) nj (rv x) uN uN uN uN) [(.ref wW)]
   refine sT (fun t k => XS.goto X1047.here hx rfl (pc0 := 149) (pc' := 155) rfl (hb hby at_149) (by decide) (by decide) k) ?_
   show gM T1047 155 (oF p0 p1 p2 vh c0 c1 c2 c3 c4 (1 : Int32) nj (rv x) uN uN uN uN) [(.ref wW)]
   refine sT (fun t k => XS.astore X1047.here hx rfl (hb hby at_155) rfl rfl (l' := (oF p0 p1 p2 vh c0 c1 c2 c3 c4 (1 : Int32) nj (rv x) (rv wW) uN uN uN)) rfl k) ?_
   show gM T1047 157 (oF p0 p1 p2 vh c0 c1 c2 c3 c4 (1 : Int32) nj (rv x) (rv wW) uN uN uN) []
   refine sT (fun t k => XS.iload X1047.here hx rfl (hb hby at_157) rfl k) ?_
   show gM T1047 159 (oF p0 p1 p2 vh c0 c1 c2 c3 c4 (1 : Int32) nj (rv x) (rv wW) uN uN uN) [(.int nj)]
   refine sT (fun t k => XS.iconst X1047.here hx rfl (hb hby at_159) k) ?_
   show gM T1047 160 (oF p0 p1 p2 vh c0 c1 c2 c3 c4 (1 : Int32) nj (rv x) (rv wW) uN uN uN) [(.int 3), (.int nj)]
   refine sT (S' := T1047.setTop (mkF m 189 (oF p0 p1 p2 vh c0 c1 c2 c3 c4 (1 : Int32) nj (rv x) (rv wW) uN uN uN) [(.int (if nj = (3 : Int32) then (if c0 = (71 : Int32) then (if c1 = (69 : Int32) then (if c2 = (84 : Int32) then (1 : Int32) else (0 : Int32)) else (0 : Int32)) else (0 : Int32)) else (0 : Int32)))])) (fun t k => ?_) ?_
   · --
    show sM T1047 160 (oF p0 p1 p2 vh c0 c1 c2 c3 c4 (1 : Int32) nj (rv x) (rv wW) uN uN uN) [(.int 3), (.int nj)] _
    by_cases hc1048 : nj = (3 : Int32)
    · --
     refine XS.icmpNo X1047.here hx rfl (hb hby at_160) rfl (teq hc1048).2 ?_
     show sM T1047 163 (oF p0 p1 p2 vh c0 c1 c2 c3 c4 (1 : Int32) nj (rv x) (rv wW) uN uN uN) [] _
     refine XS.iload X1047.here hx rfl (hb hby at_163) rfl ?_
     show sM T1047 165 (oF p0 p1 p2 vh c0 c1 c2 c3 c4 (1 : Int32) nj (rv x) (rv wW) uN uN uN) [(.int c0)] _
     refine XS.bipush X1047.here hx rfl (hb hby at_165) ?_
     show sM T1047 167 (oF p0 p1 p2 vh c0 c1 c2 c3 c4 (1 : Int32) nj (rv x) (rv wW) uN uN uN) [(.int 71), (.int c0)] _
     by_cases hc1049 : c0 = (71 : Int32)
     · --
      refine XS.icmpNo X1047.here hx rfl (hb hby at_167) rfl (teq hc1049).2 ?_
      show sM T1047 170 (oF p0 p1 p2 vh c0 c1 c2 c3 c4 (1 : Int32) nj (rv x) (rv wW) uN uN uN) [] _
      refine XS.iload X1047.here hx rfl (hb hby at_170) rfl ?_
      show sM T1047 172 (oF p0 p1 p2 vh c0 c1 c2 c3 c4 (1 : Int32) nj (rv x) (rv wW) uN uN uN) [(.int c1)] _
      refine XS.bipush X1047.here hx rfl (hb hby at_172) ?_
      show sM T1047 174 (oF p0 p1 p2 vh c0 c1 c2 c3 c4 (1 : Int32) nj (rv x) (rv wW) uN uN uN) [(.int 69), (.int c1)] _
      by_cases hc1050 : c1 = (69 : Int32)
      · --
       refine XS.icmpNo X1047.here hx rfl (hb hby at_174) rfl (teq hc1050).2 ?_
       show sM T1047 177 (oF p0 p1 p2 vh c0 c1 c2 c3 c4 (1 : Int32) nj (rv x) (rv wW) uN uN uN) [] _
       refine XS.iload X1047.here hx rfl (hb hby at_177) rfl ?_
       show sM T1047 179 (oF p0 p1 p2 vh c0 c1 c2 c3 c4 (1 : Int32) nj (rv x) (rv wW) uN uN uN) [(.int c2)] _
       refine XS.bipush X1047.here hx rfl (hb hby at_179) ?_
       show sM T1047 181 (oF p0 p1 p2 vh c0 c1 c2 c3 c4 (1 : Int32) nj (rv x) (rv wW) uN uN uN) [(.int 84), (.int c2)] _
       by_cases hc1051 : c2 = (84 : Int32)
       · --
        refine XS.icmpNo X1047.here hx rfl (hb hby at_181) rfl (teq hc1051).2 ?_
        show sM T1047 184 (oF p0 p1 p2 vh c0 c1 c2 c3 c4 (1 : Int32) nj (rv x) (rv wW) uN uN uN) [] _
        refine XS.iconst X1047.here hx rfl (hb hby at_184) ?_
        show sM T1047 185 (oF p0 p1 p2 vh c0 c1 c2 c3 c4 (1 : Int32) nj (rv x) (rv wW) uN uN uN) [(.int 1)] _
        refine XS.goto X1047.here hx rfl (pc0 := 185) (pc' := 189) rfl (hb hby at_185) (by decide) (by decide) ?_
        show sM T1047 189 (oF p0 p1 p2 vh c0 c1 c2 c3 c4 (1 : Int32) nj (rv x) (rv wW) uN uN uN) [(.int 1)] _
        simp only [if_pos hc1048, if_pos hc1049, if_pos hc1050, if_pos hc1051] at k
        exact k
       · --
        refine XS.icmpYes X1047.here hx rfl (pc0 := 181) (pc' := 188) rfl (hb hby at_181) rfl (feq hc1051).2 (by decide) (by decide) ?_
        show sM T1047 188 (oF p0 p1 p2 vh c0 c1 c2 c3 c4 (1 : Int32) nj (rv x) (rv wW) uN uN uN) [] _
        refine XS.iconst X1047.here hx rfl (hb hby at_188) ?_
        show sM T1047 189 (oF p0 p1 p2 vh c0 c1 c2 c3 c4 (1 : Int32) nj (rv x) (rv wW) uN uN uN) [(.int 0)] _
        simp only [if_pos hc1048, if_pos hc1049, if_pos hc1050, if_neg hc1051] at k
        exact k
      · --
       refine XS.icmpYes X1047.here hx rfl (pc0 := 174) (pc' := 188) rfl (hb hby at_174) rfl (feq hc1050).2 (by decide) (by decide) ?_
       show sM T1047 188 (oF p0 p1 p2 vh c0 c1 c2 c3 c4 (1 : Int32) nj (rv x) (rv wW) uN uN uN) [] _
       refine XS.iconst X1047.here hx rfl (hb hby at_188) ?_
       show sM T1047 189 (oF p0 p1 p2 vh c0 c1 c2 c3 c4 (1 : Int32) nj (rv x) (rv wW) uN uN uN) [(.int 0)] _
       simp only [if_pos hc1048, if_pos hc1049, if_neg hc1050] at k
       exact k
     · --
      refine XS.icmpYes X1047.here hx rfl (pc0 := 167) (pc' := 188) rfl (hb hby at_167) rfl (feq hc1049).2 (by decide) (by decide) ?_
      show sM T1047 188 (oF p0 p1 p2 vh c0 c1 c2 c3 c4 (1 : Int32) nj (rv x) (rv wW) uN uN uN) [] _
      refine XS.iconst X1047.here hx rfl (hb hby at_188) ?_
      show sM T1047 189 (oF p0 p1 p2 vh c0 c1 c2 c3 c4 (1 : Int32) nj (rv x) (rv wW) uN uN uN) [(.int 0)] _
      simp only [if_pos hc1048, if_neg hc1049] at k
      exact k
    · --
     refine XS.icmpYes X1047.here hx rfl (pc0 := 160) (pc' := 188) rfl (hb hby at_160) rfl (feq hc1048).2 (by decide) (by decide) ?_
     show sM T1047 188 (oF p0 p1 p2 vh c0 c1 c2 c3 c4 (1 : Int32) nj (rv x) (rv wW) uN uN uN) [] _
     refine XS.iconst X1047.here hx rfl (hb hby at_188) ?_
     show sM T1047 189 (oF p0 p1 p2 vh c0 c1 c2 c3 c4 (1 : Int32) nj (rv x) (rv wW) uN uN uN) [(.int 0)] _
     simp only [if_neg hc1048] at k
     exact k
   show gM T1047 189 (oF p0 p1 p2 vh c0 c1 c2 c3 c4 (1 : Int32) nj (rv x) (rv wW) uN uN uN) [(.int (if nj = (3 : Int32) then (if c0 = (71 : Int32) then (if c1 = (69 : Int32) then (if c2 = (84 : Int32) then (1 : Int32) else (0 : Int32)) else (0 : Int32)) else (0 : Int32)) else (0 : Int32)))]
   refine sT (fun t k => XS.istore X1047.here hx rfl (hb hby at_189) rfl (l' := (oF p0 p1 p2 vh c0 c1 c2 c3 c4 (1 : Int32) nj (rv x) (rv wW) (iv (if nj = (3 : Int32) then (if c0 = (71 : Int32) then (if c1 = (69 : Int32) then (if c2 = (84 : Int32) then (1 : Int32) else (0 : Int32)) else (0 : Int32)) else (0 : Int32)) else (0 : Int32))) uN uN)) rfl k) ?_
   show gM T1047 191 (oF p0 p1 p2 vh c0 c1 c2 c3 c4 (1 : Int32) nj (rv x) (rv wW) (iv (if nj = (3 : Int32) then (if c0 = (71 : Int32) then (if c1 = (69 : Int32) then (if c2 = (84 : Int32) then (1 : Int32) else (0 : Int32)) else (0 : Int32)) else (0 : Int32)) else (0 : Int32))) uN uN) []
   generalize hv_vg : (if nj = (3 : Int32) then (if c0 = (71 : Int32) then (if c1 = (69 : Int32) then (if c2 = (84 : Int32) then (1 : Int32) else (0 : Int32)) else (0 : Int32)) else (0 : Int32)) else (0 : Int32)) = vg
   refine sT (fun t k => XS.iload X1047.here hx rfl (hb hby at_191) rfl k) ?_
   show gM T1047 193 (oF p0 p1 p2 vh c0 c1 c2 c3 c4 (1 : Int32) nj (rv x) (rv wW) (iv vg) uN uN) [(.int nj)]
   refine sT (fun t k => XS.iconst X1047.here hx rfl (hb hby at_193) k) ?_
   show gM T1047 194 (oF p0 p1 p2 vh c0 c1 c2 c3 c4 (1 : Int32) nj (rv x) (rv wW) (iv vg) uN uN) [(.int 4), (.int nj)]
   refine sT (S' := T1047.setTop (mkF m 230 (oF p0 p1 p2 vh c0 c1 c2 c3 c4 (1 : Int32) nj (rv x) (rv wW) (iv vg) uN uN) [(.int (if nj = (4 : Int32) then (if c0 = (72 : Int32) then (if c1 = (69 : Int32) then (if c2 = (65 : Int32) then (if c3 = (68 : Int32) then (1 : Int32) else (0 : Int32)) else (0 : Int32)) else (0 : Int32)) else (0 : Int32)) else (0 : Int32)))])) (fun t k => ?_) ?_
   · --
    show sM T1047 194 (oF p0 p1 p2 vh c0 c1 c2 c3 c4 (1 : Int32) nj (rv x) (rv wW) (iv vg) uN uN) [(.int 4), (.int nj)] _
    by_cases hc1052 : nj = (4 : Int32)
    · --
     refine XS.icmpNo X1047.here hx rfl (hb hby at_194) rfl (teq hc1052).2 ?_
     show sM T1047 197 (oF p0 p1 p2 vh c0 c1 c2 c3 c4 (1 : Int32) nj (rv x) (rv wW) (iv vg) uN uN) [] _
     refine XS.iload X1047.here hx rfl (hb hby at_197) rfl ?_
     show sM T1047 199 (oF p0 p1 p2 vh c0 c1 c2 c3 c4 (1 : Int32) nj (rv x) (rv wW) (iv vg) uN uN) [(.int c0)] _
     refine XS.bipush X1047.here hx rfl (hb hby at_199) ?_
     show sM T1047 201 (oF p0 p1 p2 vh c0 c1 c2 c3 c4 (1 : Int32) nj (rv x) (rv wW) (iv vg) uN uN) [(.int 72), (.int c0)] _
     by_cases hc1053 : c0 = (72 : Int32)
     · --
      refine XS.icmpNo X1047.here hx rfl (hb hby at_201) rfl (teq hc1053).2 ?_
      show sM T1047 204 (oF p0 p1 p2 vh c0 c1 c2 c3 c4 (1 : Int32) nj (rv x) (rv wW) (iv vg) uN uN) [] _
      refine XS.iload X1047.here hx rfl (hb hby at_204) rfl ?_
      show sM T1047 206 (oF p0 p1 p2 vh c0 c1 c2 c3 c4 (1 : Int32) nj (rv x) (rv wW) (iv vg) uN uN) [(.int c1)] _
      refine XS.bipush X1047.here hx rfl (hb hby at_206) ?_
      show sM T1047 208 (oF p0 p1 p2 vh c0 c1 c2 c3 c4 (1 : Int32) nj (rv x) (rv wW) (iv vg) uN uN) [(.int 69), (.int c1)] _
      by_cases hc1054 : c1 = (69 : Int32)
      · --
       refine XS.icmpNo X1047.here hx rfl (hb hby at_208) rfl (teq hc1054).2 ?_
       show sM T1047 211 (oF p0 p1 p2 vh c0 c1 c2 c3 c4 (1 : Int32) nj (rv x) (rv wW) (iv vg) uN uN) [] _
       refine XS.iload X1047.here hx rfl (hb hby at_211) rfl ?_
       show sM T1047 213 (oF p0 p1 p2 vh c0 c1 c2 c3 c4 (1 : Int32) nj (rv x) (rv wW) (iv vg) uN uN) [(.int c2)] _
       refine XS.bipush X1047.here hx rfl (hb hby at_213) ?_
       show sM T1047 215 (oF p0 p1 p2 vh c0 c1 c2 c3 c4 (1 : Int32) nj (rv x) (rv wW) (iv vg) uN uN) [(.int 65), (.int c2)] _
       by_cases hc1055 : c2 = (65 : Int32)
       · --
        refine XS.icmpNo X1047.here hx rfl (hb hby at_215) rfl (teq hc1055).2 ?_
        show sM T1047 218 (oF p0 p1 p2 vh c0 c1 c2 c3 c4 (1 : Int32) nj (rv x) (rv wW) (iv vg) uN uN) [] _
        refine XS.iload X1047.here hx rfl (hb hby at_218) rfl ?_
        show sM T1047 220 (oF p0 p1 p2 vh c0 c1 c2 c3 c4 (1 : Int32) nj (rv x) (rv wW) (iv vg) uN uN) [(.int c3)] _
        refine XS.bipush X1047.here hx rfl (hb hby at_220) ?_
        show sM T1047 222 (oF p0 p1 p2 vh c0 c1 c2 c3 c4 (1 : Int32) nj (rv x) (rv wW) (iv vg) uN uN) [(.int 68), (.int c3)] _
        by_cases hc1056 : c3 = (68 : Int32)
        · --
         refine XS.icmpNo X1047.here hx rfl (hb hby at_222) rfl (teq hc1056).2 ?_
         show sM T1047 225 (oF p0 p1 p2 vh c0 c1 c2 c3 c4 (1 : Int32) nj (rv x) (rv wW) (iv vg) uN uN) [] _
         refine XS.iconst X1047.here hx rfl (hb hby at_225) ?_
         show sM T1047 226 (oF p0 p1 p2 vh c0 c1 c2 c3 c4 (1 : Int32) nj (rv x) (rv wW) (iv vg) uN uN) [(.int 1)] _
         refine XS.goto X1047.here hx rfl (pc0 := 226) (pc' := 230) rfl (hb hby at_226) (by decide) (by decide) ?_
         show sM T1047 230 (oF p0 p1 p2 vh c0 c1 c2 c3 c4 (1 : Int32) nj (rv x) (rv wW) (iv vg) uN uN) [(.int 1)] _
         simp only [if_pos hc1052, if_pos hc1053, if_pos hc1054, if_pos hc1055, if_pos hc1056] at k
         exact k
        · --
         refine XS.icmpYes X1047.here hx rfl (pc0 := 222) (pc' := 229) rfl (hb hby at_222) rfl (feq hc1056).2 (by decide) (by decide) ?_
         show sM T1047 229 (oF p0 p1 p2 vh c0 c1 c2 c3 c4 (1 : Int32) nj (rv x) (rv wW) (iv vg) uN uN) [] _
         refine XS.iconst X1047.here hx rfl (hb hby at_229) ?_
         show sM T1047 230 (oF p0 p1 p2 vh c0 c1 c2 c3 c4 (1 : Int32) nj (rv x) (rv wW) (iv vg) uN uN) [(.int 0)] _
         simp only [if_pos hc1052, if_pos hc1053, if_pos hc1054, if_pos hc1055, if_neg hc1056] at k
         exact k
       · --
        refine XS.icmpYes X1047.here hx rfl (pc0 := 215) (pc' := 229) rfl (hb hby at_215) rfl (feq hc1055).2 (by decide) (by decide) ?_
        show sM T1047 229 (oF p0 p1 p2 vh c0 c1 c2 c3 c4 (1 : Int32) nj (rv x) (rv wW) (iv vg) uN uN) [] _
        refine XS.iconst X1047.here hx rfl (hb hby at_229) ?_
        show sM T1047 230 (oF p0 p1 p2 vh c0 c1 c2 c3 c4 (1 : Int32) nj (rv x) (rv wW) (iv vg) uN uN) [(.int 0)] _
        simp only [if_pos hc1052, if_pos hc1053, if_pos hc1054, if_neg hc1055] at k
        exact k
      · --
       refine XS.icmpYes X1047.here hx rfl (pc0 := 208) (pc' := 229) rfl (hb hby at_208) rfl (feq hc1054).2 (by decide) (by decide) ?_
       show sM T1047 229 (oF p0 p1 p2 vh c0 c1 c2 c3 c4 (1 : Int32) nj (rv x) (rv wW) (iv vg) uN uN) [] _
       refine XS.iconst X1047.here hx rfl (hb hby at_229) ?_
       show sM T1047 230 (oF p0 p1 p2 vh c0 c1 c2 c3 c4 (1 : Int32) nj (rv x) (rv wW) (iv vg) uN uN) [(.int 0)] _
       simp only [if_pos hc1052, if_pos hc1053, if_neg hc1054] at k
       exact k
     · --
      refine XS.icmpYes X1047.here hx rfl (pc0 := 201) (pc' := 229) rfl (hb hby at_201) rfl (feq hc1053).2 (by decide) (by decide) ?_
      show sM T1047 229 (oF p0 p1 p2 vh c0 c1 c2 c3 c4 (1 : Int32) nj (rv x) (rv wW) (iv vg) uN uN) [] _
      refine XS.iconst X1047.here hx rfl (hb hby at_229) ?_
      show sM T1047 230 (oF p0 p1 p2 vh c0 c1 c2 c3 c4 (1 : Int32) nj (rv x) (rv wW) (iv vg) uN uN) [(.int 0)] _
      simp only [if_pos hc1052, if_neg hc1053] at k
      exact k
    · --
     refine XS.icmpYes X1047.here hx rfl (pc0 := 194) (pc' := 229) rfl (hb hby at_194) rfl (feq hc1052).2 (by decide) (by decide) ?_
     show sM T1047 229 (oF p0 p1 p2 vh c0 c1 c2 c3 c4 (1 : Int32) nj (rv x) (rv wW) (iv vg) uN uN) [] _
     refine XS.iconst X1047.here hx rfl (hb hby at_229) ?_
     show sM T1047 230 (oF p0 p1 p2 vh c0 c1 c2 c3 c4 (1 : Int32) nj (rv x) (rv wW) (iv vg) uN uN) [(.int 0)] _
     simp only [if_neg hc1052] at k
     exact k
   show gM T1047 230 (oF p0 p1 p2 vh c0 c1 c2 c3 c4 (1 : Int32) nj (rv x) (rv wW) (iv vg) uN uN) [(.int (if nj = (4 : Int32) then (if c0 = (72 : Int32) then (if c1 = (69 : Int32) then (if c2 = (65 : Int32) then (if c3 = (68 : Int32) then (1 : Int32) else (0 : Int32)) else (0 : Int32)) else (0 : Int32)) else (0 : Int32)) else (0 : Int32)))]
   refine sT (fun t k => XS.istore X1047.here hx rfl (hb hby at_230) rfl (l' := (oF p0 p1 p2 vh c0 c1 c2 c3 c4 (1 : Int32) nj (rv x) (rv wW) (iv vg) (iv (if nj = (4 : Int32) then (if c0 = (72 : Int32) then (if c1 = (69 : Int32) then (if c2 = (65 : Int32) then (if c3 = (68 : Int32) then (1 : Int32) else (0 : Int32)) else (0 : Int32)) else (0 : Int32)) else (0 : Int32)) else (0 : Int32))) uN)) rfl k) ?_
   show gM T1047 232 (oF p0 p1 p2 vh c0 c1 c2 c3 c4 (1 : Int32) nj (rv x) (rv wW) (iv vg) (iv (if nj = (4 : Int32) then (if c0 = (72 : Int32) then (if c1 = (69 : Int32) then (if c2 = (65 : Int32) then (if c3 = (68 : Int32) then (1 : Int32) else (0 : Int32)) else (0 : Int32)) else (0 : Int32)) else (0 : Int32)) else (0 : Int32))) uN) []
   generalize hv_vk : (if nj = (4 : Int32) then (if c0 = (72 : Int32) then (if c1 = (69 : Int32) then (if c2 = (65 : Int32) then (if c3 = (68 : Int32) then (1 : Int32) else (0 : Int32)) else (0 : Int32)) else (0 : Int32)) else (0 : Int32)) else (0 : Int32)) = vk
   refine sT (fun t k => XS.iload X1047.here hx rfl (hb hby at_232) rfl k) ?_
   show gM T1047 234 (oF p0 p1 p2 vh c0 c1 c2 c3 c4 (1 : Int32) nj (rv x) (rv wW) (iv vg) (iv vk) uN) [(.int 1)]
   have hc1057 : ¬ ((1 : Int32) = (0 : Int32)) := by decide
   refine sT (fun t k => XS.ifYes X1047.here hx rfl (pc0 := 234) (pc' := 247) rfl (hb hby at_234) rfl ((if0 _ _).trans (feq hc1057).2) (by decide) (by decide) k) ?_
   show gM T1047 247 (oF p0 p1 p2 vh c0 c1 c2 c3 c4 (1 : Int32) nj (rv x) (rv wW) (iv vg) (iv vk) uN) []
   refine sT (fun t k => XS.iconst X1047.here hx rfl (hb hby at_247) k) ?_
   show gM T1047 248 (oF p0 p1 p2 vh c0 c1 c2 c3 c4 (1 : Int32) nj (rv x) (rv wW) (iv vg) (iv vk) uN) [(.int 1)]
   refine sT (fun t k => XS.goto X1047.here hx rfl (pc0 := 248) (pc' := 252) rfl (hb hby at_248) (by decide) (by decide) k) ?_
   show gM T1047 252 (oF p0 p1 p2 vh c0 c1 c2 c3 c4 (1 : Int32) nj (rv x) (rv wW) (iv vg) (iv vk) uN) [(.int 1)]
   refine sT (fun t k => XS.istore X1047.here hx rfl (hb hby at_252) rfl (l' := (oF p0 p1 p2 vh c0 c1 c2 c3 c4 (1 : Int32) nj (rv x) (rv wW) (iv vg) (iv vk) (iv 1))) rfl k) ?_
   show gM T1047 254 (oF p0 p1 p2 vh c0 c1 c2 c3 c4 (1 : Int32) nj (rv x) (rv wW) (iv vg) (iv vk) (iv 1)) []
   refine sT (fun t k => XS.aload X1047.here hx rfl (hb hby at_254) rfl rfl k) ?_
   show gM T1047 256 (oF p0 p1 p2 vh c0 c1 c2 c3 c4 (1 : Int32) nj (rv x) (rv wW) (iv vg) (iv vk) (iv 1)) [(.ref wW)]
   refine sT (fun t k => XS.aload X1047.here hx rfl (hb hby at_256) rfl rfl k) ?_
   show gM T1047 258 (oF p0 p1 p2 vh c0 c1 c2 c3 c4 (1 : Int32) nj (rv x) (rv wW) (iv vg) (iv vk) (iv 1)) [(.ref x), (.ref wW)]
   obtain ⟨cq1058, kq1058, q1058a, q1058b, q1058c⟩ := isOf hZ e1047 (E_wW.keep Kj)
   obtain ⟨_, _, ⟨T1058, L1058, k1058, n1058⟩, -, X1058, ⟨Lc1058, hQ1058, l1058, y1058, z1058⟩, st1058⟩ := X1047.virtualBack hx (y := mN15) (z := mN15) hown (mvT hZ w37) (mvT hZ w38) (notFace_of_selects (args := #[]) (mvT hZ w40)) (mvT hZ w40) (mvT hZ w39) (by decide) (backOf (W := 0) (own_tw l Z a0 hw [] wW x  Hj n0 (Nat.le_trans Z0 Kj.1) S_WRITE Zn (O0.keep Kj all0).2) hZ w41 w35 (by decide) (by decide)) q1058a q1058c (g := (mkF m 258 (oF p0 p1 p2 vh c0 c1 c2 c3 c4 (1 : Int32) nj (rv x) (rv wW) (iv vg) (iv vk) (iv 1)) [(.ref x), (.ref wW)])) rfl (by rw [hml]; rfl) (Steps.refl _) (argsL := [(.ref x)]) (rest := []) (lenOf own_pd13 rfl) rfl (by show 2 * 0 + _ ≤ _; exact Nat.le_of_eq rfl) (hb hby at_258) (fun _ hWq => ⟨rfl, e1047, (by decide : 4 + 0 ≤ _), (by decide : 24 + 0 ≤ _)⟩)
   dsimp only [Pt.U, Pt.locs, Pt.cells, Pt.slots] at X1058 l1058 y1058 z1058 st1058 hQ1058
   subst y1058 z1058
   obtain ⟨rfl, N1058q, eh1058⟩ := hQ1058
   have N1058 : Fr n0 L1058 := by rw [l1058]; exact Fr.app Nj N1058q
   refine own_jump st1058 ?_
   show gM T1058 261 (oF p0 p1 p2 vh c0 c1 c2 c3 c4 (1 : Int32) nj (rv x) (rv wW) (iv vg) (iv vk) (iv 1)) [(.int 1)]
   refine sT (fun t k => XS.iload X1058.here hx rfl (hb hby at_261) rfl k) ?_
   show gM T1058 263 (oF p0 p1 p2 vh c0 c1 c2 c3 c4 (1 : Int32) nj (rv x) (rv wW) (iv vg) (iv vk) (iv 1)) [(.int 1), (.int 1)]
   have hc1059 : (1 : Int32) = (1 : Int32) := rfl
   refine sT (fun t k => XS.icmpNo X1058.here hx rfl (hb hby at_263) rfl (teq hc1059).2 k) ?_
   show gM T1058 266 (oF p0 p1 p2 vh c0 c1 c2 c3 c4 (1 : Int32) nj (rv x) (rv wW) (iv vg) (iv vk) (iv 1)) []
   refine sT (fun t k => XS.iconst X1058.here hx rfl (hb hby at_266) k) ?_
   show gM T1058 267 (oF p0 p1 p2 vh c0 c1 c2 c3 c4 (1 : Int32) nj (rv x) (rv wW) (iv vg) (iv vk) (iv 1)) [(.int 1)]
   refine sT (fun t k => XS.goto X1058.here hx rfl (pc0 := 267) (pc' := 271) rfl (hb hby at_267) (by decide) (by decide) k) ?_
   show gM T1058 271 (oF p0 p1 p2 vh c0 c1 c2 c3 c4 (1 : Int32) nj (rv x) (rv wW) (iv vg) (iv vk) (iv 1)) [(.int 1)]
   refine own_retLW X1058 Sj (by rw [eh1058]; exact kkj) hx hlk Bd.returns (hb hby at_271) (?_ : (1 : Int32) = 1) N1058 (by decide) (by decide)
   exact rfl
  have J0 : ∀ {Tj : State} {Hj : Heap} {Lj : List Loc} {vj : Vm} {kj : Nat} {Ts : List String} (Xj : Stand p l e room_1 (s.setVm vj) m #[(.int p0), (.long p1), (.int p2)] below meth c Tj Lj 4 24) (ej : Tj.heap = Hj) (Nj : Fr n0 Lj) (Sj : s.Since vj kj) (kkj : kj ≤ Hj.size) (Ij : IB Z vj Ts) (hZ : Z.Warmed39 (s.setVm vj).vm) (hown : (s.setVm vj).vm.findClass "com/example/noctule/noctule/server/TokenScopeTakesPinLaw" = some m.cls) (Kj : Keep h0 Hj []) (x : Addr) (nj : Int32) (bv : Addr) (kb : ClassId) (zl : Int32) (xs : List Int32) (Ex : Exa Z Hj x "java/lang/String") (Fc : Fld Z Hj x "java/lang/String" "coder" "B" (.int 0)) (Fv : Fld Z Hj x "java/lang/String" "value" "[B" (.ref bv)) (Vb : Arv Z Hj bv kb .byte zl (xs.map Value.int) (Value.int 0)) (hz3 : zl ≠ (3 : Int32)) (hz4 : zl ≠ (4 : Int32)) (hn3 : ¬ nj = (3 : Int32)) (hn4 : ¬ nj = (4 : Int32)) (hnG : "GET" ∉ Ts) (hnH : "HEAD" ∉ Ts), gS p e below (own_FinL s (own_Q0 n0) 24 3200) (Tj.setTop (mkF m 139 (oF p0 p1 p2 vh c0 c1 c2 c3 c4 (0 : Int32) nj uN uN uN uN uN) [(.ref x)])) := by
   intro Tj Hj Lj vj kj Ts Xj ej Nj Sj kkj Ij hZ hown Kj x nj bv kb zl xs Ex Fc Fv Vb hz3 hz4 hn3 hn4 hnG hnH
   show gM Tj 139 (oF p0 p1 p2 vh c0 c1 c2 c3 c4 (0 : Int32) nj uN uN uN uN uN) [(.ref x)]
   refine sT (fun t k => XS.astore Xj.here hx rfl (hb hby at_139) rfl rfl (l' := (oF p0 p1 p2 vh c0 c1 c2 c3 c4 (0 : Int32) nj (rv x) uN uN uN uN)) rfl k) ?_
   show gM Tj 141 (oF p0 p1 p2 vh c0 c1 c2 c3 c4 (0 : Int32) nj (rv x) uN uN uN uN) []
   refine sT (fun t k => XS.iload Xj.here hx rfl (hb hby at_141) rfl k) ?_
   show gM Tj 143 (oF p0 p1 p2 vh c0 c1 c2 c3 c4 (0 : Int32) nj (rv x) uN uN uN uN) [(.int 0)]
   have hc1060 : (0 : Int32) = (0 : Int32) := rfl
   refine sT (fun t k => XS.ifYes Xj.here hx rfl (pc0 := 143) (pc' := 152) rfl (hb hby at_143) rfl ((if0 _ _).trans (teq hc1060).1) (by decide) (by decide) k) ?_
   show gM Tj 152 (oF p0 p1 p2 vh c0 c1 c2 c3 c4 (0 : Int32) nj (rv x) uN uN uN uN) []
   obtain ⟨T1061, X1061, e1061, st1061⟩ := getS2 Xj hx hZ hown (host := "") (Or.inl w34) Via.refl ej (S_READ.ext (O0.keep Kj all0).2) (g := (mkF m 152 (oF p0 p1 p2 vh c0 c1 c2 c3 c4 (0 : Int32) nj (rv x) uN uN uN uN) [])) rfl (hb hby at_152)
   refine sT st1061 ?_
   show gM T1061 155 (oF p0 p1 p2 vh c0 c1 c2 c3 c4 (0 : Int32) nj (rv x) uN uN uN uN) [(.ref wR)]
   refine sT (fun t k => XS.astore X1061.here hx rfl (hb hby at_155) rfl rfl (l' := (oF p0 p1 p2 vh c0 c1 c2 c3 c4 (0 : Int32) nj (rv x) (rv wR) uN uN uN)) rfl k) ?_
   show gM T1061 157 (oF p0 p1 p2 vh c0 c1 c2 c3 c4 (0 : Int32) nj (rv x) (rv wR) uN uN uN) []
   refine sT (fun t k => XS.iload X1061.here hx rfl (hb hby at_157) rfl k) ?_
   show gM T1061 159 (oF p0 p1 p2 vh c0 c1 c2 c3 c4 (0 : Int32) nj (rv x) (rv wR) uN uN uN) [(.int nj)]
   refine sT (fun t k => XS.iconst X1061.here hx rfl (hb hby at_159) k) ?_
   show gM T1061 160 (oF p0 p1 p2 vh c0 c1 c2 c3 c4 (0 : Int32) nj (rv x) (rv wR) uN uN uN) [(.int 3), (.int nj)]
   have hc1062 : ¬ (nj = (3 : Int32)) := hn3
   refine sT (fun t k => XS.icmpYes X1061.here hx rfl (pc0 := 160) (pc' := 188) rfl (hb hby at_160) rfl (feq hc1062).2 (by decide) (by decide) k) ?_
   show gM T1061 188 (oF p0 p1 p2 vh c0 c1 c2 c3 c4 (0 : Int32) nj (rv x) (rv wR) uN uN uN) []
   refine sT (fun t k => XS.iconst X1061.here hx rfl (hb hby at_188) k) ?_
   show gM T1061 189 (oF p0 p1 p2 vh c0 c1 c2 c3 c4 (0 : Int32) nj (rv x) (rv wR) uN uN uN) [(.int 0)]
   refine sT (fun t k => XS.istore X1061.here hx rfl (hb hby at_189) rfl (l' := (oF p0 p1 p2 vh c0 c1 c2 c3 c4 (0 : Int32) nj (rv x) (rv wR) (iv 0) uN uN)) rfl k) ?_
   show gM T1061 191 (oF p0 p1 p2 vh c0 c1 c2 c3 c4 (0 : Int32) nj (rv x) (rv wR) (iv 0) uN uN) []
   refine sT (fun t k => XS.iload X1061.here hx rfl (hb hby at_191) rfl k) ?_
   show gM T1061 193 (oF p0 p1 p2 vh c0 c1 c2 c3 c4 (0 : Int32) nj (rv x) (rv wR) (iv 0) uN uN) [(.int nj)]
   refine sT (fun t k => XS.iconst X1061.here hx rfl (hb hby at_193) k) ?_
   show gM T1061 194 (oF p0 p1 p2 vh c0 c1 c2 c3 c4 (0 : Int32) nj (rv x) (rv wR) (iv 0) uN uN) [(.int 4), (.int nj)]
   have hc1063 : ¬ (nj = (4 : Int32)) := hn4
   refine sT (fun t k => XS.icmpYes X1061.here hx rfl (pc0 := 194) (pc' := 229) rfl (hb hby at_194) rfl (feq hc1063).2 (by decide) (by decide) k) ?_
   show gM T1061 229 (oF p0 p1 p2 vh c0 c1 c2 c3 c4 (0 : Int32) nj (rv x) (rv wR) (iv 0) uN uN) []
   refine sT (fun t k => XS.iconst X1061.here hx rfl (hb hby at_229) k) ?_
   show gM T1061 230 (oF p0 p1 p2 vh c0 c1 c2 c3 c4 (0 : Int32) nj (rv x) (rv wR) (iv 0) uN uN) [(.int 0)]
   refine sT (fun t k => XS.istore X1061.here hx rfl (hb hby at_230) rfl (l' := (oF p0 p1 p2 vh c0 c1 c2 c3 c4 (0 : Int32) nj (rv x) (rv wR) (iv 0) (iv 0) uN)) rfl k) ?_
   show gM T1061 232 (oF p0 p1 p2 vh c0 c1 c2 c3 c4 (0 : Int32) nj (rv x) (rv wR) (iv 0) (iv 0) uN) []
   refine sT (fun t k => XS.iload X1061.here hx rfl (hb hby at_232) rfl k) ?_
   show gM T1061 234 (oF p0 p1 p2 vh c0 c1 c2 c3 c4 (0 : Int32) nj (rv x) (rv wR) (iv 0) (iv 0) uN) [(.int 0)]
   have hc1064 : (0 : Int32) = (0 : Int32) := rfl
   refine sT (fun t k => XS.ifNo X1061.here hx rfl (hb hby at_234) rfl ((if0 _ _).trans (teq hc1064).2) k) ?_
   show gM T1061 237 (oF p0 p1 p2 vh c0 c1 c2 c3 c4 (0 : Int32) nj (rv x) (rv wR) (iv 0) (iv 0) uN) []
   refine sT (fun t k => XS.iload X1061.here hx rfl (hb hby at_237) rfl k) ?_
   show gM T1061 239 (oF p0 p1 p2 vh c0 c1 c2 c3 c4 (0 : Int32) nj (rv x) (rv wR) (iv 0) (iv 0) uN) [(.int 0)]
   have hc1065 : (0 : Int32) = (0 : Int32) := rfl
   refine sT (fun t k => XS.ifNo X1061.here hx rfl (hb hby at_239) rfl ((if0 _ _).trans (teq hc1065).2) k) ?_
   show gM T1061 242 (oF p0 p1 p2 vh c0 c1 c2 c3 c4 (0 : Int32) nj (rv x) (rv wR) (iv 0) (iv 0) uN) []
   refine sT (fun t k => XS.iload X1061.here hx rfl (hb hby at_242) rfl k) ?_
   show gM T1061 244 (oF p0 p1 p2 vh c0 c1 c2 c3 c4 (0 : Int32) nj (rv x) (rv wR) (iv 0) (iv 0) uN) [(.int 0)]
   have hc1066 : (0 : Int32) = (0 : Int32) := rfl
   refine sT (fun t k => XS.ifYes X1061.here hx rfl (pc0 := 244) (pc' := 251) rfl (hb hby at_244) rfl ((if0 _ _).trans (teq hc1066).1) (by decide) (by decide) k) ?_
   show gM T1061 251 (oF p0 p1 p2 vh c0 c1 c2 c3 c4 (0 : Int32) nj (rv x) (rv wR) (iv 0) (iv 0) uN) []
   refine sT (fun t k => XS.iconst X1061.here hx rfl (hb hby at_251) k) ?_
   show gM T1061 252 (oF p0 p1 p2 vh c0 c1 c2 c3 c4 (0 : Int32) nj (rv x) (rv wR) (iv 0) (iv 0) uN) [(.int 0)]
   refine sT (fun t k => XS.istore X1061.here hx rfl (hb hby at_252) rfl (l' := (oF p0 p1 p2 vh c0 c1 c2 c3 c4 (0 : Int32) nj (rv x) (rv wR) (iv 0) (iv 0) (iv 0))) rfl k) ?_
   show gM T1061 254 (oF p0 p1 p2 vh c0 c1 c2 c3 c4 (0 : Int32) nj (rv x) (rv wR) (iv 0) (iv 0) (iv 0)) []
   refine sT (fun t k => XS.aload X1061.here hx rfl (hb hby at_254) rfl rfl k) ?_
   show gM T1061 256 (oF p0 p1 p2 vh c0 c1 c2 c3 c4 (0 : Int32) nj (rv x) (rv wR) (iv 0) (iv 0) (iv 0)) [(.ref wR)]
   refine sT (fun t k => XS.aload X1061.here hx rfl (hb hby at_256) rfl rfl k) ?_
   show gM T1061 258 (oF p0 p1 p2 vh c0 c1 c2 c3 c4 (0 : Int32) nj (rv x) (rv wR) (iv 0) (iv 0) (iv 0)) [(.ref x), (.ref wR)]
   obtain ⟨cq1067, kq1067, q1067a, q1067b, q1067c⟩ := isOf hZ e1061 (E_wR.keep Kj)
   obtain ⟨_, _, ⟨T1067, L1067, k1067, n1067⟩, -, X1067, q21067, gr1067, ⟨Lc1067, ⟨hQ1067, I1067⟩, l1067, y1067, z1067⟩, st1067⟩ := X1061.virtualBackS hx (y := mN15) (z := mN15) hown (mvT hZ w37) (mvT hZ w38) (notFace_of_selects (args := #[]) (mvT hZ w40)) (mvT hZ w40) (mvT hZ w39) (by decide) (own_backW (W := 0) (own_t0 l Z a0 hw [] wR x (wW) (cs) (Ts) (bv) (zl) (xs) (kb) Hj Hj.size (Nat.le_refl _) S_WRITE (O0.keep Kj all0).2.1 (O0.keep Kj all0).2 ne_wR_wW Ex S_COMPACT_STRINGS hcs hk41 hk49 hcw hnG hnH (rfl) Fc Fv Vb hz3 hz4) hZ w41 w35 (by decide) (by decide)) q1067a q1067c (g := (mkF m 258 (oF p0 p1 p2 vh c0 c1 c2 c3 c4 (0 : Int32) nj (rv x) (rv wR) (iv 0) (iv 0) (iv 0)) [(.ref x), (.ref wR)])) rfl (by rw [hml]; rfl) (Steps.refl _) (argsL := [(.ref x)]) (rest := []) (lenOf own_pd13 rfl) rfl (by show 2 * 0 + _ ≤ _; exact Nat.le_of_eq rfl) (hb hby at_258) (fun _ hWq => ⟨rfl, e1061, own_ibH (s := s.setVm vj) Ij hWq, (by decide : 4 + 4 ≤ _), (by decide : 24 + 36 ≤ _)⟩)
   dsimp only [Pt.U, Pt.locs, Pt.cells, Pt.slots] at X1067 l1067 y1067 z1067 st1067 hQ1067 q21067 gr1067 I1067
   subst y1067 z1067
   obtain ⟨X1067, S1067, hZ, hown⟩ := rebS Sj (by rw [e1061]; exact kkj) X1067 q21067 gr1067 hZ hown
   obtain ⟨rfl, N1067q, K1067c⟩ := hQ1067
   have N1067 : Fr n0 L1067 := by rw [l1067]; exact Fr.app Nj (fun yq hyq => Nat.le_trans (Nat.le_trans Z0 Kj.1) (N1067q yq hyq))
   refine own_jump st1067 ?_
   have K1068 : Keep h0 T1067.heap [] := Kj.trans K1067c all0
   show gM T1067 261 (oF p0 p1 p2 vh c0 c1 c2 c3 c4 (0 : Int32) nj (rv x) (rv wR) (iv 0) (iv 0) (iv 0)) [(.int 0)]
   refine sT (fun t k => XS.iload X1067.here hx rfl (hb hby at_261) rfl k) ?_
   show gM T1067 263 (oF p0 p1 p2 vh c0 c1 c2 c3 c4 (0 : Int32) nj (rv x) (rv wR) (iv 0) (iv 0) (iv 0)) [(.int 0), (.int 0)]
   have hc1069 : (0 : Int32) = (0 : Int32) := rfl
   refine sT (fun t k => XS.icmpNo X1067.here hx rfl (hb hby at_263) rfl (teq hc1069).2 k) ?_
   show gM T1067 266 (oF p0 p1 p2 vh c0 c1 c2 c3 c4 (0 : Int32) nj (rv x) (rv wR) (iv 0) (iv 0) (iv 0)) []
   refine sT (fun t k => XS.iconst X1067.here hx rfl (hb hby at_266) k) ?_
   show gM T1067 267 (oF p0 p1 p2 vh c0 c1 c2 c3 c4 (0 : Int32) nj (rv x) (rv wR) (iv 0) (iv 0) (iv 0)) [(.int 1)]
   refine sT (fun t k => XS.goto X1067.here hx rfl (pc0 := 267) (pc' := 271) rfl (hb hby at_267) (by decide) (by decide) k) ?_
   show gM T1067 271 (oF p0 p1 p2 vh c0 c1 c2 c3 c4 (0 : Int32) nj (rv x) (rv wR) (iv 0) (iv 0) (iv 0)) [(.int 1)]
   refine own_retLW X1067 S1067 (Nat.le_refl _) hx hlk Bd.returns (hb hby at_271) (?_ : (1 : Int32) = 1) N1067 (by decide) (by decide)
   exact rfl
  have J3 : ∀ {Tj : State} {Hj : Heap} {Lj : List Loc} {vj : Vm} {kj : Nat} {Ts : List String} (Xj : Stand p l e room_1 (s.setVm vj) m #[(.int p0), (.long p1), (.int p2)] below meth c Tj Lj 4 24) (ej : Tj.heap = Hj) (Nj : Fr n0 Lj) (Sj : s.Since vj kj) (kkj : kj ≤ Hj.size) (Ij : IB Z vj Ts) (hZ : Z.Warmed39 (s.setVm vj).vm) (hown : (s.setVm vj).vm.findClass "com/example/noctule/noctule/server/TokenScopeTakesPinLaw" = some m.cls) (Kj : Keep h0 Hj []) (x : Addr) (bv : Addr) (kb : ClassId) (Ex : Exa Z Hj x "java/lang/String") (Fc : Fld Z Hj x "java/lang/String" "coder" "B" (.int 0)) (Fv : Fld Z Hj x "java/lang/String" "value" "[B" (.ref bv)) (Vb : Arv Z Hj bv kb .byte (3 : Int32) (([(c0.toInt8.toInt32), (c1.toInt8.toInt32), (c2.toInt8.toInt32)] : List Int32).map Value.int) (Value.int 0)) (hle0 : ¬ (255 : Int32) < c0) (hle1 : ¬ (255 : Int32) < c1) (hle2 : ¬ (255 : Int32) < c2) (hnG : "GET" ∉ Ts) (hnH : "HEAD" ∉ Ts), gS p e below (own_FinL s (own_Q0 n0) 24 3200) (Tj.setTop (mkF m 139 (oF p0 p1 p2 vh c0 c1 c2 c3 c4 (0 : Int32) (3 : Int32) uN uN uN uN uN) [(.ref x)])) := by
   intro Tj Hj Lj vj kj Ts Xj ej Nj Sj kkj Ij hZ hown Kj x bv kb Ex Fc Fv Vb hle0 hle1 hle2 hnG hnH
   show gM Tj 139 (oF p0 p1 p2 vh c0 c1 c2 c3 c4 (0 : Int32) (3 : Int32) uN uN uN uN uN) [(.ref x)]
   refine sT (fun t k => XS.astore Xj.here hx rfl (hb hby at_139) rfl rfl (l' := (oF p0 p1 p2 vh c0 c1 c2 c3 c4 (0 : Int32) (3 : Int32) (rv x) uN uN uN uN)) rfl k) ?_
   show gM Tj 141 (oF p0 p1 p2 vh c0 c1 c2 c3 c4 (0 : Int32) (3 : Int32) (rv x) uN uN uN uN) []
   refine sT (fun t k => XS.iload Xj.here hx rfl (hb hby at_141) rfl k) ?_
   show gM Tj 143 (oF p0 p1 p2 vh c0 c1 c2 c3 c4 (0 : Int32) (3 : Int32) (rv x) uN uN uN uN) [(.int 0)]
   have hc1070 : (0 : Int32) = (0 : Int32) := rfl
   refine sT (fun t k => XS.ifYes Xj.here hx rfl (pc0 := 143) (pc' := 152) rfl (hb hby at_143) rfl ((if0 _ _).trans (teq hc1070).1) (by decide) (by decide) k) ?_
   show gM Tj 152 (oF p0 p1 p2 vh c0 c1 c2 c3 c4 (0 : Int32) (3 : Int32) (rv x) uN uN uN uN) []
   obtain ⟨T1071, X1071, e1071, st1071⟩ := getS2 Xj hx hZ hown (host := "") (Or.inl w34) Via.refl ej (S_READ.ext (O0.keep Kj all0).2) (g := (mkF m 152 (oF p0 p1 p2 vh c0 c1 c2 c3 c4 (0 : Int32) (3 : Int32) (rv x) uN uN uN uN) [])) rfl (hb hby at_152)
   refine sT st1071 ?_
   show gM T1071 155 (oF p0 p1 p2 vh c0 c1 c2 c3 c4 (0 : Int32) (3 : Int32) (rv x) uN uN uN uN) [(.ref wR)]
   refine sT (fun t k => XS.astore X1071.here hx rfl (hb hby at_155) rfl rfl (l' := (oF p0 p1 p2 vh c0 c1 c2 c3 c4 (0 : Int32) (3 : Int32) (rv x) (rv wR) uN uN uN)) rfl k) ?_
   show gM T1071 157 (oF p0 p1 p2 vh c0 c1 c2 c3 c4 (0 : Int32) (3 : Int32) (rv x) (rv wR) uN uN uN) []
   refine sT (fun t k => XS.iload X1071.here hx rfl (hb hby at_157) rfl k) ?_
   show gM T1071 159 (oF p0 p1 p2 vh c0 c1 c2 c3 c4 (0 : Int32) (3 : Int32) (rv x) (rv wR) uN uN uN) [(.int 3)]
   refine sT (fun t k => XS.iconst X1071.here hx rfl (hb hby at_159) k) ?_
   show gM T1071 160 (oF p0 p1 p2 vh c0 c1 c2 c3 c4 (0 : Int32) (3 : Int32) (rv x) (rv wR) uN uN uN) [(.int 3), (.int 3)]
   have hc1072 : (3 : Int32) = (3 : Int32) := rfl
   refine sT (fun t k => XS.icmpNo X1071.here hx rfl (hb hby at_160) rfl (teq hc1072).2 k) ?_
   show gM T1071 163 (oF p0 p1 p2 vh c0 c1 c2 c3 c4 (0 : Int32) (3 : Int32) (rv x) (rv wR) uN uN uN) []
   refine sT (fun t k => XS.iload X1071.here hx rfl (hb hby at_163) rfl k) ?_
   show gM T1071 165 (oF p0 p1 p2 vh c0 c1 c2 c3 c4 (0 : Int32) (3 : Int32) (rv x) (rv wR) uN uN uN) [(.int c0)]
   refine sT (fun t k => XS.bipush X1071.here hx rfl (hb hby at_165) k) ?_
   show gM T1071 167 (oF p0 p1 p2 vh c0 c1 c2 c3 c4 (0 : Int32) (3 : Int32) (rv x) (rv wR) uN uN uN) [(.int 71), (.int c0)]
   refine sT (S' := T1071.setTop (mkF m 189 (oF p0 p1 p2 vh c0 c1 c2 c3 c4 (0 : Int32) (3 : Int32) (rv x) (rv wR) uN uN uN) [(.int (if c0 = (71 : Int32) then (if c1 = (69 : Int32) then (if c2 = (84 : Int32) then (1 : Int32) else (0 : Int32)) else (0 : Int32)) else (0 : Int32)))])) (fun t k => ?_) ?_
   · --
    show sM T1071 167 (oF p0 p1 p2 vh c0 c1 c2 c3 c4 (0 : Int32) (3 : Int32) (rv x) (rv wR) uN uN uN) [(.int 71), (.int c0)] _
    by_cases hc1073 : c0 = (71 : Int32)
    · --
     refine XS.icmpNo X1071.here hx rfl (hb hby at_167) rfl (teq hc1073).2 ?_
     show sM T1071 170 (oF p0 p1 p2 vh c0 c1 c2 c3 c4 (0 : Int32) (3 : Int32) (rv x) (rv wR) uN uN uN) [] _
     refine XS.iload X1071.here hx rfl (hb hby at_170) rfl ?_
     show sM T1071 172 (oF p0 p1 p2 vh c0 c1 c2 c3 c4 (0 : Int32) (3 : Int32) (rv x) (rv wR) uN uN uN) [(.int c1)] _
     refine XS.bipush X1071.here hx rfl (hb hby at_172) ?_
     show sM T1071 174 (oF p0 p1 p2 vh c0 c1 c2 c3 c4 (0 : Int32) (3 : Int32) (rv x) (rv wR) uN uN uN) [(.int 69), (.int c1)] _
     by_cases hc1074 : c1 = (69 : Int32)
     · --
      refine XS.icmpNo X1071.here hx rfl (hb hby at_174) rfl (teq hc1074).2 ?_
      show sM T1071 177 (oF p0 p1 p2 vh c0 c1 c2 c3 c4 (0 : Int32) (3 : Int32) (rv x) (rv wR) uN uN uN) [] _
      refine XS.iload X1071.here hx rfl (hb hby at_177) rfl ?_
      show sM T1071 179 (oF p0 p1 p2 vh c0 c1 c2 c3 c4 (0 : Int32) (3 : Int32) (rv x) (rv wR) uN uN uN) [(.int c2)] _
      refine XS.bipush X1071.here hx rfl (hb hby at_179) ?_
      show sM T1071 181 (oF p0 p1 p2 vh c0 c1 c2 c3 c4 (0 : Int32) (3 : Int32) (rv x) (rv wR) uN uN uN) [(.int 84), (.int c2)] _
      by_cases hc1075 : c2 = (84 : Int32)
      · --
       refine XS.icmpNo X1071.here hx rfl (hb hby at_181) rfl (teq hc1075).2 ?_
       show sM T1071 184 (oF p0 p1 p2 vh c0 c1 c2 c3 c4 (0 : Int32) (3 : Int32) (rv x) (rv wR) uN uN uN) [] _
       refine XS.iconst X1071.here hx rfl (hb hby at_184) ?_
       show sM T1071 185 (oF p0 p1 p2 vh c0 c1 c2 c3 c4 (0 : Int32) (3 : Int32) (rv x) (rv wR) uN uN uN) [(.int 1)] _
       refine XS.goto X1071.here hx rfl (pc0 := 185) (pc' := 189) rfl (hb hby at_185) (by decide) (by decide) ?_
       show sM T1071 189 (oF p0 p1 p2 vh c0 c1 c2 c3 c4 (0 : Int32) (3 : Int32) (rv x) (rv wR) uN uN uN) [(.int 1)] _
       simp only [if_pos hc1073, if_pos hc1074, if_pos hc1075] at k
       exact k
      · --
       refine XS.icmpYes X1071.here hx rfl (pc0 := 181) (pc' := 188) rfl (hb hby at_181) rfl (feq hc1075).2 (by decide) (by decide) ?_
       show sM T1071 188 (oF p0 p1 p2 vh c0 c1 c2 c3 c4 (0 : Int32) (3 : Int32) (rv x) (rv wR) uN uN uN) [] _
       refine XS.iconst X1071.here hx rfl (hb hby at_188) ?_
       show sM T1071 189 (oF p0 p1 p2 vh c0 c1 c2 c3 c4 (0 : Int32) (3 : Int32) (rv x) (rv wR) uN uN uN) [(.int 0)] _
       simp only [if_pos hc1073, if_pos hc1074, if_neg hc1075] at k
       exact k
     · --
      refine XS.icmpYes X1071.here hx rfl (pc0 := 174) (pc' := 188) rfl (hb hby at_174) rfl (feq hc1074).2 (by decide) (by decide) ?_
      show sM T1071 188 (oF p0 p1 p2 vh c0 c1 c2 c3 c4 (0 : Int32) (3 : Int32) (rv x) (rv wR) uN uN uN) [] _
      refine XS.iconst X1071.here hx rfl (hb hby at_188) ?_
      show sM T1071 189 (oF p0 p1 p2 vh c0 c1 c2 c3 c4 (0 : Int32) (3 : Int32) (rv x) (rv wR) uN uN uN) [(.int 0)] _
      simp only [if_pos hc1073, if_neg hc1074] at k
      exact k
    · --
     refine XS.icmpYes X1071.here hx rfl (pc0 := 167) (pc' := 188) rfl (hb hby at_167) rfl (feq hc1073).2 (by decide) (by decide) ?_
     show sM T1071 188 (oF p0 p1 p2 vh c0 c1 c2 c3 c4 (0 : Int32) (3 : Int32) (rv x) (rv wR) uN uN uN) [] _
     refine XS.iconst X1071.here hx rfl (hb hby at_188) ?_
     show sM T1071 189 (oF p0 p1 p2 vh c0 c1 c2 c3 c4 (0 : Int32) (3 : Int32) (rv x) (rv wR) uN uN uN) [(.int 0)] _
     simp only [if_neg hc1073] at k
     exact k
   show gM T1071 189 (oF p0 p1 p2 vh c0 c1 c2 c3 c4 (0 : Int32) (3 : Int32) (rv x) (rv wR) uN uN uN) [(.int (if c0 = (71 : Int32) then (if c1 = (69 : Int32) then (if c2 = (84 : Int32) then (1 : Int32) else (0 : Int32)) else (0 : Int32)) else (0 : Int32)))]
   refine sT (fun t k => XS.istore X1071.here hx rfl (hb hby at_189) rfl (l' := (oF p0 p1 p2 vh c0 c1 c2 c3 c4 (0 : Int32) (3 : Int32) (rv x) (rv wR) (iv (if c0 = (71 : Int32) then (if c1 = (69 : Int32) then (if c2 = (84 : Int32) then (1 : Int32) else (0 : Int32)) else (0 : Int32)) else (0 : Int32))) uN uN)) rfl k) ?_
   show gM T1071 191 (oF p0 p1 p2 vh c0 c1 c2 c3 c4 (0 : Int32) (3 : Int32) (rv x) (rv wR) (iv (if c0 = (71 : Int32) then (if c1 = (69 : Int32) then (if c2 = (84 : Int32) then (1 : Int32) else (0 : Int32)) else (0 : Int32)) else (0 : Int32))) uN uN) []
   generalize hv_vg : (if c0 = (71 : Int32) then (if c1 = (69 : Int32) then (if c2 = (84 : Int32) then (1 : Int32) else (0 : Int32)) else (0 : Int32)) else (0 : Int32)) = vg
   refine sT (fun t k => XS.iload X1071.here hx rfl (hb hby at_191) rfl k) ?_
   show gM T1071 193 (oF p0 p1 p2 vh c0 c1 c2 c3 c4 (0 : Int32) (3 : Int32) (rv x) (rv wR) (iv vg) uN uN) [(.int 3)]
   refine sT (fun t k => XS.iconst X1071.here hx rfl (hb hby at_193) k) ?_
   show gM T1071 194 (oF p0 p1 p2 vh c0 c1 c2 c3 c4 (0 : Int32) (3 : Int32) (rv x) (rv wR) (iv vg) uN uN) [(.int 4), (.int 3)]
   have hc1076 : ¬ ((3 : Int32) = (4 : Int32)) := by decide
   refine sT (fun t k => XS.icmpYes X1071.here hx rfl (pc0 := 194) (pc' := 229) rfl (hb hby at_194) rfl (feq hc1076).2 (by decide) (by decide) k) ?_
   show gM T1071 229 (oF p0 p1 p2 vh c0 c1 c2 c3 c4 (0 : Int32) (3 : Int32) (rv x) (rv wR) (iv vg) uN uN) []
   refine sT (fun t k => XS.iconst X1071.here hx rfl (hb hby at_229) k) ?_
   show gM T1071 230 (oF p0 p1 p2 vh c0 c1 c2 c3 c4 (0 : Int32) (3 : Int32) (rv x) (rv wR) (iv vg) uN uN) [(.int 0)]
   refine sT (fun t k => XS.istore X1071.here hx rfl (hb hby at_230) rfl (l' := (oF p0 p1 p2 vh c0 c1 c2 c3 c4 (0 : Int32) (3 : Int32) (rv x) (rv wR) (iv vg) (iv 0) uN)) rfl k) ?_
   show gM T1071 232 (oF p0 p1 p2 vh c0 c1 c2 c3 c4 (0 : Int32) (3 : Int32) (rv x) (rv wR) (iv vg) (iv 0) uN) []
   refine sT (fun t k => XS.iload X1071.here hx rfl (hb hby at_232) rfl k) ?_
   show gM T1071 234 (oF p0 p1 p2 vh c0 c1 c2 c3 c4 (0 : Int32) (3 : Int32) (rv x) (rv wR) (iv vg) (iv 0) uN) [(.int 0)]
   have hc1077 : (0 : Int32) = (0 : Int32) := rfl
   refine sT (fun t k => XS.ifNo X1071.here hx rfl (hb hby at_234) rfl ((if0 _ _).trans (teq hc1077).2) k) ?_
   show gM T1071 237 (oF p0 p1 p2 vh c0 c1 c2 c3 c4 (0 : Int32) (3 : Int32) (rv x) (rv wR) (iv vg) (iv 0) uN) []
   refine sT (fun t k => XS.iload X1071.here hx rfl (hb hby at_237) rfl k) ?_
   show gM T1071 239 (oF p0 p1 p2 vh c0 c1 c2 c3 c4 (0 : Int32) (3 : Int32) (rv x) (rv wR) (iv vg) (iv 0) uN) [(.int vg)]
   refine sT (S' := T1071.setTop (mkF m 252 (oF p0 p1 p2 vh c0 c1 c2 c3 c4 (0 : Int32) (3 : Int32) (rv x) (rv wR) (iv vg) (iv 0) uN) [(.int (if vg = (0 : Int32) then (0 : Int32) else (1 : Int32)))])) (fun t k => ?_) ?_
   · --
    show sM T1071 239 (oF p0 p1 p2 vh c0 c1 c2 c3 c4 (0 : Int32) (3 : Int32) (rv x) (rv wR) (iv vg) (iv 0) uN) [(.int vg)] _
    by_cases hc1078 : vg = (0 : Int32)
    · --
     refine XS.ifNo X1071.here hx rfl (hb hby at_239) rfl ((if0 _ _).trans (teq hc1078).2) ?_
     show sM T1071 242 (oF p0 p1 p2 vh c0 c1 c2 c3 c4 (0 : Int32) (3 : Int32) (rv x) (rv wR) (iv vg) (iv 0) uN) [] _
     refine XS.iload X1071.here hx rfl (hb hby at_242) rfl ?_
     show sM T1071 244 (oF p0 p1 p2 vh c0 c1 c2 c3 c4 (0 : Int32) (3 : Int32) (rv x) (rv wR) (iv vg) (iv 0) uN) [(.int 0)] _
     have hc1079 : (0 : Int32) = (0 : Int32) := rfl
     refine XS.ifYes X1071.here hx rfl (pc0 := 244) (pc' := 251) rfl (hb hby at_244) rfl ((if0 _ _).trans (teq hc1079).1) (by decide) (by decide) ?_
     show sM T1071 251 (oF p0 p1 p2 vh c0 c1 c2 c3 c4 (0 : Int32) (3 : Int32) (rv x) (rv wR) (iv vg) (iv 0) uN) [] _
     refine XS.iconst X1071.here hx rfl (hb hby at_251) ?_
     show sM T1071 252 (oF p0 p1 p2 vh c0 c1 c2 c3 c4 (0 : Int32) (3 : Int32) (rv x) (rv wR) (iv vg) (iv 0) uN) [(.int 0)] _
     simp only [if_pos hc1078] at k
     exact k
    · --
     refine XS.ifYes X1071.here hx rfl (pc0 := 239) (pc' := 247) rfl (hb hby at_239) rfl ((if0 _ _).trans (feq hc1078).2) (by decide) (by decide) ?_
     show sM T1071 247 (oF p0 p1 p2 vh c0 c1 c2 c3 c4 (0 : Int32) (3 : Int32) (rv x) (rv wR) (iv vg) (iv 0) uN) [] _
     refine XS.iconst X1071.here hx rfl (hb hby at_247) ?_
     show sM T1071 248 (oF p0 p1 p2 vh c0 c1 c2 c3 c4 (0 : Int32) (3 : Int32) (rv x) (rv wR) (iv vg) (iv 0) uN) [(.int 1)] _
     refine XS.goto X1071.here hx rfl (pc0 := 248) (pc' := 252) rfl (hb hby at_248) (by decide) (by decide) ?_
     show sM T1071 252 (oF p0 p1 p2 vh c0 c1 c2 c3 c4 (0 : Int32) (3 : Int32) (rv x) (rv wR) (iv vg) (iv 0) uN) [(.int 1)] _
     simp only [if_neg hc1078] at k
     exact k
   show gM T1071 252 (oF p0 p1 p2 vh c0 c1 c2 c3 c4 (0 : Int32) (3 : Int32) (rv x) (rv wR) (iv vg) (iv 0) uN) [(.int (if vg = (0 : Int32) then (0 : Int32) else (1 : Int32)))]
   refine sT (fun t k => XS.istore X1071.here hx rfl (hb hby at_252) rfl (l' := (oF p0 p1 p2 vh c0 c1 c2 c3 c4 (0 : Int32) (3 : Int32) (rv x) (rv wR) (iv vg) (iv 0) (iv (if vg = (0 : Int32) then (0 : Int32) else (1 : Int32))))) rfl k) ?_
   show gM T1071 254 (oF p0 p1 p2 vh c0 c1 c2 c3 c4 (0 : Int32) (3 : Int32) (rv x) (rv wR) (iv vg) (iv 0) (iv (if vg = (0 : Int32) then (0 : Int32) else (1 : Int32)))) []
   refine sT (fun t k => XS.aload X1071.here hx rfl (hb hby at_254) rfl rfl k) ?_
   show gM T1071 256 (oF p0 p1 p2 vh c0 c1 c2 c3 c4 (0 : Int32) (3 : Int32) (rv x) (rv wR) (iv vg) (iv 0) (iv (if vg = (0 : Int32) then (0 : Int32) else (1 : Int32)))) [(.ref wR)]
   refine sT (fun t k => XS.aload X1071.here hx rfl (hb hby at_256) rfl rfl k) ?_
   show gM T1071 258 (oF p0 p1 p2 vh c0 c1 c2 c3 c4 (0 : Int32) (3 : Int32) (rv x) (rv wR) (iv vg) (iv 0) (iv (if vg = (0 : Int32) then (0 : Int32) else (1 : Int32)))) [(.ref x), (.ref wR)]
   obtain ⟨cq1080, kq1080, q1080a, q1080b, q1080c⟩ := isOf hZ e1071 (E_wR.keep Kj)
   obtain ⟨_, _, ⟨T1080, L1080, k1080, n1080⟩, -, X1080, q21080, gr1080, ⟨Lc1080, ⟨hQ1080, I1080⟩, l1080, y1080, z1080⟩, st1080⟩ := X1071.virtualBackS hx (y := mN15) (z := mN15) hown (mvT hZ w37) (mvT hZ w38) (notFace_of_selects (args := #[]) (mvT hZ w40)) (mvT hZ w40) (mvT hZ w39) (by decide) (own_backW (W := 0) (own_t3 l Z a0 hw [] wR x (wW) (cs) (Ts) (bv) ((c0.toInt8.toInt32)) ((c1.toInt8.toInt32)) ((c2.toInt8.toInt32)) (kb) Hj Hj.size (Nat.le_refl _) S_WRITE (O0.keep Kj all0).2.1 (O0.keep Kj all0).2 ne_wR_wW Ex S_COMPACT_STRINGS hcs hk41 hk49 hcw hnG hnH (rfl) Fc Fv Vb) hZ w41 w35 (by decide) (by decide)) q1080a q1080c (g := (mkF m 258 (oF p0 p1 p2 vh c0 c1 c2 c3 c4 (0 : Int32) (3 : Int32) (rv x) (rv wR) (iv vg) (iv 0) (iv (if vg = (0 : Int32) then (0 : Int32) else (1 : Int32)))) [(.ref x), (.ref wR)])) rfl (by rw [hml]; rfl) (Steps.refl _) (argsL := [(.ref x)]) (rest := []) (lenOf own_pd13 rfl) rfl (by show 2 * 0 + _ ≤ _; exact Nat.le_of_eq rfl) (hb hby at_258) (fun _ hWq => ⟨rfl, e1071, own_ibH (s := s.setVm vj) Ij hWq, (by decide : 4 + 4 ≤ _), (by decide : 24 + 36 ≤ _)⟩)
   dsimp only [Pt.U, Pt.locs, Pt.cells, Pt.slots] at X1080 l1080 y1080 z1080 st1080 hQ1080 q21080 gr1080 I1080
   subst y1080 z1080
   obtain ⟨X1080, S1080, hZ, hown⟩ := rebS Sj (by rw [e1071]; exact kkj) X1080 q21080 gr1080 hZ hown
   obtain ⟨rfl, N1080q, K1080c⟩ := hQ1080
   have N1080 : Fr n0 L1080 := by rw [l1080]; exact Fr.app Nj (fun yq hyq => Nat.le_trans (Nat.le_trans Z0 Kj.1) (N1080q yq hyq))
   refine own_jump st1080 ?_
   have K1081 : Keep h0 T1080.heap [] := Kj.trans K1080c all0
   show gM T1080 261 (oF p0 p1 p2 vh c0 c1 c2 c3 c4 (0 : Int32) (3 : Int32) (rv x) (rv wR) (iv vg) (iv 0) (iv (if vg = (0 : Int32) then (0 : Int32) else (1 : Int32)))) [(.int (if (if (own_n3 (c0.toInt8.toInt32) (c1.toInt8.toInt32) (c2.toInt8.toInt32) (71 : Int32) (69 : Int32) (84 : Int32)) = (0 : Int32) then (0 : Int32) else (1 : Int32)) = (0 : Int32) then (0 : Int32) else (1 : Int32)))]
   refine sT (fun t k => XS.iload X1080.here hx rfl (hb hby at_261) rfl k) ?_
   show gM T1080 263 (oF p0 p1 p2 vh c0 c1 c2 c3 c4 (0 : Int32) (3 : Int32) (rv x) (rv wR) (iv vg) (iv 0) (iv (if vg = (0 : Int32) then (0 : Int32) else (1 : Int32)))) [(.int (if vg = (0 : Int32) then (0 : Int32) else (1 : Int32))), (.int (if (if (own_n3 (c0.toInt8.toInt32) (c1.toInt8.toInt32) (c2.toInt8.toInt32) (71 : Int32) (69 : Int32) (84 : Int32)) = (0 : Int32) then (0 : Int32) else (1 : Int32)) = (0 : Int32) then (0 : Int32) else (1 : Int32)))]
   refine sT (S' := T1080.setTop (mkF m 271 (oF p0 p1 p2 vh c0 c1 c2 c3 c4 (0 : Int32) (3 : Int32) (rv x) (rv wR) (iv vg) (iv 0) (iv (if vg = (0 : Int32) then (0 : Int32) else (1 : Int32)))) [(.int (if (if (if (own_n3 (c0.toInt8.toInt32) (c1.toInt8.toInt32) (c2.toInt8.toInt32) (71 : Int32) (69 : Int32) (84 : Int32)) = (0 : Int32) then (0 : Int32) else (1 : Int32)) = (0 : Int32) then (0 : Int32) else (1 : Int32)) = (if vg = (0 : Int32) then (0 : Int32) else (1 : Int32)) then (1 : Int32) else (0 : Int32)))])) (fun t k => ?_) ?_
   · --
    show sM T1080 263 (oF p0 p1 p2 vh c0 c1 c2 c3 c4 (0 : Int32) (3 : Int32) (rv x) (rv wR) (iv vg) (iv 0) (iv (if vg = (0 : Int32) then (0 : Int32) else (1 : Int32)))) [(.int (if vg = (0 : Int32) then (0 : Int32) else (1 : Int32))), (.int (if (if (own_n3 (c0.toInt8.toInt32) (c1.toInt8.toInt32) (c2.toInt8.toInt32) (71 : Int32) (69 : Int32) (84 : Int32)) = (0 : Int32) then (0 : Int32) else (1 : Int32)) = (0 : Int32) then (0 : Int32) else (1 : Int32)))] _
    by_cases hc1082 : (if (if (own_n3 (c0.toInt8.toInt32) (c1.toInt8.toInt32) (c2.toInt8.toInt32) (71 : Int32) (69 : Int32) (84 : Int32)) = (0 : Int32) then (0 : Int32) else (1 : Int32)) = (0 : Int32) then (0 : Int32) else (1 : Int32)) = (if vg = (0 : Int32) then (0 : Int32) else (1 : Int32))
    · --
     refine XS.icmpNo X1080.here hx rfl (hb hby at_263) rfl (teq hc1082).2 ?_
     show sM T1080 266 (oF p0 p1 p2 vh c0 c1 c2 c3 c4 (0 : Int32) (3 : Int32) (rv x) (rv wR) (iv vg) (iv 0) (iv (if vg = (0 : Int32) then (0 : Int32) else (1 : Int32)))) [] _
     refine XS.iconst X1080.here hx rfl (hb hby at_266) ?_
     show sM T1080 267 (oF p0 p1 p2 vh c0 c1 c2 c3 c4 (0 : Int32) (3 : Int32) (rv x) (rv wR) (iv vg) (iv 0) (iv (if vg = (0 : Int32) then (0 : Int32) else (1 : Int32)))) [(.int 1)] _
     refine XS.goto X1080.here hx rfl (pc0 := 267) (pc' := 271) rfl (hb hby at_267) (by decide) (by decide) ?_
     show sM T1080 271 (oF p0 p1 p2 vh c0 c1 c2 c3 c4 (0 : Int32) (3 : Int32) (rv x) (rv wR) (iv vg) (iv 0) (iv (if vg = (0 : Int32) then (0 : Int32) else (1 : Int32)))) [(.int 1)] _
     simp only [if_pos hc1082] at k
     exact k
    · --
     refine XS.icmpYes X1080.here hx rfl (pc0 := 263) (pc' := 270) rfl (hb hby at_263) rfl (feq hc1082).2 (by decide) (by decide) ?_
     show sM T1080 270 (oF p0 p1 p2 vh c0 c1 c2 c3 c4 (0 : Int32) (3 : Int32) (rv x) (rv wR) (iv vg) (iv 0) (iv (if vg = (0 : Int32) then (0 : Int32) else (1 : Int32)))) [] _
     refine XS.iconst X1080.here hx rfl (hb hby at_270) ?_
     show sM T1080 271 (oF p0 p1 p2 vh c0 c1 c2 c3 c4 (0 : Int32) (3 : Int32) (rv x) (rv wR) (iv vg) (iv 0) (iv (if vg = (0 : Int32) then (0 : Int32) else (1 : Int32)))) [(.int 0)] _
     simp only [if_neg hc1082] at k
     exact k
   show gM T1080 271 (oF p0 p1 p2 vh c0 c1 c2 c3 c4 (0 : Int32) (3 : Int32) (rv x) (rv wR) (iv vg) (iv 0) (iv (if vg = (0 : Int32) then (0 : Int32) else (1 : Int32)))) [(.int (if (if (if (own_n3 (c0.toInt8.toInt32) (c1.toInt8.toInt32) (c2.toInt8.toInt32) (71 : Int32) (69 : Int32) (84 : Int32)) = (0 : Int32) then (0 : Int32) else (1 : Int32)) = (0 : Int32) then (0 : Int32) else (1 : Int32)) = (if vg = (0 : Int32) then (0 : Int32) else (1 : Int32)) then (1 : Int32) else (0 : Int32)))]
   refine own_retLW X1080 S1080 (Nat.le_refl _) hx hlk Bd.returns (hb hby at_271) (?_ : (if (if (if (own_n3 (c0.toInt8.toInt32) (c1.toInt8.toInt32) (c2.toInt8.toInt32) (71 : Int32) (69 : Int32) (84 : Int32)) = (0 : Int32) then (0 : Int32) else (1 : Int32)) = (0 : Int32) then (0 : Int32) else (1 : Int32)) = (if vg = (0 : Int32) then (0 : Int32) else (1 : Int32)) then (1 : Int32) else (0 : Int32)) = 1) N1080 (by decide) (by decide)
   exact (by subst hv_vg; simp only [own_n3, own_bq (w := (71 : Int32)) f1041_0 hle0 (by decide) (by decide), own_bq (w := (69 : Int32)) f1042_0 hle1 (by decide) (by decide), own_bq (w := (84 : Int32)) f1043_0 hle2 (by decide) (by decide)]; (by_cases q0 : c0 = (71 : Int32) <;> by_cases q1 : c1 = (69 : Int32) <;> by_cases q2 : c2 = (84 : Int32)) <;> (first | (simp [q0, q1, q2]; done) | (simp [q0, q1, q2]; decide)))
  have J4 : ∀ {Tj : State} {Hj : Heap} {Lj : List Loc} {vj : Vm} {kj : Nat} {Ts : List String} (Xj : Stand p l e room_1 (s.setVm vj) m #[(.int p0), (.long p1), (.int p2)] below meth c Tj Lj 4 24) (ej : Tj.heap = Hj) (Nj : Fr n0 Lj) (Sj : s.Since vj kj) (kkj : kj ≤ Hj.size) (Ij : IB Z vj Ts) (hZ : Z.Warmed39 (s.setVm vj).vm) (hown : (s.setVm vj).vm.findClass "com/example/noctule/noctule/server/TokenScopeTakesPinLaw" = some m.cls) (Kj : Keep h0 Hj []) (x : Addr) (bv : Addr) (kb : ClassId) (Ex : Exa Z Hj x "java/lang/String") (Fc : Fld Z Hj x "java/lang/String" "coder" "B" (.int 0)) (Fv : Fld Z Hj x "java/lang/String" "value" "[B" (.ref bv)) (Vb : Arv Z Hj bv kb .byte (4 : Int32) (([(c0.toInt8.toInt32), (c1.toInt8.toInt32), (c2.toInt8.toInt32), (c3.toInt8.toInt32)] : List Int32).map Value.int) (Value.int 0)) (hle0 : ¬ (255 : Int32) < c0) (hle1 : ¬ (255 : Int32) < c1) (hle2 : ¬ (255 : Int32) < c2) (hle3 : ¬ (255 : Int32) < c3) (hnG : "GET" ∉ Ts) (hnH : "HEAD" ∉ Ts), gS p e below (own_FinL s (own_Q0 n0) 24 3200) (Tj.setTop (mkF m 139 (oF p0 p1 p2 vh c0 c1 c2 c3 c4 (0 : Int32) (4 : Int32) uN uN uN uN uN) [(.ref x)])) := by
   intro Tj Hj Lj vj kj Ts Xj ej Nj Sj kkj Ij hZ hown Kj x bv kb Ex Fc Fv Vb hle0 hle1 hle2 hle3 hnG hnH
   show gM Tj 139 (oF p0 p1 p2 vh c0 c1 c2 c3 c4 (0 : Int32) (4 : Int32) uN uN uN uN uN) [(.ref x)]
   refine sT (fun t k => XS.astore Xj.here hx rfl (hb hby at_139) rfl rfl (l' := (oF p0 p1 p2 vh c0 c1 c2 c3 c4 (0 : Int32) (4 : Int32) (rv x) uN uN uN uN)) rfl k) ?_
   show gM Tj 141 (oF p0 p1 p2 vh c0 c1 c2 c3 c4 (0 : Int32) (4 : Int32) (rv x) uN uN uN uN) []
   refine sT (fun t k => XS.iload Xj.here hx rfl (hb hby at_141) rfl k) ?_
   show gM Tj 143 (oF p0 p1 p2 vh c0 c1 c2 c3 c4 (0 : Int32) (4 : Int32) (rv x) uN uN uN uN) [(.int 0)]
   have hc1083 : (0 : Int32) = (0 : Int32) := rfl
   refine sT (fun t k => XS.ifYes Xj.here hx rfl (pc0 := 143) (pc' := 152) rfl (hb hby at_143) rfl ((if0 _ _).trans (teq hc1083).1) (by decide) (by decide) k) ?_
   show gM Tj 152 (oF p0 p1 p2 vh c0 c1 c2 c3 c4 (0 : Int32) (4 : Int32) (rv x) uN uN uN uN) []
   obtain ⟨T1084, X1084, e1084, st1084⟩ := getS2 Xj hx hZ hown (host := "") (Or.inl w34) Via.refl ej (S_READ.ext (O0.keep Kj all0).2) (g := (mkF m 152 (oF p0 p1 p2 vh c0 c1 c2 c3 c4 (0 : Int32) (4 : Int32) (rv x) uN uN uN uN) [])) rfl (hb hby at_152)
   refine sT st1084 ?_
   show gM T1084 155 (oF p0 p1 p2 vh c0 c1 c2 c3 c4 (0 : Int32) (4 : Int32) (rv x) uN uN uN uN) [(.ref wR)]
   refine sT (fun t k => XS.astore X1084.here hx rfl (hb hby at_155) rfl rfl (l' := (oF p0 p1 p2 vh c0 c1 c2 c3 c4 (0 : Int32) (4 : Int32) (rv x) (rv wR) uN uN uN)) rfl k) ?_
   show gM T1084 157 (oF p0 p1 p2 vh c0 c1 c2 c3 c4 (0 : Int32) (4 : Int32) (rv x) (rv wR) uN uN uN) []
   refine sT (fun t k => XS.iload X1084.here hx rfl (hb hby at_157) rfl k) ?_
   show gM T1084 159 (oF p0 p1 p2 vh c0 c1 c2 c3 c4 (0 : Int32) (4 : Int32) (rv x) (rv wR) uN uN uN) [(.int 4)]
   refine sT (fun t k => XS.iconst X1084.here hx rfl (hb hby at_159) k) ?_
   show gM T1084 160 (oF p0 p1 p2 vh c0 c1 c2 c3 c4 (0 : Int32) (4 : Int32) (rv x) (rv wR) uN uN uN) [(.int 3), (.int 4)]
   have hc1085 : ¬ ((4 : Int32) = (3 : Int32)) := by decide
   refine sT (fun t k => XS.icmpYes X1084.here hx rfl (pc0 := 160) (pc' := 188) rfl (hb hby at_160) rfl (feq hc1085).2 (by decide) (by decide) k) ?_
   show gM T1084 188 (oF p0 p1 p2 vh c0 c1 c2 c3 c4 (0 : Int32) (4 : Int32) (rv x) (rv wR) uN uN uN) []
   refine sT (fun t k => XS.iconst X1084.here hx rfl (hb hby at_188) k) ?_
   show gM T1084 189 (oF p0 p1 p2 vh c0 c1 c2 c3 c4 (0 : Int32) (4 : Int32) (rv x) (rv wR) uN uN uN) [(.int 0)]
   refine sT (fun t k => XS.istore X1084.here hx rfl (hb hby at_189) rfl (l' := (oF p0 p1 p2 vh c0 c1 c2 c3 c4 (0 : Int32) (4 : Int32) (rv x) (rv wR) (iv 0) uN uN)) rfl k) ?_
   show gM T1084 191 (oF p0 p1 p2 vh c0 c1 c2 c3 c4 (0 : Int32) (4 : Int32) (rv x) (rv wR) (iv 0) uN uN) []
   refine sT (fun t k => XS.iload X1084.here hx rfl (hb hby at_191) rfl k) ?_
   show gM T1084 193 (oF p0 p1 p2 vh c0 c1 c2 c3 c4 (0 : Int32) (4 : Int32) (rv x) (rv wR) (iv 0) uN uN) [(.int 4)]
   refine sT (fun t k => XS.iconst X1084.here hx rfl (hb hby at_193) k) ?_
   show gM T1084 194 (oF p0 p1 p2 vh c0 c1 c2 c3 c4 (0 : Int32) (4 : Int32) (rv x) (rv wR) (iv 0) uN uN) [(.int 4), (.int 4)]
   have hc1086 : (4 : Int32) = (4 : Int32) := rfl
   refine sT (fun t k => XS.icmpNo X1084.here hx rfl (hb hby at_194) rfl (teq hc1086).2 k) ?_
   show gM T1084 197 (oF p0 p1 p2 vh c0 c1 c2 c3 c4 (0 : Int32) (4 : Int32) (rv x) (rv wR) (iv 0) uN uN) []
   refine sT (fun t k => XS.iload X1084.here hx rfl (hb hby at_197) rfl k) ?_
   show gM T1084 199 (oF p0 p1 p2 vh c0 c1 c2 c3 c4 (0 : Int32) (4 : Int32) (rv x) (rv wR) (iv 0) uN uN) [(.int c0)]
   refine sT (fun t k => XS.bipush X1084.here hx rfl (hb hby at_199) k) ?_
   show gM T1084 201 (oF p0 p1 p2 vh c0 c1 c2 c3 c4 (0 : Int32) (4 : Int32) (rv x) (rv wR) (iv 0) uN uN) [(.int 72), (.int c0)]
   refine sT (S' := T1084.setTop (mkF m 230 (oF p0 p1 p2 vh c0 c1 c2 c3 c4 (0 : Int32) (4 : Int32) (rv x) (rv wR) (iv 0) uN uN) [(.int (if c0 = (72 : Int32) then (if c1 = (69 : Int32) then (if c2 = (65 : Int32) then (if c3 = (68 : Int32) then (1 : Int32) else (0 : Int32)) else (0 : Int32)) else (0 : Int32)) else (0 : Int32)))])) (fun t k => ?_) ?_
   · --
    show sM T1084 201 (oF p0 p1 p2 vh c0 c1 c2 c3 c4 (0 : Int32) (4 : Int32) (rv x) (rv wR) (iv 0) uN uN) [(.int 72), (.int c0)] _
    by_cases hc1087 : c0 = (72 : Int32)
    · --
     refine XS.icmpNo X1084.here hx rfl (hb hby at_201) rfl (teq hc1087).2 ?_
     show sM T1084 204 (oF p0 p1 p2 vh c0 c1 c2 c3 c4 (0 : Int32) (4 : Int32) (rv x) (rv wR) (iv 0) uN uN) [] _
     refine XS.iload X1084.here hx rfl (hb hby at_204) rfl ?_
     show sM T1084 206 (oF p0 p1 p2 vh c0 c1 c2 c3 c4 (0 : Int32) (4 : Int32) (rv x) (rv wR) (iv 0) uN uN) [(.int c1)] _
     refine XS.bipush X1084.here hx rfl (hb hby at_206) ?_
     show sM T1084 208 (oF p0 p1 p2 vh c0 c1 c2 c3 c4 (0 : Int32) (4 : Int32) (rv x) (rv wR) (iv 0) uN uN) [(.int 69), (.int c1)] _
     by_cases hc1088 : c1 = (69 : Int32)
     · --
      refine XS.icmpNo X1084.here hx rfl (hb hby at_208) rfl (teq hc1088).2 ?_
      show sM T1084 211 (oF p0 p1 p2 vh c0 c1 c2 c3 c4 (0 : Int32) (4 : Int32) (rv x) (rv wR) (iv 0) uN uN) [] _
      refine XS.iload X1084.here hx rfl (hb hby at_211) rfl ?_
      show sM T1084 213 (oF p0 p1 p2 vh c0 c1 c2 c3 c4 (0 : Int32) (4 : Int32) (rv x) (rv wR) (iv 0) uN uN) [(.int c2)] _
      refine XS.bipush X1084.here hx rfl (hb hby at_213) ?_
      show sM T1084 215 (oF p0 p1 p2 vh c0 c1 c2 c3 c4 (0 : Int32) (4 : Int32) (rv x) (rv wR) (iv 0) uN uN) [(.int 65), (.int c2)] _
      by_cases hc1089 : c2 = (65 : Int32)
      · --
       refine XS.icmpNo X1084.here hx rfl (hb hby at_215) rfl (teq hc1089).2 ?_
       show sM T1084 218 (oF p0 p1 p2 vh c0 c1 c2 c3 c4 (0 : Int32) (4 : Int32) (rv x) (rv wR) (iv 0) uN uN) [] _
       refine XS.iload X1084.here hx rfl (hb hby at_218) rfl ?_
       show sM T1084 220 (oF p0 p1 p2 vh c0 c1 c2 c3 c4 (0 : Int32) (4 : Int32) (rv x) (rv wR) (iv 0) uN uN) [(.int c3)] _
       refine XS.bipush X1084.here hx rfl (hb hby at_220) ?_
       show sM T1084 222 (oF p0 p1 p2 vh c0 c1 c2 c3 c4 (0 : Int32) (4 : Int32) (rv x) (rv wR) (iv 0) uN uN) [(.int 68), (.int c3)] _
       by_cases hc1090 : c3 = (68 : Int32)
       · --
        refine XS.icmpNo X1084.here hx rfl (hb hby at_222) rfl (teq hc1090).2 ?_
        show sM T1084 225 (oF p0 p1 p2 vh c0 c1 c2 c3 c4 (0 : Int32) (4 : Int32) (rv x) (rv wR) (iv 0) uN uN) [] _
        refine XS.iconst X1084.here hx rfl (hb hby at_225) ?_
        show sM T1084 226 (oF p0 p1 p2 vh c0 c1 c2 c3 c4 (0 : Int32) (4 : Int32) (rv x) (rv wR) (iv 0) uN uN) [(.int 1)] _
        refine XS.goto X1084.here hx rfl (pc0 := 226) (pc' := 230) rfl (hb hby at_226) (by decide) (by decide) ?_
        show sM T1084 230 (oF p0 p1 p2 vh c0 c1 c2 c3 c4 (0 : Int32) (4 : Int32) (rv x) (rv wR) (iv 0) uN uN) [(.int 1)] _
        simp only [if_pos hc1087, if_pos hc1088, if_pos hc1089, if_pos hc1090] at k
        exact k
       · --
        refine XS.icmpYes X1084.here hx rfl (pc0 := 222) (pc' := 229) rfl (hb hby at_222) rfl (feq hc1090).2 (by decide) (by decide) ?_
        show sM T1084 229 (oF p0 p1 p2 vh c0 c1 c2 c3 c4 (0 : Int32) (4 : Int32) (rv x) (rv wR) (iv 0) uN uN) [] _
        refine XS.iconst X1084.here hx rfl (hb hby at_229) ?_
        show sM T1084 230 (oF p0 p1 p2 vh c0 c1 c2 c3 c4 (0 : Int32) (4 : Int32) (rv x) (rv wR) (iv 0) uN uN) [(.int 0)] _
        simp only [if_pos hc1087, if_pos hc1088, if_pos hc1089, if_neg hc1090] at k
        exact k
      · --
       refine XS.icmpYes X1084.here hx rfl (pc0 := 215) (pc' := 229) rfl (hb hby at_215) rfl (feq hc1089).2 (by decide) (by decide) ?_
       show sM T1084 229 (oF p0 p1 p2 vh c0 c1 c2 c3 c4 (0 : Int32) (4 : Int32) (rv x) (rv wR) (iv 0) uN uN) [] _
       refine XS.iconst X1084.here hx rfl (hb hby at_229) ?_
       show sM T1084 230 (oF p0 p1 p2 vh c0 c1 c2 c3 c4 (0 : Int32) (4 : Int32) (rv x) (rv wR) (iv 0) uN uN) [(.int 0)] _
       simp only [if_pos hc1087, if_pos hc1088, if_neg hc1089] at k
       exact k
     · --
      refine XS.icmpYes X1084.here hx rfl (pc0 := 208) (pc' := 229) rfl (hb hby at_208) rfl (feq hc1088).2 (by decide) (by decide) ?_
      show sM T1084 229 (oF p0 p1 p2 vh c0 c1 c2 c3 c4 (0 : Int32) (4 : Int32) (rv x) (rv wR) (iv 0) uN uN) [] _
      refine XS.iconst X1084.here hx rfl (hb hby at_229) ?_
      show sM T1084 230 (oF p0 p1 p2 vh c0 c1 c2 c3 c4 (0 : Int32) (4 : Int32) (rv x) (rv wR) (iv 0) uN uN) [(.int 0)] _
      simp only [if_pos hc1087, if_neg hc1088] at k
      exact k
    · --
     refine XS.icmpYes X1084.here hx rfl (pc0 := 201) (pc' := 229) rfl (hb hby at_201) rfl (feq hc1087).2 (by decide) (by decide) ?_
     show sM T1084 229 (oF p0 p1 p2 vh c0 c1 c2 c3 c4 (0 : Int32) (4 : Int32) (rv x) (rv wR) (iv 0) uN uN) [] _
     refine XS.iconst X1084.here hx rfl (hb hby at_229) ?_
     show sM T1084 230 (oF p0 p1 p2 vh c0 c1 c2 c3 c4 (0 : Int32) (4 : Int32) (rv x) (rv wR) (iv 0) uN uN) [(.int 0)] _
     simp only [if_neg hc1087] at k
     exact k
   show gM T1084 230 (oF p0 p1 p2 vh c0 c1 c2 c3 c4 (0 : Int32) (4 : Int32) (rv x) (rv wR) (iv 0) uN uN) [(.int (if c0 = (72 : Int32) then (if c1 = (69 : Int32) then (if c2 = (65 : Int32) then (if c3 = (68 : Int32) then (1 : Int32) else (0 : Int32)) else (0 : Int32)) else (0 : Int32)) else (0 : Int32)))]
   refine sT (fun t k => XS.istore X1084.here hx rfl (hb hby at_230) rfl (l' := (oF p0 p1 p2 vh c0 c1 c2 c3 c4 (0 : Int32) (4 : Int32) (rv x) (rv wR) (iv 0) (iv (if c0 = (72 : Int32) then (if c1 = (69 : Int32) then (if c2 = (65 : Int32) then (if c3 = (68 : Int32) then (1 : Int32) else (0 : Int32)) else (0 : Int32)) else (0 : Int32)) else (0 : Int32))) uN)) rfl k) ?_
   show gM T1084 232 (oF p0 p1 p2 vh c0 c1 c2 c3 c4 (0 : Int32) (4 : Int32) (rv x) (rv wR) (iv 0) (iv (if c0 = (72 : Int32) then (if c1 = (69 : Int32) then (if c2 = (65 : Int32) then (if c3 = (68 : Int32) then (1 : Int32) else (0 : Int32)) else (0 : Int32)) else (0 : Int32)) else (0 : Int32))) uN) []
   generalize hv_vk : (if c0 = (72 : Int32) then (if c1 = (69 : Int32) then (if c2 = (65 : Int32) then (if c3 = (68 : Int32) then (1 : Int32) else (0 : Int32)) else (0 : Int32)) else (0 : Int32)) else (0 : Int32)) = vk
   refine sT (fun t k => XS.iload X1084.here hx rfl (hb hby at_232) rfl k) ?_
   show gM T1084 234 (oF p0 p1 p2 vh c0 c1 c2 c3 c4 (0 : Int32) (4 : Int32) (rv x) (rv wR) (iv 0) (iv vk) uN) [(.int 0)]
   have hc1091 : (0 : Int32) = (0 : Int32) := rfl
   refine sT (fun t k => XS.ifNo X1084.here hx rfl (hb hby at_234) rfl ((if0 _ _).trans (teq hc1091).2) k) ?_
   show gM T1084 237 (oF p0 p1 p2 vh c0 c1 c2 c3 c4 (0 : Int32) (4 : Int32) (rv x) (rv wR) (iv 0) (iv vk) uN) []
   refine sT (fun t k => XS.iload X1084.here hx rfl (hb hby at_237) rfl k) ?_
   show gM T1084 239 (oF p0 p1 p2 vh c0 c1 c2 c3 c4 (0 : Int32) (4 : Int32) (rv x) (rv wR) (iv 0) (iv vk) uN) [(.int 0)]
   have hc1092 : (0 : Int32) = (0 : Int32) := rfl
   refine sT (fun t k => XS.ifNo X1084.here hx rfl (hb hby at_239) rfl ((if0 _ _).trans (teq hc1092).2) k) ?_
   show gM T1084 242 (oF p0 p1 p2 vh c0 c1 c2 c3 c4 (0 : Int32) (4 : Int32) (rv x) (rv wR) (iv 0) (iv vk) uN) []
   refine sT (fun t k => XS.iload X1084.here hx rfl (hb hby at_242) rfl k) ?_
   show gM T1084 244 (oF p0 p1 p2 vh c0 c1 c2 c3 c4 (0 : Int32) (4 : Int32) (rv x) (rv wR) (iv 0) (iv vk) uN) [(.int vk)]
   refine sT (S' := T1084.setTop (mkF m 252 (oF p0 p1 p2 vh c0 c1 c2 c3 c4 (0 : Int32) (4 : Int32) (rv x) (rv wR) (iv 0) (iv vk) uN) [(.int (if vk = (0 : Int32) then (0 : Int32) else (1 : Int32)))])) (fun t k => ?_) ?_
   · --
    show sM T1084 244 (oF p0 p1 p2 vh c0 c1 c2 c3 c4 (0 : Int32) (4 : Int32) (rv x) (rv wR) (iv 0) (iv vk) uN) [(.int vk)] _
    by_cases hc1093 : vk = (0 : Int32)
    · --
     refine XS.ifYes X1084.here hx rfl (pc0 := 244) (pc' := 251) rfl (hb hby at_244) rfl ((if0 _ _).trans (teq hc1093).1) (by decide) (by decide) ?_
     show sM T1084 251 (oF p0 p1 p2 vh c0 c1 c2 c3 c4 (0 : Int32) (4 : Int32) (rv x) (rv wR) (iv 0) (iv vk) uN) [] _
     refine XS.iconst X1084.here hx rfl (hb hby at_251) ?_
     show sM T1084 252 (oF p0 p1 p2 vh c0 c1 c2 c3 c4 (0 : Int32) (4 : Int32) (rv x) (rv wR) (iv 0) (iv vk) uN) [(.int 0)] _
     simp only [if_pos hc1093] at k
     exact k
    · --
     refine XS.ifNo X1084.here hx rfl (hb hby at_244) rfl ((if0 _ _).trans (feq hc1093).1) ?_
     show sM T1084 247 (oF p0 p1 p2 vh c0 c1 c2 c3 c4 (0 : Int32) (4 : Int32) (rv x) (rv wR) (iv 0) (iv vk) uN) [] _
     refine XS.iconst X1084.here hx rfl (hb hby at_247) ?_
     show sM T1084 248 (oF p0 p1 p2 vh c0 c1 c2 c3 c4 (0 : Int32) (4 : Int32) (rv x) (rv wR) (iv 0) (iv vk) uN) [(.int 1)] _
     refine XS.goto X1084.here hx rfl (pc0 := 248) (pc' := 252) rfl (hb hby at_248) (by decide) (by decide) ?_
     show sM T1084 252 (oF p0 p1 p2 vh c0 c1 c2 c3 c4 (0 : Int32) (4 : Int32) (rv x) (rv wR) (iv 0) (iv vk) uN) [(.int 1)] _
     simp only [if_neg hc1093] at k
     exact k
   show gM T1084 252 (oF p0 p1 p2 vh c0 c1 c2 c3 c4 (0 : Int32) (4 : Int32) (rv x) (rv wR) (iv 0) (iv vk) uN) [(.int (if vk = (0 : Int32) then (0 : Int32) else (1 : Int32)))]
   refine sT (fun t k => XS.istore X1084.here hx rfl (hb hby at_252) rfl (l' := (oF p0 p1 p2 vh c0 c1 c2 c3 c4 (0 : Int32) (4 : Int32) (rv x) (rv wR) (iv 0) (iv vk) (iv (if vk = (0 : Int32) then (0 : Int32) else (1 : Int32))))) rfl k) ?_
   show gM T1084 254 (oF p0 p1 p2 vh c0 c1 c2 c3 c4 (0 : Int32) (4 : Int32) (rv x) (rv wR) (iv 0) (iv vk) (iv (if vk = (0 : Int32) then (0 : Int32) else (1 : Int32)))) []
   refine sT (fun t k => XS.aload X1084.here hx rfl (hb hby at_254) rfl rfl k) ?_
   show gM T1084 256 (oF p0 p1 p2 vh c0 c1 c2 c3 c4 (0 : Int32) (4 : Int32) (rv x) (rv wR) (iv 0) (iv vk) (iv (if vk = (0 : Int32) then (0 : Int32) else (1 : Int32)))) [(.ref wR)]
   refine sT (fun t k => XS.aload X1084.here hx rfl (hb hby at_256) rfl rfl k) ?_
   show gM T1084 258 (oF p0 p1 p2 vh c0 c1 c2 c3 c4 (0 : Int32) (4 : Int32) (rv x) (rv wR) (iv 0) (iv vk) (iv (if vk = (0 : Int32) then (0 : Int32) else (1 : Int32)))) [(.ref x), (.ref wR)]
   obtain ⟨cq1094, kq1094, q1094a, q1094b, q1094c⟩ := isOf hZ e1084 (E_wR.keep Kj)
   obtain ⟨_, _, ⟨T1094, L1094, k1094, n1094⟩, -, X1094, q21094, gr1094, ⟨Lc1094, ⟨hQ1094, I1094⟩, l1094, y1094, z1094⟩, st1094⟩ := X1084.virtualBackS hx (y := mN15) (z := mN15) hown (mvT hZ w37) (mvT hZ w38) (notFace_of_selects (args := #[]) (mvT hZ w40)) (mvT hZ w40) (mvT hZ w39) (by decide) (own_backW (W := 0) (own_t4 l Z a0 hw [] wR x (wW) (cs) (Ts) (bv) ((c0.toInt8.toInt32)) ((c1.toInt8.toInt32)) ((c2.toInt8.toInt32)) ((c3.toInt8.toInt32)) (kb) Hj Hj.size (Nat.le_refl _) S_WRITE (O0.keep Kj all0).2.1 (O0.keep Kj all0).2 ne_wR_wW Ex S_COMPACT_STRINGS hcs hk41 hk49 hcw hnG hnH (rfl) Fc Fv Vb) hZ w41 w35 (by decide) (by decide)) q1094a q1094c (g := (mkF m 258 (oF p0 p1 p2 vh c0 c1 c2 c3 c4 (0 : Int32) (4 : Int32) (rv x) (rv wR) (iv 0) (iv vk) (iv (if vk = (0 : Int32) then (0 : Int32) else (1 : Int32)))) [(.ref x), (.ref wR)])) rfl (by rw [hml]; rfl) (Steps.refl _) (argsL := [(.ref x)]) (rest := []) (lenOf own_pd13 rfl) rfl (by show 2 * 0 + _ ≤ _; exact Nat.le_of_eq rfl) (hb hby at_258) (fun _ hWq => ⟨rfl, e1084, own_ibH (s := s.setVm vj) Ij hWq, (by decide : 4 + 4 ≤ _), (by decide : 24 + 36 ≤ _)⟩)
   dsimp only [Pt.U, Pt.locs, Pt.cells, Pt.slots] at X1094 l1094 y1094 z1094 st1094 hQ1094 q21094 gr1094 I1094
   subst y1094 z1094
   obtain ⟨X1094, S1094, hZ, hown⟩ := rebS Sj (by rw [e1084]; exact kkj) X1094 q21094 gr1094 hZ hown
   obtain ⟨rfl, N1094q, K1094c⟩ := hQ1094
   have N1094 : Fr n0 L1094 := by rw [l1094]; exact Fr.app Nj (fun yq hyq => Nat.le_trans (Nat.le_trans Z0 Kj.1) (N1094q yq hyq))
   refine own_jump st1094 ?_
   have K1095 : Keep h0 T1094.heap [] := Kj.trans K1094c all0
   show gM T1094 261 (oF p0 p1 p2 vh c0 c1 c2 c3 c4 (0 : Int32) (4 : Int32) (rv x) (rv wR) (iv 0) (iv vk) (iv (if vk = (0 : Int32) then (0 : Int32) else (1 : Int32)))) [(.int (if (if (own_n4 (c0.toInt8.toInt32) (c1.toInt8.toInt32) (c2.toInt8.toInt32) (c3.toInt8.toInt32) (72 : Int32) (69 : Int32) (65 : Int32) (68 : Int32)) = (0 : Int32) then (0 : Int32) else (1 : Int32)) = (0 : Int32) then (0 : Int32) else (1 : Int32)))]
   refine sT (fun t k => XS.iload X1094.here hx rfl (hb hby at_261) rfl k) ?_
   show gM T1094 263 (oF p0 p1 p2 vh c0 c1 c2 c3 c4 (0 : Int32) (4 : Int32) (rv x) (rv wR) (iv 0) (iv vk) (iv (if vk = (0 : Int32) then (0 : Int32) else (1 : Int32)))) [(.int (if vk = (0 : Int32) then (0 : Int32) else (1 : Int32))), (.int (if (if (own_n4 (c0.toInt8.toInt32) (c1.toInt8.toInt32) (c2.toInt8.toInt32) (c3.toInt8.toInt32) (72 : Int32) (69 : Int32) (65 : Int32) (68 : Int32)) = (0 : Int32) then (0 : Int32) else (1 : Int32)) = (0 : Int32) then (0 : Int32) else (1 : Int32)))]
   refine sT (S' := T1094.setTop (mkF m 271 (oF p0 p1 p2 vh c0 c1 c2 c3 c4 (0 : Int32) (4 : Int32) (rv x) (rv wR) (iv 0) (iv vk) (iv (if vk = (0 : Int32) then (0 : Int32) else (1 : Int32)))) [(.int (if (if (if (own_n4 (c0.toInt8.toInt32) (c1.toInt8.toInt32) (c2.toInt8.toInt32) (c3.toInt8.toInt32) (72 : Int32) (69 : Int32) (65 : Int32) (68 : Int32)) = (0 : Int32) then (0 : Int32) else (1 : Int32)) = (0 : Int32) then (0 : Int32) else (1 : Int32)) = (if vk = (0 : Int32) then (0 : Int32) else (1 : Int32)) then (1 : Int32) else (0 : Int32)))])) (fun t k => ?_) ?_
   · --
    show sM T1094 263 (oF p0 p1 p2 vh c0 c1 c2 c3 c4 (0 : Int32) (4 : Int32) (rv x) (rv wR) (iv 0) (iv vk) (iv (if vk = (0 : Int32) then (0 : Int32) else (1 : Int32)))) [(.int (if vk = (0 : Int32) then (0 : Int32) else (1 : Int32))), (.int (if (if (own_n4 (c0.toInt8.toInt32) (c1.toInt8.toInt32) (c2.toInt8.toInt32) (c3.toInt8.toInt32) (72 : Int32) (69 : Int32) (65 : Int32) (68 : Int32)) = (0 : Int32) then (0 : Int32) else (1 : Int32)) = (0 : Int32) then (0 : Int32) else (1 : Int32)))] _
    by_cases hc1096 : (if (if (own_n4 (c0.toInt8.toInt32) (c1.toInt8.toInt32) (c2.toInt8.toInt32) (c3.toInt8.toInt32) (72 : Int32) (69 : Int32) (65 : Int32) (68 : Int32)) = (0 : Int32) then (0 : Int32) else (1 : Int32)) = (0 : Int32) then (0 : Int32) else (1 : Int32)) = (if vk = (0 : Int32) then (0 : Int32) else (1 : Int32))
    · --
     refine XS.icmpNo X1094.here hx rfl (hb hby at_263) rfl (teq hc1096).2 ?_
     show sM T1094 266 (oF p0 p1 p2 vh c0 c1 c2 c3 c4 (0 : Int32) (4 : Int32) (rv x) (rv wR) (iv 0) (iv vk) (iv (if vk = (0 : Int32) then (0 : Int32) else (1 : Int32)))) [] _
     refine XS.iconst X1094.here hx rfl (hb hby at_266) ?_
     show sM T1094 267 (oF p0 p1 p2 vh c0 c1 c2 c3 c4 (0 : Int32) (4 : Int32) (rv x) (rv wR) (iv 0) (iv vk) (iv (if vk = (0 : Int32) then (0 : Int32) else (1 : Int32)))) [(.int 1)] _
     refine XS.goto X1094.here hx rfl (pc0 := 267) (pc' := 271) rfl (hb hby at_267) (by decide) (by decide) ?_
     show sM T1094 271 (oF p0 p1 p2 vh c0 c1 c2 c3 c4 (0 : Int32) (4 : Int32) (rv x) (rv wR) (iv 0) (iv vk) (iv (if vk = (0 : Int32) then (0 : Int32) else (1 : Int32)))) [(.int 1)] _
     simp only [if_pos hc1096] at k
     exact k
    · --
     refine XS.icmpYes X1094.here hx rfl (pc0 := 263) (pc' := 270) rfl (hb hby at_263) rfl (feq hc1096).2 (by decide) (by decide) ?_
     show sM T1094 270 (oF p0 p1 p2 vh c0 c1 c2 c3 c4 (0 : Int32) (4 : Int32) (rv x) (rv wR) (iv 0) (iv vk) (iv (if vk = (0 : Int32) then (0 : Int32) else (1 : Int32)))) [] _
     refine XS.iconst X1094.here hx rfl (hb hby at_270) ?_
     show sM T1094 271 (oF p0 p1 p2 vh c0 c1 c2 c3 c4 (0 : Int32) (4 : Int32) (rv x) (rv wR) (iv 0) (iv vk) (iv (if vk = (0 : Int32) then (0 : Int32) else (1 : Int32)))) [(.int 0)] _
     simp only [if_neg hc1096] at k
     exact k
   show gM T1094 271 (oF p0 p1 p2 vh c0 c1 c2 c3 c4 (0 : Int32) (4 : Int32) (rv x) (rv wR) (iv 0) (iv vk) (iv (if vk = (0 : Int32) then (0 : Int32) else (1 : Int32)))) [(.int (if (if (if (own_n4 (c0.toInt8.toInt32) (c1.toInt8.toInt32) (c2.toInt8.toInt32) (c3.toInt8.toInt32) (72 : Int32) (69 : Int32) (65 : Int32) (68 : Int32)) = (0 : Int32) then (0 : Int32) else (1 : Int32)) = (0 : Int32) then (0 : Int32) else (1 : Int32)) = (if vk = (0 : Int32) then (0 : Int32) else (1 : Int32)) then (1 : Int32) else (0 : Int32)))]
   refine own_retLW X1094 S1094 (Nat.le_refl _) hx hlk Bd.returns (hb hby at_271) (?_ : (if (if (if (own_n4 (c0.toInt8.toInt32) (c1.toInt8.toInt32) (c2.toInt8.toInt32) (c3.toInt8.toInt32) (72 : Int32) (69 : Int32) (65 : Int32) (68 : Int32)) = (0 : Int32) then (0 : Int32) else (1 : Int32)) = (0 : Int32) then (0 : Int32) else (1 : Int32)) = (if vk = (0 : Int32) then (0 : Int32) else (1 : Int32)) then (1 : Int32) else (0 : Int32)) = 1) N1094 (by decide) (by decide)
   exact (by subst hv_vk; simp only [own_n4, own_bq (w := (72 : Int32)) f1041_0 hle0 (by decide) (by decide), own_bq (w := (69 : Int32)) f1042_0 hle1 (by decide) (by decide), own_bq (w := (65 : Int32)) f1043_0 hle2 (by decide) (by decide), own_bq (w := (68 : Int32)) f1044_0 hle3 (by decide) (by decide)]; (by_cases q0 : c0 = (72 : Int32) <;> by_cases q1 : c1 = (69 : Int32) <;> by_cases q2 : c2 = (65 : Int32) <;> by_cases q3 : c3 = (68 : Int32)) <;> (first | (simp [q0, q1, q2, q3]; done) | (simp [q0, q1, q2, q3]; decide)))
  have J1 : ∀ {Tj : State} {Hj : Heap} {Lj : List Loc} {vj : Vm} {kj : Nat} {Ts : List String} (Xj : Stand p l e room_1 (s.setVm vj) m #[(.int p0), (.long p1), (.int p2)] below meth c Tj Lj 4 24) (ej : Tj.heap = Hj) (Nj : Fr n0 Lj) (Sj : s.Since vj kj) (kkj : kj ≤ Hj.size) (Ij : IB Z vj Ts) (hZ : Z.Warmed39 (s.setVm vj).vm) (hown : (s.setVm vj).vm.findClass "com/example/noctule/noctule/server/TokenScopeTakesPinLaw" = some m.cls) (Kj : Keep h0 Hj []) (x : Addr) (nj : Int32) (Ex : Exa Z Hj x "java/lang/String") (Fc : Fld Z Hj x "java/lang/String" "coder" "B" (.int 1)) (hn3 : ¬ nj = (3 : Int32)) (hn4 : ¬ nj = (4 : Int32)) (hnG : "GET" ∉ Ts) (hnH : "HEAD" ∉ Ts), gS p e below (own_FinL s (own_Q0 n0) 24 3200) (Tj.setTop (mkF m 139 (oF p0 p1 p2 vh c0 c1 c2 c3 c4 (0 : Int32) nj uN uN uN uN uN) [(.ref x)])) := by
   intro Tj Hj Lj vj kj Ts Xj ej Nj Sj kkj Ij hZ hown Kj x nj Ex Fc hn3 hn4 hnG hnH
   show gM Tj 139 (oF p0 p1 p2 vh c0 c1 c2 c3 c4 (0 : Int32) nj uN uN uN uN uN) [(.ref x)]
   refine sT (fun t k => XS.astore Xj.here hx rfl (hb hby at_139) rfl rfl (l' := (oF p0 p1 p2 vh c0 c1 c2 c3 c4 (0 : Int32) nj (rv x) uN uN uN uN)) rfl k) ?_
   show gM Tj 141 (oF p0 p1 p2 vh c0 c1 c2 c3 c4 (0 : Int32) nj (rv x) uN uN uN uN) []
   refine sT (fun t k => XS.iload Xj.here hx rfl (hb hby at_141) rfl k) ?_
   show gM Tj 143 (oF p0 p1 p2 vh c0 c1 c2 c3 c4 (0 : Int32) nj (rv x) uN uN uN uN) [(.int 0)]
   have hc1097 : (0 : Int32) = (0 : Int32) := rfl
   refine sT (fun t k => XS.ifYes Xj.here hx rfl (pc0 := 143) (pc' := 152) rfl (hb hby at_143) rfl ((if0 _ _).trans (teq hc1097).1) (by decide) (by decide) k) ?_
   show gM Tj 152 (oF p0 p1 p2 vh c0 c1 c2 c3 c4 (0 : Int32) nj (rv x) uN uN uN uN) []
   obtain ⟨T1098, X1098, e1098, st1098⟩ := getS2 Xj hx hZ hown (host := "") (Or.inl w34) Via.refl ej (S_READ.ext (O0.keep Kj all0).2) (g := (mkF m 152 (oF p0 p1 p2 vh c0 c1 c2 c3 c4 (0 : Int32) nj (rv x) uN uN uN uN) [])) rfl (hb hby at_152)
   refine sT st1098 ?_
   show gM T1098 155 (oF p0 p1 p2 vh c0 c1 c2 c3 c4 (0 : Int32) nj (rv x) uN uN uN uN) [(.ref wR)]
   refine sT (fun t k => XS.astore X1098.here hx rfl (hb hby at_155) rfl rfl (l' := (oF p0 p1 p2 vh c0 c1 c2 c3 c4 (0 : Int32) nj (rv x) (rv wR) uN uN uN)) rfl k) ?_
   show gM T1098 157 (oF p0 p1 p2 vh c0 c1 c2 c3 c4 (0 : Int32) nj (rv x) (rv wR) uN uN uN) []
   refine sT (fun t k => XS.iload X1098.here hx rfl (hb hby at_157) rfl k) ?_
   show gM T1098 159 (oF p0 p1 p2 vh c0 c1 c2 c3 c4 (0 : Int32) nj (rv x) (rv wR) uN uN uN) [(.int nj)]
   refine sT (fun t k => XS.iconst X1098.here hx rfl (hb hby at_159) k) ?_
   show gM T1098 160 (oF p0 p1 p2 vh c0 c1 c2 c3 c4 (0 : Int32) nj (rv x) (rv wR) uN uN uN) [(.int 3), (.int nj)]
   have hc1099 : ¬ (nj = (3 : Int32)) := hn3
   refine sT (fun t k => XS.icmpYes X1098.here hx rfl (pc0 := 160) (pc' := 188) rfl (hb hby at_160) rfl (feq hc1099).2 (by decide) (by decide) k) ?_
   show gM T1098 188 (oF p0 p1 p2 vh c0 c1 c2 c3 c4 (0 : Int32) nj (rv x) (rv wR) uN uN uN) []
   refine sT (fun t k => XS.iconst X1098.here hx rfl (hb hby at_188) k) ?_
   show gM T1098 189 (oF p0 p1 p2 vh c0 c1 c2 c3 c4 (0 : Int32) nj (rv x) (rv wR) uN uN uN) [(.int 0)]
   refine sT (fun t k => XS.istore X1098.here hx rfl (hb hby at_189) rfl (l' := (oF p0 p1 p2 vh c0 c1 c2 c3 c4 (0 : Int32) nj (rv x) (rv wR) (iv 0) uN uN)) rfl k) ?_
   show gM T1098 191 (oF p0 p1 p2 vh c0 c1 c2 c3 c4 (0 : Int32) nj (rv x) (rv wR) (iv 0) uN uN) []
   refine sT (fun t k => XS.iload X1098.here hx rfl (hb hby at_191) rfl k) ?_
   show gM T1098 193 (oF p0 p1 p2 vh c0 c1 c2 c3 c4 (0 : Int32) nj (rv x) (rv wR) (iv 0) uN uN) [(.int nj)]
   refine sT (fun t k => XS.iconst X1098.here hx rfl (hb hby at_193) k) ?_
   show gM T1098 194 (oF p0 p1 p2 vh c0 c1 c2 c3 c4 (0 : Int32) nj (rv x) (rv wR) (iv 0) uN uN) [(.int 4), (.int nj)]
   have hc1100 : ¬ (nj = (4 : Int32)) := hn4
   refine sT (fun t k => XS.icmpYes X1098.here hx rfl (pc0 := 194) (pc' := 229) rfl (hb hby at_194) rfl (feq hc1100).2 (by decide) (by decide) k) ?_
   show gM T1098 229 (oF p0 p1 p2 vh c0 c1 c2 c3 c4 (0 : Int32) nj (rv x) (rv wR) (iv 0) uN uN) []
   refine sT (fun t k => XS.iconst X1098.here hx rfl (hb hby at_229) k) ?_
   show gM T1098 230 (oF p0 p1 p2 vh c0 c1 c2 c3 c4 (0 : Int32) nj (rv x) (rv wR) (iv 0) uN uN) [(.int 0)]
   refine sT (fun t k => XS.istore X1098.here hx rfl (hb hby at_230) rfl (l' := (oF p0 p1 p2 vh c0 c1 c2 c3 c4 (0 : Int32) nj (rv x) (rv wR) (iv 0) (iv 0) uN)) rfl k) ?_
   show gM T1098 232 (oF p0 p1 p2 vh c0 c1 c2 c3 c4 (0 : Int32) nj (rv x) (rv wR) (iv 0) (iv 0) uN) []
   refine sT (fun t k => XS.iload X1098.here hx rfl (hb hby at_232) rfl k) ?_
   show gM T1098 234 (oF p0 p1 p2 vh c0 c1 c2 c3 c4 (0 : Int32) nj (rv x) (rv wR) (iv 0) (iv 0) uN) [(.int 0)]
   have hc1101 : (0 : Int32) = (0 : Int32) := rfl
   refine sT (fun t k => XS.ifNo X1098.here hx rfl (hb hby at_234) rfl ((if0 _ _).trans (teq hc1101).2) k) ?_
   show gM T1098 237 (oF p0 p1 p2 vh c0 c1 c2 c3 c4 (0 : Int32) nj (rv x) (rv wR) (iv 0) (iv 0) uN) []
   refine sT (fun t k => XS.iload X1098.here hx rfl (hb hby at_237) rfl k) ?_
   show gM T1098 239 (oF p0 p1 p2 vh c0 c1 c2 c3 c4 (0 : Int32) nj (rv x) (rv wR) (iv 0) (iv 0) uN) [(.int 0)]
   have hc1102 : (0 : Int32) = (0 : Int32) := rfl
   refine sT (fun t k => XS.ifNo X1098.here hx rfl (hb hby at_239) rfl ((if0 _ _).trans (teq hc1102).2) k) ?_
   show gM T1098 242 (oF p0 p1 p2 vh c0 c1 c2 c3 c4 (0 : Int32) nj (rv x) (rv wR) (iv 0) (iv 0) uN) []
   refine sT (fun t k => XS.iload X1098.here hx rfl (hb hby at_242) rfl k) ?_
   show gM T1098 244 (oF p0 p1 p2 vh c0 c1 c2 c3 c4 (0 : Int32) nj (rv x) (rv wR) (iv 0) (iv 0) uN) [(.int 0)]
   have hc1103 : (0 : Int32) = (0 : Int32) := rfl
   refine sT (fun t k => XS.ifYes X1098.here hx rfl (pc0 := 244) (pc' := 251) rfl (hb hby at_244) rfl ((if0 _ _).trans (teq hc1103).1) (by decide) (by decide) k) ?_
   show gM T1098 251 (oF p0 p1 p2 vh c0 c1 c2 c3 c4 (0 : Int32) nj (rv x) (rv wR) (iv 0) (iv 0) uN) []
   refine sT (fun t k => XS.iconst X1098.here hx rfl (hb hby at_251) k) ?_
   show gM T1098 252 (oF p0 p1 p2 vh c0 c1 c2 c3 c4 (0 : Int32) nj (rv x) (rv wR) (iv 0) (iv 0) uN) [(.int 0)]
   refine sT (fun t k => XS.istore X1098.here hx rfl (hb hby at_252) rfl (l' := (oF p0 p1 p2 vh c0 c1 c2 c3 c4 (0 : Int32) nj (rv x) (rv wR) (iv 0) (iv 0) (iv 0))) rfl k) ?_
   show gM T1098 254 (oF p0 p1 p2 vh c0 c1 c2 c3 c4 (0 : Int32) nj (rv x) (rv wR) (iv 0) (iv 0) (iv 0)) []
   refine sT (fun t k => XS.aload X1098.here hx rfl (hb hby at_254) rfl rfl k) ?_
   show gM T1098 256 (oF p0 p1 p2 vh c0 c1 c2 c3 c4 (0 : Int32) nj (rv x) (rv wR) (iv 0) (iv 0) (iv 0)) [(.ref wR)]
   refine sT (fun t k => XS.aload X1098.here hx rfl (hb hby at_256) rfl rfl k) ?_
   show gM T1098 258 (oF p0 p1 p2 vh c0 c1 c2 c3 c4 (0 : Int32) nj (rv x) (rv wR) (iv 0) (iv 0) (iv 0)) [(.ref x), (.ref wR)]
   obtain ⟨cq1104, kq1104, q1104a, q1104b, q1104c⟩ := isOf hZ e1098 (E_wR.keep Kj)
   obtain ⟨_, _, ⟨T1104, L1104, k1104, n1104⟩, -, X1104, q21104, gr1104, ⟨Lc1104, ⟨hQ1104, I1104⟩, l1104, y1104, z1104⟩, st1104⟩ := X1098.virtualBackS hx (y := mN15) (z := mN15) hown (mvT hZ w37) (mvT hZ w38) (notFace_of_selects (args := #[]) (mvT hZ w40)) (mvT hZ w40) (mvT hZ w39) (by decide) (own_backW (W := 0) (own_t1 l Z a0 hw [] wR x (wW) (cs) (Ts) Hj Hj.size (Nat.le_refl _) S_WRITE (O0.keep Kj all0).2.1 (O0.keep Kj all0).2 ne_wR_wW Ex S_COMPACT_STRINGS hcs hk41 hk49 hcw hnG hnH (rfl) Fc) hZ w41 w35 (by decide) (by decide)) q1104a q1104c (g := (mkF m 258 (oF p0 p1 p2 vh c0 c1 c2 c3 c4 (0 : Int32) nj (rv x) (rv wR) (iv 0) (iv 0) (iv 0)) [(.ref x), (.ref wR)])) rfl (by rw [hml]; rfl) (Steps.refl _) (argsL := [(.ref x)]) (rest := []) (lenOf own_pd13 rfl) rfl (by show 2 * 0 + _ ≤ _; exact Nat.le_of_eq rfl) (hb hby at_258) (fun _ hWq => ⟨rfl, e1098, own_ibH (s := s.setVm vj) Ij hWq, (by decide : 4 + 4 ≤ _), (by decide : 24 + 36 ≤ _)⟩)
   dsimp only [Pt.U, Pt.locs, Pt.cells, Pt.slots] at X1104 l1104 y1104 z1104 st1104 hQ1104 q21104 gr1104 I1104
   subst y1104 z1104
   obtain ⟨X1104, S1104, hZ, hown⟩ := rebS Sj (by rw [e1098]; exact kkj) X1104 q21104 gr1104 hZ hown
   obtain ⟨rfl, N1104q, K1104c⟩ := hQ1104
   have N1104 : Fr n0 L1104 := by rw [l1104]; exact Fr.app Nj (fun yq hyq => Nat.le_trans (Nat.le_trans Z0 Kj.1) (N1104q yq hyq))
   refine own_jump st1104 ?_
   have K1105 : Keep h0 T1104.heap [] := Kj.trans K1104c all0
   show gM T1104 261 (oF p0 p1 p2 vh c0 c1 c2 c3 c4 (0 : Int32) nj (rv x) (rv wR) (iv 0) (iv 0) (iv 0)) [(.int 0)]
   refine sT (fun t k => XS.iload X1104.here hx rfl (hb hby at_261) rfl k) ?_
   show gM T1104 263 (oF p0 p1 p2 vh c0 c1 c2 c3 c4 (0 : Int32) nj (rv x) (rv wR) (iv 0) (iv 0) (iv 0)) [(.int 0), (.int 0)]
   have hc1106 : (0 : Int32) = (0 : Int32) := rfl
   refine sT (fun t k => XS.icmpNo X1104.here hx rfl (hb hby at_263) rfl (teq hc1106).2 k) ?_
   show gM T1104 266 (oF p0 p1 p2 vh c0 c1 c2 c3 c4 (0 : Int32) nj (rv x) (rv wR) (iv 0) (iv 0) (iv 0)) []
   refine sT (fun t k => XS.iconst X1104.here hx rfl (hb hby at_266) k) ?_
   show gM T1104 267 (oF p0 p1 p2 vh c0 c1 c2 c3 c4 (0 : Int32) nj (rv x) (rv wR) (iv 0) (iv 0) (iv 0)) [(.int 1)]
   refine sT (fun t k => XS.goto X1104.here hx rfl (pc0 := 267) (pc' := 271) rfl (hb hby at_267) (by decide) (by decide) k) ?_
   show gM T1104 271 (oF p0 p1 p2 vh c0 c1 c2 c3 c4 (0 : Int32) nj (rv x) (rv wR) (iv 0) (iv 0) (iv 0)) [(.int 1)]
   refine own_retLW X1104 S1104 (Nat.le_refl _) hx hlk Bd.returns (hb hby at_271) (?_ : (1 : Int32) = 1) N1104 (by decide) (by decide)
   exact rfl
  have J13 : ∀ {Tj : State} {Hj : Heap} {Lj : List Loc} {vj : Vm} {kj : Nat} {Ts : List String} (Xj : Stand p l e room_1 (s.setVm vj) m #[(.int p0), (.long p1), (.int p2)] below meth c Tj Lj 4 24) (ej : Tj.heap = Hj) (Nj : Fr n0 Lj) (Sj : s.Since vj kj) (kkj : kj ≤ Hj.size) (Ij : IB Z vj Ts) (hZ : Z.Warmed39 (s.setVm vj).vm) (hown : (s.setVm vj).vm.findClass "com/example/noctule/noctule/server/TokenScopeTakesPinLaw" = some m.cls) (Kj : Keep h0 Hj []) (x : Addr) (Ex : Exa Z Hj x "java/lang/String") (Fc : Fld Z Hj x "java/lang/String" "coder" "B" (.int 1)) (hgt : (255 : Int32) < c0 ∨ (255 : Int32) < c1 ∨ (255 : Int32) < c2) (hnG : "GET" ∉ Ts) (hnH : "HEAD" ∉ Ts), gS p e below (own_FinL s (own_Q0 n0) 24 3200) (Tj.setTop (mkF m 139 (oF p0 p1 p2 vh c0 c1 c2 c3 c4 (0 : Int32) (3 : Int32) uN uN uN uN uN) [(.ref x)])) := by
   intro Tj Hj Lj vj kj Ts Xj ej Nj Sj kkj Ij hZ hown Kj x Ex Fc hgt hnG hnH
   show gM Tj 139 (oF p0 p1 p2 vh c0 c1 c2 c3 c4 (0 : Int32) (3 : Int32) uN uN uN uN uN) [(.ref x)]
   refine sT (fun t k => XS.astore Xj.here hx rfl (hb hby at_139) rfl rfl (l' := (oF p0 p1 p2 vh c0 c1 c2 c3 c4 (0 : Int32) (3 : Int32) (rv x) uN uN uN uN)) rfl k) ?_
   show gM Tj 141 (oF p0 p1 p2 vh c0 c1 c2 c3 c4 (0 : Int32) (3 : Int32) (rv x) uN uN uN uN) []
   refine sT (fun t k => XS.iload Xj.here hx rfl (hb hby at_141) rfl k) ?_
   show gM Tj 143 (oF p0 p1 p2 vh c0 c1 c2 c3 c4 (0 : Int32) (3 : Int32) (rv x) uN uN uN uN) [(.int 0)]
   have hc1107 : (0 : Int32) = (0 : Int32) := rfl
   refine sT (fun t k => XS.ifYes Xj.here hx rfl (pc0 := 143) (pc' := 152) rfl (hb hby at_143) rfl ((if0 _ _).trans (teq hc1107).1) (by decide) (by decide) k) ?_
   show gM Tj 152 (oF p0 p1 p2 vh c0 c1 c2 c3 c4 (0 : Int32) (3 : Int32) (rv x) uN uN uN uN) []
   obtain ⟨T1108, X1108, e1108, st1108⟩ := getS2 Xj hx hZ hown (host := "") (Or.inl w34) Via.refl ej (S_READ.ext (O0.keep Kj all0).2) (g := (mkF m 152 (oF p0 p1 p2 vh c0 c1 c2 c3 c4 (0 : Int32) (3 : Int32) (rv x) uN uN uN uN) [])) rfl (hb hby at_152)
   refine sT st1108 ?_
   show gM T1108 155 (oF p0 p1 p2 vh c0 c1 c2 c3 c4 (0 : Int32) (3 : Int32) (rv x) uN uN uN uN) [(.ref wR)]
   refine sT (fun t k => XS.astore X1108.here hx rfl (hb hby at_155) rfl rfl (l' := (oF p0 p1 p2 vh c0 c1 c2 c3 c4 (0 : Int32) (3 : Int32) (rv x) (rv wR) uN uN uN)) rfl k) ?_
   show gM T1108 157 (oF p0 p1 p2 vh c0 c1 c2 c3 c4 (0 : Int32) (3 : Int32) (rv x) (rv wR) uN uN uN) []
   refine sT (fun t k => XS.iload X1108.here hx rfl (hb hby at_157) rfl k) ?_
   show gM T1108 159 (oF p0 p1 p2 vh c0 c1 c2 c3 c4 (0 : Int32) (3 : Int32) (rv x) (rv wR) uN uN uN) [(.int 3)]
   refine sT (fun t k => XS.iconst X1108.here hx rfl (hb hby at_159) k) ?_
   show gM T1108 160 (oF p0 p1 p2 vh c0 c1 c2 c3 c4 (0 : Int32) (3 : Int32) (rv x) (rv wR) uN uN uN) [(.int 3), (.int 3)]
   have hc1109 : (3 : Int32) = (3 : Int32) := rfl
   refine sT (fun t k => XS.icmpNo X1108.here hx rfl (hb hby at_160) rfl (teq hc1109).2 k) ?_
   show gM T1108 163 (oF p0 p1 p2 vh c0 c1 c2 c3 c4 (0 : Int32) (3 : Int32) (rv x) (rv wR) uN uN uN) []
   refine sT (fun t k => XS.iload X1108.here hx rfl (hb hby at_163) rfl k) ?_
   show gM T1108 165 (oF p0 p1 p2 vh c0 c1 c2 c3 c4 (0 : Int32) (3 : Int32) (rv x) (rv wR) uN uN uN) [(.int c0)]
   refine sT (fun t k => XS.bipush X1108.here hx rfl (hb hby at_165) k) ?_
   show gM T1108 167 (oF p0 p1 p2 vh c0 c1 c2 c3 c4 (0 : Int32) (3 : Int32) (rv x) (rv wR) uN uN uN) [(.int 71), (.int c0)]
   refine sT (S' := T1108.setTop (mkF m 189 (oF p0 p1 p2 vh c0 c1 c2 c3 c4 (0 : Int32) (3 : Int32) (rv x) (rv wR) uN uN uN) [(.int (if c0 = (71 : Int32) then (if c1 = (69 : Int32) then (if c2 = (84 : Int32) then (1 : Int32) else (0 : Int32)) else (0 : Int32)) else (0 : Int32)))])) (fun t k => ?_) ?_
   · --
    show sM T1108 167 (oF p0 p1 p2 vh c0 c1 c2 c3 c4 (0 : Int32) (3 : Int32) (rv x) (rv wR) uN uN uN) [(.int 71), (.int c0)] _
    by_cases hc1110 : c0 = (71 : Int32)
    · --
     refine XS.icmpNo X1108.here hx rfl (hb hby at_167) rfl (teq hc1110).2 ?_
     show sM T1108 170 (oF p0 p1 p2 vh c0 c1 c2 c3 c4 (0 : Int32) (3 : Int32) (rv x) (rv wR) uN uN uN) [] _
     refine XS.iload X1108.here hx rfl (hb hby at_170) rfl ?_
     show sM T1108 172 (oF p0 p1 p2 vh c0 c1 c2 c3 c4 (0 : Int32) (3 : Int32) (rv x) (rv wR) uN uN uN) [(.int c1)] _
     refine XS.bipush X1108.here hx rfl (hb hby at_172) ?_
     show sM T1108 174 (oF p0 p1 p2 vh c0 c1 c2 c3 c4 (0 : Int32) (3 : Int32) (rv x) (rv wR) uN uN uN) [(.int 69), (.int c1)] _
     by_cases hc1111 : c1 = (69 : Int32)
     · --
      refine XS.icmpNo X1108.here hx rfl (hb hby at_174) rfl (teq hc1111).2 ?_
      show sM T1108 177 (oF p0 p1 p2 vh c0 c1 c2 c3 c4 (0 : Int32) (3 : Int32) (rv x) (rv wR) uN uN uN) [] _
      refine XS.iload X1108.here hx rfl (hb hby at_177) rfl ?_
      show sM T1108 179 (oF p0 p1 p2 vh c0 c1 c2 c3 c4 (0 : Int32) (3 : Int32) (rv x) (rv wR) uN uN uN) [(.int c2)] _
      refine XS.bipush X1108.here hx rfl (hb hby at_179) ?_
      show sM T1108 181 (oF p0 p1 p2 vh c0 c1 c2 c3 c4 (0 : Int32) (3 : Int32) (rv x) (rv wR) uN uN uN) [(.int 84), (.int c2)] _
      by_cases hc1112 : c2 = (84 : Int32)
      · --
       refine XS.icmpNo X1108.here hx rfl (hb hby at_181) rfl (teq hc1112).2 ?_
       show sM T1108 184 (oF p0 p1 p2 vh c0 c1 c2 c3 c4 (0 : Int32) (3 : Int32) (rv x) (rv wR) uN uN uN) [] _
       refine XS.iconst X1108.here hx rfl (hb hby at_184) ?_
       show sM T1108 185 (oF p0 p1 p2 vh c0 c1 c2 c3 c4 (0 : Int32) (3 : Int32) (rv x) (rv wR) uN uN uN) [(.int 1)] _
       refine XS.goto X1108.here hx rfl (pc0 := 185) (pc' := 189) rfl (hb hby at_185) (by decide) (by decide) ?_
       show sM T1108 189 (oF p0 p1 p2 vh c0 c1 c2 c3 c4 (0 : Int32) (3 : Int32) (rv x) (rv wR) uN uN uN) [(.int 1)] _
       simp only [if_pos hc1110, if_pos hc1111, if_pos hc1112] at k
       exact k
      · --
       refine XS.icmpYes X1108.here hx rfl (pc0 := 181) (pc' := 188) rfl (hb hby at_181) rfl (feq hc1112).2 (by decide) (by decide) ?_
       show sM T1108 188 (oF p0 p1 p2 vh c0 c1 c2 c3 c4 (0 : Int32) (3 : Int32) (rv x) (rv wR) uN uN uN) [] _
       refine XS.iconst X1108.here hx rfl (hb hby at_188) ?_
       show sM T1108 189 (oF p0 p1 p2 vh c0 c1 c2 c3 c4 (0 : Int32) (3 : Int32) (rv x) (rv wR) uN uN uN) [(.int 0)] _
       simp only [if_pos hc1110, if_pos hc1111, if_neg hc1112] at k
       exact k
     · --
      refine XS.icmpYes X1108.here hx rfl (pc0 := 174) (pc' := 188) rfl (hb hby at_174) rfl (feq hc1111).2 (by decide) (by decide) ?_
      show sM T1108 188 (oF p0 p1 p2 vh c0 c1 c2 c3 c4 (0 : Int32) (3 : Int32) (rv x) (rv wR) uN uN uN) [] _
      refine XS.iconst X1108.here hx rfl (hb hby at_188) ?_
      show sM T1108 189 (oF p0 p1 p2 vh c0 c1 c2 c3 c4 (0 : Int32) (3 : Int32) (rv x) (rv wR) uN uN uN) [(.int 0)] _
      simp only [if_pos hc1110, if_neg hc1111] at k
      exact k
    · --
     refine XS.icmpYes X1108.here hx rfl (pc0 := 167) (pc' := 188) rfl (hb hby at_167) rfl (feq hc1110).2 (by decide) (by decide) ?_
     show sM T1108 188 (oF p0 p1 p2 vh c0 c1 c2 c3 c4 (0 : Int32) (3 : Int32) (rv x) (rv wR) uN uN uN) [] _
     refine XS.iconst X1108.here hx rfl (hb hby at_188) ?_
     show sM T1108 189 (oF p0 p1 p2 vh c0 c1 c2 c3 c4 (0 : Int32) (3 : Int32) (rv x) (rv wR) uN uN uN) [(.int 0)] _
     simp only [if_neg hc1110] at k
     exact k
   show gM T1108 189 (oF p0 p1 p2 vh c0 c1 c2 c3 c4 (0 : Int32) (3 : Int32) (rv x) (rv wR) uN uN uN) [(.int (if c0 = (71 : Int32) then (if c1 = (69 : Int32) then (if c2 = (84 : Int32) then (1 : Int32) else (0 : Int32)) else (0 : Int32)) else (0 : Int32)))]
   refine sT (fun t k => XS.istore X1108.here hx rfl (hb hby at_189) rfl (l' := (oF p0 p1 p2 vh c0 c1 c2 c3 c4 (0 : Int32) (3 : Int32) (rv x) (rv wR) (iv (if c0 = (71 : Int32) then (if c1 = (69 : Int32) then (if c2 = (84 : Int32) then (1 : Int32) else (0 : Int32)) else (0 : Int32)) else (0 : Int32))) uN uN)) rfl k) ?_
   show gM T1108 191 (oF p0 p1 p2 vh c0 c1 c2 c3 c4 (0 : Int32) (3 : Int32) (rv x) (rv wR) (iv (if c0 = (71 : Int32) then (if c1 = (69 : Int32) then (if c2 = (84 : Int32) then (1 : Int32) else (0 : Int32)) else (0 : Int32)) else (0 : Int32))) uN uN) []
   generalize hv_vg : (if c0 = (71 : Int32) then (if c1 = (69 : Int32) then (if c2 = (84 : Int32) then (1 : Int32) else (0 : Int32)) else (0 : Int32)) else (0 : Int32)) = vg
   refine sT (fun t k => XS.iload X1108.here hx rfl (hb hby at_191) rfl k) ?_
   show gM T1108 193 (oF p0 p1 p2 vh c0 c1 c2 c3 c4 (0 : Int32) (3 : Int32) (rv x) (rv wR) (iv vg) uN uN) [(.int 3)]
   refine sT (fun t k => XS.iconst X1108.here hx rfl (hb hby at_193) k) ?_
   show gM T1108 194 (oF p0 p1 p2 vh c0 c1 c2 c3 c4 (0 : Int32) (3 : Int32) (rv x) (rv wR) (iv vg) uN uN) [(.int 4), (.int 3)]
   have hc1113 : ¬ ((3 : Int32) = (4 : Int32)) := by decide
   refine sT (fun t k => XS.icmpYes X1108.here hx rfl (pc0 := 194) (pc' := 229) rfl (hb hby at_194) rfl (feq hc1113).2 (by decide) (by decide) k) ?_
   show gM T1108 229 (oF p0 p1 p2 vh c0 c1 c2 c3 c4 (0 : Int32) (3 : Int32) (rv x) (rv wR) (iv vg) uN uN) []
   refine sT (fun t k => XS.iconst X1108.here hx rfl (hb hby at_229) k) ?_
   show gM T1108 230 (oF p0 p1 p2 vh c0 c1 c2 c3 c4 (0 : Int32) (3 : Int32) (rv x) (rv wR) (iv vg) uN uN) [(.int 0)]
   refine sT (fun t k => XS.istore X1108.here hx rfl (hb hby at_230) rfl (l' := (oF p0 p1 p2 vh c0 c1 c2 c3 c4 (0 : Int32) (3 : Int32) (rv x) (rv wR) (iv vg) (iv 0) uN)) rfl k) ?_
   show gM T1108 232 (oF p0 p1 p2 vh c0 c1 c2 c3 c4 (0 : Int32) (3 : Int32) (rv x) (rv wR) (iv vg) (iv 0) uN) []
   refine sT (fun t k => XS.iload X1108.here hx rfl (hb hby at_232) rfl k) ?_
   show gM T1108 234 (oF p0 p1 p2 vh c0 c1 c2 c3 c4 (0 : Int32) (3 : Int32) (rv x) (rv wR) (iv vg) (iv 0) uN) [(.int 0)]
   have hc1114 : (0 : Int32) = (0 : Int32) := rfl
   refine sT (fun t k => XS.ifNo X1108.here hx rfl (hb hby at_234) rfl ((if0 _ _).trans (teq hc1114).2) k) ?_
   show gM T1108 237 (oF p0 p1 p2 vh c0 c1 c2 c3 c4 (0 : Int32) (3 : Int32) (rv x) (rv wR) (iv vg) (iv 0) uN) []
   refine sT (fun t k => XS.iload X1108.here hx rfl (hb hby at_237) rfl k) ?_
   show gM T1108 239 (oF p0 p1 p2 vh c0 c1 c2 c3 c4 (0 : Int32) (3 : Int32) (rv x) (rv wR) (iv vg) (iv 0) uN) [(.int vg)]
   refine sT (S' := T1108.setTop (mkF m 252 (oF p0 p1 p2 vh c0 c1 c2 c3 c4 (0 : Int32) (3 : Int32) (rv x) (rv wR) (iv vg) (iv 0) uN) [(.int (if vg = (0 : Int32) then (0 : Int32) else (1 : Int32)))])) (fun t k => ?_) ?_
   · --
    show sM T1108 239 (oF p0 p1 p2 vh c0 c1 c2 c3 c4 (0 : Int32) (3 : Int32) (rv x) (rv wR) (iv vg) (iv 0) uN) [(.int vg)] _
    by_cases hc1115 : vg = (0 : Int32)
    · --
     refine XS.ifNo X1108.here hx rfl (hb hby at_239) rfl ((if0 _ _).trans (teq hc1115).2) ?_
     show sM T1108 242 (oF p0 p1 p2 vh c0 c1 c2 c3 c4 (0 : Int32) (3 : Int32) (rv x) (rv wR) (iv vg) (iv 0) uN) [] _
     refine XS.iload X1108.here hx rfl (hb hby at_242) rfl ?_
     show sM T1108 244 (oF p0 p1 p2 vh c0 c1 c2 c3 c4 (0 : Int32) (3 : Int32) (rv x) (rv wR) (iv vg) (iv 0) uN) [(.int 0)] _
     have hc1116 : (0 : Int32) = (0 : Int32) := rfl
     refine XS.ifYes X1108.here hx rfl (pc0 := 244) (pc' := 251) rfl (hb hby at_244) rfl ((if0 _ _).trans (teq hc1116).1) (by decide) (by decide) ?_
     show sM T1108 251 (oF p0 p1 p2 vh c0 c1 c2 c3 c4 (0 : Int32) (3 : Int32) (rv x) (rv wR) (iv vg) (iv 0) uN) [] _
     refine XS.iconst X1108.here hx rfl (hb hby at_251) ?_
     show sM T1108 252 (oF p0 p1 p2 vh c0 c1 c2 c3 c4 (0 : Int32) (3 : Int32) (rv x) (rv wR) (iv vg) (iv 0) uN) [(.int 0)] _
     simp only [if_pos hc1115] at k
     exact k
    · --
     refine XS.ifYes X1108.here hx rfl (pc0 := 239) (pc' := 247) rfl (hb hby at_239) rfl ((if0 _ _).trans (feq hc1115).2) (by decide) (by decide) ?_
     show sM T1108 247 (oF p0 p1 p2 vh c0 c1 c2 c3 c4 (0 : Int32) (3 : Int32) (rv x) (rv wR) (iv vg) (iv 0) uN) [] _
     refine XS.iconst X1108.here hx rfl (hb hby at_247) ?_
     show sM T1108 248 (oF p0 p1 p2 vh c0 c1 c2 c3 c4 (0 : Int32) (3 : Int32) (rv x) (rv wR) (iv vg) (iv 0) uN) [(.int 1)] _
     refine XS.goto X1108.here hx rfl (pc0 := 248) (pc' := 252) rfl (hb hby at_248) (by decide) (by decide) ?_
     show sM T1108 252 (oF p0 p1 p2 vh c0 c1 c2 c3 c4 (0 : Int32) (3 : Int32) (rv x) (rv wR) (iv vg) (iv 0) uN) [(.int 1)] _
     simp only [if_neg hc1115] at k
     exact k
   show gM T1108 252 (oF p0 p1 p2 vh c0 c1 c2 c3 c4 (0 : Int32) (3 : Int32) (rv x) (rv wR) (iv vg) (iv 0) uN) [(.int (if vg = (0 : Int32) then (0 : Int32) else (1 : Int32)))]
   refine sT (fun t k => XS.istore X1108.here hx rfl (hb hby at_252) rfl (l' := (oF p0 p1 p2 vh c0 c1 c2 c3 c4 (0 : Int32) (3 : Int32) (rv x) (rv wR) (iv vg) (iv 0) (iv (if vg = (0 : Int32) then (0 : Int32) else (1 : Int32))))) rfl k) ?_
   show gM T1108 254 (oF p0 p1 p2 vh c0 c1 c2 c3 c4 (0 : Int32) (3 : Int32) (rv x) (rv wR) (iv vg) (iv 0) (iv (if vg = (0 : Int32) then (0 : Int32) else (1 : Int32)))) []
   refine sT (fun t k => XS.aload X1108.here hx rfl (hb hby at_254) rfl rfl k) ?_
   show gM T1108 256 (oF p0 p1 p2 vh c0 c1 c2 c3 c4 (0 : Int32) (3 : Int32) (rv x) (rv wR) (iv vg) (iv 0) (iv (if vg = (0 : Int32) then (0 : Int32) else (1 : Int32)))) [(.ref wR)]
   refine sT (fun t k => XS.aload X1108.here hx rfl (hb hby at_256) rfl rfl k) ?_
   show gM T1108 258 (oF p0 p1 p2 vh c0 c1 c2 c3 c4 (0 : Int32) (3 : Int32) (rv x) (rv wR) (iv vg) (iv 0) (iv (if vg = (0 : Int32) then (0 : Int32) else (1 : Int32)))) [(.ref x), (.ref wR)]
   obtain ⟨cq1117, kq1117, q1117a, q1117b, q1117c⟩ := isOf hZ e1108 (E_wR.keep Kj)
   obtain ⟨_, _, ⟨T1117, L1117, k1117, n1117⟩, -, X1117, q21117, gr1117, ⟨Lc1117, ⟨hQ1117, I1117⟩, l1117, y1117, z1117⟩, st1117⟩ := X1108.virtualBackS hx (y := mN15) (z := mN15) hown (mvT hZ w37) (mvT hZ w38) (notFace_of_selects (args := #[]) (mvT hZ w40)) (mvT hZ w40) (mvT hZ w39) (by decide) (own_backW (W := 0) (own_t1 l Z a0 hw [] wR x (wW) (cs) (Ts) Hj Hj.size (Nat.le_refl _) S_WRITE (O0.keep Kj all0).2.1 (O0.keep Kj all0).2 ne_wR_wW Ex S_COMPACT_STRINGS hcs hk41 hk49 hcw hnG hnH (rfl) Fc) hZ w41 w35 (by decide) (by decide)) q1117a q1117c (g := (mkF m 258 (oF p0 p1 p2 vh c0 c1 c2 c3 c4 (0 : Int32) (3 : Int32) (rv x) (rv wR) (iv vg) (iv 0) (iv (if vg = (0 : Int32) then (0 : Int32) else (1 : Int32)))) [(.ref x), (.ref wR)])) rfl (by rw [hml]; rfl) (Steps.refl _) (argsL := [(.ref x)]) (rest := []) (lenOf own_pd13 rfl) rfl (by show 2 * 0 + _ ≤ _; exact Nat.le_of_eq rfl) (hb hby at_258) (fun _ hWq => ⟨rfl, e1108, own_ibH (s := s.setVm vj) Ij hWq, (by decide : 4 + 4 ≤ _), (by decide : 24 + 36 ≤ _)⟩)
   dsimp only [Pt.U, Pt.locs, Pt.cells, Pt.slots] at X1117 l1117 y1117 z1117 st1117 hQ1117 q21117 gr1117 I1117
   subst y1117 z1117
   obtain ⟨X1117, S1117, hZ, hown⟩ := rebS Sj (by rw [e1108]; exact kkj) X1117 q21117 gr1117 hZ hown
   obtain ⟨rfl, N1117q, K1117c⟩ := hQ1117
   have N1117 : Fr n0 L1117 := by rw [l1117]; exact Fr.app Nj (fun yq hyq => Nat.le_trans (Nat.le_trans Z0 Kj.1) (N1117q yq hyq))
   refine own_jump st1117 ?_
   have K1118 : Keep h0 T1117.heap [] := Kj.trans K1117c all0
   show gM T1117 261 (oF p0 p1 p2 vh c0 c1 c2 c3 c4 (0 : Int32) (3 : Int32) (rv x) (rv wR) (iv vg) (iv 0) (iv (if vg = (0 : Int32) then (0 : Int32) else (1 : Int32)))) [(.int 0)]
   refine sT (fun t k => XS.iload X1117.here hx rfl (hb hby at_261) rfl k) ?_
   show gM T1117 263 (oF p0 p1 p2 vh c0 c1 c2 c3 c4 (0 : Int32) (3 : Int32) (rv x) (rv wR) (iv vg) (iv 0) (iv (if vg = (0 : Int32) then (0 : Int32) else (1 : Int32)))) [(.int (if vg = (0 : Int32) then (0 : Int32) else (1 : Int32))), (.int 0)]
   refine sT (S' := T1117.setTop (mkF m 271 (oF p0 p1 p2 vh c0 c1 c2 c3 c4 (0 : Int32) (3 : Int32) (rv x) (rv wR) (iv vg) (iv 0) (iv (if vg = (0 : Int32) then (0 : Int32) else (1 : Int32)))) [(.int (if (0 : Int32) = (if vg = (0 : Int32) then (0 : Int32) else (1 : Int32)) then (1 : Int32) else (0 : Int32)))])) (fun t k => ?_) ?_
   · --
    show sM T1117 263 (oF p0 p1 p2 vh c0 c1 c2 c3 c4 (0 : Int32) (3 : Int32) (rv x) (rv wR) (iv vg) (iv 0) (iv (if vg = (0 : Int32) then (0 : Int32) else (1 : Int32)))) [(.int (if vg = (0 : Int32) then (0 : Int32) else (1 : Int32))), (.int 0)] _
    by_cases hc1119 : (0 : Int32) = (if vg = (0 : Int32) then (0 : Int32) else (1 : Int32))
    · --
     refine XS.icmpNo X1117.here hx rfl (hb hby at_263) rfl (teq hc1119).2 ?_
     show sM T1117 266 (oF p0 p1 p2 vh c0 c1 c2 c3 c4 (0 : Int32) (3 : Int32) (rv x) (rv wR) (iv vg) (iv 0) (iv (if vg = (0 : Int32) then (0 : Int32) else (1 : Int32)))) [] _
     refine XS.iconst X1117.here hx rfl (hb hby at_266) ?_
     show sM T1117 267 (oF p0 p1 p2 vh c0 c1 c2 c3 c4 (0 : Int32) (3 : Int32) (rv x) (rv wR) (iv vg) (iv 0) (iv (if vg = (0 : Int32) then (0 : Int32) else (1 : Int32)))) [(.int 1)] _
     refine XS.goto X1117.here hx rfl (pc0 := 267) (pc' := 271) rfl (hb hby at_267) (by decide) (by decide) ?_
     show sM T1117 271 (oF p0 p1 p2 vh c0 c1 c2 c3 c4 (0 : Int32) (3 : Int32) (rv x) (rv wR) (iv vg) (iv 0) (iv (if vg = (0 : Int32) then (0 : Int32) else (1 : Int32)))) [(.int 1)] _
     simp only [if_pos hc1119] at k
     exact k
    · --
     refine XS.icmpYes X1117.here hx rfl (pc0 := 263) (pc' := 270) rfl (hb hby at_263) rfl (feq hc1119).2 (by decide) (by decide) ?_
     show sM T1117 270 (oF p0 p1 p2 vh c0 c1 c2 c3 c4 (0 : Int32) (3 : Int32) (rv x) (rv wR) (iv vg) (iv 0) (iv (if vg = (0 : Int32) then (0 : Int32) else (1 : Int32)))) [] _
     refine XS.iconst X1117.here hx rfl (hb hby at_270) ?_
     show sM T1117 271 (oF p0 p1 p2 vh c0 c1 c2 c3 c4 (0 : Int32) (3 : Int32) (rv x) (rv wR) (iv vg) (iv 0) (iv (if vg = (0 : Int32) then (0 : Int32) else (1 : Int32)))) [(.int 0)] _
     simp only [if_neg hc1119] at k
     exact k
   show gM T1117 271 (oF p0 p1 p2 vh c0 c1 c2 c3 c4 (0 : Int32) (3 : Int32) (rv x) (rv wR) (iv vg) (iv 0) (iv (if vg = (0 : Int32) then (0 : Int32) else (1 : Int32)))) [(.int (if (0 : Int32) = (if vg = (0 : Int32) then (0 : Int32) else (1 : Int32)) then (1 : Int32) else (0 : Int32)))]
   refine own_retLW X1117 S1117 (Nat.le_refl _) hx hlk Bd.returns (hb hby at_271) (?_ : (if (0 : Int32) = (if vg = (0 : Int32) then (0 : Int32) else (1 : Int32)) then (1 : Int32) else (0 : Int32)) = 1) N1117 (by decide) (by decide)
   exact (hgt.elim (fun hg => by subst hv_vg; have q0 := own_nf (w := (71 : Int32)) hg (by decide); simp [q0]) (fun hq => hq.elim (fun hg => by subst hv_vg; have q1 := own_nf (w := (69 : Int32)) hg (by decide); by_cases q0 : c0 = (71 : Int32) <;> simp [q0, q1]) (fun hg => by subst hv_vg; have q2 := own_nf (w := (84 : Int32)) hg (by decide); by_cases q0 : c0 = (71 : Int32) <;> by_cases q1 : c1 = (69 : Int32) <;> simp [q0, q1, q2])))
  have J14 : ∀ {Tj : State} {Hj : Heap} {Lj : List Loc} {vj : Vm} {kj : Nat} {Ts : List String} (Xj : Stand p l e room_1 (s.setVm vj) m #[(.int p0), (.long p1), (.int p2)] below meth c Tj Lj 4 24) (ej : Tj.heap = Hj) (Nj : Fr n0 Lj) (Sj : s.Since vj kj) (kkj : kj ≤ Hj.size) (Ij : IB Z vj Ts) (hZ : Z.Warmed39 (s.setVm vj).vm) (hown : (s.setVm vj).vm.findClass "com/example/noctule/noctule/server/TokenScopeTakesPinLaw" = some m.cls) (Kj : Keep h0 Hj []) (x : Addr) (Ex : Exa Z Hj x "java/lang/String") (Fc : Fld Z Hj x "java/lang/String" "coder" "B" (.int 1)) (hgt : (255 : Int32) < c0 ∨ (255 : Int32) < c1 ∨ (255 : Int32) < c2 ∨ (255 : Int32) < c3) (hnG : "GET" ∉ Ts) (hnH : "HEAD" ∉ Ts), gS p e below (own_FinL s (own_Q0 n0) 24 3200) (Tj.setTop (mkF m 139 (oF p0 p1 p2 vh c0 c1 c2 c3 c4 (0 : Int32) (4 : Int32) uN uN uN uN uN) [(.ref x)])) := by
   intro Tj Hj Lj vj kj Ts Xj ej Nj Sj kkj Ij hZ hown Kj x Ex Fc hgt hnG hnH
   show gM Tj 139 (oF p0 p1 p2 vh c0 c1 c2 c3 c4 (0 : Int32) (4 : Int32) uN uN uN uN uN) [(.ref x)]
   refine sT (fun t k => XS.astore Xj.here hx rfl (hb hby at_139) rfl rfl (l' := (oF p0 p1 p2 vh c0 c1 c2 c3 c4 (0 : Int32) (4 : Int32) (rv x) uN uN uN uN)) rfl k) ?_
   show gM Tj 141 (oF p0 p1 p2 vh c0 c1 c2 c3 c4 (0 : Int32) (4 : Int32) (rv x) uN uN uN uN) []
   refine sT (fun t k => XS.iload Xj.here hx rfl (hb hby at_141) rfl k) ?_
   show gM Tj 143 (oF p0 p1 p2 vh c0 c1 c2 c3 c4 (0 : Int32) (4 : Int32) (rv x) uN uN uN uN) [(.int 0)]
   have hc1120 : (0 : Int32) = (0 : Int32) := rfl
   refine sT (fun t k => XS.ifYes Xj.here hx rfl (pc0 := 143) (pc' := 152) rfl (hb hby at_143) rfl ((if0 _ _).trans (teq hc1120).1) (by decide) (by decide) k) ?_
   show gM Tj 152 (oF p0 p1 p2 vh c0 c1 c2 c3 c4 (0 : Int32) (4 : Int32) (rv x) uN uN uN uN) []
   obtain ⟨T1121, X1121, e1121, st1121⟩ := getS2 Xj hx hZ hown (host := "") (Or.inl w34) Via.refl ej (S_READ.ext (O0.keep Kj all0).2) (g := (mkF m 152 (oF p0 p1 p2 vh c0 c1 c2 c3 c4 (0 : Int32) (4 : Int32) (rv x) uN uN uN uN) [])) rfl (hb hby at_152)
   refine sT st1121 ?_
   show gM T1121 155 (oF p0 p1 p2 vh c0 c1 c2 c3 c4 (0 : Int32) (4 : Int32) (rv x) uN uN uN uN) [(.ref wR)]
   refine sT (fun t k => XS.astore X1121.here hx rfl (hb hby at_155) rfl rfl (l' := (oF p0 p1 p2 vh c0 c1 c2 c3 c4 (0 : Int32) (4 : Int32) (rv x) (rv wR) uN uN uN)) rfl k) ?_
   show gM T1121 157 (oF p0 p1 p2 vh c0 c1 c2 c3 c4 (0 : Int32) (4 : Int32) (rv x) (rv wR) uN uN uN) []
   refine sT (fun t k => XS.iload X1121.here hx rfl (hb hby at_157) rfl k) ?_
   show gM T1121 159 (oF p0 p1 p2 vh c0 c1 c2 c3 c4 (0 : Int32) (4 : Int32) (rv x) (rv wR) uN uN uN) [(.int 4)]
   refine sT (fun t k => XS.iconst X1121.here hx rfl (hb hby at_159) k) ?_
   show gM T1121 160 (oF p0 p1 p2 vh c0 c1 c2 c3 c4 (0 : Int32) (4 : Int32) (rv x) (rv wR) uN uN uN) [(.int 3), (.int 4)]
   have hc1122 : ¬ ((4 : Int32) = (3 : Int32)) := by decide
   refine sT (fun t k => XS.icmpYes X1121.here hx rfl (pc0 := 160) (pc' := 188) rfl (hb hby at_160) rfl (feq hc1122).2 (by decide) (by decide) k) ?_
   show gM T1121 188 (oF p0 p1 p2 vh c0 c1 c2 c3 c4 (0 : Int32) (4 : Int32) (rv x) (rv wR) uN uN uN) []
   refine sT (fun t k => XS.iconst X1121.here hx rfl (hb hby at_188) k) ?_
   show gM T1121 189 (oF p0 p1 p2 vh c0 c1 c2 c3 c4 (0 : Int32) (4 : Int32) (rv x) (rv wR) uN uN uN) [(.int 0)]
   refine sT (fun t k => XS.istore X1121.here hx rfl (hb hby at_189) rfl (l' := (oF p0 p1 p2 vh c0 c1 c2 c3 c4 (0 : Int32) (4 : Int32) (rv x) (rv wR) (iv 0) uN uN)) rfl k) ?_
   show gM T1121 191 (oF p0 p1 p2 vh c0 c1 c2 c3 c4 (0 : Int32) (4 : Int32) (rv x) (rv wR) (iv 0) uN uN) []
   refine sT (fun t k => XS.iload X1121.here hx rfl (hb hby at_191) rfl k) ?_
   show gM T1121 193 (oF p0 p1 p2 vh c0 c1 c2 c3 c4 (0 : Int32) (4 : Int32) (rv x) (rv wR) (iv 0) uN uN) [(.int 4)]
   refine sT (fun t k => XS.iconst X1121.here hx rfl (hb hby at_193) k) ?_
   show gM T1121 194 (oF p0 p1 p2 vh c0 c1 c2 c3 c4 (0 : Int32) (4 : Int32) (rv x) (rv wR) (iv 0) uN uN) [(.int 4), (.int 4)]
   have hc1123 : (4 : Int32) = (4 : Int32) := rfl
   refine sT (fun t k => XS.icmpNo X1121.here hx rfl (hb hby at_194) rfl (teq hc1123).2 k) ?_
   show gM T1121 197 (oF p0 p1 p2 vh c0 c1 c2 c3 c4 (0 : Int32) (4 : Int32) (rv x) (rv wR) (iv 0) uN uN) []
   refine sT (fun t k => XS.iload X1121.here hx rfl (hb hby at_197) rfl k) ?_
   show gM T1121 199 (oF p0 p1 p2 vh c0 c1 c2 c3 c4 (0 : Int32) (4 : Int32) (rv x) (rv wR) (iv 0) uN uN) [(.int c0)]
   refine sT (fun t k => XS.bipush X1121.here hx rfl (hb hby at_199) k) ?_
   show gM T1121 201 (oF p0 p1 p2 vh c0 c1 c2 c3 c4 (0 : Int32) (4 : Int32) (rv x) (rv wR) (iv 0) uN uN) [(.int 72), (.int c0)]
   refine sT (S' := T1121.setTop (mkF m 230 (oF p0 p1 p2 vh c0 c1 c2 c3 c4 (0 : Int32) (4 : Int32) (rv x) (rv wR) (iv 0) uN uN) [(.int (if c0 = (72 : Int32) then (if c1 = (69 : Int32) then (if c2 = (65 : Int32) then (if c3 = (68 : Int32) then (1 : Int32) else (0 : Int32)) else (0 : Int32)) else (0 : Int32)) else (0 : Int32)))])) (fun t k => ?_) ?_
   · --
    show sM T1121 201 (oF p0 p1 p2 vh c0 c1 c2 c3 c4 (0 : Int32) (4 : Int32) (rv x) (rv wR) (iv 0) uN uN) [(.int 72), (.int c0)] _
    by_cases hc1124 : c0 = (72 : Int32)
    · --
     refine XS.icmpNo X1121.here hx rfl (hb hby at_201) rfl (teq hc1124).2 ?_
     show sM T1121 204 (oF p0 p1 p2 vh c0 c1 c2 c3 c4 (0 : Int32) (4 : Int32) (rv x) (rv wR) (iv 0) uN uN) [] _
     refine XS.iload X1121.here hx rfl (hb hby at_204) rfl ?_
     show sM T1121 206 (oF p0 p1 p2 vh c0 c1 c2 c3 c4 (0 : Int32) (4 : Int32) (rv x) (rv wR) (iv 0) uN uN) [(.int c1)] _
     refine XS.bipush X1121.here hx rfl (hb hby at_206) ?_
     show sM T1121 208 (oF p0 p1 p2 vh c0 c1 c2 c3 c4 (0 : Int32) (4 : Int32) (rv x) (rv wR) (iv 0) uN uN) [(.int 69), (.int c1)] _
     by_cases hc1125 : c1 = (69 : Int32)
     · --
      refine XS.icmpNo X1121.here hx rfl (hb hby at_208) rfl (teq hc1125).2 ?_
      show sM T1121 211 (oF p0 p1 p2 vh c0 c1 c2 c3 c4 (0 : Int32) (4 : Int32) (rv x) (rv wR) (iv 0) uN uN) [] _
      refine XS.iload X1121.here hx rfl (hb hby at_211) rfl ?_
      show sM T1121 213 (oF p0 p1 p2 vh c0 c1 c2 c3 c4 (0 : Int32) (4 : Int32) (rv x) (rv wR) (iv 0) uN uN) [(.int c2)] _
      refine XS.bipush X1121.here hx rfl (hb hby at_213) ?_
      show sM T1121 215 (oF p0 p1 p2 vh c0 c1 c2 c3 c4 (0 : Int32) (4 : Int32) (rv x) (rv wR) (iv 0) uN uN) [(.int 65), (.int c2)] _
      by_cases hc1126 : c2 = (65 : Int32)
      · --
       refine XS.icmpNo X1121.here hx rfl (hb hby at_215) rfl (teq hc1126).2 ?_
       show sM T1121 218 (oF p0 p1 p2 vh c0 c1 c2 c3 c4 (0 : Int32) (4 : Int32) (rv x) (rv wR) (iv 0) uN uN) [] _
       refine XS.iload X1121.here hx rfl (hb hby at_218) rfl ?_
       show sM T1121 220 (oF p0 p1 p2 vh c0 c1 c2 c3 c4 (0 : Int32) (4 : Int32) (rv x) (rv wR) (iv 0) uN uN) [(.int c3)] _
       refine XS.bipush X1121.here hx rfl (hb hby at_220) ?_
       show sM T1121 222 (oF p0 p1 p2 vh c0 c1 c2 c3 c4 (0 : Int32) (4 : Int32) (rv x) (rv wR) (iv 0) uN uN) [(.int 68), (.int c3)] _
       by_cases hc1127 : c3 = (68 : Int32)
       · --
        refine XS.icmpNo X1121.here hx rfl (hb hby at_222) rfl (teq hc1127).2 ?_
        show sM T1121 225 (oF p0 p1 p2 vh c0 c1 c2 c3 c4 (0 : Int32) (4 : Int32) (rv x) (rv wR) (iv 0) uN uN) [] _
        refine XS.iconst X1121.here hx rfl (hb hby at_225) ?_
        show sM T1121 226 (oF p0 p1 p2 vh c0 c1 c2 c3 c4 (0 : Int32) (4 : Int32) (rv x) (rv wR) (iv 0) uN uN) [(.int 1)] _
        refine XS.goto X1121.here hx rfl (pc0 := 226) (pc' := 230) rfl (hb hby at_226) (by decide) (by decide) ?_
        show sM T1121 230 (oF p0 p1 p2 vh c0 c1 c2 c3 c4 (0 : Int32) (4 : Int32) (rv x) (rv wR) (iv 0) uN uN) [(.int 1)] _
        simp only [if_pos hc1124, if_pos hc1125, if_pos hc1126, if_pos hc1127] at k
        exact k
       · --
        refine XS.icmpYes X1121.here hx rfl (pc0 := 222) (pc' := 229) rfl (hb hby at_222) rfl (feq hc1127).2 (by decide) (by decide) ?_
        show sM T1121 229 (oF p0 p1 p2 vh c0 c1 c2 c3 c4 (0 : Int32) (4 : Int32) (rv x) (rv wR) (iv 0) uN uN) [] _
        refine XS.iconst X1121.here hx rfl (hb hby at_229) ?_
        show sM T1121 230 (oF p0 p1 p2 vh c0 c1 c2 c3 c4 (0 : Int32) (4 : Int32) (rv x) (rv wR) (iv 0) uN uN) [(.int 0)] _
        simp only [if_pos hc1124, if_pos hc1125, if_pos hc1126, if_neg hc1127] at k
        exact k
      · --
       refine XS.icmpYes X1121.here hx rfl (pc0 := 215) (pc' := 229) rfl (hb hby at_215) rfl (feq hc1126).2 (by decide) (by decide) ?_
       show sM T1121 229 (oF p0 p1 p2 vh c0 c1 c2 c3 c4 (0 : Int32) (4 : Int32) (rv x) (rv wR) (iv 0) uN uN) [] _
       refine XS.iconst X1121.here hx rfl (hb hby at_229) ?_
       show sM T1121 230 (oF p0 p1 p2 vh c0 c1 c2 c3 c4 (0 : Int32) (4 : Int32) (rv x) (rv wR) (iv 0) uN uN) [(.int 0)] _
       simp only [if_pos hc1124, if_pos hc1125, if_neg hc1126] at k
       exact k
     · --
      refine XS.icmpYes X1121.here hx rfl (pc0 := 208) (pc' := 229) rfl (hb hby at_208) rfl (feq hc1125).2 (by decide) (by decide) ?_
      show sM T1121 229 (oF p0 p1 p2 vh c0 c1 c2 c3 c4 (0 : Int32) (4 : Int32) (rv x) (rv wR) (iv 0) uN uN) [] _
      refine XS.iconst X1121.here hx rfl (hb hby at_229) ?_
      show sM T1121 230 (oF p0 p1 p2 vh c0 c1 c2 c3 c4 (0 : Int32) (4 : Int32) (rv x) (rv wR) (iv 0) uN uN) [(.int 0)] _
      simp only [if_pos hc1124, if_neg hc1125] at k
      exact k
    · --
     refine XS.icmpYes X1121.here hx rfl (pc0 := 201) (pc' := 229) rfl (hb hby at_201) rfl (feq hc1124).2 (by decide) (by decide) ?_
     show sM T1121 229 (oF p0 p1 p2 vh c0 c1 c2 c3 c4 (0 : Int32) (4 : Int32) (rv x) (rv wR) (iv 0) uN uN) [] _
     refine XS.iconst X1121.here hx rfl (hb hby at_229) ?_
     show sM T1121 230 (oF p0 p1 p2 vh c0 c1 c2 c3 c4 (0 : Int32) (4 : Int32) (rv x) (rv wR) (iv 0) uN uN) [(.int 0)] _
     simp only [if_neg hc1124] at k
     exact k
   show gM T1121 230 (oF p0 p1 p2 vh c0 c1 c2 c3 c4 (0 : Int32) (4 : Int32) (rv x) (rv wR) (iv 0) uN uN) [(.int (if c0 = (72 : Int32) then (if c1 = (69 : Int32) then (if c2 = (65 : Int32) then (if c3 = (68 : Int32) then (1 : Int32) else (0 : Int32)) else (0 : Int32)) else (0 : Int32)) else (0 : Int32)))]
   refine sT (fun t k => XS.istore X1121.here hx rfl (hb hby at_230) rfl (l' := (oF p0 p1 p2 vh c0 c1 c2 c3 c4 (0 : Int32) (4 : Int32) (rv x) (rv wR) (iv 0) (iv (if c0 = (72 : Int32) then (if c1 = (69 : Int32) then (if c2 = (65 : Int32) then (if c3 = (68 : Int32) then (1 : Int32) else (0 : Int32)) else (0 : Int32)) else (0 : Int32)) else (0 : Int32))) uN)) rfl k) ?_
   show gM T1121 232 (oF p0 p1 p2 vh c0 c1 c2 c3 c4 (0 : Int32) (4 : Int32) (rv x) (rv wR) (iv 0) (iv (if c0 = (72 : Int32) then (if c1 = (69 : Int32) then (if c2 = (65 : Int32) then (if c3 = (68 : Int32) then (1 : Int32) else (0 : Int32)) else (0 : Int32)) else (0 : Int32)) else (0 : Int32))) uN) []
   generalize hv_vk : (if c0 = (72 : Int32) then (if c1 = (69 : Int32) then (if c2 = (65 : Int32) then (if c3 = (68 : Int32) then (1 : Int32) else (0 : Int32)) else (0 : Int32)) else (0 : Int32)) else (0 : Int32)) = vk
   refine sT (fun t k => XS.iload X1121.here hx rfl (hb hby at_232) rfl k) ?_
   show gM T1121 234 (oF p0 p1 p2 vh c0 c1 c2 c3 c4 (0 : Int32) (4 : Int32) (rv x) (rv wR) (iv 0) (iv vk) uN) [(.int 0)]
   have hc1128 : (0 : Int32) = (0 : Int32) := rfl
   refine sT (fun t k => XS.ifNo X1121.here hx rfl (hb hby at_234) rfl ((if0 _ _).trans (teq hc1128).2) k) ?_
   show gM T1121 237 (oF p0 p1 p2 vh c0 c1 c2 c3 c4 (0 : Int32) (4 : Int32) (rv x) (rv wR) (iv 0) (iv vk) uN) []
   refine sT (fun t k => XS.iload X1121.here hx rfl (hb hby at_237) rfl k) ?_
   show gM T1121 239 (oF p0 p1 p2 vh c0 c1 c2 c3 c4 (0 : Int32) (4 : Int32) (rv x) (rv wR) (iv 0) (iv vk) uN) [(.int 0)]
   have hc1129 : (0 : Int32) = (0 : Int32) := rfl
   refine sT (fun t k => XS.ifNo X1121.here hx rfl (hb hby at_239) rfl ((if0 _ _).trans (teq hc1129).2) k) ?_
   show gM T1121 242 (oF p0 p1 p2 vh c0 c1 c2 c3 c4 (0 : Int32) (4 : Int32) (rv x) (rv wR) (iv 0) (iv vk) uN) []
   refine sT (fun t k => XS.iload X1121.here hx rfl (hb hby at_242) rfl k) ?_
   show gM T1121 244 (oF p0 p1 p2 vh c0 c1 c2 c3 c4 (0 : Int32) (4 : Int32) (rv x) (rv wR) (iv 0) (iv vk) uN) [(.int vk)]
   refine sT (S' := T1121.setTop (mkF m 252 (oF p0 p1 p2 vh c0 c1 c2 c3 c4 (0 : Int32) (4 : Int32) (rv x) (rv wR) (iv 0) (iv vk) uN) [(.int (if vk = (0 : Int32) then (0 : Int32) else (1 : Int32)))])) (fun t k => ?_) ?_
   · --
    show sM T1121 244 (oF p0 p1 p2 vh c0 c1 c2 c3 c4 (0 : Int32) (4 : Int32) (rv x) (rv wR) (iv 0) (iv vk) uN) [(.int vk)] _
    by_cases hc1130 : vk = (0 : Int32)
    · --
     refine XS.ifYes X1121.here hx rfl (pc0 := 244) (pc' := 251) rfl (hb hby at_244) rfl ((if0 _ _).trans (teq hc1130).1) (by decide) (by decide) ?_
     show sM T1121 251 (oF p0 p1 p2 vh c0 c1 c2 c3 c4 (0 : Int32) (4 : Int32) (rv x) (rv wR) (iv 0) (iv vk) uN) [] _
     refine XS.iconst X1121.here hx rfl (hb hby at_251) ?_
     show sM T1121 252 (oF p0 p1 p2 vh c0 c1 c2 c3 c4 (0 : Int32) (4 : Int32) (rv x) (rv wR) (iv 0) (iv vk) uN) [(.int 0)] _
     simp only [if_pos hc1130] at k
     exact k
    · --
     refine XS.ifNo X1121.here hx rfl (hb hby at_244) rfl ((if0 _ _).trans (feq hc1130).1) ?_
     show sM T1121 247 (oF p0 p1 p2 vh c0 c1 c2 c3 c4 (0 : Int32) (4 : Int32) (rv x) (rv wR) (iv 0) (iv vk) uN) [] _
     refine XS.iconst X1121.here hx rfl (hb hby at_247) ?_
     show sM T1121 248 (oF p0 p1 p2 vh c0 c1 c2 c3 c4 (0 : Int32) (4 : Int32) (rv x) (rv wR) (iv 0) (iv vk) uN) [(.int 1)] _
     refine XS.goto X1121.here hx rfl (pc0 := 248) (pc' := 252) rfl (hb hby at_248) (by decide) (by decide) ?_
     show sM T1121 252 (oF p0 p1 p2 vh c0 c1 c2 c3 c4 (0 : Int32) (4 : Int32) (rv x) (rv wR) (iv 0) (iv vk) uN) [(.int 1)] _
     simp only [if_neg hc1130] at k
     exact k
   show gM T1121 252 (oF p0 p1 p2 vh c0 c1 c2 c3 c4 (0 : Int32) (4 : Int32) (rv x) (rv wR) (iv 0) (iv vk) uN) [(.int (if vk = (0 : Int32) then (0 : Int32) else (1 : Int32)))]
   refine sT (fun t k => XS.istore X1121.here hx rfl (hb hby at_252) rfl (l' := (oF p0 p1 p2 vh c0 c1 c2 c3 c4 (0 : Int32) (4 : Int32) (rv x) (rv wR) (iv 0) (iv vk) (iv (if vk = (0 : Int32) then (0 : Int32) else (1 : Int32))))) rfl k) ?_
   show gM T1121 254 (oF p0 p1 p2 vh c0 c1 c2 c3 c4 (0 : Int32) (4 : Int32) (rv x) (rv wR) (iv 0) (iv vk) (iv (if vk = (0 : Int32) then (0 : Int32) else (1 : Int32)))) []
   refine sT (fun t k => XS.aload X1121.here hx rfl (hb hby at_254) rfl rfl k) ?_
   show gM T1121 256 (oF p0 p1 p2 vh c0 c1 c2 c3 c4 (0 : Int32) (4 : Int32) (rv x) (rv wR) (iv 0) (iv vk) (iv (if vk = (0 : Int32) then (0 : Int32) else (1 : Int32)))) [(.ref wR)]
   refine sT (fun t k => XS.aload X1121.here hx rfl (hb hby at_256) rfl rfl k) ?_
   show gM T1121 258 (oF p0 p1 p2 vh c0 c1 c2 c3 c4 (0 : Int32) (4 : Int32) (rv x) (rv wR) (iv 0) (iv vk) (iv (if vk = (0 : Int32) then (0 : Int32) else (1 : Int32)))) [(.ref x), (.ref wR)]
   obtain ⟨cq1131, kq1131, q1131a, q1131b, q1131c⟩ := isOf hZ e1121 (E_wR.keep Kj)
   obtain ⟨_, _, ⟨T1131, L1131, k1131, n1131⟩, -, X1131, q21131, gr1131, ⟨Lc1131, ⟨hQ1131, I1131⟩, l1131, y1131, z1131⟩, st1131⟩ := X1121.virtualBackS hx (y := mN15) (z := mN15) hown (mvT hZ w37) (mvT hZ w38) (notFace_of_selects (args := #[]) (mvT hZ w40)) (mvT hZ w40) (mvT hZ w39) (by decide) (own_backW (W := 0) (own_t1 l Z a0 hw [] wR x (wW) (cs) (Ts) Hj Hj.size (Nat.le_refl _) S_WRITE (O0.keep Kj all0).2.1 (O0.keep Kj all0).2 ne_wR_wW Ex S_COMPACT_STRINGS hcs hk41 hk49 hcw hnG hnH (rfl) Fc) hZ w41 w35 (by decide) (by decide)) q1131a q1131c (g := (mkF m 258 (oF p0 p1 p2 vh c0 c1 c2 c3 c4 (0 : Int32) (4 : Int32) (rv x) (rv wR) (iv 0) (iv vk) (iv (if vk = (0 : Int32) then (0 : Int32) else (1 : Int32)))) [(.ref x), (.ref wR)])) rfl (by rw [hml]; rfl) (Steps.refl _) (argsL := [(.ref x)]) (rest := []) (lenOf own_pd13 rfl) rfl (by show 2 * 0 + _ ≤ _; exact Nat.le_of_eq rfl) (hb hby at_258) (fun _ hWq => ⟨rfl, e1121, own_ibH (s := s.setVm vj) Ij hWq, (by decide : 4 + 4 ≤ _), (by decide : 24 + 36 ≤ _)⟩)
   dsimp only [Pt.U, Pt.locs, Pt.cells, Pt.slots] at X1131 l1131 y1131 z1131 st1131 hQ1131 q21131 gr1131 I1131
   subst y1131 z1131
   obtain ⟨X1131, S1131, hZ, hown⟩ := rebS Sj (by rw [e1121]; exact kkj) X1131 q21131 gr1131 hZ hown
   obtain ⟨rfl, N1131q, K1131c⟩ := hQ1131
   have N1131 : Fr n0 L1131 := by rw [l1131]; exact Fr.app Nj (fun yq hyq => Nat.le_trans (Nat.le_trans Z0 Kj.1) (N1131q yq hyq))
   refine own_jump st1131 ?_
   have K1132 : Keep h0 T1131.heap [] := Kj.trans K1131c all0
   show gM T1131 261 (oF p0 p1 p2 vh c0 c1 c2 c3 c4 (0 : Int32) (4 : Int32) (rv x) (rv wR) (iv 0) (iv vk) (iv (if vk = (0 : Int32) then (0 : Int32) else (1 : Int32)))) [(.int 0)]
   refine sT (fun t k => XS.iload X1131.here hx rfl (hb hby at_261) rfl k) ?_
   show gM T1131 263 (oF p0 p1 p2 vh c0 c1 c2 c3 c4 (0 : Int32) (4 : Int32) (rv x) (rv wR) (iv 0) (iv vk) (iv (if vk = (0 : Int32) then (0 : Int32) else (1 : Int32)))) [(.int (if vk = (0 : Int32) then (0 : Int32) else (1 : Int32))), (.int 0)]
   refine sT (S' := T1131.setTop (mkF m 271 (oF p0 p1 p2 vh c0 c1 c2 c3 c4 (0 : Int32) (4 : Int32) (rv x) (rv wR) (iv 0) (iv vk) (iv (if vk = (0 : Int32) then (0 : Int32) else (1 : Int32)))) [(.int (if (0 : Int32) = (if vk = (0 : Int32) then (0 : Int32) else (1 : Int32)) then (1 : Int32) else (0 : Int32)))])) (fun t k => ?_) ?_
   · --
    show sM T1131 263 (oF p0 p1 p2 vh c0 c1 c2 c3 c4 (0 : Int32) (4 : Int32) (rv x) (rv wR) (iv 0) (iv vk) (iv (if vk = (0 : Int32) then (0 : Int32) else (1 : Int32)))) [(.int (if vk = (0 : Int32) then (0 : Int32) else (1 : Int32))), (.int 0)] _
    by_cases hc1133 : (0 : Int32) = (if vk = (0 : Int32) then (0 : Int32) else (1 : Int32))
    · --
     refine XS.icmpNo X1131.here hx rfl (hb hby at_263) rfl (teq hc1133).2 ?_
     show sM T1131 266 (oF p0 p1 p2 vh c0 c1 c2 c3 c4 (0 : Int32) (4 : Int32) (rv x) (rv wR) (iv 0) (iv vk) (iv (if vk = (0 : Int32) then (0 : Int32) else (1 : Int32)))) [] _
     refine XS.iconst X1131.here hx rfl (hb hby at_266) ?_
     show sM T1131 267 (oF p0 p1 p2 vh c0 c1 c2 c3 c4 (0 : Int32) (4 : Int32) (rv x) (rv wR) (iv 0) (iv vk) (iv (if vk = (0 : Int32) then (0 : Int32) else (1 : Int32)))) [(.int 1)] _
     refine XS.goto X1131.here hx rfl (pc0 := 267) (pc' := 271) rfl (hb hby at_267) (by decide) (by decide) ?_
     show sM T1131 271 (oF p0 p1 p2 vh c0 c1 c2 c3 c4 (0 : Int32) (4 : Int32) (rv x) (rv wR) (iv 0) (iv vk) (iv (if vk = (0 : Int32) then (0 : Int32) else (1 : Int32)))) [(.int 1)] _
     simp only [if_pos hc1133] at k
     exact k
    · --
     refine XS.icmpYes X1131.here hx rfl (pc0 := 263) (pc' := 270) rfl (hb hby at_263) rfl (feq hc1133).2 (by decide) (by decide) ?_
     show sM T1131 270 (oF p0 p1 p2 vh c0 c1 c2 c3 c4 (0 : Int32) (4 : Int32) (rv x) (rv wR) (iv 0) (iv vk) (iv (if vk = (0 : Int32) then (0 : Int32) else (1 : Int32)))) [] _
     refine XS.iconst X1131.here hx rfl (hb hby at_270) ?_
     show sM T1131 271 (oF p0 p1 p2 vh c0 c1 c2 c3 c4 (0 : Int32) (4 : Int32) (rv x) (rv wR) (iv 0) (iv vk) (iv (if vk = (0 : Int32) then (0 : Int32) else (1 : Int32)))) [(.int 0)] _
     simp only [if_neg hc1133] at k
     exact k
   show gM T1131 271 (oF p0 p1 p2 vh c0 c1 c2 c3 c4 (0 : Int32) (4 : Int32) (rv x) (rv wR) (iv 0) (iv vk) (iv (if vk = (0 : Int32) then (0 : Int32) else (1 : Int32)))) [(.int (if (0 : Int32) = (if vk = (0 : Int32) then (0 : Int32) else (1 : Int32)) then (1 : Int32) else (0 : Int32)))]
   refine own_retLW X1131 S1131 (Nat.le_refl _) hx hlk Bd.returns (hb hby at_271) (?_ : (if (0 : Int32) = (if vk = (0 : Int32) then (0 : Int32) else (1 : Int32)) then (1 : Int32) else (0 : Int32)) = 1) N1131 (by decide) (by decide)
   exact (hgt.elim (fun hg => by subst hv_vk; have q0 := own_nf (w := (72 : Int32)) hg (by decide); simp [q0]) (fun hq => hq.elim (fun hg => by subst hv_vk; have q1 := own_nf (w := (69 : Int32)) hg (by decide); by_cases q0 : c0 = (72 : Int32) <;> simp [q0, q1]) (fun hq => hq.elim (fun hg => by subst hv_vk; have q2 := own_nf (w := (65 : Int32)) hg (by decide); by_cases q0 : c0 = (72 : Int32) <;> by_cases q1 : c1 = (69 : Int32) <;> simp [q0, q1, q2]) (fun hg => by subst hv_vk; have q3 := own_nf (w := (68 : Int32)) hg (by decide); by_cases q0 : c0 = (72 : Int32) <;> by_cases q1 : c1 = (69 : Int32) <;> by_cases q2 : c2 = (65 : Int32) <;> simp [q0, q1, q2, q3]))))
  rcases own_c6 hv_vn with rfl | rfl | rfl | rfl | rfl | rfl
  · --
   show gM T1045 124 (oF p0 p1 p2 vh c0 c1 c2 c3 c4 vw (0 : Int32) uN uN uN uN uN) []
   refine sT (fun t k => XS.iload X1045.here hx rfl (hb hby at_124) rfl k) ?_
   show gM T1045 126 (oF p0 p1 p2 vh c0 c1 c2 c3 c4 vw (0 : Int32) uN uN uN uN uN) [(.int 0)]
   refine sT (fun t k => XS.iload X1045.here hx rfl (hb hby at_126) rfl k) ?_
   show gM T1045 128 (oF p0 p1 p2 vh c0 c1 c2 c3 c4 vw (0 : Int32) uN uN uN uN uN) [(.int c0), (.int 0)]
   refine sT (fun t k => XS.iload X1045.here hx rfl (hb hby at_128) rfl k) ?_
   show gM T1045 130 (oF p0 p1 p2 vh c0 c1 c2 c3 c4 vw (0 : Int32) uN uN uN uN uN) [(.int c1), (.int c0), (.int 0)]
   refine sT (fun t k => XS.iload X1045.here hx rfl (hb hby at_130) rfl k) ?_
   show gM T1045 132 (oF p0 p1 p2 vh c0 c1 c2 c3 c4 vw (0 : Int32) uN uN uN uN uN) [(.int c2), (.int c1), (.int c0), (.int 0)]
   refine sT (fun t k => XS.iload X1045.here hx rfl (hb hby at_132) rfl k) ?_
   show gM T1045 134 (oF p0 p1 p2 vh c0 c1 c2 c3 c4 vw (0 : Int32) uN uN uN uN uN) [(.int c3), (.int c2), (.int c1), (.int c0), (.int 0)]
   refine sT (fun t k => XS.iload X1045.here hx rfl (hb hby at_134) rfl k) ?_
   show gM T1045 136 (oF p0 p1 p2 vh c0 c1 c2 c3 c4 vw (0 : Int32) uN uN uN uN uN) [(.int c4), (.int c3), (.int c2), (.int c1), (.int c0), (.int 0)]
   obtain ⟨_, _, ⟨T1134, L1134, k1134, n1134⟩, -, X1134, q21134, gr1134, ⟨Lc1134, ⟨hQ1134, I1134⟩, l1134, y1134, z1134⟩, st1134⟩ := callSS X1045 hx (y := mN12) hown (mvT hZ w9) (mvT hZ w10) (mvT hZ w3) (mvT hZ w11) (by decide) (own_backW (W := 0) (own_st0 l Z a0 hw [] c0 c1 c2 c3 c4 (([] : List String)) h0 n0 Z0 Zn O0.2 hk7 hcw (by decide)) hZ w11 w3 (by decide) (by decide)) (g := (mkF m 136 (oF p0 p1 p2 vh c0 c1 c2 c3 c4 vw (0 : Int32) uN uN uN uN uN) [(.int c4), (.int c3), (.int c2), (.int c1), (.int c0), (.int 0)])) rfl (by rw [hml]; rfl) (argsL := [(.int 0), (.int c0), (.int c1), (.int c2), (.int c3), (.int c4)]) (rest := []) (lenOf own_pd14 rfl) rfl (by show 2 * 0 + _ ≤ _; exact Nat.le_of_eq rfl) (hb hby at_136) (fun _ hWq => ⟨rfl, eh1045, own_ibH (s := s.setVm s.vm) hI0 hWq, (by decide : 0 + 4 ≤ _), (by decide : 0 + 8 ≤ _)⟩)
   dsimp only [Pt.U, Pt.locs, Pt.cells, Pt.slots] at X1134 l1134 y1134 z1134 st1134 hQ1134 q21134 gr1134 I1134
   subst y1134 z1134
   obtain ⟨X1134, S1134, hZ, hown⟩ := rebS hS0 (by rw [eh1045]; exact hk0) X1134 q21134 gr1134 hZ hown
   obtain ⟨x_1134, bv_1134, kb_1134, rfl, N1134q, K1134c, f1134_0, f1134_1, f1134_2, f1134_3⟩ := hQ1134
   have N1134 : Fr n0 L1134 := by rw [l1134]; exact Fr.app N1045 N1134q
   refine own_jump st1134 ?_
   have K1135 : Keep h0 T1134.heap [] := K0.trans K1134c all0
   show gM T1134 139 (oF p0 p1 p2 vh c0 c1 c2 c3 c4 vw (0 : Int32) uN uN uN uN uN) [(.ref x_1134)]
   rcases own_w01 hv_vw with rfl | rfl
   · --
    exact J0 (X1134.mono (by decide) (by decide)) rfl N1134 S1134 (Nat.le_refl _) I1134 hZ hown K1135 x_1134 _ _ _ _ _ f1134_0 f1134_1 f1134_2 f1134_3 (by decide) (by decide) (by decide) (by decide) (by decide) (by decide)
   · exact JW (X1134.mono (by decide) (by decide)) rfl N1134 S1134 (Nat.le_refl _) I1134 hZ hown K1135 x_1134 _
  · --
   show gM T1045 124 (oF p0 p1 p2 vh c0 c1 c2 c3 c4 vw (1 : Int32) uN uN uN uN uN) []
   refine sT (fun t k => XS.iload X1045.here hx rfl (hb hby at_124) rfl k) ?_
   show gM T1045 126 (oF p0 p1 p2 vh c0 c1 c2 c3 c4 vw (1 : Int32) uN uN uN uN uN) [(.int 1)]
   refine sT (fun t k => XS.iload X1045.here hx rfl (hb hby at_126) rfl k) ?_
   show gM T1045 128 (oF p0 p1 p2 vh c0 c1 c2 c3 c4 vw (1 : Int32) uN uN uN uN uN) [(.int c0), (.int 1)]
   refine sT (fun t k => XS.iload X1045.here hx rfl (hb hby at_128) rfl k) ?_
   show gM T1045 130 (oF p0 p1 p2 vh c0 c1 c2 c3 c4 vw (1 : Int32) uN uN uN uN uN) [(.int c1), (.int c0), (.int 1)]
   refine sT (fun t k => XS.iload X1045.here hx rfl (hb hby at_130) rfl k) ?_
   show gM T1045 132 (oF p0 p1 p2 vh c0 c1 c2 c3 c4 vw (1 : Int32) uN uN uN uN uN) [(.int c2), (.int c1), (.int c0), (.int 1)]
   refine sT (fun t k => XS.iload X1045.here hx rfl (hb hby at_132) rfl k) ?_
   show gM T1045 134 (oF p0 p1 p2 vh c0 c1 c2 c3 c4 vw (1 : Int32) uN uN uN uN uN) [(.int c3), (.int c2), (.int c1), (.int c0), (.int 1)]
   refine sT (fun t k => XS.iload X1045.here hx rfl (hb hby at_134) rfl k) ?_
   show gM T1045 136 (oF p0 p1 p2 vh c0 c1 c2 c3 c4 vw (1 : Int32) uN uN uN uN uN) [(.int c4), (.int c3), (.int c2), (.int c1), (.int c0), (.int 1)]
   obtain ⟨_, _, ⟨T1136, L1136, k1136, n1136⟩, -, X1136, ⟨Lc1136, hQ1136, l1136, y1136, z1136⟩, st1136⟩ := Jvm.LawKit.callS X1045 hx (y := mN12) hown (mvT hZ w9) (mvT hZ w10) (mvT hZ w3) (mvT hZ w11) (by decide) (backOf (W := 0) (own_st1 l Z a0 hw [] c0 c1 c2 c3 c4 (cs) h0 n0 Z0 S__assertionsDisabled S_HI_BYTE_SHIFT S_LO_BYTE_SHIFT Zn O0.2 S_COMPACT_STRINGS hcs f1041_0) hZ w11 w3 (by decide) (by decide)) (g := (mkF m 136 (oF p0 p1 p2 vh c0 c1 c2 c3 c4 vw (1 : Int32) uN uN uN uN uN) [(.int c4), (.int c3), (.int c2), (.int c1), (.int c0), (.int 1)])) rfl (by rw [hml]; rfl) (argsL := [(.int 1), (.int c0), (.int c1), (.int c2), (.int c3), (.int c4)]) (rest := []) (lenOf own_pd14 rfl) rfl (by show 2 * 0 + _ ≤ _; exact Nat.le_of_eq rfl) (hb hby at_136) (fun _ hWq => ⟨rfl, eh1045, (by decide : 0 + 4 ≤ _), (by decide : 0 + 8 ≤ _)⟩)
   dsimp only [Pt.U, Pt.locs, Pt.cells, Pt.slots] at X1136 l1136 y1136 z1136 st1136 hQ1136
   subst y1136 z1136
   obtain ⟨x_1136, cd_1136, bv_1136, kb_1136, zl_1136, ys_1136, rfl, N1136q, K1136c, f1136_0, f1136_1, f1136_2, f1136_3, f1136_4⟩ := hQ1136
   have N1136 : Fr n0 L1136 := by rw [l1136]; exact Fr.app N1045 N1136q
   refine sT st1136 ?_
   have K1137 : Keep h0 T1136.heap [] := K0.trans K1136c all0
   show gM T1136 139 (oF p0 p1 p2 vh c0 c1 c2 c3 c4 vw (1 : Int32) uN uN uN uN uN) [(.ref x_1136)]
   rcases own_w01 hv_vw with rfl | rfl
   · --
    rcases f1136_4 with ⟨rfl, rfl, rfl, hle0⟩ | ⟨rfl, hgt⟩
    · exact J0 (X1136.mono (by decide) (by decide)) rfl N1136 hS0 (Nat.le_trans hk0 K1136c.1) hI0 hZ hown K1137 x_1136 _ _ _ _ _ f1136_0 f1136_1 f1136_2 f1136_3 (by decide) (by decide) (by decide) (by decide) (by decide) (by decide)
    · exact J1 (X1136.mono (by decide) (by decide)) rfl N1136 hS0 (Nat.le_trans hk0 K1136c.1) hI0 hZ hown K1137 x_1136 _ f1136_0 f1136_1 (by decide) (by decide) (by decide) (by decide)
   · exact JW (X1136.mono (by decide) (by decide)) rfl N1136 hS0 (Nat.le_trans hk0 K1136c.1) hI0 hZ hown K1137 x_1136 _
  · --
   show gM T1045 124 (oF p0 p1 p2 vh c0 c1 c2 c3 c4 vw (2 : Int32) uN uN uN uN uN) []
   refine sT (fun t k => XS.iload X1045.here hx rfl (hb hby at_124) rfl k) ?_
   show gM T1045 126 (oF p0 p1 p2 vh c0 c1 c2 c3 c4 vw (2 : Int32) uN uN uN uN uN) [(.int 2)]
   refine sT (fun t k => XS.iload X1045.here hx rfl (hb hby at_126) rfl k) ?_
   show gM T1045 128 (oF p0 p1 p2 vh c0 c1 c2 c3 c4 vw (2 : Int32) uN uN uN uN uN) [(.int c0), (.int 2)]
   refine sT (fun t k => XS.iload X1045.here hx rfl (hb hby at_128) rfl k) ?_
   show gM T1045 130 (oF p0 p1 p2 vh c0 c1 c2 c3 c4 vw (2 : Int32) uN uN uN uN uN) [(.int c1), (.int c0), (.int 2)]
   refine sT (fun t k => XS.iload X1045.here hx rfl (hb hby at_130) rfl k) ?_
   show gM T1045 132 (oF p0 p1 p2 vh c0 c1 c2 c3 c4 vw (2 : Int32) uN uN uN uN uN) [(.int c2), (.int c1), (.int c0), (.int 2)]
   refine sT (fun t k => XS.iload X1045.here hx rfl (hb hby at_132) rfl k) ?_
   show gM T1045 134 (oF p0 p1 p2 vh c0 c1 c2 c3 c4 vw (2 : Int32) uN uN uN uN uN) [(.int c3), (.int c2), (.int c1), (.int c0), (.int 2)]
   refine sT (fun t k => XS.iload X1045.here hx rfl (hb hby at_134) rfl k) ?_
   show gM T1045 136 (oF p0 p1 p2 vh c0 c1 c2 c3 c4 vw (2 : Int32) uN uN uN uN uN) [(.int c4), (.int c3), (.int c2), (.int c1), (.int c0), (.int 2)]
   obtain ⟨_, _, ⟨T1138, L1138, k1138, n1138⟩, -, X1138, ⟨Lc1138, hQ1138, l1138, y1138, z1138⟩, st1138⟩ := Jvm.LawKit.callS X1045 hx (y := mN12) hown (mvT hZ w9) (mvT hZ w10) (mvT hZ w3) (mvT hZ w11) (by decide) (backOf (W := 0) (own_st2 l Z a0 hw [] c0 c1 c2 c3 c4 (cs) h0 n0 Z0 S__assertionsDisabled S_HI_BYTE_SHIFT S_LO_BYTE_SHIFT Zn O0.2 S_COMPACT_STRINGS hcs f1041_0 f1042_0) hZ w11 w3 (by decide) (by decide)) (g := (mkF m 136 (oF p0 p1 p2 vh c0 c1 c2 c3 c4 vw (2 : Int32) uN uN uN uN uN) [(.int c4), (.int c3), (.int c2), (.int c1), (.int c0), (.int 2)])) rfl (by rw [hml]; rfl) (argsL := [(.int 2), (.int c0), (.int c1), (.int c2), (.int c3), (.int c4)]) (rest := []) (lenOf own_pd14 rfl) rfl (by show 2 * 0 + _ ≤ _; exact Nat.le_of_eq rfl) (hb hby at_136) (fun _ hWq => ⟨rfl, eh1045, (by decide : 0 + 4 ≤ _), (by decide : 0 + 12 ≤ _)⟩)
   dsimp only [Pt.U, Pt.locs, Pt.cells, Pt.slots] at X1138 l1138 y1138 z1138 st1138 hQ1138
   subst y1138 z1138
   obtain ⟨x_1138, cd_1138, bv_1138, kb_1138, zl_1138, ys_1138, rfl, N1138q, K1138c, f1138_0, f1138_1, f1138_2, f1138_3, f1138_4⟩ := hQ1138
   have N1138 : Fr n0 L1138 := by rw [l1138]; exact Fr.app N1045 N1138q
   refine sT st1138 ?_
   have K1139 : Keep h0 T1138.heap [] := K0.trans K1138c all0
   show gM T1138 139 (oF p0 p1 p2 vh c0 c1 c2 c3 c4 vw (2 : Int32) uN uN uN uN uN) [(.ref x_1138)]
   rcases own_w01 hv_vw with rfl | rfl
   · --
    rcases f1138_4 with ⟨rfl, rfl, rfl, hle0, hle1⟩ | ⟨rfl, hgt⟩
    · exact J0 (X1138.mono (by decide) (by decide)) rfl N1138 hS0 (Nat.le_trans hk0 K1138c.1) hI0 hZ hown K1139 x_1138 _ _ _ _ _ f1138_0 f1138_1 f1138_2 f1138_3 (by decide) (by decide) (by decide) (by decide) (by decide) (by decide)
    · exact J1 (X1138.mono (by decide) (by decide)) rfl N1138 hS0 (Nat.le_trans hk0 K1138c.1) hI0 hZ hown K1139 x_1138 _ f1138_0 f1138_1 (by decide) (by decide) (by decide) (by decide)
   · exact JW (X1138.mono (by decide) (by decide)) rfl N1138 hS0 (Nat.le_trans hk0 K1138c.1) hI0 hZ hown K1139 x_1138 _
  · --
   show gM T1045 124 (oF p0 p1 p2 vh c0 c1 c2 c3 c4 vw (3 : Int32) uN uN uN uN uN) []
   refine sT (fun t k => XS.iload X1045.here hx rfl (hb hby at_124) rfl k) ?_
   show gM T1045 126 (oF p0 p1 p2 vh c0 c1 c2 c3 c4 vw (3 : Int32) uN uN uN uN uN) [(.int 3)]
   refine sT (fun t k => XS.iload X1045.here hx rfl (hb hby at_126) rfl k) ?_
   show gM T1045 128 (oF p0 p1 p2 vh c0 c1 c2 c3 c4 vw (3 : Int32) uN uN uN uN uN) [(.int c0), (.int 3)]
   refine sT (fun t k => XS.iload X1045.here hx rfl (hb hby at_128) rfl k) ?_
   show gM T1045 130 (oF p0 p1 p2 vh c0 c1 c2 c3 c4 vw (3 : Int32) uN uN uN uN uN) [(.int c1), (.int c0), (.int 3)]
   refine sT (fun t k => XS.iload X1045.here hx rfl (hb hby at_130) rfl k) ?_
   show gM T1045 132 (oF p0 p1 p2 vh c0 c1 c2 c3 c4 vw (3 : Int32) uN uN uN uN uN) [(.int c2), (.int c1), (.int c0), (.int 3)]
   refine sT (fun t k => XS.iload X1045.here hx rfl (hb hby at_132) rfl k) ?_
   show gM T1045 134 (oF p0 p1 p2 vh c0 c1 c2 c3 c4 vw (3 : Int32) uN uN uN uN uN) [(.int c3), (.int c2), (.int c1), (.int c0), (.int 3)]
   refine sT (fun t k => XS.iload X1045.here hx rfl (hb hby at_134) rfl k) ?_
   show gM T1045 136 (oF p0 p1 p2 vh c0 c1 c2 c3 c4 vw (3 : Int32) uN uN uN uN uN) [(.int c4), (.int c3), (.int c2), (.int c1), (.int c0), (.int 3)]
   obtain ⟨_, _, ⟨T1140, L1140, k1140, n1140⟩, -, X1140, ⟨Lc1140, hQ1140, l1140, y1140, z1140⟩, st1140⟩ := Jvm.LawKit.callS X1045 hx (y := mN12) hown (mvT hZ w9) (mvT hZ w10) (mvT hZ w3) (mvT hZ w11) (by decide) (backOf (W := 0) (own_st3 l Z a0 hw [] c0 c1 c2 c3 c4 (cs) h0 n0 Z0 S__assertionsDisabled S_HI_BYTE_SHIFT S_LO_BYTE_SHIFT Zn O0.2 S_COMPACT_STRINGS hcs f1041_0 f1042_0 f1043_0) hZ w11 w3 (by decide) (by decide)) (g := (mkF m 136 (oF p0 p1 p2 vh c0 c1 c2 c3 c4 vw (3 : Int32) uN uN uN uN uN) [(.int c4), (.int c3), (.int c2), (.int c1), (.int c0), (.int 3)])) rfl (by rw [hml]; rfl) (argsL := [(.int 3), (.int c0), (.int c1), (.int c2), (.int c3), (.int c4)]) (rest := []) (lenOf own_pd14 rfl) rfl (by show 2 * 0 + _ ≤ _; exact Nat.le_of_eq rfl) (hb hby at_136) (fun _ hWq => ⟨rfl, eh1045, (by decide : 0 + 4 ≤ _), (by decide : 0 + 16 ≤ _)⟩)
   dsimp only [Pt.U, Pt.locs, Pt.cells, Pt.slots] at X1140 l1140 y1140 z1140 st1140 hQ1140
   subst y1140 z1140
   obtain ⟨x_1140, cd_1140, bv_1140, kb_1140, zl_1140, ys_1140, rfl, N1140q, K1140c, f1140_0, f1140_1, f1140_2, f1140_3, f1140_4⟩ := hQ1140
   have N1140 : Fr n0 L1140 := by rw [l1140]; exact Fr.app N1045 N1140q
   refine sT st1140 ?_
   have K1141 : Keep h0 T1140.heap [] := K0.trans K1140c all0
   show gM T1140 139 (oF p0 p1 p2 vh c0 c1 c2 c3 c4 vw (3 : Int32) uN uN uN uN uN) [(.ref x_1140)]
   rcases own_w01 hv_vw with rfl | rfl
   · --
    rcases f1140_4 with ⟨rfl, rfl, rfl, hle0, hle1, hle2⟩ | ⟨rfl, hgt⟩
    · exact J3 (X1140.mono (by decide) (by decide)) rfl N1140 hS0 (Nat.le_trans hk0 K1140c.1) hI0 hZ hown K1141 x_1140 _ _ f1140_0 f1140_1 f1140_2 f1140_3 hle0 hle1 hle2 (by decide) (by decide)
    · exact J13 (X1140.mono (by decide) (by decide)) rfl N1140 hS0 (Nat.le_trans hk0 K1140c.1) hI0 hZ hown K1141 x_1140 f1140_0 f1140_1 hgt (by decide) (by decide)
   · exact JW (X1140.mono (by decide) (by decide)) rfl N1140 hS0 (Nat.le_trans hk0 K1140c.1) hI0 hZ hown K1141 x_1140 _
  · --
   show gM T1045 124 (oF p0 p1 p2 vh c0 c1 c2 c3 c4 vw (4 : Int32) uN uN uN uN uN) []
   refine sT (fun t k => XS.iload X1045.here hx rfl (hb hby at_124) rfl k) ?_
   show gM T1045 126 (oF p0 p1 p2 vh c0 c1 c2 c3 c4 vw (4 : Int32) uN uN uN uN uN) [(.int 4)]
   refine sT (fun t k => XS.iload X1045.here hx rfl (hb hby at_126) rfl k) ?_
   show gM T1045 128 (oF p0 p1 p2 vh c0 c1 c2 c3 c4 vw (4 : Int32) uN uN uN uN uN) [(.int c0), (.int 4)]
   refine sT (fun t k => XS.iload X1045.here hx rfl (hb hby at_128) rfl k) ?_
   show gM T1045 130 (oF p0 p1 p2 vh c0 c1 c2 c3 c4 vw (4 : Int32) uN uN uN uN uN) [(.int c1), (.int c0), (.int 4)]
   refine sT (fun t k => XS.iload X1045.here hx rfl (hb hby at_130) rfl k) ?_
   show gM T1045 132 (oF p0 p1 p2 vh c0 c1 c2 c3 c4 vw (4 : Int32) uN uN uN uN uN) [(.int c2), (.int c1), (.int c0), (.int 4)]
   refine sT (fun t k => XS.iload X1045.here hx rfl (hb hby at_132) rfl k) ?_
   show gM T1045 134 (oF p0 p1 p2 vh c0 c1 c2 c3 c4 vw (4 : Int32) uN uN uN uN uN) [(.int c3), (.int c2), (.int c1), (.int c0), (.int 4)]
   refine sT (fun t k => XS.iload X1045.here hx rfl (hb hby at_134) rfl k) ?_
   show gM T1045 136 (oF p0 p1 p2 vh c0 c1 c2 c3 c4 vw (4 : Int32) uN uN uN uN uN) [(.int c4), (.int c3), (.int c2), (.int c1), (.int c0), (.int 4)]
   obtain ⟨_, _, ⟨T1142, L1142, k1142, n1142⟩, -, X1142, ⟨Lc1142, hQ1142, l1142, y1142, z1142⟩, st1142⟩ := Jvm.LawKit.callS X1045 hx (y := mN12) hown (mvT hZ w9) (mvT hZ w10) (mvT hZ w3) (mvT hZ w11) (by decide) (backOf (W := 0) (own_st4 l Z a0 hw [] c0 c1 c2 c3 c4 (cs) h0 n0 Z0 S__assertionsDisabled S_HI_BYTE_SHIFT S_LO_BYTE_SHIFT Zn O0.2 S_COMPACT_STRINGS hcs f1041_0 f1042_0 f1043_0 f1044_0) hZ w11 w3 (by decide) (by decide)) (g := (mkF m 136 (oF p0 p1 p2 vh c0 c1 c2 c3 c4 vw (4 : Int32) uN uN uN uN uN) [(.int c4), (.int c3), (.int c2), (.int c1), (.int c0), (.int 4)])) rfl (by rw [hml]; rfl) (argsL := [(.int 4), (.int c0), (.int c1), (.int c2), (.int c3), (.int c4)]) (rest := []) (lenOf own_pd14 rfl) rfl (by show 2 * 0 + _ ≤ _; exact Nat.le_of_eq rfl) (hb hby at_136) (fun _ hWq => ⟨rfl, eh1045, (by decide : 0 + 4 ≤ _), (by decide : 0 + 20 ≤ _)⟩)
   dsimp only [Pt.U, Pt.locs, Pt.cells, Pt.slots] at X1142 l1142 y1142 z1142 st1142 hQ1142
   subst y1142 z1142
   obtain ⟨x_1142, cd_1142, bv_1142, kb_1142, zl_1142, ys_1142, rfl, N1142q, K1142c, f1142_0, f1142_1, f1142_2, f1142_3, f1142_4⟩ := hQ1142
   have N1142 : Fr n0 L1142 := by rw [l1142]; exact Fr.app N1045 N1142q
   refine sT st1142 ?_
   have K1143 : Keep h0 T1142.heap [] := K0.trans K1142c all0
   show gM T1142 139 (oF p0 p1 p2 vh c0 c1 c2 c3 c4 vw (4 : Int32) uN uN uN uN uN) [(.ref x_1142)]
   rcases own_w01 hv_vw with rfl | rfl
   · --
    rcases f1142_4 with ⟨rfl, rfl, rfl, hle0, hle1, hle2, hle3⟩ | ⟨rfl, hgt⟩
    · exact J4 (X1142.mono (by decide) (by decide)) rfl N1142 hS0 (Nat.le_trans hk0 K1142c.1) hI0 hZ hown K1143 x_1142 _ _ f1142_0 f1142_1 f1142_2 f1142_3 hle0 hle1 hle2 hle3 (by decide) (by decide)
    · exact J14 (X1142.mono (by decide) (by decide)) rfl N1142 hS0 (Nat.le_trans hk0 K1142c.1) hI0 hZ hown K1143 x_1142 f1142_0 f1142_1 hgt (by decide) (by decide)
   · exact JW (X1142.mono (by decide) (by decide)) rfl N1142 hS0 (Nat.le_trans hk0 K1142c.1) hI0 hZ hown K1143 x_1142 _
  · --
   show gM T1045 124 (oF p0 p1 p2 vh c0 c1 c2 c3 c4 vw (5 : Int32) uN uN uN uN uN) []
   refine sT (fun t k => XS.iload X1045.here hx rfl (hb hby at_124) rfl k) ?_
   show gM T1045 126 (oF p0 p1 p2 vh c0 c1 c2 c3 c4 vw (5 : Int32) uN uN uN uN uN) [(.int 5)]
   refine sT (fun t k => XS.iload X1045.here hx rfl (hb hby at_126) rfl k) ?_
   show gM T1045 128 (oF p0 p1 p2 vh c0 c1 c2 c3 c4 vw (5 : Int32) uN uN uN uN uN) [(.int c0), (.int 5)]
   refine sT (fun t k => XS.iload X1045.here hx rfl (hb hby at_128) rfl k) ?_
   show gM T1045 130 (oF p0 p1 p2 vh c0 c1 c2 c3 c4 vw (5 : Int32) uN uN uN uN uN) [(.int c1), (.int c0), (.int 5)]
   refine sT (fun t k => XS.iload X1045.here hx rfl (hb hby at_130) rfl k) ?_
   show gM T1045 132 (oF p0 p1 p2 vh c0 c1 c2 c3 c4 vw (5 : Int32) uN uN uN uN uN) [(.int c2), (.int c1), (.int c0), (.int 5)]
   refine sT (fun t k => XS.iload X1045.here hx rfl (hb hby at_132) rfl k) ?_
   show gM T1045 134 (oF p0 p1 p2 vh c0 c1 c2 c3 c4 vw (5 : Int32) uN uN uN uN uN) [(.int c3), (.int c2), (.int c1), (.int c0), (.int 5)]
   refine sT (fun t k => XS.iload X1045.here hx rfl (hb hby at_134) rfl k) ?_
   show gM T1045 136 (oF p0 p1 p2 vh c0 c1 c2 c3 c4 vw (5 : Int32) uN uN uN uN uN) [(.int c4), (.int c3), (.int c2), (.int c1), (.int c0), (.int 5)]
   obtain ⟨_, _, ⟨T1144, L1144, k1144, n1144⟩, -, X1144, ⟨Lc1144, hQ1144, l1144, y1144, z1144⟩, st1144⟩ := Jvm.LawKit.callS X1045 hx (y := mN12) hown (mvT hZ w9) (mvT hZ w10) (mvT hZ w3) (mvT hZ w11) (by decide) (backOf (W := 0) (own_st5 l Z a0 hw [] c0 c1 c2 c3 c4 (cs) h0 n0 Z0 S__assertionsDisabled S_HI_BYTE_SHIFT S_LO_BYTE_SHIFT Zn O0.2 S_COMPACT_STRINGS hcs f1041_0 f1042_0 f1043_0 f1044_0 f1045_0) hZ w11 w3 (by decide) (by decide)) (g := (mkF m 136 (oF p0 p1 p2 vh c0 c1 c2 c3 c4 vw (5 : Int32) uN uN uN uN uN) [(.int c4), (.int c3), (.int c2), (.int c1), (.int c0), (.int 5)])) rfl (by rw [hml]; rfl) (argsL := [(.int 5), (.int c0), (.int c1), (.int c2), (.int c3), (.int c4)]) (rest := []) (lenOf own_pd14 rfl) rfl (by show 2 * 0 + _ ≤ _; exact Nat.le_of_eq rfl) (hb hby at_136) (fun _ hWq => ⟨rfl, eh1045, (by decide : 0 + 4 ≤ _), (by decide : 0 + 24 ≤ _)⟩)
   dsimp only [Pt.U, Pt.locs, Pt.cells, Pt.slots] at X1144 l1144 y1144 z1144 st1144 hQ1144
   subst y1144 z1144
   obtain ⟨x_1144, cd_1144, bv_1144, kb_1144, zl_1144, ys_1144, rfl, N1144q, K1144c, f1144_0, f1144_1, f1144_2, f1144_3, f1144_4⟩ := hQ1144
   have N1144 : Fr n0 L1144 := by rw [l1144]; exact Fr.app N1045 N1144q
   refine sT st1144 ?_
   have K1145 : Keep h0 T1144.heap [] := K0.trans K1144c all0
   show gM T1144 139 (oF p0 p1 p2 vh c0 c1 c2 c3 c4 vw (5 : Int32) uN uN uN uN uN) [(.ref x_1144)]
   rcases own_w01 hv_vw with rfl | rfl
   · --
    rcases f1144_4 with ⟨rfl, rfl, rfl, hle0, hle1, hle2, hle3, hle4⟩ | ⟨rfl, hgt⟩
    · exact J0 (X1144.mono (by decide) (by decide)) rfl N1144 hS0 (Nat.le_trans hk0 K1144c.1) hI0 hZ hown K1145 x_1144 _ _ _ _ _ f1144_0 f1144_1 f1144_2 f1144_3 (by decide) (by decide) (by decide) (by decide) (by decide) (by decide)
    · exact J1 (X1144.mono (by decide) (by decide)) rfl N1144 hS0 (Nat.le_trans hk0 K1144c.1) hI0 hZ hown K1145 x_1144 _ f1144_0 f1144_1 (by decide) (by decide) (by decide) (by decide)
   · exact JW (X1144.mono (by decide) (by decide)) rfl N1144 hS0 (Nat.le_trans hk0 K1144c.1) hI0 hZ hown K1145 x_1144 _
set_option maxRecDepth 65536 in
set_option maxHeartbeats 40000000 in
theorem comes_1 {Post : Tables → Env → Array Value → State → Outcome → State → Prop} (hpost : ∀ tb e args s v u, (limb_1_1.after args s (.returned v) u = true ∧ limb_1_2.after args s (.returned v) u = true ∧ True) → ReturnedEndW s (.returned v) u (Jvm.fieldLocs frame_1_writes args s ++ Jvm.arrayLocs frame_1_arrays args s ++ Jvm.staticLocs frame_1_statics s) 24 3200 → Post tb e args s (.returned v) u) :
    ArmFor flags0 classFile x code maxLocals ret World_1 tables_1 room_1 Calls_1 rest_1 Pre_1 Post := by
  intro l hfl _ _ p e ha hc hk s m args below hf hA hF happ hP
  obtain ⟨hcalls, hrest, hpre⟩ := hP
  obtain ⟨-, -, -, hnamed, -, -, -, hat⟩ := (Spec.applies_iff hf).mp happ
  obtain ⟨hg, hn⟩ := and_e (Cond.before_iff.mp (show (Jvm.Cond.and given_1 narrow_1).before args s = true from hpre))
  obtain ⟨gg1, gg2⟩ := and_e hg
  obtain ⟨gg3, gg4⟩ := and_e gg2
  obtain ⟨gg5, gg6⟩ := and_e gg4
  obtain ⟨w0, w1, w2, rfl⟩ : ∃ w0 w1 w2 : Value, args = #[w0, w1, w2] := by
    have hs : args.size = 3 := by simpa [Cond.value, given_1] using gg1
    obtain ⟨L⟩ := args
    match L, hs with
    | [w0, w1, w2], _ => exact ⟨w0, w1, w2, rfl⟩
  have hw := fun d (hd : d ∈ tables_1) => atoms_spec (ws := Jvm.Cond.code x code maxLocals ret :: tables_1) hat d (List.mem_cons_of_mem _ hd)
  have hfit : Fit s := fun {y c} hc i hi => by
    obtain ⟨ha, rfl⟩ := Array.getElem?_eq_some_iff.mp hc
    have q := List.all_eq_true.mp ((Array.all_eq_true_iff_forall_mem.mp hF) _ (Array.getElem_mem ha)) i (List.mem_range.mpr hi)
    simpa [Array.getElem?_eq_getElem hi] using q
  obtain ⟨i0, ei0⟩ := is_v gg3
  obtain rfl : w0 = (.int i0) := Option.some.inj ei0
  obtain ⟨i1, ei1⟩ := isL_v gg5
  obtain rfl : w1 = (.long i1) := Option.some.inj ei1
  obtain ⟨i2, ei2⟩ := is_v gg6
  obtain rfl : w2 = (.int i2) := Option.some.inj ei2
  obtain ⟨gn1, gn2⟩ := and_e hn
  obtain ⟨gn3, gn4⟩ := and_e gn2
  obtain ⟨gn5, gn6⟩ := and_e gn4
  obtain ⟨w_READ, ev_READ⟩ := exa_v gn1
  have S_READ := Sta.start ev_READ (Or.inr ⟨(hw _ (List.mem_of_getElem? (i := 35) rfl)), (hw _ (List.mem_of_getElem? (i := 36) rfl))⟩)
  have E_READ := Exa.start ev_READ gn1
  have O_READ := own_ord ev_READ gn5
  obtain ⟨w_WRITE, ev_WRITE⟩ := exa_v gn3
  have S_WRITE := Sta.start ev_WRITE (Or.inr ⟨(hw _ (List.mem_of_getElem? (i := 35) rfl)), (hw _ (List.mem_of_getElem? (i := 43) rfl))⟩)
  have E_WRITE := Exa.start ev_WRITE gn3
  have O_WRITE := own_ord ev_WRITE gn6
  obtain ⟨hsets, hown0⟩ := atoms_of _ (rest_1_c_eq ▸ (show rest_1_c.before _ s = true from hrest))
  obtain ⟨cs, evcs⟩ := is_v (Cond.before_iff.mp (hsets _ (List.mem_of_getElem? (i := 1) rfl)))
  have S_CS := Sta.start evcs (Or.inl (hsets _ (List.mem_of_getElem? (i := 0) rfl)))
  have hcw : Jvm.Lit.compactW.before _ s = true := (hsets _ (List.mem_of_getElem? (i := 2) rfl))
  have hcs := own_ne0 evcs (hsets _ (List.mem_of_getElem? (i := 2) rfl))
  have S_AD := Sta.start (eqv_i (Term.int_eval _) (Cond.before_iff.mp (hsets _ (List.mem_of_getElem? (i := 12) rfl)))) (Or.inl (hsets _ (List.mem_of_getElem? (i := 11) rfl)))
  have S_HI := Sta.start (eqv_i (Term.int_eval _) (Cond.before_iff.mp (hsets _ (List.mem_of_getElem? (i := 15) rfl)))) (Or.inl (hsets _ (List.mem_of_getElem? (i := 14) rfl)))
  have S_LO := Sta.start (eqv_i (Term.int_eval _) (Cond.before_iff.mp (hsets _ (List.mem_of_getElem? (i := 18) rfl)))) (Or.inl (hsets _ (List.mem_of_getElem? (i := 17) rfl)))
  have hk41 : Jvm.Lit.constHeld s "com/example/noctule/noctule/server/TokenScope" 41 := hcalls.1 ("com/example/noctule/noctule/server/TokenScope", 41) (List.mem_of_getElem? (i := 0) rfl)
  have hk49 : Jvm.Lit.constHeld s "com/example/noctule/noctule/server/TokenScope" 49 := hcalls.1 ("com/example/noctule/noctule/server/TokenScope", 49) (List.mem_of_getElem? (i := 1) rfl)
  have hk7 : Jvm.Lit.constHeld s "java/lang/String" 7 := hcalls.1 ("java/lang/String", 7) (List.mem_of_getElem? (i := 2) rfl)
  obtain ⟨n, o, h1, h2, h3, _, L, rfl, ⟨rfl, N⟩, hq⟩ := own_law l s _ hw tables_1 i0 i1 i2 cs w_WRITE w_READ s.heap s.heap.size (Nat.le_refl _) S_AD S_HI S_LO (Nat.le_refl _) (Old.start s).2 S_CS hcs S_WRITE S_READ E_READ E_WRITE (O_READ.ne O_WRITE (by decide)) hk7 hk41 hk49 hcw p e ha hc hk s m _ below hf ((Spec.applies_iff_loose hf).mp happ).1 ⟨rfl, State.Warmed39.refl s, rfl, IB.start⟩ trivial
  refine ⟨n, _, h1, h2, h3, hpost _ _ _ _ _ _ ⟨Cond.after_iff.mpr rfl, Cond.after_iff.mpr (eq_i res_at (Term.int_eval (1)) rfl), trivial⟩ ⟨hq.1, hq.2.1, hq.2.2.1, (hq.2.2.2.sift fun y hy => Or.inr (N y hy)).mono (by decide) (by decide)⟩⟩
theorem main_1_1 : Claimed_1_1 := comes_1 fun _ _ _ _ _ _ h hF => ⟨h.1, hF⟩
theorem main_1_2 : Claimed_1_2 := comes_1 fun _ _ _ _ _ _ h hF => ⟨h.2.1, hF⟩
end Jvm.Pilot.@@N@@
namespace Jvm.Pilot.@@N@@
open Jvm Jvm.ClassFile Sem Op Lib Jvm.Free Jvm.Stand Jvm.Pilot.@@N@@.Jvm.D
/-! MADE BY PROGRAM (witnessworld.py) out of the Statement's table words and the real class files: 22 classes; the members and pool entries that the words name. The judged class is class 1, her method 4. -/
namespace start1
open Jvm.ClassFile
def u (s : String) : CpInfo := .utf8 (stringToUtf16 s)
/-- a pool by its gaps: so many unusable entries, then the entry; so many at the end -/
def gap : Nat → List CpInfo → List CpInfo
  | 0, r => r
  | n + 1, r => .unusable :: gap n r
def poolList (es : List (Nat × CpInfo)) (last : Nat) : List CpInfo := es.foldr (fun e r => gap e.1 (e.2 :: r)) (gap last [])
def pool (es : List (Nat × CpInfo)) (last : Nat) : Array CpInfo := ⟨poolList es last⟩
def fileOf (pool : Array CpInfo) (this : Nat) (attrs : Array Attribute := #[]) (ms : Array MethodInfo := #[]) (fl : Nat := 33) (sup : Nat := 0) (ifs : Array Nat := #[]) (fds : Array FieldInfo := #[]) : ClassFile where
  minorVersion := 0
  majorVersion := 65
  constantPool := pool
  accessFlags := fl
  thisClass := this
  superClass := sup
  interfaces := ifs
  fields := fds
  methods := ms
  attributes := attrs
def plain (name : String) (sup : Option ClassId) : Class where
  name := name
  kind := .ordinary
  loader := none
  accessFlags := 33
  super := sup
  interfaces := #[]
  cf := none
  fields := #[]
  methods := #[]
  instanceTypes := #[]
  staticTypes := #[]
  resolved := #[]
  callSites := []
  init := .initialized
  statics := none
  mirror := none

def pool0 : Array CpInfo := pool [(5, u "<init>"), (0, u "()V"), (1, .class_ 10), (1, u "java/lang/Object")] 113

def k0c0 : Code := { maxStack := 0, maxLocals := 1, code := object_method_1_code, exceptionTable := #[], attributes := #[] }
def k0m0 : Method := { name := "<init>", desc := "()V", sig := { parameters := [], returnType := none }, accessFlags := 1, code := some k0c0 }
/-- java/lang/Object -/
def k0 : Class := { plain "java/lang/Object" none with
  accessFlags := 33
  interfaces := #[]
  cf := some (fileOf pool0 8 #[] #[{ accessFlags := 1, nameIndex := 5, descriptorIndex := 6, attributes := #[] }] 33 0 #[] #[])
  fields := #[]
  methods := #[k0m0]
  instanceTypes := #[]
  staticTypes := #[]
  resolved := Array.replicate 124 none
  statics := none }

def pool1 : Array CpInfo := pool [(2, .class_ 4), (1, u "java/lang/Object"), (0, u "<init>"), (0, u "()V"), (0, .methodref 8 9), (0, .class_ 10), (0, .nameAndType 11 12), (0, u "com/example/noctule/noctule/server/TokenScopeTakesPinLaw"), (0, u "wordChar"), (0, u "(ZI)C"), (0, .class_ 14), (0, u "java/lang/String"), (0, .methodref 13 16), (0, .nameAndType 5 17), (0, u "([C)V"), (0, .long 65535), (1, .methodref 8 21), (0, .nameAndType 22 23), (0, u "pick"), (0, u "(IIZC)C"), (0, .integer 65535), (0, .methodref 8 26), (0, .nameAndType 27 28), (0, u "str"), (0, u "(ICCCCC)Ljava/lang/String;"), (0, .fieldref 30 31), (0, .class_ 32), (0, .nameAndType 33 34), (0, u "com/example/noctule/noctule/server/TokenScope"), (0, u "WRITE"), (0, u "Lcom/example/noctule/noctule/server/TokenScope;"), (0, .fieldref 30 36), (0, .nameAndType 37 34), (0, u "READ"), (0, .methodref 30 39), (0, .nameAndType 40 41), (0, u "takes"), (0, u "(Ljava/lang/String;)Z"), (3, u "law"), (0, u "(IJI)Z")] 2

def k1m0 : Method := { name := "<init>", desc := "()V", sig := { parameters := [], returnType := none }, accessFlags := 2, code := none }
def k1c1 : Code := { maxStack := 2, maxLocals := 2, code := method_2_code, exceptionTable := #[], attributes := #[] }
def k1m1 : Method := { name := "wordChar", desc := "(ZI)C", sig := { parameters := [.boolean, .int], returnType := some .char }, accessFlags := 10, code := some k1c1 }
def k1c2 : Code := { maxStack := 3, maxLocals := 4, code := method_3_code, exceptionTable := #[], attributes := #[] }
def k1m2 : Method := { name := "pick", desc := "(IIZC)C", sig := { parameters := [.int, .int, .boolean, .char], returnType := some .char }, accessFlags := 10, code := some k1c2 }
def k1c3 : Code := { maxStack := 6, maxLocals := 6, code := method_4_code, exceptionTable := #[], attributes := #[] }
def k1m3 : Method := { name := "str", desc := "(ICCCCC)Ljava/lang/String;", sig := { parameters := [.int, .char, .char, .char, .char, .char], returnType := some (.object "java/lang/String") }, accessFlags := 10, code := some k1c3 }
def k1c4 : Code := { maxStack := 7, maxLocals := 17, code := code, exceptionTable := #[], attributes := #[] }
def k1m4 : Method := { name := "law", desc := "(IJI)Z", sig := { parameters := [.int, .long, .int], returnType := some .boolean }, accessFlags := 9, code := some k1c4 }
/-- com/example/noctule/noctule/server/TokenScopeTakesPinLaw -/
def k1 : Class := { plain "com/example/noctule/noctule/server/TokenScopeTakesPinLaw" (some 0) with
  accessFlags := 49
  interfaces := #[]
  cf := some (fileOf pool1 8 #[] #[{ accessFlags := 2, nameIndex := 5, descriptorIndex := 6, attributes := #[] }, { accessFlags := 10, nameIndex := 11, descriptorIndex := 12, attributes := #[] }, { accessFlags := 10, nameIndex := 22, descriptorIndex := 23, attributes := #[] }, { accessFlags := 10, nameIndex := 27, descriptorIndex := 28, attributes := #[] }, { accessFlags := 9, nameIndex := 45, descriptorIndex := 46, attributes := #[] }] 49 2 #[] #[])
  fields := #[]
  methods := #[k1m0, k1m1, k1m2, k1m3, k1m4]
  instanceTypes := #[]
  staticTypes := #[]
  resolved := Array.replicate 49 none
  statics := none }

def pool2 : Array CpInfo := pool [(1, .class_ 2), (0, u "java/io/Serializable"), (0, .class_ 4), (0, u "java/lang/Object")] 2

/-- java/io/Serializable -/
def k2 : Class := { plain "java/io/Serializable" (some 0) with
  accessFlags := 1537
  interfaces := #[]
  cf := some (fileOf pool2 1 #[] #[] 1537 3 #[] #[])
  fields := #[]
  methods := #[]
  instanceTypes := #[]
  staticTypes := #[]
  resolved := Array.replicate 7 none
  statics := none }

def pool3 : Array CpInfo := pool [(1, .class_ 2), (0, u "java/lang/Comparable"), (0, .class_ 4), (0, u "java/lang/Object")] 7

/-- java/lang/Comparable -/
def k3 : Class := { plain "java/lang/Comparable" (some 0) with
  accessFlags := 1537
  interfaces := #[]
  cf := some (fileOf pool3 1 #[] #[] 1537 3 #[] #[])
  fields := #[]
  methods := #[]
  instanceTypes := #[]
  staticTypes := #[]
  resolved := Array.replicate 12 none
  statics := none }

def pool4 : Array CpInfo := pool [(2, .class_ 4), (1, u "java/lang/CharSequence"), (42, .class_ 48), (0, u "java/lang/CharSequence$1CodePointIterator"), (10, .class_ 60), (0, u "java/lang/CharSequence$1CharIterator"), (5, .class_ 67), (0, u "java/lang/Object")] 63

/-- java/lang/CharSequence -/
def k4 : Class := { plain "java/lang/CharSequence" (some 0) with
  accessFlags := 1537
  interfaces := #[]
  cf := some (fileOf pool4 2 #[.nestMembers #[47, 59]] #[] 1537 66 #[] #[])
  fields := #[]
  methods := #[]
  instanceTypes := #[]
  staticTypes := #[]
  resolved := Array.replicate 131 none
  statics := none }

def pool5 : Array CpInfo := pool [(1, .class_ 2), (0, u "java/lang/constant/Constable"), (0, .class_ 4), (0, u "java/lang/Object")] 6

/-- java/lang/constant/Constable -/
def k5 : Class := { plain "java/lang/constant/Constable" (some 0) with
  accessFlags := 1537
  interfaces := #[]
  cf := some (fileOf pool5 1 #[] #[] 1537 3 #[] #[])
  fields := #[]
  methods := #[]
  instanceTypes := #[]
  staticTypes := #[]
  resolved := Array.replicate 11 none
  statics := none }

def pool6 : Array CpInfo := pool [(1, .class_ 2), (0, u "java/lang/constant/ConstantDesc"), (0, .class_ 4), (0, u "java/lang/Object")] 32

/-- java/lang/constant/ConstantDesc -/
def k6 : Class := { plain "java/lang/constant/ConstantDesc" (some 0) with
  accessFlags := 1537
  interfaces := #[]
  cf := some (fileOf pool6 1 #[] #[] 1537 3 #[] #[])
  fields := #[]
  methods := #[]
  instanceTypes := #[]
  staticTypes := #[]
  resolved := Array.replicate 37 none
  statics := none }

def pool7 : Array CpInfo := pool [(1, .methodref 2 3), (0, .class_ 4), (0, .nameAndType 5 6), (0, u "java/lang/Object"), (0, u "<init>"), (0, u "()V"), (0, .string 8), (0, u ""), (0, .fieldref 10 11), (0, .class_ 12), (0, .nameAndType 13 14), (0, u "java/lang/String"), (0, u "value"), (0, u "[B"), (0, .fieldref 10 16), (0, .nameAndType 17 18), (0, u "coder"), (0, u "B"), (2, u "hash"), (0, u "I"), (2, u "hashIsZero"), (0, u "Z"), (0, .methodref 10 28), (0, .nameAndType 5 29), (0, u "([CIILjava/lang/Void;)V"), (8, .fieldref 10 39), (0, .nameAndType 40 26), (0, u "COMPACT_STRINGS"), (1, .class_ 44), (1, u "java/lang/StringUTF16"), (0, u "compress"), (1, .methodref 42 48), (0, .nameAndType 49 50), (0, u "coderFromArrayLen"), (0, u "([BI)B"), (56, .class_ 109), (1, u "java/lang/StringLatin1"), (67, .methodref 42 178), (0, .nameAndType 45 179), (0, u "([CII)[B"), (361, .methodref 107 542), (0, .nameAndType 543 544), (0, u "equals"), (0, u "([B[B)Z"), (28, u "(Ljava/lang/Object;)Z"), (1, .class_ 576), (0, u "java/lang/CharSequence"), (22, u "CASE_INSENSITIVE_ORDER"), (0, u "Ljava/util/Comparator;"), (409, u "([C)V"), (90, u "serialPersistentFields"), (0, u "[Ljava/io/ObjectStreamField;"), (0, .class_ 1104), (0, u "java/lang/String$CaseInsensitiveComparator"), (1, .class_ 1107), (0, u "java/io/Serializable"), (0, .class_ 1109), (0, u "java/lang/Comparable"), (0, .class_ 1111), (0, u "java/lang/constant/Constable"), (0, .class_ 1113), (0, u "java/lang/constant/ConstantDesc"), (2, u "serialVersionUID"), (0, u "J"), (3, u "REPL"), (0, u "C"), (2, u "LATIN1"), (1, u "UTF16")] 323

def k7m0 : Method := { name := "<init>", desc := "()V", sig := { parameters := [], returnType := none }, accessFlags := 1, code := none }
def k7c1 : Code := { maxStack := 5, maxLocals := 2, code := jdk_42_method_3_code, exceptionTable := #[], attributes := #[] }
def k7m1 : Method := { name := "<init>", desc := "([C)V", sig := { parameters := [(.array .char)], returnType := none }, accessFlags := 1, code := some k7c1 }
def k7c2 : Code := { maxStack := 2, maxLocals := 3, code := jdk_42_method_66_code, exceptionTable := #[], attributes := #[] }
def k7m2 : Method := { name := "equals", desc := "(Ljava/lang/Object;)Z", sig := { parameters := [(.object "java/lang/Object")], returnType := some .boolean }, accessFlags := 1, code := some k7c2 }
def k7c3 : Code := { maxStack := 4, maxLocals := 6, code := jdk_42_method_149_code, exceptionTable := #[], attributes := #[] }
def k7m3 : Method := { name := "<init>", desc := "([CIILjava/lang/Void;)V", sig := { parameters := [(.array .char), .int, .int, (.object "java/lang/Void")], returnType := none }, accessFlags := 2, code := some k7c3 }
/-- java/lang/String -/
def k7 : Class := { plain "java/lang/String" (some 0) with
  accessFlags := 49
  interfaces := #[2, 3, 4, 5, 6]
  cf := some (fileOf pool7 10 #[.nestMembers #[1103]] #[{ accessFlags := 1, nameIndex := 5, descriptorIndex := 6, attributes := #[] }, { accessFlags := 1, nameIndex := 5, descriptorIndex := 1010, attributes := #[] }, { accessFlags := 1, nameIndex := 543, descriptorIndex := 573, attributes := #[] }, { accessFlags := 2, nameIndex := 5, descriptorIndex := 29, attributes := #[] }] 49 2 #[1106, 1108, 575, 1110, 1112] #[{ accessFlags := 18, nameIndex := 13, descriptorIndex := 14, attributes := #[] }, { accessFlags := 18, nameIndex := 17, descriptorIndex := 18, attributes := #[] }, { accessFlags := 2, nameIndex := 21, descriptorIndex := 22, attributes := #[] }, { accessFlags := 2, nameIndex := 25, descriptorIndex := 26, attributes := #[] }, { accessFlags := 26, nameIndex := 1116, descriptorIndex := 1117, attributes := #[] }, { accessFlags := 24, nameIndex := 40, descriptorIndex := 26, attributes := #[] }, { accessFlags := 26, nameIndex := 1101, descriptorIndex := 1102, attributes := #[] }, { accessFlags := 26, nameIndex := 1121, descriptorIndex := 1122, attributes := #[] }, { accessFlags := 25, nameIndex := 599, descriptorIndex := 600, attributes := #[] }, { accessFlags := 24, nameIndex := 1125, descriptorIndex := 18, attributes := #[] }, { accessFlags := 24, nameIndex := 1127, descriptorIndex := 18, attributes := #[] }])
  fields := #[{ name := "value", type := (.array .byte), accessFlags := 18, slot := 0, constantValue := 0 }, { name := "coder", type := .byte, accessFlags := 18, slot := 1, constantValue := 0 }, { name := "hash", type := .int, accessFlags := 2, slot := 2, constantValue := 0 }, { name := "hashIsZero", type := .boolean, accessFlags := 2, slot := 3, constantValue := 0 }, { name := "serialVersionUID", type := .long, accessFlags := 26, slot := 0, constantValue := 0 }, { name := "COMPACT_STRINGS", type := .boolean, accessFlags := 24, slot := 1, constantValue := 0 }, { name := "serialPersistentFields", type := (.array (.object "java/io/ObjectStreamField")), accessFlags := 26, slot := 2, constantValue := 0 }, { name := "REPL", type := .char, accessFlags := 26, slot := 3, constantValue := 0 }, { name := "CASE_INSENSITIVE_ORDER", type := (.object "java/util/Comparator"), accessFlags := 25, slot := 4, constantValue := 0 }, { name := "LATIN1", type := .byte, accessFlags := 24, slot := 5, constantValue := 0 }, { name := "UTF16", type := .byte, accessFlags := 24, slot := 6, constantValue := 0 }]
  methods := #[k7m0, k7m1, k7m2, k7m3]
  instanceTypes := #[(.array .byte), .byte, .int, .boolean]
  staticTypes := #[.long, .boolean, (.array (.object "java/io/ObjectStreamField")), .char, (.object "java/util/Comparator"), .byte, .byte]
  resolved := Array.replicate 1451 none
  statics := some 0 }

def pool8 : Array CpInfo := pool [(2, .class_ 4), (1, u "java/lang/Enum"), (0, u "name"), (0, u "Ljava/lang/String;"), (2, u "ordinal"), (0, u "I"), (1, .class_ 14), (1, u "java/lang/Object"), (4, u "hash"), (86, .class_ 108), (1, u "java/lang/Enum$EnumDesc"), (2, .class_ 112), (0, u "java/lang/constant/Constable"), (0, .class_ 114), (0, u "java/lang/Comparable"), (0, .class_ 116), (0, u "java/io/Serializable")] 87

/-- java/lang/Enum -/
def k8 : Class := { plain "java/lang/Enum" (some 0) with
  accessFlags := 1057
  interfaces := #[5, 3, 2]
  cf := some (fileOf pool8 2 #[.nestMembers #[106]] #[] 1057 12 #[111, 113, 115] #[{ accessFlags := 18, nameIndex := 5, descriptorIndex := 6, attributes := #[] }, { accessFlags := 18, nameIndex := 9, descriptorIndex := 10, attributes := #[] }, { accessFlags := 2, nameIndex := 19, descriptorIndex := 10, attributes := #[] }])
  fields := #[{ name := "name", type := (.object "java/lang/String"), accessFlags := 18, slot := 0, constantValue := 0 }, { name := "ordinal", type := .int, accessFlags := 18, slot := 1, constantValue := 0 }, { name := "hash", type := .int, accessFlags := 2, slot := 2, constantValue := 0 }]
  methods := #[]
  instanceTypes := #[(.object "java/lang/String"), .int, .int]
  staticTypes := #[]
  resolved := Array.replicate 204 none
  statics := none }

def pool9 : Array CpInfo := pool [(2, .class_ 4), (1, u "com/example/noctule/noctule/core/WireNamed"), (50, .class_ 56), (0, u "java/lang/Object")] 41

/-- com/example/noctule/noctule/core/WireNamed -/
def k9 : Class := { plain "com/example/noctule/noctule/core/WireNamed" (some 0) with
  accessFlags := 1537
  interfaces := #[]
  cf := some (fileOf pool9 2 #[] #[] 1537 55 #[] #[])
  fields := #[]
  methods := #[]
  instanceTypes := #[]
  staticTypes := #[]
  resolved := Array.replicate 98 none
  statics := none }

def pool10 : Array CpInfo := pool [(1, .class_ 2), (0, u "com/example/noctule/noctule/server/TokenScope"), (2, u "READ"), (0, u "Lcom/example/noctule/noctule/server/TokenScope;"), (0, .fieldref 1 8), (0, .nameAndType 9 6), (0, u "WRITE"), (2, u "$VALUES"), (0, u "[Lcom/example/noctule/noctule/server/TokenScope;"), (6, .class_ 22), (1, u "java/lang/Enum"), (8, u "wireName"), (0, u "Ljava/lang/String;"), (3, .class_ 38), (1, u "com/example/noctule/noctule/core/WireNamed"), (2, .string 42), (0, u "GET"), (0, .methodref 44 45), (0, .class_ 46), (0, .nameAndType 47 48), (0, u "java/lang/String"), (0, u "equals"), (0, u "(Ljava/lang/Object;)Z"), (0, .string 50), (0, u "HEAD"), (21, u "takes"), (0, u "(Ljava/lang/String;)Z")] 6

def k10c0 : Code := { maxStack := 2, maxLocals := 2, code := prog_94_method_6_code, exceptionTable := #[], attributes := #[] }
def k10m0 : Method := { name := "takes", desc := "(Ljava/lang/String;)Z", sig := { parameters := [(.object "java/lang/String")], returnType := some .boolean }, accessFlags := 0, code := some k10c0 }
/-- com/example/noctule/noctule/server/TokenScope -/
def k10 : Class := { plain "com/example/noctule/noctule/server/TokenScope" (some 8) with
  accessFlags := 16433
  interfaces := #[9]
  cf := some (fileOf pool10 1 #[] #[{ accessFlags := 0, nameIndex := 72, descriptorIndex := 73, attributes := #[] }] 16433 20 #[36] #[{ accessFlags := 16409, nameIndex := 5, descriptorIndex := 6, attributes := #[] }, { accessFlags := 16409, nameIndex := 9, descriptorIndex := 6, attributes := #[] }, { accessFlags := 18, nameIndex := 31, descriptorIndex := 32, attributes := #[] }, { accessFlags := 4122, nameIndex := 12, descriptorIndex := 13, attributes := #[] }])
  fields := #[{ name := "READ", type := (.object "com/example/noctule/noctule/server/TokenScope"), accessFlags := 16409, slot := 0, constantValue := 0 }, { name := "WRITE", type := (.object "com/example/noctule/noctule/server/TokenScope"), accessFlags := 16409, slot := 1, constantValue := 0 }, { name := "wireName", type := (.object "java/lang/String"), accessFlags := 18, slot := 3, constantValue := 0 }, { name := "$VALUES", type := (.array (.object "com/example/noctule/noctule/server/TokenScope")), accessFlags := 4122, slot := 2, constantValue := 0 }]
  methods := #[k10m0]
  instanceTypes := #[(.object "java/lang/String"), .int, .int, (.object "java/lang/String")]
  staticTypes := #[(.object "com/example/noctule/noctule/server/TokenScope"), (.object "com/example/noctule/noctule/server/TokenScope"), (.array (.object "com/example/noctule/noctule/server/TokenScope"))]
  resolved := Array.replicate 80 none
  statics := some 1 }

def pool11 : Array CpInfo := pool [(4, .class_ 6), (1, u "java/lang/Object"), (0, u "<init>"), (0, u "()V"), (5, .class_ 16), (1, u "java/lang/StringLatin1"), (104, u "$assertionsDisabled"), (0, u "Z"), (98, .class_ 223), (1, u "java/lang/StringLatin1$LinesSpliterator"), (57, u "equals"), (0, u "([B[B)Z"), (107, .class_ 391), (0, u "java/lang/StringLatin1$CharsSpliterator")] 3

def k11m0 : Method := { name := "<init>", desc := "()V", sig := { parameters := [], returnType := none }, accessFlags := 0, code := none }
def k11c1 : Code := { maxStack := 3, maxLocals := 3, code := jdk_43_method_13_code, exceptionTable := #[], attributes := #[] }
def k11m1 : Method := { name := "equals", desc := "([B[B)Z", sig := { parameters := [(.array .byte), (.array .byte)], returnType := some .boolean }, accessFlags := 9, code := some k11c1 }
/-- java/lang/StringLatin1 -/
def k11 : Class := { plain "java/lang/StringLatin1" (some 0) with
  accessFlags := 48
  interfaces := #[]
  cf := some (fileOf pool11 14 #[.nestMembers #[390, 221]] #[{ accessFlags := 0, nameIndex := 7, descriptorIndex := 8, attributes := #[] }, { accessFlags := 9, nameIndex := 281, descriptorIndex := 282, attributes := #[] }] 48 4 #[] #[{ accessFlags := 4120, nameIndex := 121, descriptorIndex := 122, attributes := #[] }])
  fields := #[{ name := "$assertionsDisabled", type := .boolean, accessFlags := 4120, slot := 0, constantValue := 0 }]
  methods := #[k11m0, k11m1]
  instanceTypes := #[]
  staticTypes := #[.boolean]
  resolved := Array.replicate 395 none
  statics := none }

def pool12 : Array CpInfo := pool [(6, .class_ 8), (1, u "java/lang/Object"), (0, u "<init>"), (0, u "()V"), (0, .methodref 12 13), (0, .class_ 14), (0, .nameAndType 15 16), (0, u "java/lang/StringUTF16"), (0, u "newBytesLength"), (0, u "(I)I"), (3, .integer 1073741823), (23, .fieldref 12 45), (0, .nameAndType 46 47), (0, u "$assertionsDisabled"), (0, u "Z"), (11, .fieldref 12 60), (0, .nameAndType 61 62), (0, u "HI_BYTE_SHIFT"), (0, u "I"), (0, .fieldref 12 64), (0, .nameAndType 65 62), (0, u "LO_BYTE_SHIFT"), (5, .methodref 12 72), (0, .nameAndType 73 74), (0, u "getChar"), (0, u "([BI)C"), (32, .methodref 12 108), (0, .nameAndType 109 110), (0, u "newBytesFor"), (0, u "(I)[B"), (0, .methodref 12 112), (0, .nameAndType 113 114), (0, u "putChar"), (0, u "([BII)V"), (0, .methodref 12 116), (0, .nameAndType 117 118), (0, u "compress"), (0, u "([CI[BII)I"), (0, .methodref 12 120), (0, .nameAndType 121 122), (0, u "toBytes"), (0, u "([CII)[B"), (138, u "coderFromArrayLen"), (0, u "([BI)B"), (106, .class_ 371), (1, u "java/lang/StringUTF16$LinesSpliterator"), (58, u "MAX_LENGTH"), (196, .class_ 628), (0, u "java/lang/StringUTF16$CodePointsSpliterator"), (0, .class_ 630), (0, u "java/lang/StringUTF16$CharsSpliterator")] 4

def k12m0 : Method := { name := "<init>", desc := "()V", sig := { parameters := [], returnType := none }, accessFlags := 0, code := none }
def k12c1 : Code := { maxStack := 1, maxLocals := 1, code := jdk_52_method_2_code, exceptionTable := #[], attributes := #[] }
def k12m1 : Method := { name := "newBytesFor", desc := "(I)[B", sig := { parameters := [.int], returnType := some (.array .byte) }, accessFlags := 9, code := some k12c1 }
def k12c2 : Code := { maxStack := 4, maxLocals := 1, code := jdk_52_method_3_code, exceptionTable := #[], attributes := #[] }
def k12m2 : Method := { name := "newBytesLength", desc := "(I)I", sig := { parameters := [.int], returnType := some .int }, accessFlags := 9, code := some k12c2 }
def k12c3 : Code := { maxStack := 4, maxLocals := 3, code := jdk_52_method_4_code, exceptionTable := #[], attributes := #[] }
def k12m3 : Method := { name := "putChar", desc := "([BII)V", sig := { parameters := [(.array .byte), .int, .int], returnType := none }, accessFlags := 8, code := some k12c3 }
def k12c4 : Code := { maxStack := 3, maxLocals := 2, code := jdk_52_method_5_code, exceptionTable := #[], attributes := #[] }
def k12m4 : Method := { name := "getChar", desc := "([BI)C", sig := { parameters := [(.array .byte), .int], returnType := some .char }, accessFlags := 8, code := some k12c4 }
def k12c5 : Code := { maxStack := 4, maxLocals := 5, code := jdk_52_method_14_code, exceptionTable := #[], attributes := #[] }
def k12m5 : Method := { name := "toBytes", desc := "([CII)[B", sig := { parameters := [(.array .char), .int, .int], returnType := some (.array .byte) }, accessFlags := 9, code := some k12c5 }
def k12c6 : Code := { maxStack := 2, maxLocals := 2, code := jdk_52_method_15_code, exceptionTable := #[], attributes := #[] }
def k12m6 : Method := { name := "coderFromArrayLen", desc := "([BI)B", sig := { parameters := [(.array .byte), .int], returnType := some .byte }, accessFlags := 8, code := some k12c6 }
def k12c7 : Code := { maxStack := 5, maxLocals := 6, code := jdk_52_method_16_code, exceptionTable := #[], attributes := #[] }
def k12m7 : Method := { name := "compress", desc := "([CII)[B", sig := { parameters := [(.array .char), .int, .int], returnType := some (.array .byte) }, accessFlags := 9, code := some k12c7 }
def k12c8 : Code := { maxStack := 3, maxLocals := 7, code := jdk_52_method_21_code, exceptionTable := #[], attributes := #[] }
def k12m8 : Method := { name := "compress", desc := "([CI[BII)I", sig := { parameters := [(.array .char), .int, (.array .byte), .int, .int], returnType := some .int }, accessFlags := 9, code := some k12c8 }
/-- java/lang/StringUTF16 -/
def k12 : Class := { plain "java/lang/StringUTF16" (some 0) with
  accessFlags := 48
  interfaces := #[]
  cf := some (fileOf pool12 12 #[.nestMembers #[627, 629, 369]] #[{ accessFlags := 0, nameIndex := 9, descriptorIndex := 10, attributes := #[] }, { accessFlags := 9, nameIndex := 109, descriptorIndex := 110, attributes := #[] }, { accessFlags := 9, nameIndex := 15, descriptorIndex := 16, attributes := #[] }, { accessFlags := 8, nameIndex := 113, descriptorIndex := 114, attributes := #[] }, { accessFlags := 8, nameIndex := 73, descriptorIndex := 74, attributes := #[] }, { accessFlags := 9, nameIndex := 121, descriptorIndex := 122, attributes := #[] }, { accessFlags := 8, nameIndex := 261, descriptorIndex := 262, attributes := #[] }, { accessFlags := 9, nameIndex := 117, descriptorIndex := 122, attributes := #[] }, { accessFlags := 9, nameIndex := 117, descriptorIndex := 118, attributes := #[] }] 48 6 #[] #[{ accessFlags := 26, nameIndex := 61, descriptorIndex := 62, attributes := #[] }, { accessFlags := 26, nameIndex := 65, descriptorIndex := 62, attributes := #[] }, { accessFlags := 24, nameIndex := 430, descriptorIndex := 62, attributes := #[] }, { accessFlags := 4120, nameIndex := 46, descriptorIndex := 47, attributes := #[] }])
  fields := #[{ name := "HI_BYTE_SHIFT", type := .int, accessFlags := 26, slot := 0, constantValue := 0 }, { name := "LO_BYTE_SHIFT", type := .int, accessFlags := 26, slot := 1, constantValue := 0 }, { name := "MAX_LENGTH", type := .int, accessFlags := 24, slot := 2, constantValue := 0 }, { name := "$assertionsDisabled", type := .boolean, accessFlags := 4120, slot := 3, constantValue := 0 }]
  methods := #[k12m0, k12m1, k12m2, k12m3, k12m4, k12m5, k12m6, k12m7, k12m8]
  instanceTypes := #[]
  staticTypes := #[.int, .int, .int, .boolean]
  resolved := Array.replicate 635 none
  statics := some 2 }

def pool13 : Array CpInfo := pool [(2, .class_ 4), (1, u "java/lang/Object"), (0, u "<init>"), (0, u "()V"), (17, .class_ 26), (1, u "jdk/internal/util/Preconditions"), (28, .class_ 56), (0, u "jdk/internal/util/Preconditions$4"), (57, .class_ 115), (0, u "jdk/internal/util/Preconditions$1"), (7, u "SIOOBE_FORMATTER"), (0, u "Ljava/util/function/BiFunction;"), (0, .class_ 126), (0, u "jdk/internal/util/Preconditions$2"), (3, u "AIOOBE_FORMATTER"), (0, .class_ 132), (0, u "jdk/internal/util/Preconditions$3"), (3, u "IOOBE_FORMATTER")] 57

def k13m0 : Method := { name := "<init>", desc := "()V", sig := { parameters := [], returnType := none }, accessFlags := 1, code := none }
/-- jdk/internal/util/Preconditions -/
def k13 : Class := { plain "jdk/internal/util/Preconditions" (some 0) with
  accessFlags := 33
  interfaces := #[]
  cf := some (fileOf pool13 24 #[.nestMembers #[55, 131, 125, 114]] #[{ accessFlags := 1, nameIndex := 5, descriptorIndex := 6, attributes := #[] }] 33 2 #[] #[{ accessFlags := 25, nameIndex := 123, descriptorIndex := 124, attributes := #[] }, { accessFlags := 25, nameIndex := 130, descriptorIndex := 124, attributes := #[] }, { accessFlags := 25, nameIndex := 136, descriptorIndex := 124, attributes := #[] }])
  fields := #[{ name := "SIOOBE_FORMATTER", type := (.object "java/util/function/BiFunction"), accessFlags := 25, slot := 0, constantValue := 0 }, { name := "AIOOBE_FORMATTER", type := (.object "java/util/function/BiFunction"), accessFlags := 25, slot := 1, constantValue := 0 }, { name := "IOOBE_FORMATTER", type := (.object "java/util/function/BiFunction"), accessFlags := 25, slot := 2, constantValue := 0 }]
  methods := #[k13m0]
  instanceTypes := #[]
  staticTypes := #[(.object "java/util/function/BiFunction"), (.object "java/util/function/BiFunction"), (.object "java/util/function/BiFunction")]
  resolved := Array.replicate 194 none
  statics := some 3 }

def pool14 : Array CpInfo := pool [(9, u "<init>"), (6, .class_ 18), (1, u "java/lang/Object"), (0, u "()V"), (1, .class_ 23), (1, u "jdk/internal/util/ArraysSupport"), (0, u "LOG2_ARRAY_LONG_INDEX_SCALE"), (0, u "I"), (2, u "U"), (0, u "Ljdk/internal/misc/Unsafe;"), (8, u "BIG_ENDIAN"), (0, u "Z"), (8, u "LOG2_BYTE_BIT_SIZE"), (4, u "LOG2_ARRAY_INT_INDEX_SCALE"), (54, u "JLA"), (0, u "Ljdk/internal/access/JavaLangAccess;"), (11, u "LOG2_ARRAY_BOOLEAN_INDEX_SCALE"), (9, u "LOG2_ARRAY_BYTE_INDEX_SCALE"), (5, u "LOG2_ARRAY_CHAR_INDEX_SCALE"), (5, u "LOG2_ARRAY_SHORT_INDEX_SCALE"), (18, u "LOG2_ARRAY_FLOAT_INDEX_SCALE"), (24, u "LOG2_ARRAY_DOUBLE_INDEX_SCALE"), (89, u "T_BOOLEAN"), (2, u "T_CHAR"), (1, u "T_FLOAT"), (1, u "T_DOUBLE"), (1, u "T_BYTE"), (1, u "T_SHORT"), (1, u "T_INT"), (1, u "T_LONG"), (1, u "SOFT_MAX_ARRAY_LENGTH")] 83

def k14m0 : Method := { name := "<init>", desc := "()V", sig := { parameters := [], returnType := none }, accessFlags := 2, code := none }
/-- jdk/internal/util/ArraysSupport -/
def k14 : Class := { plain "jdk/internal/util/ArraysSupport" (some 0) with
  accessFlags := 33
  interfaces := #[]
  cf := some (fileOf pool14 21 #[] #[{ accessFlags := 2, nameIndex := 9, descriptorIndex := 19, attributes := #[] }] 33 16 #[] #[{ accessFlags := 24, nameIndex := 28, descriptorIndex := 29, attributes := #[] }, { accessFlags := 26, nameIndex := 38, descriptorIndex := 39, attributes := #[] }, { accessFlags := 25, nameIndex := 121, descriptorIndex := 25, attributes := #[] }, { accessFlags := 25, nameIndex := 131, descriptorIndex := 25, attributes := #[] }, { accessFlags := 25, nameIndex := 137, descriptorIndex := 25, attributes := #[] }, { accessFlags := 25, nameIndex := 143, descriptorIndex := 25, attributes := #[] }, { accessFlags := 25, nameIndex := 53, descriptorIndex := 25, attributes := #[] }, { accessFlags := 25, nameIndex := 24, descriptorIndex := 25, attributes := #[] }, { accessFlags := 25, nameIndex := 162, descriptorIndex := 25, attributes := #[] }, { accessFlags := 25, nameIndex := 187, descriptorIndex := 25, attributes := #[] }, { accessFlags := 26, nameIndex := 48, descriptorIndex := 25, attributes := #[] }, { accessFlags := 25, nameIndex := 277, descriptorIndex := 25, attributes := #[] }, { accessFlags := 25, nameIndex := 280, descriptorIndex := 25, attributes := #[] }, { accessFlags := 25, nameIndex := 282, descriptorIndex := 25, attributes := #[] }, { accessFlags := 25, nameIndex := 284, descriptorIndex := 25, attributes := #[] }, { accessFlags := 25, nameIndex := 286, descriptorIndex := 25, attributes := #[] }, { accessFlags := 25, nameIndex := 288, descriptorIndex := 25, attributes := #[] }, { accessFlags := 25, nameIndex := 290, descriptorIndex := 25, attributes := #[] }, { accessFlags := 25, nameIndex := 292, descriptorIndex := 25, attributes := #[] }, { accessFlags := 26, nameIndex := 108, descriptorIndex := 109, attributes := #[] }, { accessFlags := 25, nameIndex := 294, descriptorIndex := 25, attributes := #[] }])
  fields := #[{ name := "U", type := (.object "jdk/internal/misc/Unsafe"), accessFlags := 24, slot := 0, constantValue := 0 }, { name := "BIG_ENDIAN", type := .boolean, accessFlags := 26, slot := 1, constantValue := 0 }, { name := "LOG2_ARRAY_BOOLEAN_INDEX_SCALE", type := .int, accessFlags := 25, slot := 2, constantValue := 0 }, { name := "LOG2_ARRAY_BYTE_INDEX_SCALE", type := .int, accessFlags := 25, slot := 3, constantValue := 0 }, { name := "LOG2_ARRAY_CHAR_INDEX_SCALE", type := .int, accessFlags := 25, slot := 4, constantValue := 0 }, { name := "LOG2_ARRAY_SHORT_INDEX_SCALE", type := .int, accessFlags := 25, slot := 5, constantValue := 0 }, { name := "LOG2_ARRAY_INT_INDEX_SCALE", type := .int, accessFlags := 25, slot := 6, constantValue := 0 }, { name := "LOG2_ARRAY_LONG_INDEX_SCALE", type := .int, accessFlags := 25, slot := 7, constantValue := 0 }, { name := "LOG2_ARRAY_FLOAT_INDEX_SCALE", type := .int, accessFlags := 25, slot := 8, constantValue := 0 }, { name := "LOG2_ARRAY_DOUBLE_INDEX_SCALE", type := .int, accessFlags := 25, slot := 9, constantValue := 0 }, { name := "LOG2_BYTE_BIT_SIZE", type := .int, accessFlags := 26, slot := 10, constantValue := 0 }, { name := "T_BOOLEAN", type := .int, accessFlags := 25, slot := 11, constantValue := 0 }, { name := "T_CHAR", type := .int, accessFlags := 25, slot := 12, constantValue := 0 }, { name := "T_FLOAT", type := .int, accessFlags := 25, slot := 13, constantValue := 0 }, { name := "T_DOUBLE", type := .int, accessFlags := 25, slot := 14, constantValue := 0 }, { name := "T_BYTE", type := .int, accessFlags := 25, slot := 15, constantValue := 0 }, { name := "T_SHORT", type := .int, accessFlags := 25, slot := 16, constantValue := 0 }, { name := "T_INT", type := .int, accessFlags := 25, slot := 17, constantValue := 0 }, { name := "T_LONG", type := .int, accessFlags := 25, slot := 18, constantValue := 0 }, { name := "JLA", type := (.object "jdk/internal/access/JavaLangAccess"), accessFlags := 26, slot := 19, constantValue := 0 }, { name := "SOFT_MAX_ARRAY_LENGTH", type := .int, accessFlags := 25, slot := 20, constantValue := 0 }]
  methods := #[k14m0]
  instanceTypes := #[]
  staticTypes := #[(.object "jdk/internal/misc/Unsafe"), .boolean, .int, .int, .int, .int, .int, .int, .int, .int, .int, .int, .int, .int, .int, .int, .int, .int, .int, (.object "jdk/internal/access/JavaLangAccess"), .int]
  resolved := Array.replicate 378 none
  statics := none }

def pool15 : Array CpInfo := pool [(1, u "java/lang/Cloneable"), (0, .class_ 1), (0, u "java/lang/Object"), (0, .class_ 3)] 3

/-- java/lang/Cloneable -/
def k15 : Class := { plain "java/lang/Cloneable" (some 0) with
  accessFlags := 1537
  interfaces := #[]
  cf := some (fileOf pool15 2 #[] #[] 1537 4 #[] #[])
  fields := #[]
  methods := #[]
  instanceTypes := #[]
  staticTypes := #[]
  resolved := Array.replicate 8 none
  statics := none }

/-- the primitive byte -/
def k16 : Class := { plain "byte" none with kind := .primitive 'B', accessFlags := 0x411 }
/-- [B -/
def k17 : Class := { plain "[B" (some 0) with kind := .array 16 .byte, interfaces := #[15, 2], accessFlags := 1041 }

/-- the primitive char -/
def k18 : Class := { plain "char" none with kind := .primitive 'C', accessFlags := 0x411 }
/-- [C -/
def k19 : Class := { plain "[C" (some 0) with kind := .array 18 .char, interfaces := #[15, 2], accessFlags := 1041 }

/-- the primitive int -/
def k20 : Class := { plain "int" none with kind := .primitive 'I', accessFlags := 0x411 }
/-- [I -/
def k21 : Class := { plain "[I" (some 0) with kind := .array 20 .int, interfaces := #[15, 2], accessFlags := 1041 }

def heap : Heap := #[{ cls := 7, slots := #[.long 0, .int 1, .null, .int 0, .null, .int 0, .int 0], vm := .statics 7 },
  { cls := 10, slots := #[.ref 4, .ref 5, .null], vm := .statics 10 },
  { cls := 12, slots := #[.int 0, .int 8, .int 0, .int 1], vm := .statics 12 },
  { cls := 13, slots := #[.null, .null, .null], vm := .statics 13 },
  { cls := 10, slots := #[.null, .int 0, .int 0, .null], vm := .none },
  { cls := 10, slots := #[.null, .int 1, .int 0, .null], vm := .none }]
def classes : Array Class := #[k0, k1, k2, k3, k4, k5, k6, k7, k8, k9, k10, k11, k12, k13, k14, k15, k16, k17, k18, k19, k20, k21]
def interned : List (Array UInt16 × Addr) := []
def slotsUsed : Nat := 25
def theMethod : MethodId := ⟨1, 4⟩
def args0 : Array Value := #[.int 12, .long 0, .int 0]
def aboutOver (below : List Frame) : State where
  vm := { classes := classes, interned := interned.toArray }
  heap := heap
  slotsUsed := slotsUsed
  threads := #[{ frames := .invoking theMethod args0 :: below }]
def below0 : List Frame := [.native { method := ⟨0, 0⟩, args := #[] }]
def about1 : State := aboutOver below0
def p0 : Program := .bare "" "" ""
def e0 : Env := launch0.env 0 0 0
theorem w_frames : about1.frames = Frame.invoking theMethod args0 :: below0 := rfl
set_option maxRecDepth 65536 in
theorem w_args : argsFit about1.vm theMethod args0 = true := by decide +kernel
set_option maxRecDepth 65536 in
theorem w_heap : heapFits about1 = true := by decide +kernel
set_option maxRecDepth 65536 in
theorem w_runnable : about1.curStatus? = some .runnable := by decide +kernel
set_option maxRecDepth 65536 in
theorem w_alone : about1.alone = true := by decide +kernel
set_option maxRecDepth 65536 in
theorem w_named : about1.methodNamed? x = some theMethod := by decide +kernel
set_option maxRecDepth 65536 in
theorem w_hears : about1.hears theMethod below0 = true := by decide +kernel
set_option maxRecDepth 65536 in
theorem w_ripe : about1.ripe theMethod args0 below0 = true := by decide +kernel
theorem w_running : about1.status = .running := rfl
set_option maxRecDepth 65536 in
theorem w_room : about1.hasRoom e0.platform room_1 = true :=
  launch0.hasRoom_least _ room_1 (by decide +kernel) (by decide +kernel) (by decide +kernel) (by decide +kernel) (by decide +kernel) (by decide +kernel)
theorem allAtoms_all (ts : List Jvm.Cond) (a : Array Jvm.Value) (st : Jvm.State) : (allAtoms ts).before a st = ts.all (fun c => c.before a st) := by
  induction ts with
  | nil => rfl
  | cons c t ih =>
    show (Jvm.Cond.and c (allAtoms t)).before a st = _
    rw [Jvm.Cond.before_and, ih, List.all_cons]
def words1 : List Jvm.Cond := Jvm.Cond.code x code maxLocals ret :: tables_1
/-- a 'code' word, met by the world's own term for the bytes: nothing is compared byte by byte -/
theorem code_word {y : MethodName} {bytes : ByteArray} {mx : Nat} {rt : Option FieldType} {a : Array Value} {s : State} {m : MethodId} {meth : Method} {c : Code} (h1 : s.methodNamed? y = some m) (h2 : s.vm.method? m = some meth) (h3 : meth.code = some c) (h4 : c.code = bytes)
    (h5 : (c.maxLocals == mx && c.exceptionTable.isEmpty && decide (c.maxStack ≤ mostOperands) && decide (meth.sig.returnType = rt) && !meth.locks && decide (parseMethodDescriptor y.desc = some meth.sig)) = true) : (Jvm.Cond.code y bytes mx rt).before a s = true := by
  simp only [Bool.and_eq_true, beq_iff_eq, Bool.not_eq_true', decide_eq_true_eq] at h5
  obtain ⟨⟨⟨⟨⟨g1, g2⟩, g3⟩, g4⟩, g5⟩, g6⟩ := h5
  simp [Cond.before, Cond.holds, Cond.value, h1, h2, h3, h4, g1, g2, g3, g4, g5, g6]
def isCode : Jvm.Cond → Bool
  | .code _ _ _ _ => true
  | _ => false
theorem all_split {L : List Jvm.Cond} {P : Jvm.Cond → Bool} (h1 : L.all (fun c => isCode c || P c) = true) (h2 : ∀ c ∈ L.filter isCode, P c = true) : L.all P = true := by
  refine List.all_eq_true.mpr fun c hc => ?_
  have h := List.all_eq_true.mp h1 c hc
  rcases Bool.eq_false_or_eq_true (isCode c) with hi | hi
  · exact h2 c (List.mem_filter.mpr ⟨hc, hi⟩)
  · simpa [hi] using h
set_option maxRecDepth 65536 in
theorem w_c0 : (Jvm.Cond.code x code maxLocals ret).before args0 about1 = true := code_word (m := ⟨1, 4⟩) (meth := k1m4) (c := k1c4) (by decide +kernel) rfl rfl rfl (by decide +kernel)
set_option maxRecDepth 65536 in
theorem w_c1 : (Jvm.Cond.code ({ cls := "com/example/noctule/noctule/server/TokenScopeTakesPinLaw", name := "pick", desc := "(IIZC)C" } : Jvm.MethodName) method_3_code (4 : Nat) (Option.some Jvm.ClassFile.FieldType.char)).before args0 about1 = true := code_word (m := ⟨1, 2⟩) (meth := k1m2) (c := k1c2) (by decide +kernel) rfl rfl rfl (by decide +kernel)
set_option maxRecDepth 65536 in
theorem w_c2 : (Jvm.Cond.code ({ cls := "com/example/noctule/noctule/server/TokenScopeTakesPinLaw", name := "wordChar", desc := "(ZI)C" } : Jvm.MethodName) method_2_code (2 : Nat) (Option.some Jvm.ClassFile.FieldType.char)).before args0 about1 = true := code_word (m := ⟨1, 1⟩) (meth := k1m1) (c := k1c1) (by decide +kernel) rfl rfl rfl (by decide +kernel)
set_option maxRecDepth 65536 in
theorem w_c3 : (Jvm.Cond.code ({ cls := "com/example/noctule/noctule/server/TokenScopeTakesPinLaw", name := "str", desc := "(ICCCCC)Ljava/lang/String;" } : Jvm.MethodName) method_4_code (6 : Nat) (Option.some (Jvm.ClassFile.FieldType.object "java/lang/String"))).before args0 about1 = true := code_word (m := ⟨1, 3⟩) (meth := k1m3) (c := k1c3) (by decide +kernel) rfl rfl rfl (by decide +kernel)
set_option maxRecDepth 65536 in
theorem w_c4 : (Jvm.Cond.code ({ cls := "java/lang/String", name := "<init>", desc := "([C)V" } : Jvm.MethodName) jdk_42_method_3_code (2 : Nat) (Option.none : Option Jvm.ClassFile.FieldType)).before args0 about1 = true := code_word (m := ⟨7, 1⟩) (meth := k7m1) (c := k7c1) (by decide +kernel) rfl rfl rfl (by decide +kernel)
set_option maxRecDepth 65536 in
theorem w_c5 : (Jvm.Cond.code ({ cls := "java/lang/String", name := "<init>", desc := "([CIILjava/lang/Void;)V" } : Jvm.MethodName) jdk_42_method_149_code (6 : Nat) (Option.none : Option Jvm.ClassFile.FieldType)).before args0 about1 = true := code_word (m := ⟨7, 3⟩) (meth := k7m3) (c := k7c3) (by decide +kernel) rfl rfl rfl (by decide +kernel)
set_option maxRecDepth 65536 in
theorem w_c6 : (Jvm.Cond.code ({ cls := "java/lang/Object", name := "<init>", desc := "()V" } : Jvm.MethodName) object_method_1_code (1 : Nat) (Option.none : Option Jvm.ClassFile.FieldType)).before args0 about1 = true := code_word (m := ⟨0, 0⟩) (meth := k0m0) (c := k0c0) (by decide +kernel) rfl rfl rfl (by decide +kernel)
set_option maxRecDepth 65536 in
theorem w_c7 : (Jvm.Cond.code ({ cls := "com/example/noctule/noctule/server/TokenScope", name := "takes", desc := "(Ljava/lang/String;)Z" } : Jvm.MethodName) prog_94_method_6_code (2 : Nat) (Option.some Jvm.ClassFile.FieldType.boolean)).before args0 about1 = true := code_word (m := ⟨10, 0⟩) (meth := k10m0) (c := k10c0) (by decide +kernel) rfl rfl rfl (by decide +kernel)
set_option maxRecDepth 65536 in
theorem w_c8 : (Jvm.Cond.code ({ cls := "java/lang/String", name := "equals", desc := "(Ljava/lang/Object;)Z" } : Jvm.MethodName) jdk_42_method_66_code (3 : Nat) (Option.some Jvm.ClassFile.FieldType.boolean)).before args0 about1 = true := code_word (m := ⟨7, 2⟩) (meth := k7m2) (c := k7c2) (by decide +kernel) rfl rfl rfl (by decide +kernel)
set_option maxRecDepth 65536 in
theorem w_c9 : (Jvm.Cond.code ({ cls := "java/lang/StringLatin1", name := "equals", desc := "([B[B)Z" } : Jvm.MethodName) jdk_43_method_13_code (3 : Nat) (Option.some Jvm.ClassFile.FieldType.boolean)).before args0 about1 = true := code_word (m := ⟨11, 1⟩) (meth := k11m1) (c := k11c1) (by decide +kernel) rfl rfl rfl (by decide +kernel)
set_option maxRecDepth 65536 in
theorem w_c10 : (Jvm.Cond.code ({ cls := "java/lang/StringUTF16", name := "compress", desc := "([CII)[B" } : Jvm.MethodName) jdk_52_method_16_code (6 : Nat) (Option.some (Jvm.ClassFile.FieldType.array Jvm.ClassFile.FieldType.byte))).before args0 about1 = true := code_word (m := ⟨12, 7⟩) (meth := k12m7) (c := k12c7) (by decide +kernel) rfl rfl rfl (by decide +kernel)
set_option maxRecDepth 65536 in
theorem w_c11 : (Jvm.Cond.code ({ cls := "java/lang/StringUTF16", name := "compress", desc := "([CI[BII)I" } : Jvm.MethodName) jdk_52_method_21_code (7 : Nat) (Option.some Jvm.ClassFile.FieldType.int)).before args0 about1 = true := code_word (m := ⟨12, 8⟩) (meth := k12m8) (c := k12c8) (by decide +kernel) rfl rfl rfl (by decide +kernel)
set_option maxRecDepth 65536 in
theorem w_c12 : (Jvm.Cond.code ({ cls := "java/lang/StringUTF16", name := "coderFromArrayLen", desc := "([BI)B" } : Jvm.MethodName) jdk_52_method_15_code (2 : Nat) (Option.some Jvm.ClassFile.FieldType.byte)).before args0 about1 = true := code_word (m := ⟨12, 6⟩) (meth := k12m6) (c := k12c6) (by decide +kernel) rfl rfl rfl (by decide +kernel)
set_option maxRecDepth 65536 in
theorem w_c13 : (Jvm.Cond.code ({ cls := "java/lang/StringUTF16", name := "toBytes", desc := "([CII)[B" } : Jvm.MethodName) jdk_52_method_14_code (5 : Nat) (Option.some (Jvm.ClassFile.FieldType.array Jvm.ClassFile.FieldType.byte))).before args0 about1 = true := code_word (m := ⟨12, 5⟩) (meth := k12m5) (c := k12c5) (by decide +kernel) rfl rfl rfl (by decide +kernel)
set_option maxRecDepth 65536 in
theorem w_c14 : (Jvm.Cond.code ({ cls := "java/lang/StringUTF16", name := "newBytesFor", desc := "(I)[B" } : Jvm.MethodName) jdk_52_method_2_code (1 : Nat) (Option.some (Jvm.ClassFile.FieldType.array Jvm.ClassFile.FieldType.byte))).before args0 about1 = true := code_word (m := ⟨12, 1⟩) (meth := k12m1) (c := k12c1) (by decide +kernel) rfl rfl rfl (by decide +kernel)
set_option maxRecDepth 65536 in
theorem w_c15 : (Jvm.Cond.code ({ cls := "java/lang/StringUTF16", name := "newBytesLength", desc := "(I)I" } : Jvm.MethodName) jdk_52_method_3_code (1 : Nat) (Option.some Jvm.ClassFile.FieldType.int)).before args0 about1 = true := code_word (m := ⟨12, 2⟩) (meth := k12m2) (c := k12c2) (by decide +kernel) rfl rfl rfl (by decide +kernel)
set_option maxRecDepth 65536 in
theorem w_c16 : (Jvm.Cond.code ({ cls := "java/lang/StringUTF16", name := "putChar", desc := "([BII)V" } : Jvm.MethodName) jdk_52_method_4_code (3 : Nat) (Option.none : Option Jvm.ClassFile.FieldType)).before args0 about1 = true := code_word (m := ⟨12, 3⟩) (meth := k12m3) (c := k12c3) (by decide +kernel) rfl rfl rfl (by decide +kernel)
set_option maxRecDepth 65536 in
theorem w_c17 : (Jvm.Cond.code ({ cls := "java/lang/StringUTF16", name := "getChar", desc := "([BI)C" } : Jvm.MethodName) jdk_52_method_5_code (2 : Nat) (Option.some Jvm.ClassFile.FieldType.char)).before args0 about1 = true := code_word (m := ⟨12, 4⟩) (meth := k12m4) (c := k12c4) (by decide +kernel) rfl rfl rfl (by decide +kernel)
def codes1 : List Jvm.Cond := [Jvm.Cond.code x code maxLocals ret, Jvm.Cond.code ({ cls := "com/example/noctule/noctule/server/TokenScopeTakesPinLaw", name := "pick", desc := "(IIZC)C" } : Jvm.MethodName) method_3_code (4 : Nat) (Option.some Jvm.ClassFile.FieldType.char), Jvm.Cond.code ({ cls := "com/example/noctule/noctule/server/TokenScopeTakesPinLaw", name := "wordChar", desc := "(ZI)C" } : Jvm.MethodName) method_2_code (2 : Nat) (Option.some Jvm.ClassFile.FieldType.char), Jvm.Cond.code ({ cls := "com/example/noctule/noctule/server/TokenScopeTakesPinLaw", name := "str", desc := "(ICCCCC)Ljava/lang/String;" } : Jvm.MethodName) method_4_code (6 : Nat) (Option.some (Jvm.ClassFile.FieldType.object "java/lang/String")), Jvm.Cond.code ({ cls := "java/lang/String", name := "<init>", desc := "([C)V" } : Jvm.MethodName) jdk_42_method_3_code (2 : Nat) (Option.none : Option Jvm.ClassFile.FieldType), Jvm.Cond.code ({ cls := "java/lang/String", name := "<init>", desc := "([CIILjava/lang/Void;)V" } : Jvm.MethodName) jdk_42_method_149_code (6 : Nat) (Option.none : Option Jvm.ClassFile.FieldType), Jvm.Cond.code ({ cls := "java/lang/Object", name := "<init>", desc := "()V" } : Jvm.MethodName) object_method_1_code (1 : Nat) (Option.none : Option Jvm.ClassFile.FieldType), Jvm.Cond.code ({ cls := "com/example/noctule/noctule/server/TokenScope", name := "takes", desc := "(Ljava/lang/String;)Z" } : Jvm.MethodName) prog_94_method_6_code (2 : Nat) (Option.some Jvm.ClassFile.FieldType.boolean), Jvm.Cond.code ({ cls := "java/lang/String", name := "equals", desc := "(Ljava/lang/Object;)Z" } : Jvm.MethodName) jdk_42_method_66_code (3 : Nat) (Option.some Jvm.ClassFile.FieldType.boolean), Jvm.Cond.code ({ cls := "java/lang/StringLatin1", name := "equals", desc := "([B[B)Z" } : Jvm.MethodName) jdk_43_method_13_code (3 : Nat) (Option.some Jvm.ClassFile.FieldType.boolean), Jvm.Cond.code ({ cls := "java/lang/StringUTF16", name := "compress", desc := "([CII)[B" } : Jvm.MethodName) jdk_52_method_16_code (6 : Nat) (Option.some (Jvm.ClassFile.FieldType.array Jvm.ClassFile.FieldType.byte)), Jvm.Cond.code ({ cls := "java/lang/StringUTF16", name := "compress", desc := "([CI[BII)I" } : Jvm.MethodName) jdk_52_method_21_code (7 : Nat) (Option.some Jvm.ClassFile.FieldType.int), Jvm.Cond.code ({ cls := "java/lang/StringUTF16", name := "coderFromArrayLen", desc := "([BI)B" } : Jvm.MethodName) jdk_52_method_15_code (2 : Nat) (Option.some Jvm.ClassFile.FieldType.byte), Jvm.Cond.code ({ cls := "java/lang/StringUTF16", name := "toBytes", desc := "([CII)[B" } : Jvm.MethodName) jdk_52_method_14_code (5 : Nat) (Option.some (Jvm.ClassFile.FieldType.array Jvm.ClassFile.FieldType.byte)), Jvm.Cond.code ({ cls := "java/lang/StringUTF16", name := "newBytesFor", desc := "(I)[B" } : Jvm.MethodName) jdk_52_method_2_code (1 : Nat) (Option.some (Jvm.ClassFile.FieldType.array Jvm.ClassFile.FieldType.byte)), Jvm.Cond.code ({ cls := "java/lang/StringUTF16", name := "newBytesLength", desc := "(I)I" } : Jvm.MethodName) jdk_52_method_3_code (1 : Nat) (Option.some Jvm.ClassFile.FieldType.int), Jvm.Cond.code ({ cls := "java/lang/StringUTF16", name := "putChar", desc := "([BII)V" } : Jvm.MethodName) jdk_52_method_4_code (3 : Nat) (Option.none : Option Jvm.ClassFile.FieldType), Jvm.Cond.code ({ cls := "java/lang/StringUTF16", name := "getChar", desc := "([BI)C" } : Jvm.MethodName) jdk_52_method_5_code (2 : Nat) (Option.some Jvm.ClassFile.FieldType.char)]
set_option maxRecDepth 65536 in
theorem codes_eq : words1.filter isCode = codes1 := rfl
theorem w_codes : ∀ c ∈ words1.filter isCode, c.before args0 about1 = true := by
  rw [codes_eq]
  intro c hc
  simp only [codes1, List.mem_cons, List.not_mem_nil, or_false] at hc
  rcases hc with rfl | rfl | rfl | rfl | rfl | rfl | rfl | rfl | rfl | rfl | rfl | rfl | rfl | rfl | rfl | rfl | rfl | rfl
  · exact w_c0
  · exact w_c1
  · exact w_c2
  · exact w_c3
  · exact w_c4
  · exact w_c5
  · exact w_c6
  · exact w_c7
  · exact w_c8
  · exact w_c9
  · exact w_c10
  · exact w_c11
  · exact w_c12
  · exact w_c13
  · exact w_c14
  · exact w_c15
  · exact w_c16
  · exact w_c17
set_option maxRecDepth 65536 in
theorem w_t1 : (words1.take 24).all (fun c => isCode c || c.before args0 about1) = true := by decide +kernel
set_option maxRecDepth 65536 in
theorem w_t2 : ((words1.drop 24).take 24).all (fun c => isCode c || c.before args0 about1) = true := by decide +kernel
set_option maxRecDepth 65536 in
theorem w_t3 : (((words1.drop 24).drop 24).take 24).all (fun c => isCode c || c.before args0 about1) = true := by decide +kernel
set_option maxRecDepth 65536 in
theorem w_t4 : (((words1.drop 24).drop 24).drop 24).all (fun c => isCode c || c.before args0 about1) = true := by decide +kernel
theorem w_tables : (allAtoms (Jvm.Cond.code x code maxLocals ret :: tables_1)).before args0 about1 = true := by
  rw [allAtoms_all]
  show words1.all (fun c => c.before args0 about1) = true
  refine all_split ?_ w_codes
  rw [← List.take_append_drop 24 words1, List.all_append, w_t1, ← List.take_append_drop 24 (words1.drop 24), List.all_append, w_t2, ← List.take_append_drop 24 ((words1.drop 24).drop 24), List.all_append, w_t3, w_t4]
  rfl
set_option maxRecDepth 65536 in
theorem w_rest : rest_1_c.before args0 about1 = true := by decide +kernel
set_option maxRecDepth 65536 in
theorem w_case : (Jvm.Cond.and given_1 narrow_1).before args0 about1 = true := by decide +kernel
set_option maxRecDepth 65536 in
theorem w_consts : constsHeld consts_1 about1 := Jvm.Lit.constsHeldB_iff.mp (by decide +kernel)
theorem w_applies : (headSpec (Jvm.Cond.code x code maxLocals ret :: tables_1) room_1).applies x e0.platform about1 = true :=
  (Spec.applies_iff w_frames).mpr ⟨w_running, w_runnable, w_alone, w_named, w_hears, w_ripe, w_room, w_tables⟩
theorem atStart : AtStart classFile x code maxLocals ret World_1 tables_1 room_1 Calls_1 rest_1 Pre_1 launch0 p0 e0 about1 theMethod args0 below0 :=
  ⟨lists_1, trivial, launch0.admits_env _ _ _, launch0.least_env, fairChoices_fair.cas, fairChoices_fair.clock, w_frames, w_args, w_heap, w_applies, ⟨w_consts, trivial⟩, w_rest, w_case⟩
end start1
theorem witness_1 : WitnessClaimed_1 := ⟨start1.p0, start1.e0, start1.about1, start1.theMethod, start1.args0, start1.below0, start1.atStart⟩
end Jvm.Pilot.@@N@@
