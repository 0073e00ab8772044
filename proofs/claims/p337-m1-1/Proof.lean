import JvmDerived
import JvmDerived.Pilot.@@N@@Statement
import JvmDerived.Pilot.@@N@@Code
set_option linter.unusedVariables false
set_option linter.unusedSimpArgs false
namespace Jvm.Pilot.@@N@@
open Jvm Jvm.ClassFile Sem Op Lib Jvm.Free Jvm.Stand Jvm.LawKit Jvm.RoadKit Bundle Jvm.Pilot.@@N@@.Jvm.D
section Own
variable {p : Program} {l : Launch} {e : Env} {R : Room} {s : State} {m : MethodId} {args : Array Value} {below : List Frame} {meth : Method} {c : Code} {T : State} {locs : List Loc} {cells slots : Nat} {Z : State} {h h' : Heap} {a b : Addr} {G : State → Outcome → Prop} {Q : Option Value → Heap → List Loc → Prop} {C K : Nat}
/-- the run comes to an end of which G holds -/
def own_Goes (p : Program) (e : Env) (below : List Frame) (G : State → Outcome → Prop) (S : State) : Prop := ∃ s₂ o, Steps p.tables e below S s₂ ∧ s₂.status = .running ∧ Ended s₂ below o ∧ G s₂ o
theorem own_step {S S' : State} (k : ∀ t, Steps p.tables e below S' t → Steps p.tables e below S t) (h : own_Goes p e below G S') : own_Goes p e below G S := by
  obtain ⟨s₂, o, h1, h2⟩ := h
  exact ⟨s₂, o, k _ h1, h2⟩
theorem own_jump {S S' : State} (k : Steps p.tables e below S S') (h : own_Goes p e below G S') : own_Goes p e below G S := own_step (fun _ q => k.trans q) h
def own_Fin (s : State) (Q : Option Value → Heap → List Loc → Prop) (C K : Nat) : State → Outcome → Prop := fun U o => ∃ v L, o = .returned v ∧ Q v U.heap L ∧ FrameEnd s o U L C K
theorem own_ret0 (X : Stand p l e R s m args below meth c T locs cells slots) (hx : p.tables.exec = Jvm.exec) (hlk : meth.locks = false) (hret : meth.sig.returnType = none) {pc : Nat} {Ls : Array Slot} (hd : decode c.code pc = .ok (.return_, 1)) (hq : Q none T.heap locs) (hc : cells ≤ C) (hk : slots ≤ K) :
    own_Goes p e below (own_Fin s Q C K) (T.setTop (mkF m pc Ls [])) := by
  obtain ⟨fs, hr, hrun, hended, hW, hsame⟩ := X.leave (v := none) (fun _ => rfl)
  exact ⟨_, _, X.returnOut hx hret hd hr, hrun, hended, _, _, rfl, hq, ⟨_, rfl⟩, hW, hsame.mono hc hk⟩
theorem own_retV (X : Stand p l e R s m args below meth c T locs cells slots) (hx : p.tables.exec = Jvm.exec) (hlk : meth.locks = false) {t : FieldType} (hret : meth.sig.returnType = some t) {w : Value} (hn : narrow t w = w) {i : Instr}
    (hi : (i = .ireturn ∧ (t = .int ∨ t = .boolean ∨ t = .byte ∨ t = .char ∨ t = .short) ∧ ∃ z, w = .int z) ∨ (i = .lreturn ∧ t = .long ∧ ∃ z, w = .long z) ∨ (i = .dreturn ∧ t = .double ∧ ∃ z, w = .double z) ∨ (i = .freturn ∧ t = .float ∧ ∃ z, w = .float z) ∨ (i = .areturn ∧ t.isReference = true ∧ w.isRef = true))
    {pc : Nat} {Ls : Array Slot} {rest : List Value} (hd : decode c.code pc = .ok (i, 1)) (hq : Q (some w) T.heap locs) (hc : cells ≤ C) (hk : slots ≤ K) :
    own_Goes p e below (own_Fin s Q C K) (T.setTop (mkF m pc Ls (w :: rest))) := by
  obtain ⟨fs, hr, hrun, hended, hW, hsame⟩ := X.leave (v := some w) (fun h => by rw [hret] at h; cases h)
  exact ⟨_, _, retOut X hx hret hn hi hd hr, hrun, hended, _, _, rfl, hq, ⟨_, rfl⟩, hW, hsame.mono hc hk⟩
theorem own_nb {z : Int32} (h : z = 0 ∨ z = 1) : narrow .boolean (.int z) = .int z := by
  rcases h with rfl | rfl <;> rfl
theorem own_01 {q : Prop} [Decidable q] {x y : Int32} (hx : x = 0 ∨ x = 1) (hy : y = 0 ∨ y = 1) : (if q then x else y) = 0 ∨ (if q then x else y) = 1 := by
  split
  · exact hx
  · exact hy
/-- the law's own promise -/
def own_Q0 (n0 : Nat) (v : Option Value) (h : Heap) (L : List Loc) : Prop := v = some (.int 1) ∧ Fr n0 L
theorem own_retL {n0 : Nat} (X : Stand p l e R s m args below meth c T locs cells slots) (hx : p.tables.exec = Jvm.exec) (hlk : meth.locks = false) (hret : meth.sig.returnType = some .boolean) {pc : Nat} {Ls : Array Slot} {z : Int32} {rest : List Value} (hd : decode c.code pc = .ok (.ireturn, 1)) (hz : z = 1) (N : Fr n0 locs) (hc : cells ≤ C) (hk : slots ≤ K) :
    own_Goes p e below (own_Fin s (own_Q0 n0) C K) (T.setTop (mkF m pc Ls (.int z :: rest))) := by
  subst hz
  exact own_retV X hx hlk hret (own_nb (Or.inr rfl)) (Or.inl ⟨rfl, Or.inr (Or.inl rfl), _, rfl⟩) hd ⟨rfl, N⟩ hc hk
/-! arrays of ints and of longs, by their lists -/
theorem own_getI (xs : List Int32) (n : Nat) : (xs.map Value.int).getD n (Value.int 0) = Value.int (xs.getD n 0) := by
  simp only [List.getD_eq_getElem?_getD, List.getElem?_map]
  cases xs[n]? <;> rfl
theorem own_getJ (xs : List Int64) (n : Nat) : (xs.map Value.long).getD n (Value.long 0) = Value.long (xs.getD n 0) := by
  simp only [List.getD_eq_getElem?_getD, List.getElem?_map]
  cases xs[n]? <;> rfl
theorem own_newI {k : ClassId} {z : Int32} (A : Arr Z h a (newA k .int z) .int) (q : ¬ z < 0) (n : Nat) : Arv Z h a k .int z ((List.replicate n (0 : Int32)).map Value.int) (Value.int 0) :=
  (Arv.new A q).pad fun i => by rw [List.map_replicate]; exact pad_rep [] (Value.int 0) n i
theorem own_newJ {k : ClassId} {z : Int32} (A : Arr Z h a (newA k .long z) .long) (q : ¬ z < 0) (n : Nat) : Arv Z h a k .long z ((List.replicate n (0 : Int64)).map Value.long) (Value.long 0) :=
  (Arv.new A q).pad fun i => by rw [List.map_replicate]; exact pad_rep [] (Value.long 0) n i
theorem own_ial (X : Stand p l e R s m args below meth c T locs cells slots) (hx : p.tables.exec = Jvm.exec) (hZ : Z.Warmed39 s.vm) (eT : T.heap = h) {k : ClassId} {z j : Int32} {xs : List Int32} (F : Arv Z h a k .int z (xs.map Value.int) (Value.int 0)) (hj : ¬ j < 0 ∧ j < z)
    {g : JFrame} (hg : g.method = m) {rest : List Value} (hs : g.stack = .int j :: .ref a :: rest) (hd : decode c.code g.pc = .ok (.iaload, 1)) (t : State) (kk : Steps p.tables e below (T.setTop { g with pc := g.pc + 1, stack := .int (xs.getD j.toNatClampNeg 0) :: rest }) t) : Steps p.tables e below (T.setTop g) t := by
  obtain ⟨cl, Ar, -, S, -, H, -⟩ := F
  have hin := inb_of S hj
  exact X.iaload hx (j := j) (by rw [eT]; exact Ar.1) (State.isArrayOf_alike hZ.alike Ar.2.1) Ar.2.2 hin (H.at hin (own_getI _ _)) hg hs hd t kk
theorem own_lal (X : Stand p l e R s m args below meth c T locs cells slots) (hx : p.tables.exec = Jvm.exec) (hZ : Z.Warmed39 s.vm) (eT : T.heap = h) {k : ClassId} {z j : Int32} {xs : List Int64} (F : Arv Z h a k .long z (xs.map Value.long) (Value.long 0)) (hj : ¬ j < 0 ∧ j < z)
    {g : JFrame} (hg : g.method = m) {rest : List Value} (hs : g.stack = .int j :: .ref a :: rest) (hd : decode c.code g.pc = .ok (.laload, 1)) (t : State) (kk : Steps p.tables e below (T.setTop { g with pc := g.pc + 1, stack := .long (xs.getD j.toNatClampNeg 0) :: rest }) t) : Steps p.tables e below (T.setTop g) t := by
  obtain ⟨cl, Ar, -, S, -, H, -⟩ := F
  have hin := inb_of S hj
  exact X.laload hx (j := j) (by rw [eT]; exact Ar.1) (State.isArrayOf_alike hZ.alike Ar.2.1) Ar.2.2 hin (H.at hin (own_getJ _ _)) hg hs hd t kk
theorem own_len (X : Stand p l e R s m args below meth c T locs cells slots) (hx : p.tables.exec = Jvm.exec) (hZ : Z.Warmed39 s.vm) (eT : T.heap = h) {k : ClassId} {ty : FieldType} {z : Int32} {vs : List Value} {dv : Value} (F : Arv Z h a k ty z vs dv)
    {g : JFrame} (hg : g.method = m) {rest : List Value} (hs : g.stack = .ref a :: rest) (hd : decode c.code g.pc = .ok (.arraylength, 1)) (t : State) (kk : Steps p.tables e below (T.setTop { g with pc := g.pc + 1, stack := .int z :: rest }) t) : Steps p.tables e below (T.setTop g) t := by
  obtain ⟨cl, Ar, -, S, N, -, -⟩ := F
  refine X.arraylength hx (by rw [eT]; exact Ar.1) (State.isArrayOf_alike hZ.alike Ar.2.1) hg hs hd t ?_
  rw [len_of S N]
  exact kk
theorem own_ist (X : Stand p l e R s m args below meth c T locs cells slots) (hx : p.tables.exec = Jvm.exec) (hZ : Z.Warmed39 s.vm) (eT : T.heap = h) {k : ClassId} {z j y : Int32} {xs : List Int32} (F : Arv Z h a k .int z (xs.map Value.int) (Value.int 0)) (hj : ¬ j < 0 ∧ j < z) (n : Nat) (hn : j.toNatClampNeg = n) (hl : n < xs.length)
    {g : JFrame} (hg : g.method = m) {rest : List Value} (hs : g.stack = .int y :: .int j :: .ref a :: rest) (hd : decode c.code g.pc = .ok (.iastore, 1)) :
    ∃ T' h', Stand p l e R s m args below meth c T' (locs ++ [⟨a, j.toNatClampNeg⟩]) cells slots ∧ T'.heap = h' ∧ Wr h h' a j.toNatClampNeg (.int y) ∧ Arv Z h' a k .int z ((xs.set n y).map Value.int) (Value.int 0) ∧ ∀ t, Steps p.tables e below (T'.setTop { g with pc := g.pc + 1, stack := rest }) t → Steps p.tables e below (T.setTop g) t := by
  obtain ⟨cl, Ar, q, S, N, H, I⟩ := F
  obtain ⟨T', h', X', e', W, st⟩ := stI X hx hZ eT Ar (inb_of S hj) hg hs hd
  refine ⟨T', h', X', e', W, ?_, st⟩
  rw [List.map_set]
  exact Arv.set Ar q S N H I rfl W n hn (by rw [List.length_map]; exact hl)
theorem own_lst (X : Stand p l e R s m args below meth c T locs cells slots) (hx : p.tables.exec = Jvm.exec) (hZ : Z.Warmed39 s.vm) (eT : T.heap = h) {k : ClassId} {z j : Int32} {y : Int64} {xs : List Int64} (F : Arv Z h a k .long z (xs.map Value.long) (Value.long 0)) (hj : ¬ j < 0 ∧ j < z) (n : Nat) (hn : j.toNatClampNeg = n) (hl : n < xs.length)
    {g : JFrame} (hg : g.method = m) {rest : List Value} (hs : g.stack = .long y :: .int j :: .ref a :: rest) (hd : decode c.code g.pc = .ok (.lastore, 1)) :
    ∃ T' h', Stand p l e R s m args below meth c T' (locs ++ [⟨a, j.toNatClampNeg⟩]) cells slots ∧ T'.heap = h' ∧ Wr h h' a j.toNatClampNeg (.long y) ∧ Arv Z h' a k .long z ((xs.set n y).map Value.long) (Value.long 0) ∧ ∀ t, Steps p.tables e below (T'.setTop { g with pc := g.pc + 1, stack := rest }) t → Steps p.tables e below (T.setTop g) t := by
  obtain ⟨cl, Ar, q, S, N, H, I⟩ := F
  obtain ⟨T', h', X', e', W, st⟩ := stJ X hx hZ eT Ar (inb_of S hj) hg hs hd
  refine ⟨T', h', X', e', W, ?_, st⟩
  rw [List.map_set]
  exact Arv.set Ar q S N H I rfl W n hn (by rw [List.length_map]; exact hl)
end Own
def own_ns (q : Int32) : Int32 := if (¬ q < (65 : Int32) ∧ ¬ (90 : Int32) < q) then (1 : Int32) else if (¬ q < (97 : Int32) ∧ ¬ (122 : Int32) < q) then (1 : Int32) else if (¬ q < (192 : Int32) ∧ ¬ (214 : Int32) < q) then (1 : Int32) else if (¬ q < (216 : Int32) ∧ ¬ (246 : Int32) < q) then (1 : Int32) else if (¬ q < (248 : Int32) ∧ ¬ (767 : Int32) < q) then (1 : Int32) else if (¬ q < (880 : Int32) ∧ ¬ (893 : Int32) < q) then (1 : Int32) else if (¬ q < (895 : Int32) ∧ ¬ (8191 : Int32) < q) then (1 : Int32) else if (¬ q < (8204 : Int32) ∧ ¬ (8205 : Int32) < q) then (1 : Int32) else if (¬ q < (8304 : Int32) ∧ ¬ (8591 : Int32) < q) then (1 : Int32) else if (¬ q < (11264 : Int32) ∧ ¬ (12271 : Int32) < q) then (1 : Int32) else if (¬ q < (12289 : Int32) ∧ ¬ (55295 : Int32) < q) then (1 : Int32) else if (¬ q < (63744 : Int32) ∧ ¬ (64975 : Int32) < q) then (1 : Int32) else if (¬ q < (65008 : Int32) ∧ ¬ (65533 : Int32) < q) then (1 : Int32) else if (¬ q < (65536 : Int32) ∧ ¬ (983039 : Int32) < q) then (1 : Int32) else (0 : Int32)
theorem own_no {a b : Prop} (h : a ∨ b) : ¬ (¬ a ∧ ¬ b) := fun q => h.elim q.1 q.2
theorem own_idx (x : Int32) : ¬ ((x &&& (2147483647 : Int32)) % (28 : Int32)) < 0 ∧ ((x &&& (2147483647 : Int32)) % (28 : Int32)) < (28 : Int32) := by
  have q := c_and x 2147483647 (by decide)
  have r := (c_irem (x &&& (2147483647 : Int32)) 28 28 rfl).1 q.1
  rw [Int32.lt_iff_toInt_lt, Int32.lt_iff_toInt_lt, r]
  have z1 : (28 : Int32).toInt = 28 := rfl
  have z0 : (0 : Int32).toInt = 0 := rfl
  omega
theorem own_length {args : Array Value} {s : State} {t : Term} {x : Addr} {c : Cell} {k : Int32} (ev : t.eval args s none [] s = some (.ref x)) (A : Arr s s.heap x c .int) (h : (Jvm.Cond.eq (Term.length t) (Term.int k)).value args s none s [] = some true) : c.slots.size < 2 ^ 31 ∧ c.slots.size.toInt32 = k := by
  obtain ⟨u, w, e1, e2, k1, -⟩ := cmp_v (Or.inl h)
  have e3 : (Term.int k).eval args s none [] s = some (.int k) := Term.int_eval _
  have hA := A.fin (Vm.Alike.refl _)
  by_cases hl : c.slots.size < 2 ^ 31
  · refine ⟨hl, ?_⟩
    have e4 := len_f (first := s) (o := none) (idx := []) ev hA hl
    simpa [Cond.value, e3, e4] using h
  · simp [Term.eval, ev, hA, hl] at e1
theorem own_elem {args : Array Value} {s : State} {t : Term} {x : Addr} {c : Cell} {j k : Int32} (ev : t.eval args s none [] s = some (.ref x)) (A : Arr s s.heap x c .int) (h : (Jvm.Cond.eq (Term.elem t (Term.int j)) (Term.int k)).value args s none s [] = some true) : c.slots[j.toNatClampNeg]? = some (.int k) := by
  obtain ⟨u, w, e1, e2, k1, -⟩ := cmp_v (Or.inl h)
  have e3 : (Term.int k).eval args s none [] s = some (.int k) := Term.int_eval _
  cases e2.symm.trans e3
  have e4 := (elem_in e1 ev (Term.int_eval _) A.1).2
  rw [e4]
  cases u with
  | int z =>
    have : z = k := by simpa [Cond.value, e1, e3] using h
    rw [this]
  | _ => simp [Kin, Value.isRef] at k1
theorem own_pn0 : plainName "com/example/concepta/concepta/formats/CharactersIsNameStartPinLaw" = true := by first | (simp [plainName, overriddenIn]; done) | decide +kernel
theorem own_dmethod_2_code_0 : decode method_2_code 0 = .ok (.iload_n 0, 1) := by decide +kernel
theorem own_dmethod_2_code_1 : decode method_2_code 1 = .ok (.bipush 65, 2) := by decide +kernel
theorem own_dmethod_2_code_12 : decode method_2_code 12 = .ok (.iload_n 0, 1) := by decide +kernel
theorem own_dmethod_2_code_13 : decode method_2_code 13 = .ok (.bipush 97, 2) := by decide +kernel
theorem own_dmethod_2_code_24 : decode method_2_code 24 = .ok (.iload_n 0, 1) := by decide +kernel
theorem own_dmethod_2_code_25 : decode method_2_code 25 = .ok (.sipush 192, 3) := by decide +kernel
theorem own_dmethod_2_code_38 : decode method_2_code 38 = .ok (.iload_n 0, 1) := by decide +kernel
theorem own_dmethod_2_code_39 : decode method_2_code 39 = .ok (.sipush 216, 3) := by decide +kernel
theorem own_dmethod_2_code_52 : decode method_2_code 52 = .ok (.iload_n 0, 1) := by decide +kernel
theorem own_dmethod_2_code_53 : decode method_2_code 53 = .ok (.sipush 248, 3) := by decide +kernel
theorem own_dmethod_2_code_66 : decode method_2_code 66 = .ok (.iload_n 0, 1) := by decide +kernel
theorem own_dmethod_2_code_67 : decode method_2_code 67 = .ok (.sipush 880, 3) := by decide +kernel
theorem own_dmethod_2_code_80 : decode method_2_code 80 = .ok (.iload_n 0, 1) := by decide +kernel
theorem own_dmethod_2_code_81 : decode method_2_code 81 = .ok (.sipush 895, 3) := by decide +kernel
theorem own_dmethod_2_code_94 : decode method_2_code 94 = .ok (.iload_n 0, 1) := by decide +kernel
theorem own_dmethod_2_code_95 : decode method_2_code 95 = .ok (.sipush 8204, 3) := by decide +kernel
theorem own_dmethod_2_code_108 : decode method_2_code 108 = .ok (.iload_n 0, 1) := by decide +kernel
theorem own_dmethod_2_code_109 : decode method_2_code 109 = .ok (.sipush 8304, 3) := by decide +kernel
theorem own_dmethod_2_code_122 : decode method_2_code 122 = .ok (.iload_n 0, 1) := by decide +kernel
theorem own_dmethod_2_code_123 : decode method_2_code 123 = .ok (.sipush 11264, 3) := by decide +kernel
theorem own_dmethod_2_code_136 : decode method_2_code 136 = .ok (.iload_n 0, 1) := by decide +kernel
theorem own_dmethod_2_code_137 : decode method_2_code 137 = .ok (.sipush 12289, 3) := by decide +kernel
theorem own_dmethod_2_code_149 : decode method_2_code 149 = .ok (.iload_n 0, 1) := by decide +kernel
theorem own_dmethod_2_code_150 : decode method_2_code 150 = .ok (.ldc 8, 2) := by decide +kernel
theorem own_dmethod_2_code_161 : decode method_2_code 161 = .ok (.iload_n 0, 1) := by decide +kernel
theorem own_dmethod_2_code_162 : decode method_2_code 162 = .ok (.ldc 10, 2) := by decide +kernel
theorem own_dmethod_2_code_173 : decode method_2_code 173 = .ok (.iload_n 0, 1) := by decide +kernel
theorem own_dmethod_2_code_174 : decode method_2_code 174 = .ok (.ldc 12, 2) := by decide +kernel
theorem own_dmethod_2_code_189 : decode method_2_code 189 = .ok (.iconst 0, 1) := by decide +kernel
theorem own_dmethod_2_code_190 : decode method_2_code 190 = .ok (.ireturn, 1) := by decide +kernel
theorem own_dmethod_2_code_176 : decode method_2_code 176 = .ok (.if_icmp .lt 13, 3) := by decide +kernel
theorem own_dmethod_2_code_179 : decode method_2_code 179 = .ok (.iload_n 0, 1) := by decide +kernel
theorem own_dmethod_2_code_180 : decode method_2_code 180 = .ok (.ldc 13, 2) := by decide +kernel
theorem own_dmethod_2_code_182 : decode method_2_code 182 = .ok (.if_icmp .gt 7, 3) := by decide +kernel
theorem own_dmethod_2_code_185 : decode method_2_code 185 = .ok (.iconst 1, 1) := by decide +kernel
theorem own_dmethod_2_code_186 : decode method_2_code 186 = .ok (.goto 4, 3) := by decide +kernel
theorem own_dmethod_2_code_164 : decode method_2_code 164 = .ok (.if_icmp .lt 9, 3) := by decide +kernel
theorem own_dmethod_2_code_167 : decode method_2_code 167 = .ok (.iload_n 0, 1) := by decide +kernel
theorem own_dmethod_2_code_168 : decode method_2_code 168 = .ok (.ldc 11, 2) := by decide +kernel
theorem own_dmethod_2_code_170 : decode method_2_code 170 = .ok (.if_icmp .le 15, 3) := by decide +kernel
theorem own_dmethod_2_code_152 : decode method_2_code 152 = .ok (.if_icmp .lt 9, 3) := by decide +kernel
theorem own_dmethod_2_code_155 : decode method_2_code 155 = .ok (.iload_n 0, 1) := by decide +kernel
theorem own_dmethod_2_code_156 : decode method_2_code 156 = .ok (.ldc 9, 2) := by decide +kernel
theorem own_dmethod_2_code_158 : decode method_2_code 158 = .ok (.if_icmp .le 27, 3) := by decide +kernel
theorem own_dmethod_2_code_140 : decode method_2_code 140 = .ok (.if_icmp .lt 9, 3) := by decide +kernel
theorem own_dmethod_2_code_143 : decode method_2_code 143 = .ok (.iload_n 0, 1) := by decide +kernel
theorem own_dmethod_2_code_144 : decode method_2_code 144 = .ok (.ldc 7, 2) := by decide +kernel
theorem own_dmethod_2_code_146 : decode method_2_code 146 = .ok (.if_icmp .le 39, 3) := by decide +kernel
theorem own_dmethod_2_code_126 : decode method_2_code 126 = .ok (.if_icmp .lt 10, 3) := by decide +kernel
theorem own_dmethod_2_code_129 : decode method_2_code 129 = .ok (.iload_n 0, 1) := by decide +kernel
theorem own_dmethod_2_code_130 : decode method_2_code 130 = .ok (.sipush 12271, 3) := by decide +kernel
theorem own_dmethod_2_code_133 : decode method_2_code 133 = .ok (.if_icmp .le 52, 3) := by decide +kernel
theorem own_dmethod_2_code_112 : decode method_2_code 112 = .ok (.if_icmp .lt 10, 3) := by decide +kernel
theorem own_dmethod_2_code_115 : decode method_2_code 115 = .ok (.iload_n 0, 1) := by decide +kernel
theorem own_dmethod_2_code_116 : decode method_2_code 116 = .ok (.sipush 8591, 3) := by decide +kernel
theorem own_dmethod_2_code_119 : decode method_2_code 119 = .ok (.if_icmp .le 66, 3) := by decide +kernel
theorem own_dmethod_2_code_98 : decode method_2_code 98 = .ok (.if_icmp .lt 10, 3) := by decide +kernel
theorem own_dmethod_2_code_101 : decode method_2_code 101 = .ok (.iload_n 0, 1) := by decide +kernel
theorem own_dmethod_2_code_102 : decode method_2_code 102 = .ok (.sipush 8205, 3) := by decide +kernel
theorem own_dmethod_2_code_105 : decode method_2_code 105 = .ok (.if_icmp .le 80, 3) := by decide +kernel
theorem own_dmethod_2_code_84 : decode method_2_code 84 = .ok (.if_icmp .lt 10, 3) := by decide +kernel
theorem own_dmethod_2_code_87 : decode method_2_code 87 = .ok (.iload_n 0, 1) := by decide +kernel
theorem own_dmethod_2_code_88 : decode method_2_code 88 = .ok (.sipush 8191, 3) := by decide +kernel
theorem own_dmethod_2_code_91 : decode method_2_code 91 = .ok (.if_icmp .le 94, 3) := by decide +kernel
theorem own_dmethod_2_code_70 : decode method_2_code 70 = .ok (.if_icmp .lt 10, 3) := by decide +kernel
theorem own_dmethod_2_code_73 : decode method_2_code 73 = .ok (.iload_n 0, 1) := by decide +kernel
theorem own_dmethod_2_code_74 : decode method_2_code 74 = .ok (.sipush 893, 3) := by decide +kernel
theorem own_dmethod_2_code_77 : decode method_2_code 77 = .ok (.if_icmp .le 108, 3) := by decide +kernel
theorem own_dmethod_2_code_56 : decode method_2_code 56 = .ok (.if_icmp .lt 10, 3) := by decide +kernel
theorem own_dmethod_2_code_59 : decode method_2_code 59 = .ok (.iload_n 0, 1) := by decide +kernel
theorem own_dmethod_2_code_60 : decode method_2_code 60 = .ok (.sipush 767, 3) := by decide +kernel
theorem own_dmethod_2_code_63 : decode method_2_code 63 = .ok (.if_icmp .le 122, 3) := by decide +kernel
theorem own_dmethod_2_code_42 : decode method_2_code 42 = .ok (.if_icmp .lt 10, 3) := by decide +kernel
theorem own_dmethod_2_code_45 : decode method_2_code 45 = .ok (.iload_n 0, 1) := by decide +kernel
theorem own_dmethod_2_code_46 : decode method_2_code 46 = .ok (.sipush 246, 3) := by decide +kernel
theorem own_dmethod_2_code_49 : decode method_2_code 49 = .ok (.if_icmp .le 136, 3) := by decide +kernel
theorem own_dmethod_2_code_28 : decode method_2_code 28 = .ok (.if_icmp .lt 10, 3) := by decide +kernel
theorem own_dmethod_2_code_31 : decode method_2_code 31 = .ok (.iload_n 0, 1) := by decide +kernel
theorem own_dmethod_2_code_32 : decode method_2_code 32 = .ok (.sipush 214, 3) := by decide +kernel
theorem own_dmethod_2_code_35 : decode method_2_code 35 = .ok (.if_icmp .le 150, 3) := by decide +kernel
theorem own_dmethod_2_code_15 : decode method_2_code 15 = .ok (.if_icmp .lt 9, 3) := by decide +kernel
theorem own_dmethod_2_code_18 : decode method_2_code 18 = .ok (.iload_n 0, 1) := by decide +kernel
theorem own_dmethod_2_code_19 : decode method_2_code 19 = .ok (.bipush 122, 2) := by decide +kernel
theorem own_dmethod_2_code_21 : decode method_2_code 21 = .ok (.if_icmp .le 164, 3) := by decide +kernel
theorem own_dmethod_2_code_3 : decode method_2_code 3 = .ok (.if_icmp .lt 9, 3) := by decide +kernel
theorem own_dmethod_2_code_6 : decode method_2_code 6 = .ok (.iload_n 0, 1) := by decide +kernel
theorem own_dmethod_2_code_7 : decode method_2_code 7 = .ok (.bipush 90, 2) := by decide +kernel
theorem own_dmethod_2_code_9 : decode method_2_code 9 = .ok (.if_icmp .le 176, 3) := by decide +kernel
theorem own_b1_ef (m : MethodId) (q1 : Int32) : entryFrame m #[(.int q1)] 1 = mkF m 0 #[.val (.int q1)] [] := by first | (simp [entryFrame, mkF, argsToLocals, Value.category]; done) | rfl
def own_b1_Q (Z : State) (q1 : Int32) (h0 : Heap) (n0 : Nat) (v : Option Value) (h : Heap) (L : List Loc) : Prop := v = some (.int (own_ns q1)) ∧ Fr n0 L ∧ h = h0
set_option maxRecDepth 65536 in
set_option maxHeartbeats 40000000 in
theorem own_b1 (l : Launch) (Z : State) (a0 : Array Value) (hw : ∀ d ∈ tables_1, d.before a0 Z = true) (ws : List Jvm.Cond) (q1 : Int32) (h0 : Heap) (n0 : Nat) (Z0 : n0 ≤ h0.size) :
    MetFree l (⟨"com/example/concepta/concepta/formats/CharactersIsNameStartPinLaw", "ref", "(I)Z"⟩ : MethodName) (head1 (Jvm.Cond.code (⟨"com/example/concepta/concepta/formats/CharactersIsNameStartPinLaw", "ref", "(I)Z"⟩ : MethodName) method_2_code 1 (some .boolean) :: ws) ({ frames := 0, cells := 0, slots := 0, locals := 0 } : Room)) (fun aa U => aa = #[(.int q1)] ∧ Z.Warmed39 U.vm ∧ U.heap = h0) (fun _ _ _ _ _ => True) (fun _ U o U' => ∃ v L, o = .returned v ∧ own_b1_Q Z q1 h0 n0 v U'.heap L ∧ FrameEnd U o U' L ({ frames := 0, cells := 0, slots := 0, locals := 0 } : Room).cells ({ frames := 0, cells := 0, slots := 0, locals := 0 } : Room).slots) := by
  refine MetFree.of_bodySF (plainFor_of_name own_pn0) hisR ?_
  have w1 := hw _ (List.mem_of_getElem? (i := 1) rfl)
  have w2 := hw _ (List.mem_of_getElem? (i := 2) rfl)
  have w3 := hw _ (List.mem_of_getElem? (i := 3) rfl)
  have w4 := hw _ (List.mem_of_getElem? (i := 4) rfl)
  have w5 := hw _ (List.mem_of_getElem? (i := 5) rfl)
  have w6 := hw _ (List.mem_of_getElem? (i := 6) rfl)
  have w7 := hw _ (List.mem_of_getElem? (i := 7) rfl)
  intro p e s m args below meth c s₁ Bd hml0 hP hK
  obtain ⟨rfl, hZ, hh⟩ := hP
  have hx := Bd.exec
  have hby := Bd.bytes
  have hlk := Bd.notSynchronized
  have hml : c.maxLocals = 1 := hml0
  have hown : s.vm.findClass "com/example/concepta/concepta/formats/CharactersIsNameStartPinLaw" = some m.cls := findClass_of_methodNamed Bd.named
  have hnm := (name_of_methodNamed Bd.named Bd.method).1
  have X0 : Stand p l e ({ frames := 0, cells := 0, slots := 0, locals := 0 } : Room) s m #[(.int q1)] below meth c s₁ [] 0 0 := Stand.of_body Bd
  have e0 : s₁.heap = h0 := by rw [← hh, Bd.state]; rfl
  have N0 := Fr.nil n0
  have K0 : Keep h0 h0 [] := Keep.refl h0 _
  show own_Goes p e below (own_Fin s (own_b1_Q Z q1 h0 n0) ({ frames := 0, cells := 0, slots := 0, locals := 0 } : Room).cells ({ frames := 0, cells := 0, slots := 0, locals := 0 } : Room).slots) _
  refine own_step (fun t k => castTop (own_b1_ef m q1) k) ?_
  show own_Goes p e below _ (s₁.setTop (mkF m 0 #[.val (.int q1)] []))
  refine own_step (fun t k => XS.iloadN X0.here hx rfl (hb hby own_dmethod_2_code_0) rfl k) ?_
  show own_Goes p e below _ (s₁.setTop (mkF m 1 #[.val (.int q1)] [(.int q1)]))
  refine own_step (fun t k => XS.bipush X0.here hx rfl (hb hby own_dmethod_2_code_1) k) ?_
  show own_Goes p e below _ (s₁.setTop (mkF m 3 #[.val (.int q1)] [(.int (65 : Int32)), (.int q1)]))
  have J57 : ∀ (T58 : State) (X58 : Stand p l e ({ frames := 0, cells := 0, slots := 0, locals := 0 } : Room) s m #[(.int q1)] below meth c T58 [] 0 0) (e58 : T58.heap = h0) (hl58 : q1 < (65 : Int32) ∨ (90 : Int32) < q1), own_Goes p e below (own_Fin s (own_b1_Q Z q1 h0 n0) ({ frames := 0, cells := 0, slots := 0, locals := 0 } : Room).cells ({ frames := 0, cells := 0, slots := 0, locals := 0 } : Room).slots) (T58.setTop (mkF m 12 #[.val (.int q1)] [])) := by
    intro T58 X58 e58 hl58
    refine own_step (fun t k => XS.iloadN X58.here hx rfl (hb hby own_dmethod_2_code_12) rfl k) ?_
    show own_Goes p e below _ (T58.setTop (mkF m 13 #[.val (.int q1)] [(.int q1)]))
    refine own_step (fun t k => XS.bipush X58.here hx rfl (hb hby own_dmethod_2_code_13) k) ?_
    show own_Goes p e below _ (T58.setTop (mkF m 15 #[.val (.int q1)] [(.int (97 : Int32)), (.int q1)]))
    have J59 : ∀ (T60 : State) (X60 : Stand p l e ({ frames := 0, cells := 0, slots := 0, locals := 0 } : Room) s m #[(.int q1)] below meth c T60 [] 0 0) (e60 : T60.heap = h0) (hl60 : q1 < (97 : Int32) ∨ (122 : Int32) < q1), own_Goes p e below (own_Fin s (own_b1_Q Z q1 h0 n0) ({ frames := 0, cells := 0, slots := 0, locals := 0 } : Room).cells ({ frames := 0, cells := 0, slots := 0, locals := 0 } : Room).slots) (T60.setTop (mkF m 24 #[.val (.int q1)] [])) := by
      intro T60 X60 e60 hl60
      refine own_step (fun t k => XS.iloadN X60.here hx rfl (hb hby own_dmethod_2_code_24) rfl k) ?_
      show own_Goes p e below _ (T60.setTop (mkF m 25 #[.val (.int q1)] [(.int q1)]))
      refine own_step (fun t k => XS.sipush X60.here hx rfl (hb hby own_dmethod_2_code_25) k) ?_
      show own_Goes p e below _ (T60.setTop (mkF m 28 #[.val (.int q1)] [(.int (192 : Int32)), (.int q1)]))
      have J61 : ∀ (T62 : State) (X62 : Stand p l e ({ frames := 0, cells := 0, slots := 0, locals := 0 } : Room) s m #[(.int q1)] below meth c T62 [] 0 0) (e62 : T62.heap = h0) (hl62 : q1 < (192 : Int32) ∨ (214 : Int32) < q1), own_Goes p e below (own_Fin s (own_b1_Q Z q1 h0 n0) ({ frames := 0, cells := 0, slots := 0, locals := 0 } : Room).cells ({ frames := 0, cells := 0, slots := 0, locals := 0 } : Room).slots) (T62.setTop (mkF m 38 #[.val (.int q1)] [])) := by
        intro T62 X62 e62 hl62
        refine own_step (fun t k => XS.iloadN X62.here hx rfl (hb hby own_dmethod_2_code_38) rfl k) ?_
        show own_Goes p e below _ (T62.setTop (mkF m 39 #[.val (.int q1)] [(.int q1)]))
        refine own_step (fun t k => XS.sipush X62.here hx rfl (hb hby own_dmethod_2_code_39) k) ?_
        show own_Goes p e below _ (T62.setTop (mkF m 42 #[.val (.int q1)] [(.int (216 : Int32)), (.int q1)]))
        have J63 : ∀ (T64 : State) (X64 : Stand p l e ({ frames := 0, cells := 0, slots := 0, locals := 0 } : Room) s m #[(.int q1)] below meth c T64 [] 0 0) (e64 : T64.heap = h0) (hl64 : q1 < (216 : Int32) ∨ (246 : Int32) < q1), own_Goes p e below (own_Fin s (own_b1_Q Z q1 h0 n0) ({ frames := 0, cells := 0, slots := 0, locals := 0 } : Room).cells ({ frames := 0, cells := 0, slots := 0, locals := 0 } : Room).slots) (T64.setTop (mkF m 52 #[.val (.int q1)] [])) := by
          intro T64 X64 e64 hl64
          refine own_step (fun t k => XS.iloadN X64.here hx rfl (hb hby own_dmethod_2_code_52) rfl k) ?_
          show own_Goes p e below _ (T64.setTop (mkF m 53 #[.val (.int q1)] [(.int q1)]))
          refine own_step (fun t k => XS.sipush X64.here hx rfl (hb hby own_dmethod_2_code_53) k) ?_
          show own_Goes p e below _ (T64.setTop (mkF m 56 #[.val (.int q1)] [(.int (248 : Int32)), (.int q1)]))
          have J65 : ∀ (T66 : State) (X66 : Stand p l e ({ frames := 0, cells := 0, slots := 0, locals := 0 } : Room) s m #[(.int q1)] below meth c T66 [] 0 0) (e66 : T66.heap = h0) (hl66 : q1 < (248 : Int32) ∨ (767 : Int32) < q1), own_Goes p e below (own_Fin s (own_b1_Q Z q1 h0 n0) ({ frames := 0, cells := 0, slots := 0, locals := 0 } : Room).cells ({ frames := 0, cells := 0, slots := 0, locals := 0 } : Room).slots) (T66.setTop (mkF m 66 #[.val (.int q1)] [])) := by
            intro T66 X66 e66 hl66
            refine own_step (fun t k => XS.iloadN X66.here hx rfl (hb hby own_dmethod_2_code_66) rfl k) ?_
            show own_Goes p e below _ (T66.setTop (mkF m 67 #[.val (.int q1)] [(.int q1)]))
            refine own_step (fun t k => XS.sipush X66.here hx rfl (hb hby own_dmethod_2_code_67) k) ?_
            show own_Goes p e below _ (T66.setTop (mkF m 70 #[.val (.int q1)] [(.int (880 : Int32)), (.int q1)]))
            have J67 : ∀ (T68 : State) (X68 : Stand p l e ({ frames := 0, cells := 0, slots := 0, locals := 0 } : Room) s m #[(.int q1)] below meth c T68 [] 0 0) (e68 : T68.heap = h0) (hl68 : q1 < (880 : Int32) ∨ (893 : Int32) < q1), own_Goes p e below (own_Fin s (own_b1_Q Z q1 h0 n0) ({ frames := 0, cells := 0, slots := 0, locals := 0 } : Room).cells ({ frames := 0, cells := 0, slots := 0, locals := 0 } : Room).slots) (T68.setTop (mkF m 80 #[.val (.int q1)] [])) := by
              intro T68 X68 e68 hl68
              refine own_step (fun t k => XS.iloadN X68.here hx rfl (hb hby own_dmethod_2_code_80) rfl k) ?_
              show own_Goes p e below _ (T68.setTop (mkF m 81 #[.val (.int q1)] [(.int q1)]))
              refine own_step (fun t k => XS.sipush X68.here hx rfl (hb hby own_dmethod_2_code_81) k) ?_
              show own_Goes p e below _ (T68.setTop (mkF m 84 #[.val (.int q1)] [(.int (895 : Int32)), (.int q1)]))
              have J69 : ∀ (T70 : State) (X70 : Stand p l e ({ frames := 0, cells := 0, slots := 0, locals := 0 } : Room) s m #[(.int q1)] below meth c T70 [] 0 0) (e70 : T70.heap = h0) (hl70 : q1 < (895 : Int32) ∨ (8191 : Int32) < q1), own_Goes p e below (own_Fin s (own_b1_Q Z q1 h0 n0) ({ frames := 0, cells := 0, slots := 0, locals := 0 } : Room).cells ({ frames := 0, cells := 0, slots := 0, locals := 0 } : Room).slots) (T70.setTop (mkF m 94 #[.val (.int q1)] [])) := by
                intro T70 X70 e70 hl70
                refine own_step (fun t k => XS.iloadN X70.here hx rfl (hb hby own_dmethod_2_code_94) rfl k) ?_
                show own_Goes p e below _ (T70.setTop (mkF m 95 #[.val (.int q1)] [(.int q1)]))
                refine own_step (fun t k => XS.sipush X70.here hx rfl (hb hby own_dmethod_2_code_95) k) ?_
                show own_Goes p e below _ (T70.setTop (mkF m 98 #[.val (.int q1)] [(.int (8204 : Int32)), (.int q1)]))
                have J71 : ∀ (T72 : State) (X72 : Stand p l e ({ frames := 0, cells := 0, slots := 0, locals := 0 } : Room) s m #[(.int q1)] below meth c T72 [] 0 0) (e72 : T72.heap = h0) (hl72 : q1 < (8204 : Int32) ∨ (8205 : Int32) < q1), own_Goes p e below (own_Fin s (own_b1_Q Z q1 h0 n0) ({ frames := 0, cells := 0, slots := 0, locals := 0 } : Room).cells ({ frames := 0, cells := 0, slots := 0, locals := 0 } : Room).slots) (T72.setTop (mkF m 108 #[.val (.int q1)] [])) := by
                  intro T72 X72 e72 hl72
                  refine own_step (fun t k => XS.iloadN X72.here hx rfl (hb hby own_dmethod_2_code_108) rfl k) ?_
                  show own_Goes p e below _ (T72.setTop (mkF m 109 #[.val (.int q1)] [(.int q1)]))
                  refine own_step (fun t k => XS.sipush X72.here hx rfl (hb hby own_dmethod_2_code_109) k) ?_
                  show own_Goes p e below _ (T72.setTop (mkF m 112 #[.val (.int q1)] [(.int (8304 : Int32)), (.int q1)]))
                  have J73 : ∀ (T74 : State) (X74 : Stand p l e ({ frames := 0, cells := 0, slots := 0, locals := 0 } : Room) s m #[(.int q1)] below meth c T74 [] 0 0) (e74 : T74.heap = h0) (hl74 : q1 < (8304 : Int32) ∨ (8591 : Int32) < q1), own_Goes p e below (own_Fin s (own_b1_Q Z q1 h0 n0) ({ frames := 0, cells := 0, slots := 0, locals := 0 } : Room).cells ({ frames := 0, cells := 0, slots := 0, locals := 0 } : Room).slots) (T74.setTop (mkF m 122 #[.val (.int q1)] [])) := by
                    intro T74 X74 e74 hl74
                    refine own_step (fun t k => XS.iloadN X74.here hx rfl (hb hby own_dmethod_2_code_122) rfl k) ?_
                    show own_Goes p e below _ (T74.setTop (mkF m 123 #[.val (.int q1)] [(.int q1)]))
                    refine own_step (fun t k => XS.sipush X74.here hx rfl (hb hby own_dmethod_2_code_123) k) ?_
                    show own_Goes p e below _ (T74.setTop (mkF m 126 #[.val (.int q1)] [(.int (11264 : Int32)), (.int q1)]))
                    have J75 : ∀ (T76 : State) (X76 : Stand p l e ({ frames := 0, cells := 0, slots := 0, locals := 0 } : Room) s m #[(.int q1)] below meth c T76 [] 0 0) (e76 : T76.heap = h0) (hl76 : q1 < (11264 : Int32) ∨ (12271 : Int32) < q1), own_Goes p e below (own_Fin s (own_b1_Q Z q1 h0 n0) ({ frames := 0, cells := 0, slots := 0, locals := 0 } : Room).cells ({ frames := 0, cells := 0, slots := 0, locals := 0 } : Room).slots) (T76.setTop (mkF m 136 #[.val (.int q1)] [])) := by
                      intro T76 X76 e76 hl76
                      refine own_step (fun t k => XS.iloadN X76.here hx rfl (hb hby own_dmethod_2_code_136) rfl k) ?_
                      show own_Goes p e below _ (T76.setTop (mkF m 137 #[.val (.int q1)] [(.int q1)]))
                      refine own_step (fun t k => XS.sipush X76.here hx rfl (hb hby own_dmethod_2_code_137) k) ?_
                      show own_Goes p e below _ (T76.setTop (mkF m 140 #[.val (.int q1)] [(.int (12289 : Int32)), (.int q1)]))
                      have J77 : ∀ (T78 : State) (X78 : Stand p l e ({ frames := 0, cells := 0, slots := 0, locals := 0 } : Room) s m #[(.int q1)] below meth c T78 [] 0 0) (e78 : T78.heap = h0) (hl78 : q1 < (12289 : Int32) ∨ (55295 : Int32) < q1), own_Goes p e below (own_Fin s (own_b1_Q Z q1 h0 n0) ({ frames := 0, cells := 0, slots := 0, locals := 0 } : Room).cells ({ frames := 0, cells := 0, slots := 0, locals := 0 } : Room).slots) (T78.setTop (mkF m 149 #[.val (.int q1)] [])) := by
                        intro T78 X78 e78 hl78
                        refine own_step (fun t k => XS.iloadN X78.here hx rfl (hb hby own_dmethod_2_code_149) rfl k) ?_
                        show own_Goes p e below _ (T78.setTop (mkF m 150 #[.val (.int q1)] [(.int q1)]))
                        refine own_step (fun t k => X78.ldcInt hx hown (mvT hZ w2) (g := (mkF m 150 #[.val (.int q1)] [(.int q1)])) rfl (hb hby own_dmethod_2_code_150) _ k) ?_
                        show own_Goes p e below _ (T78.setTop (mkF m 152 #[.val (.int q1)] [(.int (63744 : Int32)), (.int q1)]))
                        have J79 : ∀ (T80 : State) (X80 : Stand p l e ({ frames := 0, cells := 0, slots := 0, locals := 0 } : Room) s m #[(.int q1)] below meth c T80 [] 0 0) (e80 : T80.heap = h0) (hl80 : q1 < (63744 : Int32) ∨ (64975 : Int32) < q1), own_Goes p e below (own_Fin s (own_b1_Q Z q1 h0 n0) ({ frames := 0, cells := 0, slots := 0, locals := 0 } : Room).cells ({ frames := 0, cells := 0, slots := 0, locals := 0 } : Room).slots) (T80.setTop (mkF m 161 #[.val (.int q1)] [])) := by
                          intro T80 X80 e80 hl80
                          refine own_step (fun t k => XS.iloadN X80.here hx rfl (hb hby own_dmethod_2_code_161) rfl k) ?_
                          show own_Goes p e below _ (T80.setTop (mkF m 162 #[.val (.int q1)] [(.int q1)]))
                          refine own_step (fun t k => X80.ldcInt hx hown (mvT hZ w4) (g := (mkF m 162 #[.val (.int q1)] [(.int q1)])) rfl (hb hby own_dmethod_2_code_162) _ k) ?_
                          show own_Goes p e below _ (T80.setTop (mkF m 164 #[.val (.int q1)] [(.int (65008 : Int32)), (.int q1)]))
                          have J81 : ∀ (T82 : State) (X82 : Stand p l e ({ frames := 0, cells := 0, slots := 0, locals := 0 } : Room) s m #[(.int q1)] below meth c T82 [] 0 0) (e82 : T82.heap = h0) (hl82 : q1 < (65008 : Int32) ∨ (65533 : Int32) < q1), own_Goes p e below (own_Fin s (own_b1_Q Z q1 h0 n0) ({ frames := 0, cells := 0, slots := 0, locals := 0 } : Room).cells ({ frames := 0, cells := 0, slots := 0, locals := 0 } : Room).slots) (T82.setTop (mkF m 173 #[.val (.int q1)] [])) := by
                            intro T82 X82 e82 hl82
                            refine own_step (fun t k => XS.iloadN X82.here hx rfl (hb hby own_dmethod_2_code_173) rfl k) ?_
                            show own_Goes p e below _ (T82.setTop (mkF m 174 #[.val (.int q1)] [(.int q1)]))
                            refine own_step (fun t k => X82.ldcInt hx hown (mvT hZ w6) (g := (mkF m 174 #[.val (.int q1)] [(.int q1)])) rfl (hb hby own_dmethod_2_code_174) _ k) ?_
                            show own_Goes p e below _ (T82.setTop (mkF m 176 #[.val (.int q1)] [(.int (65536 : Int32)), (.int q1)]))
                            have J83 : ∀ (T84 : State) (X84 : Stand p l e ({ frames := 0, cells := 0, slots := 0, locals := 0 } : Room) s m #[(.int q1)] below meth c T84 [] 0 0) (e84 : T84.heap = h0) (hl84 : q1 < (65536 : Int32) ∨ (983039 : Int32) < q1), own_Goes p e below (own_Fin s (own_b1_Q Z q1 h0 n0) ({ frames := 0, cells := 0, slots := 0, locals := 0 } : Room).cells ({ frames := 0, cells := 0, slots := 0, locals := 0 } : Room).slots) (T84.setTop (mkF m 189 #[.val (.int q1)] [])) := by
                              intro T84 X84 e84 hl84
                              refine own_step (fun t k => XS.iconst X84.here hx rfl (hb hby own_dmethod_2_code_189) k) ?_
                              show own_Goes p e below _ (T84.setTop (mkF m 190 #[.val (.int q1)] [(.int (0 : Int32))]))
                              refine own_retV X84 hx hlk Bd.returns (w := (.int (0 : Int32))) (own_nb (Or.inl rfl)) (Or.inl ⟨rfl, Or.inr (Or.inl rfl), _, rfl⟩) (hb hby own_dmethod_2_code_190) ?_ (by decide) (by decide)
                              show own_b1_Q Z q1 h0 n0 _ T84.heap _
                              rw [e84]
                              exact ⟨(by unfold own_ns; rw [if_neg (own_no hl58), if_neg (own_no hl60), if_neg (own_no hl62), if_neg (own_no hl64), if_neg (own_no hl66), if_neg (own_no hl68), if_neg (own_no hl70), if_neg (own_no hl72), if_neg (own_no hl74), if_neg (own_no hl76), if_neg (own_no hl78), if_neg (own_no hl80), if_neg (own_no hl82), if_neg (own_no hl84)]), N0, rfl⟩
                            by_cases hc85 : q1 < (65536 : Int32)
                            · --
                              refine own_step (fun t k => XS.icmpYes X82.here hx rfl (pc0 := 176) (pc' := 189) rfl (hb hby own_dmethod_2_code_176) rfl (tlt hc85).1 (by decide) (by decide) k) ?_
                              show own_Goes p e below _ (T82.setTop (mkF m 189 #[.val (.int q1)] []))
                              exact J83 T82 X82 e82 (by first | exact Or.inl (by assumption) | exact Or.inr (by assumption))
                            · --
                              refine own_step (fun t k => XS.icmpNo X82.here hx rfl (hb hby own_dmethod_2_code_176) rfl (flt hc85).1 k) ?_
                              show own_Goes p e below _ (T82.setTop (mkF m 179 #[.val (.int q1)] []))
                              refine own_step (fun t k => XS.iloadN X82.here hx rfl (hb hby own_dmethod_2_code_179) rfl k) ?_
                              show own_Goes p e below _ (T82.setTop (mkF m 180 #[.val (.int q1)] [(.int q1)]))
                              refine own_step (fun t k => X82.ldcInt hx hown (mvT hZ w7) (g := (mkF m 180 #[.val (.int q1)] [(.int q1)])) rfl (hb hby own_dmethod_2_code_180) _ k) ?_
                              show own_Goes p e below _ (T82.setTop (mkF m 182 #[.val (.int q1)] [(.int (983039 : Int32)), (.int q1)]))
                              by_cases hc86 : (983039 : Int32) < q1
                              · --
                                refine own_step (fun t k => XS.icmpYes X82.here hx rfl (pc0 := 182) (pc' := 189) rfl (hb hby own_dmethod_2_code_182) rfl (tlt hc86).2.2.1 (by decide) (by decide) k) ?_
                                show own_Goes p e below _ (T82.setTop (mkF m 189 #[.val (.int q1)] []))
                                exact J83 T82 X82 e82 (by first | exact Or.inl (by assumption) | exact Or.inr (by assumption))
                              · --
                                refine own_step (fun t k => XS.icmpNo X82.here hx rfl (hb hby own_dmethod_2_code_182) rfl (flt hc86).2.2.1 k) ?_
                                show own_Goes p e below _ (T82.setTop (mkF m 185 #[.val (.int q1)] []))
                                refine own_step (fun t k => XS.iconst X82.here hx rfl (hb hby own_dmethod_2_code_185) k) ?_
                                show own_Goes p e below _ (T82.setTop (mkF m 186 #[.val (.int q1)] [(.int (1 : Int32))]))
                                refine own_step (fun t k => XS.goto X82.here hx rfl (pc0 := 186) (pc' := 190) rfl (hb hby own_dmethod_2_code_186) (by decide) (by decide) k) ?_
                                show own_Goes p e below _ (T82.setTop (mkF m 190 #[.val (.int q1)] [(.int (1 : Int32))]))
                                refine own_retV X82 hx hlk Bd.returns (w := (.int (1 : Int32))) (own_nb (Or.inr rfl)) (Or.inl ⟨rfl, Or.inr (Or.inl rfl), _, rfl⟩) (hb hby own_dmethod_2_code_190) ?_ (by decide) (by decide)
                                show own_b1_Q Z q1 h0 n0 _ T82.heap _
                                rw [e82]
                                exact ⟨(by unfold own_ns; rw [if_neg (own_no hl58), if_neg (own_no hl60), if_neg (own_no hl62), if_neg (own_no hl64), if_neg (own_no hl66), if_neg (own_no hl68), if_neg (own_no hl70), if_neg (own_no hl72), if_neg (own_no hl74), if_neg (own_no hl76), if_neg (own_no hl78), if_neg (own_no hl80), if_neg (own_no hl82), if_pos ⟨hc85, hc86⟩]), N0, rfl⟩
                          by_cases hc87 : q1 < (65008 : Int32)
                          · --
                            refine own_step (fun t k => XS.icmpYes X80.here hx rfl (pc0 := 164) (pc' := 173) rfl (hb hby own_dmethod_2_code_164) rfl (tlt hc87).1 (by decide) (by decide) k) ?_
                            show own_Goes p e below _ (T80.setTop (mkF m 173 #[.val (.int q1)] []))
                            exact J81 T80 X80 e80 (by first | exact Or.inl (by assumption) | exact Or.inr (by assumption))
                          · --
                            refine own_step (fun t k => XS.icmpNo X80.here hx rfl (hb hby own_dmethod_2_code_164) rfl (flt hc87).1 k) ?_
                            show own_Goes p e below _ (T80.setTop (mkF m 167 #[.val (.int q1)] []))
                            refine own_step (fun t k => XS.iloadN X80.here hx rfl (hb hby own_dmethod_2_code_167) rfl k) ?_
                            show own_Goes p e below _ (T80.setTop (mkF m 168 #[.val (.int q1)] [(.int q1)]))
                            refine own_step (fun t k => X80.ldcInt hx hown (mvT hZ w5) (g := (mkF m 168 #[.val (.int q1)] [(.int q1)])) rfl (hb hby own_dmethod_2_code_168) _ k) ?_
                            show own_Goes p e below _ (T80.setTop (mkF m 170 #[.val (.int q1)] [(.int (65533 : Int32)), (.int q1)]))
                            by_cases hc88 : (65533 : Int32) < q1
                            · --
                              refine own_step (fun t k => XS.icmpNo X80.here hx rfl (hb hby own_dmethod_2_code_170) rfl (tlt hc88).2.2.2 k) ?_
                              show own_Goes p e below _ (T80.setTop (mkF m 173 #[.val (.int q1)] []))
                              exact J81 T80 X80 e80 (by first | exact Or.inl (by assumption) | exact Or.inr (by assumption))
                            · --
                              refine own_step (fun t k => XS.icmpYes X80.here hx rfl (pc0 := 170) (pc' := 185) rfl (hb hby own_dmethod_2_code_170) rfl (flt hc88).2.2.2 (by decide) (by decide) k) ?_
                              show own_Goes p e below _ (T80.setTop (mkF m 185 #[.val (.int q1)] []))
                              refine own_step (fun t k => XS.iconst X80.here hx rfl (hb hby own_dmethod_2_code_185) k) ?_
                              show own_Goes p e below _ (T80.setTop (mkF m 186 #[.val (.int q1)] [(.int (1 : Int32))]))
                              refine own_step (fun t k => XS.goto X80.here hx rfl (pc0 := 186) (pc' := 190) rfl (hb hby own_dmethod_2_code_186) (by decide) (by decide) k) ?_
                              show own_Goes p e below _ (T80.setTop (mkF m 190 #[.val (.int q1)] [(.int (1 : Int32))]))
                              refine own_retV X80 hx hlk Bd.returns (w := (.int (1 : Int32))) (own_nb (Or.inr rfl)) (Or.inl ⟨rfl, Or.inr (Or.inl rfl), _, rfl⟩) (hb hby own_dmethod_2_code_190) ?_ (by decide) (by decide)
                              show own_b1_Q Z q1 h0 n0 _ T80.heap _
                              rw [e80]
                              exact ⟨(by unfold own_ns; rw [if_neg (own_no hl58), if_neg (own_no hl60), if_neg (own_no hl62), if_neg (own_no hl64), if_neg (own_no hl66), if_neg (own_no hl68), if_neg (own_no hl70), if_neg (own_no hl72), if_neg (own_no hl74), if_neg (own_no hl76), if_neg (own_no hl78), if_neg (own_no hl80), if_pos ⟨hc87, hc88⟩]), N0, rfl⟩
                        by_cases hc89 : q1 < (63744 : Int32)
                        · --
                          refine own_step (fun t k => XS.icmpYes X78.here hx rfl (pc0 := 152) (pc' := 161) rfl (hb hby own_dmethod_2_code_152) rfl (tlt hc89).1 (by decide) (by decide) k) ?_
                          show own_Goes p e below _ (T78.setTop (mkF m 161 #[.val (.int q1)] []))
                          exact J79 T78 X78 e78 (by first | exact Or.inl (by assumption) | exact Or.inr (by assumption))
                        · --
                          refine own_step (fun t k => XS.icmpNo X78.here hx rfl (hb hby own_dmethod_2_code_152) rfl (flt hc89).1 k) ?_
                          show own_Goes p e below _ (T78.setTop (mkF m 155 #[.val (.int q1)] []))
                          refine own_step (fun t k => XS.iloadN X78.here hx rfl (hb hby own_dmethod_2_code_155) rfl k) ?_
                          show own_Goes p e below _ (T78.setTop (mkF m 156 #[.val (.int q1)] [(.int q1)]))
                          refine own_step (fun t k => X78.ldcInt hx hown (mvT hZ w3) (g := (mkF m 156 #[.val (.int q1)] [(.int q1)])) rfl (hb hby own_dmethod_2_code_156) _ k) ?_
                          show own_Goes p e below _ (T78.setTop (mkF m 158 #[.val (.int q1)] [(.int (64975 : Int32)), (.int q1)]))
                          by_cases hc90 : (64975 : Int32) < q1
                          · --
                            refine own_step (fun t k => XS.icmpNo X78.here hx rfl (hb hby own_dmethod_2_code_158) rfl (tlt hc90).2.2.2 k) ?_
                            show own_Goes p e below _ (T78.setTop (mkF m 161 #[.val (.int q1)] []))
                            exact J79 T78 X78 e78 (by first | exact Or.inl (by assumption) | exact Or.inr (by assumption))
                          · --
                            refine own_step (fun t k => XS.icmpYes X78.here hx rfl (pc0 := 158) (pc' := 185) rfl (hb hby own_dmethod_2_code_158) rfl (flt hc90).2.2.2 (by decide) (by decide) k) ?_
                            show own_Goes p e below _ (T78.setTop (mkF m 185 #[.val (.int q1)] []))
                            refine own_step (fun t k => XS.iconst X78.here hx rfl (hb hby own_dmethod_2_code_185) k) ?_
                            show own_Goes p e below _ (T78.setTop (mkF m 186 #[.val (.int q1)] [(.int (1 : Int32))]))
                            refine own_step (fun t k => XS.goto X78.here hx rfl (pc0 := 186) (pc' := 190) rfl (hb hby own_dmethod_2_code_186) (by decide) (by decide) k) ?_
                            show own_Goes p e below _ (T78.setTop (mkF m 190 #[.val (.int q1)] [(.int (1 : Int32))]))
                            refine own_retV X78 hx hlk Bd.returns (w := (.int (1 : Int32))) (own_nb (Or.inr rfl)) (Or.inl ⟨rfl, Or.inr (Or.inl rfl), _, rfl⟩) (hb hby own_dmethod_2_code_190) ?_ (by decide) (by decide)
                            show own_b1_Q Z q1 h0 n0 _ T78.heap _
                            rw [e78]
                            exact ⟨(by unfold own_ns; rw [if_neg (own_no hl58), if_neg (own_no hl60), if_neg (own_no hl62), if_neg (own_no hl64), if_neg (own_no hl66), if_neg (own_no hl68), if_neg (own_no hl70), if_neg (own_no hl72), if_neg (own_no hl74), if_neg (own_no hl76), if_neg (own_no hl78), if_pos ⟨hc89, hc90⟩]), N0, rfl⟩
                      by_cases hc91 : q1 < (12289 : Int32)
                      · --
                        refine own_step (fun t k => XS.icmpYes X76.here hx rfl (pc0 := 140) (pc' := 149) rfl (hb hby own_dmethod_2_code_140) rfl (tlt hc91).1 (by decide) (by decide) k) ?_
                        show own_Goes p e below _ (T76.setTop (mkF m 149 #[.val (.int q1)] []))
                        exact J77 T76 X76 e76 (by first | exact Or.inl (by assumption) | exact Or.inr (by assumption))
                      · --
                        refine own_step (fun t k => XS.icmpNo X76.here hx rfl (hb hby own_dmethod_2_code_140) rfl (flt hc91).1 k) ?_
                        show own_Goes p e below _ (T76.setTop (mkF m 143 #[.val (.int q1)] []))
                        refine own_step (fun t k => XS.iloadN X76.here hx rfl (hb hby own_dmethod_2_code_143) rfl k) ?_
                        show own_Goes p e below _ (T76.setTop (mkF m 144 #[.val (.int q1)] [(.int q1)]))
                        refine own_step (fun t k => X76.ldcInt hx hown (mvT hZ w1) (g := (mkF m 144 #[.val (.int q1)] [(.int q1)])) rfl (hb hby own_dmethod_2_code_144) _ k) ?_
                        show own_Goes p e below _ (T76.setTop (mkF m 146 #[.val (.int q1)] [(.int (55295 : Int32)), (.int q1)]))
                        by_cases hc92 : (55295 : Int32) < q1
                        · --
                          refine own_step (fun t k => XS.icmpNo X76.here hx rfl (hb hby own_dmethod_2_code_146) rfl (tlt hc92).2.2.2 k) ?_
                          show own_Goes p e below _ (T76.setTop (mkF m 149 #[.val (.int q1)] []))
                          exact J77 T76 X76 e76 (by first | exact Or.inl (by assumption) | exact Or.inr (by assumption))
                        · --
                          refine own_step (fun t k => XS.icmpYes X76.here hx rfl (pc0 := 146) (pc' := 185) rfl (hb hby own_dmethod_2_code_146) rfl (flt hc92).2.2.2 (by decide) (by decide) k) ?_
                          show own_Goes p e below _ (T76.setTop (mkF m 185 #[.val (.int q1)] []))
                          refine own_step (fun t k => XS.iconst X76.here hx rfl (hb hby own_dmethod_2_code_185) k) ?_
                          show own_Goes p e below _ (T76.setTop (mkF m 186 #[.val (.int q1)] [(.int (1 : Int32))]))
                          refine own_step (fun t k => XS.goto X76.here hx rfl (pc0 := 186) (pc' := 190) rfl (hb hby own_dmethod_2_code_186) (by decide) (by decide) k) ?_
                          show own_Goes p e below _ (T76.setTop (mkF m 190 #[.val (.int q1)] [(.int (1 : Int32))]))
                          refine own_retV X76 hx hlk Bd.returns (w := (.int (1 : Int32))) (own_nb (Or.inr rfl)) (Or.inl ⟨rfl, Or.inr (Or.inl rfl), _, rfl⟩) (hb hby own_dmethod_2_code_190) ?_ (by decide) (by decide)
                          show own_b1_Q Z q1 h0 n0 _ T76.heap _
                          rw [e76]
                          exact ⟨(by unfold own_ns; rw [if_neg (own_no hl58), if_neg (own_no hl60), if_neg (own_no hl62), if_neg (own_no hl64), if_neg (own_no hl66), if_neg (own_no hl68), if_neg (own_no hl70), if_neg (own_no hl72), if_neg (own_no hl74), if_neg (own_no hl76), if_pos ⟨hc91, hc92⟩]), N0, rfl⟩
                    by_cases hc93 : q1 < (11264 : Int32)
                    · --
                      refine own_step (fun t k => XS.icmpYes X74.here hx rfl (pc0 := 126) (pc' := 136) rfl (hb hby own_dmethod_2_code_126) rfl (tlt hc93).1 (by decide) (by decide) k) ?_
                      show own_Goes p e below _ (T74.setTop (mkF m 136 #[.val (.int q1)] []))
                      exact J75 T74 X74 e74 (by first | exact Or.inl (by assumption) | exact Or.inr (by assumption))
                    · --
                      refine own_step (fun t k => XS.icmpNo X74.here hx rfl (hb hby own_dmethod_2_code_126) rfl (flt hc93).1 k) ?_
                      show own_Goes p e below _ (T74.setTop (mkF m 129 #[.val (.int q1)] []))
                      refine own_step (fun t k => XS.iloadN X74.here hx rfl (hb hby own_dmethod_2_code_129) rfl k) ?_
                      show own_Goes p e below _ (T74.setTop (mkF m 130 #[.val (.int q1)] [(.int q1)]))
                      refine own_step (fun t k => XS.sipush X74.here hx rfl (hb hby own_dmethod_2_code_130) k) ?_
                      show own_Goes p e below _ (T74.setTop (mkF m 133 #[.val (.int q1)] [(.int (12271 : Int32)), (.int q1)]))
                      by_cases hc94 : (12271 : Int32) < q1
                      · --
                        refine own_step (fun t k => XS.icmpNo X74.here hx rfl (hb hby own_dmethod_2_code_133) rfl (tlt hc94).2.2.2 k) ?_
                        show own_Goes p e below _ (T74.setTop (mkF m 136 #[.val (.int q1)] []))
                        exact J75 T74 X74 e74 (by first | exact Or.inl (by assumption) | exact Or.inr (by assumption))
                      · --
                        refine own_step (fun t k => XS.icmpYes X74.here hx rfl (pc0 := 133) (pc' := 185) rfl (hb hby own_dmethod_2_code_133) rfl (flt hc94).2.2.2 (by decide) (by decide) k) ?_
                        show own_Goes p e below _ (T74.setTop (mkF m 185 #[.val (.int q1)] []))
                        refine own_step (fun t k => XS.iconst X74.here hx rfl (hb hby own_dmethod_2_code_185) k) ?_
                        show own_Goes p e below _ (T74.setTop (mkF m 186 #[.val (.int q1)] [(.int (1 : Int32))]))
                        refine own_step (fun t k => XS.goto X74.here hx rfl (pc0 := 186) (pc' := 190) rfl (hb hby own_dmethod_2_code_186) (by decide) (by decide) k) ?_
                        show own_Goes p e below _ (T74.setTop (mkF m 190 #[.val (.int q1)] [(.int (1 : Int32))]))
                        refine own_retV X74 hx hlk Bd.returns (w := (.int (1 : Int32))) (own_nb (Or.inr rfl)) (Or.inl ⟨rfl, Or.inr (Or.inl rfl), _, rfl⟩) (hb hby own_dmethod_2_code_190) ?_ (by decide) (by decide)
                        show own_b1_Q Z q1 h0 n0 _ T74.heap _
                        rw [e74]
                        exact ⟨(by unfold own_ns; rw [if_neg (own_no hl58), if_neg (own_no hl60), if_neg (own_no hl62), if_neg (own_no hl64), if_neg (own_no hl66), if_neg (own_no hl68), if_neg (own_no hl70), if_neg (own_no hl72), if_neg (own_no hl74), if_pos ⟨hc93, hc94⟩]), N0, rfl⟩
                  by_cases hc95 : q1 < (8304 : Int32)
                  · --
                    refine own_step (fun t k => XS.icmpYes X72.here hx rfl (pc0 := 112) (pc' := 122) rfl (hb hby own_dmethod_2_code_112) rfl (tlt hc95).1 (by decide) (by decide) k) ?_
                    show own_Goes p e below _ (T72.setTop (mkF m 122 #[.val (.int q1)] []))
                    exact J73 T72 X72 e72 (by first | exact Or.inl (by assumption) | exact Or.inr (by assumption))
                  · --
                    refine own_step (fun t k => XS.icmpNo X72.here hx rfl (hb hby own_dmethod_2_code_112) rfl (flt hc95).1 k) ?_
                    show own_Goes p e below _ (T72.setTop (mkF m 115 #[.val (.int q1)] []))
                    refine own_step (fun t k => XS.iloadN X72.here hx rfl (hb hby own_dmethod_2_code_115) rfl k) ?_
                    show own_Goes p e below _ (T72.setTop (mkF m 116 #[.val (.int q1)] [(.int q1)]))
                    refine own_step (fun t k => XS.sipush X72.here hx rfl (hb hby own_dmethod_2_code_116) k) ?_
                    show own_Goes p e below _ (T72.setTop (mkF m 119 #[.val (.int q1)] [(.int (8591 : Int32)), (.int q1)]))
                    by_cases hc96 : (8591 : Int32) < q1
                    · --
                      refine own_step (fun t k => XS.icmpNo X72.here hx rfl (hb hby own_dmethod_2_code_119) rfl (tlt hc96).2.2.2 k) ?_
                      show own_Goes p e below _ (T72.setTop (mkF m 122 #[.val (.int q1)] []))
                      exact J73 T72 X72 e72 (by first | exact Or.inl (by assumption) | exact Or.inr (by assumption))
                    · --
                      refine own_step (fun t k => XS.icmpYes X72.here hx rfl (pc0 := 119) (pc' := 185) rfl (hb hby own_dmethod_2_code_119) rfl (flt hc96).2.2.2 (by decide) (by decide) k) ?_
                      show own_Goes p e below _ (T72.setTop (mkF m 185 #[.val (.int q1)] []))
                      refine own_step (fun t k => XS.iconst X72.here hx rfl (hb hby own_dmethod_2_code_185) k) ?_
                      show own_Goes p e below _ (T72.setTop (mkF m 186 #[.val (.int q1)] [(.int (1 : Int32))]))
                      refine own_step (fun t k => XS.goto X72.here hx rfl (pc0 := 186) (pc' := 190) rfl (hb hby own_dmethod_2_code_186) (by decide) (by decide) k) ?_
                      show own_Goes p e below _ (T72.setTop (mkF m 190 #[.val (.int q1)] [(.int (1 : Int32))]))
                      refine own_retV X72 hx hlk Bd.returns (w := (.int (1 : Int32))) (own_nb (Or.inr rfl)) (Or.inl ⟨rfl, Or.inr (Or.inl rfl), _, rfl⟩) (hb hby own_dmethod_2_code_190) ?_ (by decide) (by decide)
                      show own_b1_Q Z q1 h0 n0 _ T72.heap _
                      rw [e72]
                      exact ⟨(by unfold own_ns; rw [if_neg (own_no hl58), if_neg (own_no hl60), if_neg (own_no hl62), if_neg (own_no hl64), if_neg (own_no hl66), if_neg (own_no hl68), if_neg (own_no hl70), if_neg (own_no hl72), if_pos ⟨hc95, hc96⟩]), N0, rfl⟩
                by_cases hc97 : q1 < (8204 : Int32)
                · --
                  refine own_step (fun t k => XS.icmpYes X70.here hx rfl (pc0 := 98) (pc' := 108) rfl (hb hby own_dmethod_2_code_98) rfl (tlt hc97).1 (by decide) (by decide) k) ?_
                  show own_Goes p e below _ (T70.setTop (mkF m 108 #[.val (.int q1)] []))
                  exact J71 T70 X70 e70 (by first | exact Or.inl (by assumption) | exact Or.inr (by assumption))
                · --
                  refine own_step (fun t k => XS.icmpNo X70.here hx rfl (hb hby own_dmethod_2_code_98) rfl (flt hc97).1 k) ?_
                  show own_Goes p e below _ (T70.setTop (mkF m 101 #[.val (.int q1)] []))
                  refine own_step (fun t k => XS.iloadN X70.here hx rfl (hb hby own_dmethod_2_code_101) rfl k) ?_
                  show own_Goes p e below _ (T70.setTop (mkF m 102 #[.val (.int q1)] [(.int q1)]))
                  refine own_step (fun t k => XS.sipush X70.here hx rfl (hb hby own_dmethod_2_code_102) k) ?_
                  show own_Goes p e below _ (T70.setTop (mkF m 105 #[.val (.int q1)] [(.int (8205 : Int32)), (.int q1)]))
                  by_cases hc98 : (8205 : Int32) < q1
                  · --
                    refine own_step (fun t k => XS.icmpNo X70.here hx rfl (hb hby own_dmethod_2_code_105) rfl (tlt hc98).2.2.2 k) ?_
                    show own_Goes p e below _ (T70.setTop (mkF m 108 #[.val (.int q1)] []))
                    exact J71 T70 X70 e70 (by first | exact Or.inl (by assumption) | exact Or.inr (by assumption))
                  · --
                    refine own_step (fun t k => XS.icmpYes X70.here hx rfl (pc0 := 105) (pc' := 185) rfl (hb hby own_dmethod_2_code_105) rfl (flt hc98).2.2.2 (by decide) (by decide) k) ?_
                    show own_Goes p e below _ (T70.setTop (mkF m 185 #[.val (.int q1)] []))
                    refine own_step (fun t k => XS.iconst X70.here hx rfl (hb hby own_dmethod_2_code_185) k) ?_
                    show own_Goes p e below _ (T70.setTop (mkF m 186 #[.val (.int q1)] [(.int (1 : Int32))]))
                    refine own_step (fun t k => XS.goto X70.here hx rfl (pc0 := 186) (pc' := 190) rfl (hb hby own_dmethod_2_code_186) (by decide) (by decide) k) ?_
                    show own_Goes p e below _ (T70.setTop (mkF m 190 #[.val (.int q1)] [(.int (1 : Int32))]))
                    refine own_retV X70 hx hlk Bd.returns (w := (.int (1 : Int32))) (own_nb (Or.inr rfl)) (Or.inl ⟨rfl, Or.inr (Or.inl rfl), _, rfl⟩) (hb hby own_dmethod_2_code_190) ?_ (by decide) (by decide)
                    show own_b1_Q Z q1 h0 n0 _ T70.heap _
                    rw [e70]
                    exact ⟨(by unfold own_ns; rw [if_neg (own_no hl58), if_neg (own_no hl60), if_neg (own_no hl62), if_neg (own_no hl64), if_neg (own_no hl66), if_neg (own_no hl68), if_neg (own_no hl70), if_pos ⟨hc97, hc98⟩]), N0, rfl⟩
              by_cases hc99 : q1 < (895 : Int32)
              · --
                refine own_step (fun t k => XS.icmpYes X68.here hx rfl (pc0 := 84) (pc' := 94) rfl (hb hby own_dmethod_2_code_84) rfl (tlt hc99).1 (by decide) (by decide) k) ?_
                show own_Goes p e below _ (T68.setTop (mkF m 94 #[.val (.int q1)] []))
                exact J69 T68 X68 e68 (by first | exact Or.inl (by assumption) | exact Or.inr (by assumption))
              · --
                refine own_step (fun t k => XS.icmpNo X68.here hx rfl (hb hby own_dmethod_2_code_84) rfl (flt hc99).1 k) ?_
                show own_Goes p e below _ (T68.setTop (mkF m 87 #[.val (.int q1)] []))
                refine own_step (fun t k => XS.iloadN X68.here hx rfl (hb hby own_dmethod_2_code_87) rfl k) ?_
                show own_Goes p e below _ (T68.setTop (mkF m 88 #[.val (.int q1)] [(.int q1)]))
                refine own_step (fun t k => XS.sipush X68.here hx rfl (hb hby own_dmethod_2_code_88) k) ?_
                show own_Goes p e below _ (T68.setTop (mkF m 91 #[.val (.int q1)] [(.int (8191 : Int32)), (.int q1)]))
                by_cases hc100 : (8191 : Int32) < q1
                · --
                  refine own_step (fun t k => XS.icmpNo X68.here hx rfl (hb hby own_dmethod_2_code_91) rfl (tlt hc100).2.2.2 k) ?_
                  show own_Goes p e below _ (T68.setTop (mkF m 94 #[.val (.int q1)] []))
                  exact J69 T68 X68 e68 (by first | exact Or.inl (by assumption) | exact Or.inr (by assumption))
                · --
                  refine own_step (fun t k => XS.icmpYes X68.here hx rfl (pc0 := 91) (pc' := 185) rfl (hb hby own_dmethod_2_code_91) rfl (flt hc100).2.2.2 (by decide) (by decide) k) ?_
                  show own_Goes p e below _ (T68.setTop (mkF m 185 #[.val (.int q1)] []))
                  refine own_step (fun t k => XS.iconst X68.here hx rfl (hb hby own_dmethod_2_code_185) k) ?_
                  show own_Goes p e below _ (T68.setTop (mkF m 186 #[.val (.int q1)] [(.int (1 : Int32))]))
                  refine own_step (fun t k => XS.goto X68.here hx rfl (pc0 := 186) (pc' := 190) rfl (hb hby own_dmethod_2_code_186) (by decide) (by decide) k) ?_
                  show own_Goes p e below _ (T68.setTop (mkF m 190 #[.val (.int q1)] [(.int (1 : Int32))]))
                  refine own_retV X68 hx hlk Bd.returns (w := (.int (1 : Int32))) (own_nb (Or.inr rfl)) (Or.inl ⟨rfl, Or.inr (Or.inl rfl), _, rfl⟩) (hb hby own_dmethod_2_code_190) ?_ (by decide) (by decide)
                  show own_b1_Q Z q1 h0 n0 _ T68.heap _
                  rw [e68]
                  exact ⟨(by unfold own_ns; rw [if_neg (own_no hl58), if_neg (own_no hl60), if_neg (own_no hl62), if_neg (own_no hl64), if_neg (own_no hl66), if_neg (own_no hl68), if_pos ⟨hc99, hc100⟩]), N0, rfl⟩
            by_cases hc101 : q1 < (880 : Int32)
            · --
              refine own_step (fun t k => XS.icmpYes X66.here hx rfl (pc0 := 70) (pc' := 80) rfl (hb hby own_dmethod_2_code_70) rfl (tlt hc101).1 (by decide) (by decide) k) ?_
              show own_Goes p e below _ (T66.setTop (mkF m 80 #[.val (.int q1)] []))
              exact J67 T66 X66 e66 (by first | exact Or.inl (by assumption) | exact Or.inr (by assumption))
            · --
              refine own_step (fun t k => XS.icmpNo X66.here hx rfl (hb hby own_dmethod_2_code_70) rfl (flt hc101).1 k) ?_
              show own_Goes p e below _ (T66.setTop (mkF m 73 #[.val (.int q1)] []))
              refine own_step (fun t k => XS.iloadN X66.here hx rfl (hb hby own_dmethod_2_code_73) rfl k) ?_
              show own_Goes p e below _ (T66.setTop (mkF m 74 #[.val (.int q1)] [(.int q1)]))
              refine own_step (fun t k => XS.sipush X66.here hx rfl (hb hby own_dmethod_2_code_74) k) ?_
              show own_Goes p e below _ (T66.setTop (mkF m 77 #[.val (.int q1)] [(.int (893 : Int32)), (.int q1)]))
              by_cases hc102 : (893 : Int32) < q1
              · --
                refine own_step (fun t k => XS.icmpNo X66.here hx rfl (hb hby own_dmethod_2_code_77) rfl (tlt hc102).2.2.2 k) ?_
                show own_Goes p e below _ (T66.setTop (mkF m 80 #[.val (.int q1)] []))
                exact J67 T66 X66 e66 (by first | exact Or.inl (by assumption) | exact Or.inr (by assumption))
              · --
                refine own_step (fun t k => XS.icmpYes X66.here hx rfl (pc0 := 77) (pc' := 185) rfl (hb hby own_dmethod_2_code_77) rfl (flt hc102).2.2.2 (by decide) (by decide) k) ?_
                show own_Goes p e below _ (T66.setTop (mkF m 185 #[.val (.int q1)] []))
                refine own_step (fun t k => XS.iconst X66.here hx rfl (hb hby own_dmethod_2_code_185) k) ?_
                show own_Goes p e below _ (T66.setTop (mkF m 186 #[.val (.int q1)] [(.int (1 : Int32))]))
                refine own_step (fun t k => XS.goto X66.here hx rfl (pc0 := 186) (pc' := 190) rfl (hb hby own_dmethod_2_code_186) (by decide) (by decide) k) ?_
                show own_Goes p e below _ (T66.setTop (mkF m 190 #[.val (.int q1)] [(.int (1 : Int32))]))
                refine own_retV X66 hx hlk Bd.returns (w := (.int (1 : Int32))) (own_nb (Or.inr rfl)) (Or.inl ⟨rfl, Or.inr (Or.inl rfl), _, rfl⟩) (hb hby own_dmethod_2_code_190) ?_ (by decide) (by decide)
                show own_b1_Q Z q1 h0 n0 _ T66.heap _
                rw [e66]
                exact ⟨(by unfold own_ns; rw [if_neg (own_no hl58), if_neg (own_no hl60), if_neg (own_no hl62), if_neg (own_no hl64), if_neg (own_no hl66), if_pos ⟨hc101, hc102⟩]), N0, rfl⟩
          by_cases hc103 : q1 < (248 : Int32)
          · --
            refine own_step (fun t k => XS.icmpYes X64.here hx rfl (pc0 := 56) (pc' := 66) rfl (hb hby own_dmethod_2_code_56) rfl (tlt hc103).1 (by decide) (by decide) k) ?_
            show own_Goes p e below _ (T64.setTop (mkF m 66 #[.val (.int q1)] []))
            exact J65 T64 X64 e64 (by first | exact Or.inl (by assumption) | exact Or.inr (by assumption))
          · --
            refine own_step (fun t k => XS.icmpNo X64.here hx rfl (hb hby own_dmethod_2_code_56) rfl (flt hc103).1 k) ?_
            show own_Goes p e below _ (T64.setTop (mkF m 59 #[.val (.int q1)] []))
            refine own_step (fun t k => XS.iloadN X64.here hx rfl (hb hby own_dmethod_2_code_59) rfl k) ?_
            show own_Goes p e below _ (T64.setTop (mkF m 60 #[.val (.int q1)] [(.int q1)]))
            refine own_step (fun t k => XS.sipush X64.here hx rfl (hb hby own_dmethod_2_code_60) k) ?_
            show own_Goes p e below _ (T64.setTop (mkF m 63 #[.val (.int q1)] [(.int (767 : Int32)), (.int q1)]))
            by_cases hc104 : (767 : Int32) < q1
            · --
              refine own_step (fun t k => XS.icmpNo X64.here hx rfl (hb hby own_dmethod_2_code_63) rfl (tlt hc104).2.2.2 k) ?_
              show own_Goes p e below _ (T64.setTop (mkF m 66 #[.val (.int q1)] []))
              exact J65 T64 X64 e64 (by first | exact Or.inl (by assumption) | exact Or.inr (by assumption))
            · --
              refine own_step (fun t k => XS.icmpYes X64.here hx rfl (pc0 := 63) (pc' := 185) rfl (hb hby own_dmethod_2_code_63) rfl (flt hc104).2.2.2 (by decide) (by decide) k) ?_
              show own_Goes p e below _ (T64.setTop (mkF m 185 #[.val (.int q1)] []))
              refine own_step (fun t k => XS.iconst X64.here hx rfl (hb hby own_dmethod_2_code_185) k) ?_
              show own_Goes p e below _ (T64.setTop (mkF m 186 #[.val (.int q1)] [(.int (1 : Int32))]))
              refine own_step (fun t k => XS.goto X64.here hx rfl (pc0 := 186) (pc' := 190) rfl (hb hby own_dmethod_2_code_186) (by decide) (by decide) k) ?_
              show own_Goes p e below _ (T64.setTop (mkF m 190 #[.val (.int q1)] [(.int (1 : Int32))]))
              refine own_retV X64 hx hlk Bd.returns (w := (.int (1 : Int32))) (own_nb (Or.inr rfl)) (Or.inl ⟨rfl, Or.inr (Or.inl rfl), _, rfl⟩) (hb hby own_dmethod_2_code_190) ?_ (by decide) (by decide)
              show own_b1_Q Z q1 h0 n0 _ T64.heap _
              rw [e64]
              exact ⟨(by unfold own_ns; rw [if_neg (own_no hl58), if_neg (own_no hl60), if_neg (own_no hl62), if_neg (own_no hl64), if_pos ⟨hc103, hc104⟩]), N0, rfl⟩
        by_cases hc105 : q1 < (216 : Int32)
        · --
          refine own_step (fun t k => XS.icmpYes X62.here hx rfl (pc0 := 42) (pc' := 52) rfl (hb hby own_dmethod_2_code_42) rfl (tlt hc105).1 (by decide) (by decide) k) ?_
          show own_Goes p e below _ (T62.setTop (mkF m 52 #[.val (.int q1)] []))
          exact J63 T62 X62 e62 (by first | exact Or.inl (by assumption) | exact Or.inr (by assumption))
        · --
          refine own_step (fun t k => XS.icmpNo X62.here hx rfl (hb hby own_dmethod_2_code_42) rfl (flt hc105).1 k) ?_
          show own_Goes p e below _ (T62.setTop (mkF m 45 #[.val (.int q1)] []))
          refine own_step (fun t k => XS.iloadN X62.here hx rfl (hb hby own_dmethod_2_code_45) rfl k) ?_
          show own_Goes p e below _ (T62.setTop (mkF m 46 #[.val (.int q1)] [(.int q1)]))
          refine own_step (fun t k => XS.sipush X62.here hx rfl (hb hby own_dmethod_2_code_46) k) ?_
          show own_Goes p e below _ (T62.setTop (mkF m 49 #[.val (.int q1)] [(.int (246 : Int32)), (.int q1)]))
          by_cases hc106 : (246 : Int32) < q1
          · --
            refine own_step (fun t k => XS.icmpNo X62.here hx rfl (hb hby own_dmethod_2_code_49) rfl (tlt hc106).2.2.2 k) ?_
            show own_Goes p e below _ (T62.setTop (mkF m 52 #[.val (.int q1)] []))
            exact J63 T62 X62 e62 (by first | exact Or.inl (by assumption) | exact Or.inr (by assumption))
          · --
            refine own_step (fun t k => XS.icmpYes X62.here hx rfl (pc0 := 49) (pc' := 185) rfl (hb hby own_dmethod_2_code_49) rfl (flt hc106).2.2.2 (by decide) (by decide) k) ?_
            show own_Goes p e below _ (T62.setTop (mkF m 185 #[.val (.int q1)] []))
            refine own_step (fun t k => XS.iconst X62.here hx rfl (hb hby own_dmethod_2_code_185) k) ?_
            show own_Goes p e below _ (T62.setTop (mkF m 186 #[.val (.int q1)] [(.int (1 : Int32))]))
            refine own_step (fun t k => XS.goto X62.here hx rfl (pc0 := 186) (pc' := 190) rfl (hb hby own_dmethod_2_code_186) (by decide) (by decide) k) ?_
            show own_Goes p e below _ (T62.setTop (mkF m 190 #[.val (.int q1)] [(.int (1 : Int32))]))
            refine own_retV X62 hx hlk Bd.returns (w := (.int (1 : Int32))) (own_nb (Or.inr rfl)) (Or.inl ⟨rfl, Or.inr (Or.inl rfl), _, rfl⟩) (hb hby own_dmethod_2_code_190) ?_ (by decide) (by decide)
            show own_b1_Q Z q1 h0 n0 _ T62.heap _
            rw [e62]
            exact ⟨(by unfold own_ns; rw [if_neg (own_no hl58), if_neg (own_no hl60), if_neg (own_no hl62), if_pos ⟨hc105, hc106⟩]), N0, rfl⟩
      by_cases hc107 : q1 < (192 : Int32)
      · --
        refine own_step (fun t k => XS.icmpYes X60.here hx rfl (pc0 := 28) (pc' := 38) rfl (hb hby own_dmethod_2_code_28) rfl (tlt hc107).1 (by decide) (by decide) k) ?_
        show own_Goes p e below _ (T60.setTop (mkF m 38 #[.val (.int q1)] []))
        exact J61 T60 X60 e60 (by first | exact Or.inl (by assumption) | exact Or.inr (by assumption))
      · --
        refine own_step (fun t k => XS.icmpNo X60.here hx rfl (hb hby own_dmethod_2_code_28) rfl (flt hc107).1 k) ?_
        show own_Goes p e below _ (T60.setTop (mkF m 31 #[.val (.int q1)] []))
        refine own_step (fun t k => XS.iloadN X60.here hx rfl (hb hby own_dmethod_2_code_31) rfl k) ?_
        show own_Goes p e below _ (T60.setTop (mkF m 32 #[.val (.int q1)] [(.int q1)]))
        refine own_step (fun t k => XS.sipush X60.here hx rfl (hb hby own_dmethod_2_code_32) k) ?_
        show own_Goes p e below _ (T60.setTop (mkF m 35 #[.val (.int q1)] [(.int (214 : Int32)), (.int q1)]))
        by_cases hc108 : (214 : Int32) < q1
        · --
          refine own_step (fun t k => XS.icmpNo X60.here hx rfl (hb hby own_dmethod_2_code_35) rfl (tlt hc108).2.2.2 k) ?_
          show own_Goes p e below _ (T60.setTop (mkF m 38 #[.val (.int q1)] []))
          exact J61 T60 X60 e60 (by first | exact Or.inl (by assumption) | exact Or.inr (by assumption))
        · --
          refine own_step (fun t k => XS.icmpYes X60.here hx rfl (pc0 := 35) (pc' := 185) rfl (hb hby own_dmethod_2_code_35) rfl (flt hc108).2.2.2 (by decide) (by decide) k) ?_
          show own_Goes p e below _ (T60.setTop (mkF m 185 #[.val (.int q1)] []))
          refine own_step (fun t k => XS.iconst X60.here hx rfl (hb hby own_dmethod_2_code_185) k) ?_
          show own_Goes p e below _ (T60.setTop (mkF m 186 #[.val (.int q1)] [(.int (1 : Int32))]))
          refine own_step (fun t k => XS.goto X60.here hx rfl (pc0 := 186) (pc' := 190) rfl (hb hby own_dmethod_2_code_186) (by decide) (by decide) k) ?_
          show own_Goes p e below _ (T60.setTop (mkF m 190 #[.val (.int q1)] [(.int (1 : Int32))]))
          refine own_retV X60 hx hlk Bd.returns (w := (.int (1 : Int32))) (own_nb (Or.inr rfl)) (Or.inl ⟨rfl, Or.inr (Or.inl rfl), _, rfl⟩) (hb hby own_dmethod_2_code_190) ?_ (by decide) (by decide)
          show own_b1_Q Z q1 h0 n0 _ T60.heap _
          rw [e60]
          exact ⟨(by unfold own_ns; rw [if_neg (own_no hl58), if_neg (own_no hl60), if_pos ⟨hc107, hc108⟩]), N0, rfl⟩
    by_cases hc109 : q1 < (97 : Int32)
    · --
      refine own_step (fun t k => XS.icmpYes X58.here hx rfl (pc0 := 15) (pc' := 24) rfl (hb hby own_dmethod_2_code_15) rfl (tlt hc109).1 (by decide) (by decide) k) ?_
      show own_Goes p e below _ (T58.setTop (mkF m 24 #[.val (.int q1)] []))
      exact J59 T58 X58 e58 (by first | exact Or.inl (by assumption) | exact Or.inr (by assumption))
    · --
      refine own_step (fun t k => XS.icmpNo X58.here hx rfl (hb hby own_dmethod_2_code_15) rfl (flt hc109).1 k) ?_
      show own_Goes p e below _ (T58.setTop (mkF m 18 #[.val (.int q1)] []))
      refine own_step (fun t k => XS.iloadN X58.here hx rfl (hb hby own_dmethod_2_code_18) rfl k) ?_
      show own_Goes p e below _ (T58.setTop (mkF m 19 #[.val (.int q1)] [(.int q1)]))
      refine own_step (fun t k => XS.bipush X58.here hx rfl (hb hby own_dmethod_2_code_19) k) ?_
      show own_Goes p e below _ (T58.setTop (mkF m 21 #[.val (.int q1)] [(.int (122 : Int32)), (.int q1)]))
      by_cases hc110 : (122 : Int32) < q1
      · --
        refine own_step (fun t k => XS.icmpNo X58.here hx rfl (hb hby own_dmethod_2_code_21) rfl (tlt hc110).2.2.2 k) ?_
        show own_Goes p e below _ (T58.setTop (mkF m 24 #[.val (.int q1)] []))
        exact J59 T58 X58 e58 (by first | exact Or.inl (by assumption) | exact Or.inr (by assumption))
      · --
        refine own_step (fun t k => XS.icmpYes X58.here hx rfl (pc0 := 21) (pc' := 185) rfl (hb hby own_dmethod_2_code_21) rfl (flt hc110).2.2.2 (by decide) (by decide) k) ?_
        show own_Goes p e below _ (T58.setTop (mkF m 185 #[.val (.int q1)] []))
        refine own_step (fun t k => XS.iconst X58.here hx rfl (hb hby own_dmethod_2_code_185) k) ?_
        show own_Goes p e below _ (T58.setTop (mkF m 186 #[.val (.int q1)] [(.int (1 : Int32))]))
        refine own_step (fun t k => XS.goto X58.here hx rfl (pc0 := 186) (pc' := 190) rfl (hb hby own_dmethod_2_code_186) (by decide) (by decide) k) ?_
        show own_Goes p e below _ (T58.setTop (mkF m 190 #[.val (.int q1)] [(.int (1 : Int32))]))
        refine own_retV X58 hx hlk Bd.returns (w := (.int (1 : Int32))) (own_nb (Or.inr rfl)) (Or.inl ⟨rfl, Or.inr (Or.inl rfl), _, rfl⟩) (hb hby own_dmethod_2_code_190) ?_ (by decide) (by decide)
        show own_b1_Q Z q1 h0 n0 _ T58.heap _
        rw [e58]
        exact ⟨(by unfold own_ns; rw [if_neg (own_no hl58), if_pos ⟨hc109, hc110⟩]), N0, rfl⟩
  by_cases hc111 : q1 < (65 : Int32)
  · --
    refine own_step (fun t k => XS.icmpYes X0.here hx rfl (pc0 := 3) (pc' := 12) rfl (hb hby own_dmethod_2_code_3) rfl (tlt hc111).1 (by decide) (by decide) k) ?_
    show own_Goes p e below _ (s₁.setTop (mkF m 12 #[.val (.int q1)] []))
    exact J57 s₁ X0 e0 (by first | exact Or.inl (by assumption) | exact Or.inr (by assumption))
  · --
    refine own_step (fun t k => XS.icmpNo X0.here hx rfl (hb hby own_dmethod_2_code_3) rfl (flt hc111).1 k) ?_
    show own_Goes p e below _ (s₁.setTop (mkF m 6 #[.val (.int q1)] []))
    refine own_step (fun t k => XS.iloadN X0.here hx rfl (hb hby own_dmethod_2_code_6) rfl k) ?_
    show own_Goes p e below _ (s₁.setTop (mkF m 7 #[.val (.int q1)] [(.int q1)]))
    refine own_step (fun t k => XS.bipush X0.here hx rfl (hb hby own_dmethod_2_code_7) k) ?_
    show own_Goes p e below _ (s₁.setTop (mkF m 9 #[.val (.int q1)] [(.int (90 : Int32)), (.int q1)]))
    by_cases hc112 : (90 : Int32) < q1
    · --
      refine own_step (fun t k => XS.icmpNo X0.here hx rfl (hb hby own_dmethod_2_code_9) rfl (tlt hc112).2.2.2 k) ?_
      show own_Goes p e below _ (s₁.setTop (mkF m 12 #[.val (.int q1)] []))
      exact J57 s₁ X0 e0 (by first | exact Or.inl (by assumption) | exact Or.inr (by assumption))
    · --
      refine own_step (fun t k => XS.icmpYes X0.here hx rfl (pc0 := 9) (pc' := 185) rfl (hb hby own_dmethod_2_code_9) rfl (flt hc112).2.2.2 (by decide) (by decide) k) ?_
      show own_Goes p e below _ (s₁.setTop (mkF m 185 #[.val (.int q1)] []))
      refine own_step (fun t k => XS.iconst X0.here hx rfl (hb hby own_dmethod_2_code_185) k) ?_
      show own_Goes p e below _ (s₁.setTop (mkF m 186 #[.val (.int q1)] [(.int (1 : Int32))]))
      refine own_step (fun t k => XS.goto X0.here hx rfl (pc0 := 186) (pc' := 190) rfl (hb hby own_dmethod_2_code_186) (by decide) (by decide) k) ?_
      show own_Goes p e below _ (s₁.setTop (mkF m 190 #[.val (.int q1)] [(.int (1 : Int32))]))
      refine own_retV X0 hx hlk Bd.returns (w := (.int (1 : Int32))) (own_nb (Or.inr rfl)) (Or.inl ⟨rfl, Or.inr (Or.inl rfl), _, rfl⟩) (hb hby own_dmethod_2_code_190) ?_ (by decide) (by decide)
      show own_b1_Q Z q1 h0 n0 _ s₁.heap _
      rw [e0]
      exact ⟨(by unfold own_ns; rw [if_pos ⟨hc111, hc112⟩]), N0, rfl⟩
theorem own_pn1 : plainName "com/example/concepta/concepta/formats/Characters" = true := by first | (simp [plainName, overriddenIn]; done) | decide +kernel
theorem own_dprog_11_method_2_code_0 : decode prog_11_method_2_code 0 = .ok (.iconst 0, 1) := by decide +kernel
theorem own_dprog_11_method_2_code_1 : decode prog_11_method_2_code 1 = .ok (.istore_n 1, 1) := by decide +kernel
theorem own_dprog_11_method_2_code_2 : decode prog_11_method_2_code 2 = .ok (.iload_n 1, 1) := by decide +kernel
theorem own_dprog_11_method_2_code_3 : decode prog_11_method_2_code 3 = .ok (.getstatic 7, 3) := by decide +kernel
theorem own_dprog_11_method_2_code_6 : decode prog_11_method_2_code 6 = .ok (.arraylength, 1) := by decide +kernel
theorem own_dprog_11_method_2_code_7 : decode prog_11_method_2_code 7 = .ok (.if_icmp .ge 31, 3) := by decide +kernel
theorem own_dprog_11_method_2_code_10 : decode prog_11_method_2_code 10 = .ok (.iload_n 0, 1) := by decide +kernel
theorem own_dprog_11_method_2_code_11 : decode prog_11_method_2_code 11 = .ok (.getstatic 7, 3) := by decide +kernel
theorem own_dprog_11_method_2_code_14 : decode prog_11_method_2_code 14 = .ok (.iload_n 1, 1) := by decide +kernel
theorem own_dprog_11_method_2_code_15 : decode prog_11_method_2_code 15 = .ok (.iaload, 1) := by decide +kernel
theorem own_dprog_11_method_2_code_32 : decode prog_11_method_2_code 32 = .ok (.iinc 1 2, 3) := by decide +kernel
theorem own_dprog_11_method_2_code_35 : decode prog_11_method_2_code 35 = .ok (.goto (-33), 3) := by decide +kernel
theorem own_dprog_11_method_2_code_38 : decode prog_11_method_2_code 38 = .ok (.iconst 0, 1) := by decide +kernel
theorem own_dprog_11_method_2_code_39 : decode prog_11_method_2_code 39 = .ok (.ireturn, 1) := by decide +kernel
theorem own_dprog_11_method_2_code_16 : decode prog_11_method_2_code 16 = .ok (.if_icmp .lt 16, 3) := by decide +kernel
theorem own_dprog_11_method_2_code_19 : decode prog_11_method_2_code 19 = .ok (.iload_n 0, 1) := by decide +kernel
theorem own_dprog_11_method_2_code_20 : decode prog_11_method_2_code 20 = .ok (.getstatic 7, 3) := by decide +kernel
theorem own_dprog_11_method_2_code_23 : decode prog_11_method_2_code 23 = .ok (.iload_n 1, 1) := by decide +kernel
theorem own_dprog_11_method_2_code_24 : decode prog_11_method_2_code 24 = .ok (.iconst 1, 1) := by decide +kernel
theorem own_dprog_11_method_2_code_25 : decode prog_11_method_2_code 25 = .ok (.iadd, 1) := by decide +kernel
theorem own_dprog_11_method_2_code_26 : decode prog_11_method_2_code 26 = .ok (.iaload, 1) := by decide +kernel
theorem own_dprog_11_method_2_code_27 : decode prog_11_method_2_code 27 = .ok (.if_icmp .gt 5, 3) := by decide +kernel
theorem own_dprog_11_method_2_code_30 : decode prog_11_method_2_code 30 = .ok (.iconst 1, 1) := by decide +kernel
theorem own_dprog_11_method_2_code_31 : decode prog_11_method_2_code 31 = .ok (.ireturn, 1) := by decide +kernel
theorem own_b2_ef (m : MethodId) (q1 : Int32) : entryFrame m #[(.int q1)] 2 = mkF m 0 #[.val (.int q1), .unset] [] := by first | (simp [entryFrame, mkF, argsToLocals, Value.category]; done) | rfl
def own_b2_Q (Z : State) (q1 : Int32) (wN : Addr) (kN : ClassId) (h0 : Heap) (n0 : Nat) (v : Option Value) (h : Heap) (L : List Loc) : Prop := v = some (.int (own_ns q1)) ∧ Fr n0 L ∧ h = h0
set_option maxRecDepth 65536 in
set_option maxHeartbeats 40000000 in
theorem own_b2 (l : Launch) (Z : State) (a0 : Array Value) (hw : ∀ d ∈ tables_1, d.before a0 Z = true) (ws : List Jvm.Cond) (q1 : Int32) (wN : Addr) (kN : ClassId) (h0 : Heap) (n0 : Nat) (Z0 : n0 ≤ h0.size) (S_NAME_START : Sta Z Z.heap "com/example/concepta/concepta/formats/Characters" "NAME_START" "[I" (.ref wN)) (O0 : Old Z n0 h0) (V_wN : Arv Z h0 wN kN .int (28 : Int32) (([(65 : Int32), (90 : Int32), (97 : Int32), (122 : Int32), (192 : Int32), (214 : Int32), (216 : Int32), (246 : Int32), (248 : Int32), (767 : Int32), (880 : Int32), (893 : Int32), (895 : Int32), (8191 : Int32), (8204 : Int32), (8205 : Int32), (8304 : Int32), (8591 : Int32), (11264 : Int32), (12271 : Int32), (12289 : Int32), (55295 : Int32), (63744 : Int32), (64975 : Int32), (65008 : Int32), (65533 : Int32), (65536 : Int32), (983039 : Int32)] : List Int32).map Value.int) (Value.int 0)) :
    MetFree l (⟨"com/example/concepta/concepta/formats/Characters", "isNameStart", "(I)Z"⟩ : MethodName) (head1 (Jvm.Cond.code (⟨"com/example/concepta/concepta/formats/Characters", "isNameStart", "(I)Z"⟩ : MethodName) prog_11_method_2_code 2 (some .boolean) :: ws) ({ frames := 0, cells := 0, slots := 0, locals := 0 } : Room)) (fun aa U => aa = #[(.int q1)] ∧ Z.Warmed39 U.vm ∧ U.heap = h0) (fun _ _ _ _ _ => True) (fun _ U o U' => ∃ v L, o = .returned v ∧ own_b2_Q Z q1 wN kN h0 n0 v U'.heap L ∧ FrameEnd U o U' L ({ frames := 0, cells := 0, slots := 0, locals := 0 } : Room).cells ({ frames := 0, cells := 0, slots := 0, locals := 0 } : Room).slots) := by
  refine MetFree.of_bodySF (plainFor_of_name own_pn1) hisR ?_
  have w13 := hw _ (List.mem_of_getElem? (i := 13) rfl)
  intro p e s m args below meth c s₁ Bd hml0 hP hK
  obtain ⟨rfl, hZ, hh⟩ := hP
  have hx := Bd.exec
  have hby := Bd.bytes
  have hlk := Bd.notSynchronized
  have hml : c.maxLocals = 2 := hml0
  have hown : s.vm.findClass "com/example/concepta/concepta/formats/Characters" = some m.cls := findClass_of_methodNamed Bd.named
  have hnm := (name_of_methodNamed Bd.named Bd.method).1
  have X0 : Stand p l e ({ frames := 0, cells := 0, slots := 0, locals := 0 } : Room) s m #[(.int q1)] below meth c s₁ [] 0 0 := Stand.of_body Bd
  have e0 : s₁.heap = h0 := by rw [← hh, Bd.state]; rfl
  have N0 := Fr.nil n0
  have K0 : Keep h0 h0 [] := Keep.refl h0 _
  show own_Goes p e below (own_Fin s (own_b2_Q Z q1 wN kN h0 n0) ({ frames := 0, cells := 0, slots := 0, locals := 0 } : Room).cells ({ frames := 0, cells := 0, slots := 0, locals := 0 } : Room).slots) _
  refine own_step (fun t k => castTop (own_b2_ef m q1) k) ?_
  show own_Goes p e below _ (s₁.setTop (mkF m 0 #[.val (.int q1), .unset] []))
  refine own_step (fun t k => XS.iconst X0.here hx rfl (hb hby own_dprog_11_method_2_code_0) k) ?_
  show own_Goes p e below _ (s₁.setTop (mkF m 1 #[.val (.int q1), .unset] [(.int (0 : Int32))]))
  refine own_step (fun t k => XS.istoreN X0.here hx rfl (hb hby own_dprog_11_method_2_code_1) rfl (l' := #[.val (.int q1), .val (.int (0 : Int32))]) rfl k) ?_
  show own_Goes p e below _ (s₁.setTop (mkF m 2 #[.val (.int q1), .val (.int (0 : Int32))] []))
  refine own_step (fun t k => XS.iloadN X0.here hx rfl (hb hby own_dprog_11_method_2_code_2) rfl k) ?_
  show own_Goes p e below _ (s₁.setTop (mkF m 3 #[.val (.int q1), .val (.int (0 : Int32))] [(.int (0 : Int32))]))
  obtain ⟨T227, X227, e227, st227⟩ := getS2 X0 hx hZ hown (host := "") (Or.inl w13) Via.refl e0 (S_NAME_START.ext O0.2) (g := (mkF m 3 #[.val (.int q1), .val (.int (0 : Int32))] [(.int (0 : Int32))])) rfl (hb hby own_dprog_11_method_2_code_3)
  refine own_step st227 ?_
  show own_Goes p e below _ (T227.setTop (mkF m 6 #[.val (.int q1), .val (.int (0 : Int32))] [(.ref wN), (.int (0 : Int32))]))
  refine own_step (fun t k => own_len X227 hx hZ e227 V_wN (g := (mkF m 6 #[.val (.int q1), .val (.int (0 : Int32))] [(.ref wN), (.int (0 : Int32))])) rfl rfl (hb hby own_dprog_11_method_2_code_6) _ k) ?_
  show own_Goes p e below _ (T227.setTop (mkF m 7 #[.val (.int q1), .val (.int (0 : Int32))] [(.int (28 : Int32)), (.int (0 : Int32))]))
  have hc228 : (0 : Int32) < (28 : Int32) := by decide
  refine own_step (fun t k => XS.icmpNo X227.here hx rfl (hb hby own_dprog_11_method_2_code_7) rfl (tlt hc228).2.1 k) ?_
  show own_Goes p e below _ (T227.setTop (mkF m 10 #[.val (.int q1), .val (.int (0 : Int32))] []))
  refine own_step (fun t k => XS.iloadN X227.here hx rfl (hb hby own_dprog_11_method_2_code_10) rfl k) ?_
  show own_Goes p e below _ (T227.setTop (mkF m 11 #[.val (.int q1), .val (.int (0 : Int32))] [(.int q1)]))
  obtain ⟨T229, X229, e229, st229⟩ := getS2 X227 hx hZ hown (host := "") (Or.inl w13) Via.refl e227 (S_NAME_START.ext O0.2) (g := (mkF m 11 #[.val (.int q1), .val (.int (0 : Int32))] [(.int q1)])) rfl (hb hby own_dprog_11_method_2_code_11)
  refine own_step st229 ?_
  show own_Goes p e below _ (T229.setTop (mkF m 14 #[.val (.int q1), .val (.int (0 : Int32))] [(.ref wN), (.int q1)]))
  refine own_step (fun t k => XS.iloadN X229.here hx rfl (hb hby own_dprog_11_method_2_code_14) rfl k) ?_
  show own_Goes p e below _ (T229.setTop (mkF m 15 #[.val (.int q1), .val (.int (0 : Int32))] [(.int (0 : Int32)), (.ref wN), (.int q1)]))
  refine own_step (fun t k => own_ial X229 hx hZ e229 V_wN ⟨by decide, by decide⟩ (g := (mkF m 15 #[.val (.int q1), .val (.int (0 : Int32))] [(.int (0 : Int32)), (.ref wN), (.int q1)])) rfl rfl (hb hby own_dprog_11_method_2_code_15) _ k) ?_
  show own_Goes p e below _ (T229.setTop (mkF m 16 #[.val (.int q1), .val (.int (0 : Int32))] [(.int (65 : Int32)), (.int q1)]))
  have J230 : ∀ (T231 : State) (X231 : Stand p l e ({ frames := 0, cells := 0, slots := 0, locals := 0 } : Room) s m #[(.int q1)] below meth c T231 [] 0 0) (e231 : T231.heap = h0) (hl231 : q1 < (65 : Int32) ∨ (90 : Int32) < q1), own_Goes p e below (own_Fin s (own_b2_Q Z q1 wN kN h0 n0) ({ frames := 0, cells := 0, slots := 0, locals := 0 } : Room).cells ({ frames := 0, cells := 0, slots := 0, locals := 0 } : Room).slots) (T231.setTop (mkF m 32 #[.val (.int q1), .val (.int (0 : Int32))] [])) := by
    intro T231 X231 e231 hl231
    refine own_step (fun t k => XS.iinc X231.here hx rfl (hb hby own_dprog_11_method_2_code_32) rfl (l' := #[.val (.int q1), .val (.int (2 : Int32))]) rfl k) ?_
    show own_Goes p e below _ (T231.setTop (mkF m 35 #[.val (.int q1), .val (.int (2 : Int32))] []))
    refine own_step (fun t k => XS.goto X231.here hx rfl (pc0 := 35) (pc' := 2) rfl (hb hby own_dprog_11_method_2_code_35) (by decide) (by decide) k) ?_
    show own_Goes p e below _ (T231.setTop (mkF m 2 #[.val (.int q1), .val (.int (2 : Int32))] []))
    refine own_step (fun t k => XS.iloadN X231.here hx rfl (hb hby own_dprog_11_method_2_code_2) rfl k) ?_
    show own_Goes p e below _ (T231.setTop (mkF m 3 #[.val (.int q1), .val (.int (2 : Int32))] [(.int (2 : Int32))]))
    obtain ⟨T232, X232, e232, st232⟩ := getS2 X231 hx hZ hown (host := "") (Or.inl w13) Via.refl e231 (S_NAME_START.ext O0.2) (g := (mkF m 3 #[.val (.int q1), .val (.int (2 : Int32))] [(.int (2 : Int32))])) rfl (hb hby own_dprog_11_method_2_code_3)
    refine own_step st232 ?_
    show own_Goes p e below _ (T232.setTop (mkF m 6 #[.val (.int q1), .val (.int (2 : Int32))] [(.ref wN), (.int (2 : Int32))]))
    refine own_step (fun t k => own_len X232 hx hZ e232 V_wN (g := (mkF m 6 #[.val (.int q1), .val (.int (2 : Int32))] [(.ref wN), (.int (2 : Int32))])) rfl rfl (hb hby own_dprog_11_method_2_code_6) _ k) ?_
    show own_Goes p e below _ (T232.setTop (mkF m 7 #[.val (.int q1), .val (.int (2 : Int32))] [(.int (28 : Int32)), (.int (2 : Int32))]))
    have hc233 : (2 : Int32) < (28 : Int32) := by decide
    refine own_step (fun t k => XS.icmpNo X232.here hx rfl (hb hby own_dprog_11_method_2_code_7) rfl (tlt hc233).2.1 k) ?_
    show own_Goes p e below _ (T232.setTop (mkF m 10 #[.val (.int q1), .val (.int (2 : Int32))] []))
    refine own_step (fun t k => XS.iloadN X232.here hx rfl (hb hby own_dprog_11_method_2_code_10) rfl k) ?_
    show own_Goes p e below _ (T232.setTop (mkF m 11 #[.val (.int q1), .val (.int (2 : Int32))] [(.int q1)]))
    obtain ⟨T234, X234, e234, st234⟩ := getS2 X232 hx hZ hown (host := "") (Or.inl w13) Via.refl e232 (S_NAME_START.ext O0.2) (g := (mkF m 11 #[.val (.int q1), .val (.int (2 : Int32))] [(.int q1)])) rfl (hb hby own_dprog_11_method_2_code_11)
    refine own_step st234 ?_
    show own_Goes p e below _ (T234.setTop (mkF m 14 #[.val (.int q1), .val (.int (2 : Int32))] [(.ref wN), (.int q1)]))
    refine own_step (fun t k => XS.iloadN X234.here hx rfl (hb hby own_dprog_11_method_2_code_14) rfl k) ?_
    show own_Goes p e below _ (T234.setTop (mkF m 15 #[.val (.int q1), .val (.int (2 : Int32))] [(.int (2 : Int32)), (.ref wN), (.int q1)]))
    refine own_step (fun t k => own_ial X234 hx hZ e234 V_wN ⟨by decide, by decide⟩ (g := (mkF m 15 #[.val (.int q1), .val (.int (2 : Int32))] [(.int (2 : Int32)), (.ref wN), (.int q1)])) rfl rfl (hb hby own_dprog_11_method_2_code_15) _ k) ?_
    show own_Goes p e below _ (T234.setTop (mkF m 16 #[.val (.int q1), .val (.int (2 : Int32))] [(.int (97 : Int32)), (.int q1)]))
    have J235 : ∀ (T236 : State) (X236 : Stand p l e ({ frames := 0, cells := 0, slots := 0, locals := 0 } : Room) s m #[(.int q1)] below meth c T236 [] 0 0) (e236 : T236.heap = h0) (hl236 : q1 < (97 : Int32) ∨ (122 : Int32) < q1), own_Goes p e below (own_Fin s (own_b2_Q Z q1 wN kN h0 n0) ({ frames := 0, cells := 0, slots := 0, locals := 0 } : Room).cells ({ frames := 0, cells := 0, slots := 0, locals := 0 } : Room).slots) (T236.setTop (mkF m 32 #[.val (.int q1), .val (.int (2 : Int32))] [])) := by
      intro T236 X236 e236 hl236
      refine own_step (fun t k => XS.iinc X236.here hx rfl (hb hby own_dprog_11_method_2_code_32) rfl (l' := #[.val (.int q1), .val (.int (4 : Int32))]) rfl k) ?_
      show own_Goes p e below _ (T236.setTop (mkF m 35 #[.val (.int q1), .val (.int (4 : Int32))] []))
      refine own_step (fun t k => XS.goto X236.here hx rfl (pc0 := 35) (pc' := 2) rfl (hb hby own_dprog_11_method_2_code_35) (by decide) (by decide) k) ?_
      show own_Goes p e below _ (T236.setTop (mkF m 2 #[.val (.int q1), .val (.int (4 : Int32))] []))
      refine own_step (fun t k => XS.iloadN X236.here hx rfl (hb hby own_dprog_11_method_2_code_2) rfl k) ?_
      show own_Goes p e below _ (T236.setTop (mkF m 3 #[.val (.int q1), .val (.int (4 : Int32))] [(.int (4 : Int32))]))
      obtain ⟨T237, X237, e237, st237⟩ := getS2 X236 hx hZ hown (host := "") (Or.inl w13) Via.refl e236 (S_NAME_START.ext O0.2) (g := (mkF m 3 #[.val (.int q1), .val (.int (4 : Int32))] [(.int (4 : Int32))])) rfl (hb hby own_dprog_11_method_2_code_3)
      refine own_step st237 ?_
      show own_Goes p e below _ (T237.setTop (mkF m 6 #[.val (.int q1), .val (.int (4 : Int32))] [(.ref wN), (.int (4 : Int32))]))
      refine own_step (fun t k => own_len X237 hx hZ e237 V_wN (g := (mkF m 6 #[.val (.int q1), .val (.int (4 : Int32))] [(.ref wN), (.int (4 : Int32))])) rfl rfl (hb hby own_dprog_11_method_2_code_6) _ k) ?_
      show own_Goes p e below _ (T237.setTop (mkF m 7 #[.val (.int q1), .val (.int (4 : Int32))] [(.int (28 : Int32)), (.int (4 : Int32))]))
      have hc238 : (4 : Int32) < (28 : Int32) := by decide
      refine own_step (fun t k => XS.icmpNo X237.here hx rfl (hb hby own_dprog_11_method_2_code_7) rfl (tlt hc238).2.1 k) ?_
      show own_Goes p e below _ (T237.setTop (mkF m 10 #[.val (.int q1), .val (.int (4 : Int32))] []))
      refine own_step (fun t k => XS.iloadN X237.here hx rfl (hb hby own_dprog_11_method_2_code_10) rfl k) ?_
      show own_Goes p e below _ (T237.setTop (mkF m 11 #[.val (.int q1), .val (.int (4 : Int32))] [(.int q1)]))
      obtain ⟨T239, X239, e239, st239⟩ := getS2 X237 hx hZ hown (host := "") (Or.inl w13) Via.refl e237 (S_NAME_START.ext O0.2) (g := (mkF m 11 #[.val (.int q1), .val (.int (4 : Int32))] [(.int q1)])) rfl (hb hby own_dprog_11_method_2_code_11)
      refine own_step st239 ?_
      show own_Goes p e below _ (T239.setTop (mkF m 14 #[.val (.int q1), .val (.int (4 : Int32))] [(.ref wN), (.int q1)]))
      refine own_step (fun t k => XS.iloadN X239.here hx rfl (hb hby own_dprog_11_method_2_code_14) rfl k) ?_
      show own_Goes p e below _ (T239.setTop (mkF m 15 #[.val (.int q1), .val (.int (4 : Int32))] [(.int (4 : Int32)), (.ref wN), (.int q1)]))
      refine own_step (fun t k => own_ial X239 hx hZ e239 V_wN ⟨by decide, by decide⟩ (g := (mkF m 15 #[.val (.int q1), .val (.int (4 : Int32))] [(.int (4 : Int32)), (.ref wN), (.int q1)])) rfl rfl (hb hby own_dprog_11_method_2_code_15) _ k) ?_
      show own_Goes p e below _ (T239.setTop (mkF m 16 #[.val (.int q1), .val (.int (4 : Int32))] [(.int (192 : Int32)), (.int q1)]))
      have J240 : ∀ (T241 : State) (X241 : Stand p l e ({ frames := 0, cells := 0, slots := 0, locals := 0 } : Room) s m #[(.int q1)] below meth c T241 [] 0 0) (e241 : T241.heap = h0) (hl241 : q1 < (192 : Int32) ∨ (214 : Int32) < q1), own_Goes p e below (own_Fin s (own_b2_Q Z q1 wN kN h0 n0) ({ frames := 0, cells := 0, slots := 0, locals := 0 } : Room).cells ({ frames := 0, cells := 0, slots := 0, locals := 0 } : Room).slots) (T241.setTop (mkF m 32 #[.val (.int q1), .val (.int (4 : Int32))] [])) := by
        intro T241 X241 e241 hl241
        refine own_step (fun t k => XS.iinc X241.here hx rfl (hb hby own_dprog_11_method_2_code_32) rfl (l' := #[.val (.int q1), .val (.int (6 : Int32))]) rfl k) ?_
        show own_Goes p e below _ (T241.setTop (mkF m 35 #[.val (.int q1), .val (.int (6 : Int32))] []))
        refine own_step (fun t k => XS.goto X241.here hx rfl (pc0 := 35) (pc' := 2) rfl (hb hby own_dprog_11_method_2_code_35) (by decide) (by decide) k) ?_
        show own_Goes p e below _ (T241.setTop (mkF m 2 #[.val (.int q1), .val (.int (6 : Int32))] []))
        refine own_step (fun t k => XS.iloadN X241.here hx rfl (hb hby own_dprog_11_method_2_code_2) rfl k) ?_
        show own_Goes p e below _ (T241.setTop (mkF m 3 #[.val (.int q1), .val (.int (6 : Int32))] [(.int (6 : Int32))]))
        obtain ⟨T242, X242, e242, st242⟩ := getS2 X241 hx hZ hown (host := "") (Or.inl w13) Via.refl e241 (S_NAME_START.ext O0.2) (g := (mkF m 3 #[.val (.int q1), .val (.int (6 : Int32))] [(.int (6 : Int32))])) rfl (hb hby own_dprog_11_method_2_code_3)
        refine own_step st242 ?_
        show own_Goes p e below _ (T242.setTop (mkF m 6 #[.val (.int q1), .val (.int (6 : Int32))] [(.ref wN), (.int (6 : Int32))]))
        refine own_step (fun t k => own_len X242 hx hZ e242 V_wN (g := (mkF m 6 #[.val (.int q1), .val (.int (6 : Int32))] [(.ref wN), (.int (6 : Int32))])) rfl rfl (hb hby own_dprog_11_method_2_code_6) _ k) ?_
        show own_Goes p e below _ (T242.setTop (mkF m 7 #[.val (.int q1), .val (.int (6 : Int32))] [(.int (28 : Int32)), (.int (6 : Int32))]))
        have hc243 : (6 : Int32) < (28 : Int32) := by decide
        refine own_step (fun t k => XS.icmpNo X242.here hx rfl (hb hby own_dprog_11_method_2_code_7) rfl (tlt hc243).2.1 k) ?_
        show own_Goes p e below _ (T242.setTop (mkF m 10 #[.val (.int q1), .val (.int (6 : Int32))] []))
        refine own_step (fun t k => XS.iloadN X242.here hx rfl (hb hby own_dprog_11_method_2_code_10) rfl k) ?_
        show own_Goes p e below _ (T242.setTop (mkF m 11 #[.val (.int q1), .val (.int (6 : Int32))] [(.int q1)]))
        obtain ⟨T244, X244, e244, st244⟩ := getS2 X242 hx hZ hown (host := "") (Or.inl w13) Via.refl e242 (S_NAME_START.ext O0.2) (g := (mkF m 11 #[.val (.int q1), .val (.int (6 : Int32))] [(.int q1)])) rfl (hb hby own_dprog_11_method_2_code_11)
        refine own_step st244 ?_
        show own_Goes p e below _ (T244.setTop (mkF m 14 #[.val (.int q1), .val (.int (6 : Int32))] [(.ref wN), (.int q1)]))
        refine own_step (fun t k => XS.iloadN X244.here hx rfl (hb hby own_dprog_11_method_2_code_14) rfl k) ?_
        show own_Goes p e below _ (T244.setTop (mkF m 15 #[.val (.int q1), .val (.int (6 : Int32))] [(.int (6 : Int32)), (.ref wN), (.int q1)]))
        refine own_step (fun t k => own_ial X244 hx hZ e244 V_wN ⟨by decide, by decide⟩ (g := (mkF m 15 #[.val (.int q1), .val (.int (6 : Int32))] [(.int (6 : Int32)), (.ref wN), (.int q1)])) rfl rfl (hb hby own_dprog_11_method_2_code_15) _ k) ?_
        show own_Goes p e below _ (T244.setTop (mkF m 16 #[.val (.int q1), .val (.int (6 : Int32))] [(.int (216 : Int32)), (.int q1)]))
        have J245 : ∀ (T246 : State) (X246 : Stand p l e ({ frames := 0, cells := 0, slots := 0, locals := 0 } : Room) s m #[(.int q1)] below meth c T246 [] 0 0) (e246 : T246.heap = h0) (hl246 : q1 < (216 : Int32) ∨ (246 : Int32) < q1), own_Goes p e below (own_Fin s (own_b2_Q Z q1 wN kN h0 n0) ({ frames := 0, cells := 0, slots := 0, locals := 0 } : Room).cells ({ frames := 0, cells := 0, slots := 0, locals := 0 } : Room).slots) (T246.setTop (mkF m 32 #[.val (.int q1), .val (.int (6 : Int32))] [])) := by
          intro T246 X246 e246 hl246
          refine own_step (fun t k => XS.iinc X246.here hx rfl (hb hby own_dprog_11_method_2_code_32) rfl (l' := #[.val (.int q1), .val (.int (8 : Int32))]) rfl k) ?_
          show own_Goes p e below _ (T246.setTop (mkF m 35 #[.val (.int q1), .val (.int (8 : Int32))] []))
          refine own_step (fun t k => XS.goto X246.here hx rfl (pc0 := 35) (pc' := 2) rfl (hb hby own_dprog_11_method_2_code_35) (by decide) (by decide) k) ?_
          show own_Goes p e below _ (T246.setTop (mkF m 2 #[.val (.int q1), .val (.int (8 : Int32))] []))
          refine own_step (fun t k => XS.iloadN X246.here hx rfl (hb hby own_dprog_11_method_2_code_2) rfl k) ?_
          show own_Goes p e below _ (T246.setTop (mkF m 3 #[.val (.int q1), .val (.int (8 : Int32))] [(.int (8 : Int32))]))
          obtain ⟨T247, X247, e247, st247⟩ := getS2 X246 hx hZ hown (host := "") (Or.inl w13) Via.refl e246 (S_NAME_START.ext O0.2) (g := (mkF m 3 #[.val (.int q1), .val (.int (8 : Int32))] [(.int (8 : Int32))])) rfl (hb hby own_dprog_11_method_2_code_3)
          refine own_step st247 ?_
          show own_Goes p e below _ (T247.setTop (mkF m 6 #[.val (.int q1), .val (.int (8 : Int32))] [(.ref wN), (.int (8 : Int32))]))
          refine own_step (fun t k => own_len X247 hx hZ e247 V_wN (g := (mkF m 6 #[.val (.int q1), .val (.int (8 : Int32))] [(.ref wN), (.int (8 : Int32))])) rfl rfl (hb hby own_dprog_11_method_2_code_6) _ k) ?_
          show own_Goes p e below _ (T247.setTop (mkF m 7 #[.val (.int q1), .val (.int (8 : Int32))] [(.int (28 : Int32)), (.int (8 : Int32))]))
          have hc248 : (8 : Int32) < (28 : Int32) := by decide
          refine own_step (fun t k => XS.icmpNo X247.here hx rfl (hb hby own_dprog_11_method_2_code_7) rfl (tlt hc248).2.1 k) ?_
          show own_Goes p e below _ (T247.setTop (mkF m 10 #[.val (.int q1), .val (.int (8 : Int32))] []))
          refine own_step (fun t k => XS.iloadN X247.here hx rfl (hb hby own_dprog_11_method_2_code_10) rfl k) ?_
          show own_Goes p e below _ (T247.setTop (mkF m 11 #[.val (.int q1), .val (.int (8 : Int32))] [(.int q1)]))
          obtain ⟨T249, X249, e249, st249⟩ := getS2 X247 hx hZ hown (host := "") (Or.inl w13) Via.refl e247 (S_NAME_START.ext O0.2) (g := (mkF m 11 #[.val (.int q1), .val (.int (8 : Int32))] [(.int q1)])) rfl (hb hby own_dprog_11_method_2_code_11)
          refine own_step st249 ?_
          show own_Goes p e below _ (T249.setTop (mkF m 14 #[.val (.int q1), .val (.int (8 : Int32))] [(.ref wN), (.int q1)]))
          refine own_step (fun t k => XS.iloadN X249.here hx rfl (hb hby own_dprog_11_method_2_code_14) rfl k) ?_
          show own_Goes p e below _ (T249.setTop (mkF m 15 #[.val (.int q1), .val (.int (8 : Int32))] [(.int (8 : Int32)), (.ref wN), (.int q1)]))
          refine own_step (fun t k => own_ial X249 hx hZ e249 V_wN ⟨by decide, by decide⟩ (g := (mkF m 15 #[.val (.int q1), .val (.int (8 : Int32))] [(.int (8 : Int32)), (.ref wN), (.int q1)])) rfl rfl (hb hby own_dprog_11_method_2_code_15) _ k) ?_
          show own_Goes p e below _ (T249.setTop (mkF m 16 #[.val (.int q1), .val (.int (8 : Int32))] [(.int (248 : Int32)), (.int q1)]))
          have J250 : ∀ (T251 : State) (X251 : Stand p l e ({ frames := 0, cells := 0, slots := 0, locals := 0 } : Room) s m #[(.int q1)] below meth c T251 [] 0 0) (e251 : T251.heap = h0) (hl251 : q1 < (248 : Int32) ∨ (767 : Int32) < q1), own_Goes p e below (own_Fin s (own_b2_Q Z q1 wN kN h0 n0) ({ frames := 0, cells := 0, slots := 0, locals := 0 } : Room).cells ({ frames := 0, cells := 0, slots := 0, locals := 0 } : Room).slots) (T251.setTop (mkF m 32 #[.val (.int q1), .val (.int (8 : Int32))] [])) := by
            intro T251 X251 e251 hl251
            refine own_step (fun t k => XS.iinc X251.here hx rfl (hb hby own_dprog_11_method_2_code_32) rfl (l' := #[.val (.int q1), .val (.int (10 : Int32))]) rfl k) ?_
            show own_Goes p e below _ (T251.setTop (mkF m 35 #[.val (.int q1), .val (.int (10 : Int32))] []))
            refine own_step (fun t k => XS.goto X251.here hx rfl (pc0 := 35) (pc' := 2) rfl (hb hby own_dprog_11_method_2_code_35) (by decide) (by decide) k) ?_
            show own_Goes p e below _ (T251.setTop (mkF m 2 #[.val (.int q1), .val (.int (10 : Int32))] []))
            refine own_step (fun t k => XS.iloadN X251.here hx rfl (hb hby own_dprog_11_method_2_code_2) rfl k) ?_
            show own_Goes p e below _ (T251.setTop (mkF m 3 #[.val (.int q1), .val (.int (10 : Int32))] [(.int (10 : Int32))]))
            obtain ⟨T252, X252, e252, st252⟩ := getS2 X251 hx hZ hown (host := "") (Or.inl w13) Via.refl e251 (S_NAME_START.ext O0.2) (g := (mkF m 3 #[.val (.int q1), .val (.int (10 : Int32))] [(.int (10 : Int32))])) rfl (hb hby own_dprog_11_method_2_code_3)
            refine own_step st252 ?_
            show own_Goes p e below _ (T252.setTop (mkF m 6 #[.val (.int q1), .val (.int (10 : Int32))] [(.ref wN), (.int (10 : Int32))]))
            refine own_step (fun t k => own_len X252 hx hZ e252 V_wN (g := (mkF m 6 #[.val (.int q1), .val (.int (10 : Int32))] [(.ref wN), (.int (10 : Int32))])) rfl rfl (hb hby own_dprog_11_method_2_code_6) _ k) ?_
            show own_Goes p e below _ (T252.setTop (mkF m 7 #[.val (.int q1), .val (.int (10 : Int32))] [(.int (28 : Int32)), (.int (10 : Int32))]))
            have hc253 : (10 : Int32) < (28 : Int32) := by decide
            refine own_step (fun t k => XS.icmpNo X252.here hx rfl (hb hby own_dprog_11_method_2_code_7) rfl (tlt hc253).2.1 k) ?_
            show own_Goes p e below _ (T252.setTop (mkF m 10 #[.val (.int q1), .val (.int (10 : Int32))] []))
            refine own_step (fun t k => XS.iloadN X252.here hx rfl (hb hby own_dprog_11_method_2_code_10) rfl k) ?_
            show own_Goes p e below _ (T252.setTop (mkF m 11 #[.val (.int q1), .val (.int (10 : Int32))] [(.int q1)]))
            obtain ⟨T254, X254, e254, st254⟩ := getS2 X252 hx hZ hown (host := "") (Or.inl w13) Via.refl e252 (S_NAME_START.ext O0.2) (g := (mkF m 11 #[.val (.int q1), .val (.int (10 : Int32))] [(.int q1)])) rfl (hb hby own_dprog_11_method_2_code_11)
            refine own_step st254 ?_
            show own_Goes p e below _ (T254.setTop (mkF m 14 #[.val (.int q1), .val (.int (10 : Int32))] [(.ref wN), (.int q1)]))
            refine own_step (fun t k => XS.iloadN X254.here hx rfl (hb hby own_dprog_11_method_2_code_14) rfl k) ?_
            show own_Goes p e below _ (T254.setTop (mkF m 15 #[.val (.int q1), .val (.int (10 : Int32))] [(.int (10 : Int32)), (.ref wN), (.int q1)]))
            refine own_step (fun t k => own_ial X254 hx hZ e254 V_wN ⟨by decide, by decide⟩ (g := (mkF m 15 #[.val (.int q1), .val (.int (10 : Int32))] [(.int (10 : Int32)), (.ref wN), (.int q1)])) rfl rfl (hb hby own_dprog_11_method_2_code_15) _ k) ?_
            show own_Goes p e below _ (T254.setTop (mkF m 16 #[.val (.int q1), .val (.int (10 : Int32))] [(.int (880 : Int32)), (.int q1)]))
            have J255 : ∀ (T256 : State) (X256 : Stand p l e ({ frames := 0, cells := 0, slots := 0, locals := 0 } : Room) s m #[(.int q1)] below meth c T256 [] 0 0) (e256 : T256.heap = h0) (hl256 : q1 < (880 : Int32) ∨ (893 : Int32) < q1), own_Goes p e below (own_Fin s (own_b2_Q Z q1 wN kN h0 n0) ({ frames := 0, cells := 0, slots := 0, locals := 0 } : Room).cells ({ frames := 0, cells := 0, slots := 0, locals := 0 } : Room).slots) (T256.setTop (mkF m 32 #[.val (.int q1), .val (.int (10 : Int32))] [])) := by
              intro T256 X256 e256 hl256
              refine own_step (fun t k => XS.iinc X256.here hx rfl (hb hby own_dprog_11_method_2_code_32) rfl (l' := #[.val (.int q1), .val (.int (12 : Int32))]) rfl k) ?_
              show own_Goes p e below _ (T256.setTop (mkF m 35 #[.val (.int q1), .val (.int (12 : Int32))] []))
              refine own_step (fun t k => XS.goto X256.here hx rfl (pc0 := 35) (pc' := 2) rfl (hb hby own_dprog_11_method_2_code_35) (by decide) (by decide) k) ?_
              show own_Goes p e below _ (T256.setTop (mkF m 2 #[.val (.int q1), .val (.int (12 : Int32))] []))
              refine own_step (fun t k => XS.iloadN X256.here hx rfl (hb hby own_dprog_11_method_2_code_2) rfl k) ?_
              show own_Goes p e below _ (T256.setTop (mkF m 3 #[.val (.int q1), .val (.int (12 : Int32))] [(.int (12 : Int32))]))
              obtain ⟨T257, X257, e257, st257⟩ := getS2 X256 hx hZ hown (host := "") (Or.inl w13) Via.refl e256 (S_NAME_START.ext O0.2) (g := (mkF m 3 #[.val (.int q1), .val (.int (12 : Int32))] [(.int (12 : Int32))])) rfl (hb hby own_dprog_11_method_2_code_3)
              refine own_step st257 ?_
              show own_Goes p e below _ (T257.setTop (mkF m 6 #[.val (.int q1), .val (.int (12 : Int32))] [(.ref wN), (.int (12 : Int32))]))
              refine own_step (fun t k => own_len X257 hx hZ e257 V_wN (g := (mkF m 6 #[.val (.int q1), .val (.int (12 : Int32))] [(.ref wN), (.int (12 : Int32))])) rfl rfl (hb hby own_dprog_11_method_2_code_6) _ k) ?_
              show own_Goes p e below _ (T257.setTop (mkF m 7 #[.val (.int q1), .val (.int (12 : Int32))] [(.int (28 : Int32)), (.int (12 : Int32))]))
              have hc258 : (12 : Int32) < (28 : Int32) := by decide
              refine own_step (fun t k => XS.icmpNo X257.here hx rfl (hb hby own_dprog_11_method_2_code_7) rfl (tlt hc258).2.1 k) ?_
              show own_Goes p e below _ (T257.setTop (mkF m 10 #[.val (.int q1), .val (.int (12 : Int32))] []))
              refine own_step (fun t k => XS.iloadN X257.here hx rfl (hb hby own_dprog_11_method_2_code_10) rfl k) ?_
              show own_Goes p e below _ (T257.setTop (mkF m 11 #[.val (.int q1), .val (.int (12 : Int32))] [(.int q1)]))
              obtain ⟨T259, X259, e259, st259⟩ := getS2 X257 hx hZ hown (host := "") (Or.inl w13) Via.refl e257 (S_NAME_START.ext O0.2) (g := (mkF m 11 #[.val (.int q1), .val (.int (12 : Int32))] [(.int q1)])) rfl (hb hby own_dprog_11_method_2_code_11)
              refine own_step st259 ?_
              show own_Goes p e below _ (T259.setTop (mkF m 14 #[.val (.int q1), .val (.int (12 : Int32))] [(.ref wN), (.int q1)]))
              refine own_step (fun t k => XS.iloadN X259.here hx rfl (hb hby own_dprog_11_method_2_code_14) rfl k) ?_
              show own_Goes p e below _ (T259.setTop (mkF m 15 #[.val (.int q1), .val (.int (12 : Int32))] [(.int (12 : Int32)), (.ref wN), (.int q1)]))
              refine own_step (fun t k => own_ial X259 hx hZ e259 V_wN ⟨by decide, by decide⟩ (g := (mkF m 15 #[.val (.int q1), .val (.int (12 : Int32))] [(.int (12 : Int32)), (.ref wN), (.int q1)])) rfl rfl (hb hby own_dprog_11_method_2_code_15) _ k) ?_
              show own_Goes p e below _ (T259.setTop (mkF m 16 #[.val (.int q1), .val (.int (12 : Int32))] [(.int (895 : Int32)), (.int q1)]))
              have J260 : ∀ (T261 : State) (X261 : Stand p l e ({ frames := 0, cells := 0, slots := 0, locals := 0 } : Room) s m #[(.int q1)] below meth c T261 [] 0 0) (e261 : T261.heap = h0) (hl261 : q1 < (895 : Int32) ∨ (8191 : Int32) < q1), own_Goes p e below (own_Fin s (own_b2_Q Z q1 wN kN h0 n0) ({ frames := 0, cells := 0, slots := 0, locals := 0 } : Room).cells ({ frames := 0, cells := 0, slots := 0, locals := 0 } : Room).slots) (T261.setTop (mkF m 32 #[.val (.int q1), .val (.int (12 : Int32))] [])) := by
                intro T261 X261 e261 hl261
                refine own_step (fun t k => XS.iinc X261.here hx rfl (hb hby own_dprog_11_method_2_code_32) rfl (l' := #[.val (.int q1), .val (.int (14 : Int32))]) rfl k) ?_
                show own_Goes p e below _ (T261.setTop (mkF m 35 #[.val (.int q1), .val (.int (14 : Int32))] []))
                refine own_step (fun t k => XS.goto X261.here hx rfl (pc0 := 35) (pc' := 2) rfl (hb hby own_dprog_11_method_2_code_35) (by decide) (by decide) k) ?_
                show own_Goes p e below _ (T261.setTop (mkF m 2 #[.val (.int q1), .val (.int (14 : Int32))] []))
                refine own_step (fun t k => XS.iloadN X261.here hx rfl (hb hby own_dprog_11_method_2_code_2) rfl k) ?_
                show own_Goes p e below _ (T261.setTop (mkF m 3 #[.val (.int q1), .val (.int (14 : Int32))] [(.int (14 : Int32))]))
                obtain ⟨T262, X262, e262, st262⟩ := getS2 X261 hx hZ hown (host := "") (Or.inl w13) Via.refl e261 (S_NAME_START.ext O0.2) (g := (mkF m 3 #[.val (.int q1), .val (.int (14 : Int32))] [(.int (14 : Int32))])) rfl (hb hby own_dprog_11_method_2_code_3)
                refine own_step st262 ?_
                show own_Goes p e below _ (T262.setTop (mkF m 6 #[.val (.int q1), .val (.int (14 : Int32))] [(.ref wN), (.int (14 : Int32))]))
                refine own_step (fun t k => own_len X262 hx hZ e262 V_wN (g := (mkF m 6 #[.val (.int q1), .val (.int (14 : Int32))] [(.ref wN), (.int (14 : Int32))])) rfl rfl (hb hby own_dprog_11_method_2_code_6) _ k) ?_
                show own_Goes p e below _ (T262.setTop (mkF m 7 #[.val (.int q1), .val (.int (14 : Int32))] [(.int (28 : Int32)), (.int (14 : Int32))]))
                have hc263 : (14 : Int32) < (28 : Int32) := by decide
                refine own_step (fun t k => XS.icmpNo X262.here hx rfl (hb hby own_dprog_11_method_2_code_7) rfl (tlt hc263).2.1 k) ?_
                show own_Goes p e below _ (T262.setTop (mkF m 10 #[.val (.int q1), .val (.int (14 : Int32))] []))
                refine own_step (fun t k => XS.iloadN X262.here hx rfl (hb hby own_dprog_11_method_2_code_10) rfl k) ?_
                show own_Goes p e below _ (T262.setTop (mkF m 11 #[.val (.int q1), .val (.int (14 : Int32))] [(.int q1)]))
                obtain ⟨T264, X264, e264, st264⟩ := getS2 X262 hx hZ hown (host := "") (Or.inl w13) Via.refl e262 (S_NAME_START.ext O0.2) (g := (mkF m 11 #[.val (.int q1), .val (.int (14 : Int32))] [(.int q1)])) rfl (hb hby own_dprog_11_method_2_code_11)
                refine own_step st264 ?_
                show own_Goes p e below _ (T264.setTop (mkF m 14 #[.val (.int q1), .val (.int (14 : Int32))] [(.ref wN), (.int q1)]))
                refine own_step (fun t k => XS.iloadN X264.here hx rfl (hb hby own_dprog_11_method_2_code_14) rfl k) ?_
                show own_Goes p e below _ (T264.setTop (mkF m 15 #[.val (.int q1), .val (.int (14 : Int32))] [(.int (14 : Int32)), (.ref wN), (.int q1)]))
                refine own_step (fun t k => own_ial X264 hx hZ e264 V_wN ⟨by decide, by decide⟩ (g := (mkF m 15 #[.val (.int q1), .val (.int (14 : Int32))] [(.int (14 : Int32)), (.ref wN), (.int q1)])) rfl rfl (hb hby own_dprog_11_method_2_code_15) _ k) ?_
                show own_Goes p e below _ (T264.setTop (mkF m 16 #[.val (.int q1), .val (.int (14 : Int32))] [(.int (8204 : Int32)), (.int q1)]))
                have J265 : ∀ (T266 : State) (X266 : Stand p l e ({ frames := 0, cells := 0, slots := 0, locals := 0 } : Room) s m #[(.int q1)] below meth c T266 [] 0 0) (e266 : T266.heap = h0) (hl266 : q1 < (8204 : Int32) ∨ (8205 : Int32) < q1), own_Goes p e below (own_Fin s (own_b2_Q Z q1 wN kN h0 n0) ({ frames := 0, cells := 0, slots := 0, locals := 0 } : Room).cells ({ frames := 0, cells := 0, slots := 0, locals := 0 } : Room).slots) (T266.setTop (mkF m 32 #[.val (.int q1), .val (.int (14 : Int32))] [])) := by
                  intro T266 X266 e266 hl266
                  refine own_step (fun t k => XS.iinc X266.here hx rfl (hb hby own_dprog_11_method_2_code_32) rfl (l' := #[.val (.int q1), .val (.int (16 : Int32))]) rfl k) ?_
                  show own_Goes p e below _ (T266.setTop (mkF m 35 #[.val (.int q1), .val (.int (16 : Int32))] []))
                  refine own_step (fun t k => XS.goto X266.here hx rfl (pc0 := 35) (pc' := 2) rfl (hb hby own_dprog_11_method_2_code_35) (by decide) (by decide) k) ?_
                  show own_Goes p e below _ (T266.setTop (mkF m 2 #[.val (.int q1), .val (.int (16 : Int32))] []))
                  refine own_step (fun t k => XS.iloadN X266.here hx rfl (hb hby own_dprog_11_method_2_code_2) rfl k) ?_
                  show own_Goes p e below _ (T266.setTop (mkF m 3 #[.val (.int q1), .val (.int (16 : Int32))] [(.int (16 : Int32))]))
                  obtain ⟨T267, X267, e267, st267⟩ := getS2 X266 hx hZ hown (host := "") (Or.inl w13) Via.refl e266 (S_NAME_START.ext O0.2) (g := (mkF m 3 #[.val (.int q1), .val (.int (16 : Int32))] [(.int (16 : Int32))])) rfl (hb hby own_dprog_11_method_2_code_3)
                  refine own_step st267 ?_
                  show own_Goes p e below _ (T267.setTop (mkF m 6 #[.val (.int q1), .val (.int (16 : Int32))] [(.ref wN), (.int (16 : Int32))]))
                  refine own_step (fun t k => own_len X267 hx hZ e267 V_wN (g := (mkF m 6 #[.val (.int q1), .val (.int (16 : Int32))] [(.ref wN), (.int (16 : Int32))])) rfl rfl (hb hby own_dprog_11_method_2_code_6) _ k) ?_
                  show own_Goes p e below _ (T267.setTop (mkF m 7 #[.val (.int q1), .val (.int (16 : Int32))] [(.int (28 : Int32)), (.int (16 : Int32))]))
                  have hc268 : (16 : Int32) < (28 : Int32) := by decide
                  refine own_step (fun t k => XS.icmpNo X267.here hx rfl (hb hby own_dprog_11_method_2_code_7) rfl (tlt hc268).2.1 k) ?_
                  show own_Goes p e below _ (T267.setTop (mkF m 10 #[.val (.int q1), .val (.int (16 : Int32))] []))
                  refine own_step (fun t k => XS.iloadN X267.here hx rfl (hb hby own_dprog_11_method_2_code_10) rfl k) ?_
                  show own_Goes p e below _ (T267.setTop (mkF m 11 #[.val (.int q1), .val (.int (16 : Int32))] [(.int q1)]))
                  obtain ⟨T269, X269, e269, st269⟩ := getS2 X267 hx hZ hown (host := "") (Or.inl w13) Via.refl e267 (S_NAME_START.ext O0.2) (g := (mkF m 11 #[.val (.int q1), .val (.int (16 : Int32))] [(.int q1)])) rfl (hb hby own_dprog_11_method_2_code_11)
                  refine own_step st269 ?_
                  show own_Goes p e below _ (T269.setTop (mkF m 14 #[.val (.int q1), .val (.int (16 : Int32))] [(.ref wN), (.int q1)]))
                  refine own_step (fun t k => XS.iloadN X269.here hx rfl (hb hby own_dprog_11_method_2_code_14) rfl k) ?_
                  show own_Goes p e below _ (T269.setTop (mkF m 15 #[.val (.int q1), .val (.int (16 : Int32))] [(.int (16 : Int32)), (.ref wN), (.int q1)]))
                  refine own_step (fun t k => own_ial X269 hx hZ e269 V_wN ⟨by decide, by decide⟩ (g := (mkF m 15 #[.val (.int q1), .val (.int (16 : Int32))] [(.int (16 : Int32)), (.ref wN), (.int q1)])) rfl rfl (hb hby own_dprog_11_method_2_code_15) _ k) ?_
                  show own_Goes p e below _ (T269.setTop (mkF m 16 #[.val (.int q1), .val (.int (16 : Int32))] [(.int (8304 : Int32)), (.int q1)]))
                  have J270 : ∀ (T271 : State) (X271 : Stand p l e ({ frames := 0, cells := 0, slots := 0, locals := 0 } : Room) s m #[(.int q1)] below meth c T271 [] 0 0) (e271 : T271.heap = h0) (hl271 : q1 < (8304 : Int32) ∨ (8591 : Int32) < q1), own_Goes p e below (own_Fin s (own_b2_Q Z q1 wN kN h0 n0) ({ frames := 0, cells := 0, slots := 0, locals := 0 } : Room).cells ({ frames := 0, cells := 0, slots := 0, locals := 0 } : Room).slots) (T271.setTop (mkF m 32 #[.val (.int q1), .val (.int (16 : Int32))] [])) := by
                    intro T271 X271 e271 hl271
                    refine own_step (fun t k => XS.iinc X271.here hx rfl (hb hby own_dprog_11_method_2_code_32) rfl (l' := #[.val (.int q1), .val (.int (18 : Int32))]) rfl k) ?_
                    show own_Goes p e below _ (T271.setTop (mkF m 35 #[.val (.int q1), .val (.int (18 : Int32))] []))
                    refine own_step (fun t k => XS.goto X271.here hx rfl (pc0 := 35) (pc' := 2) rfl (hb hby own_dprog_11_method_2_code_35) (by decide) (by decide) k) ?_
                    show own_Goes p e below _ (T271.setTop (mkF m 2 #[.val (.int q1), .val (.int (18 : Int32))] []))
                    refine own_step (fun t k => XS.iloadN X271.here hx rfl (hb hby own_dprog_11_method_2_code_2) rfl k) ?_
                    show own_Goes p e below _ (T271.setTop (mkF m 3 #[.val (.int q1), .val (.int (18 : Int32))] [(.int (18 : Int32))]))
                    obtain ⟨T272, X272, e272, st272⟩ := getS2 X271 hx hZ hown (host := "") (Or.inl w13) Via.refl e271 (S_NAME_START.ext O0.2) (g := (mkF m 3 #[.val (.int q1), .val (.int (18 : Int32))] [(.int (18 : Int32))])) rfl (hb hby own_dprog_11_method_2_code_3)
                    refine own_step st272 ?_
                    show own_Goes p e below _ (T272.setTop (mkF m 6 #[.val (.int q1), .val (.int (18 : Int32))] [(.ref wN), (.int (18 : Int32))]))
                    refine own_step (fun t k => own_len X272 hx hZ e272 V_wN (g := (mkF m 6 #[.val (.int q1), .val (.int (18 : Int32))] [(.ref wN), (.int (18 : Int32))])) rfl rfl (hb hby own_dprog_11_method_2_code_6) _ k) ?_
                    show own_Goes p e below _ (T272.setTop (mkF m 7 #[.val (.int q1), .val (.int (18 : Int32))] [(.int (28 : Int32)), (.int (18 : Int32))]))
                    have hc273 : (18 : Int32) < (28 : Int32) := by decide
                    refine own_step (fun t k => XS.icmpNo X272.here hx rfl (hb hby own_dprog_11_method_2_code_7) rfl (tlt hc273).2.1 k) ?_
                    show own_Goes p e below _ (T272.setTop (mkF m 10 #[.val (.int q1), .val (.int (18 : Int32))] []))
                    refine own_step (fun t k => XS.iloadN X272.here hx rfl (hb hby own_dprog_11_method_2_code_10) rfl k) ?_
                    show own_Goes p e below _ (T272.setTop (mkF m 11 #[.val (.int q1), .val (.int (18 : Int32))] [(.int q1)]))
                    obtain ⟨T274, X274, e274, st274⟩ := getS2 X272 hx hZ hown (host := "") (Or.inl w13) Via.refl e272 (S_NAME_START.ext O0.2) (g := (mkF m 11 #[.val (.int q1), .val (.int (18 : Int32))] [(.int q1)])) rfl (hb hby own_dprog_11_method_2_code_11)
                    refine own_step st274 ?_
                    show own_Goes p e below _ (T274.setTop (mkF m 14 #[.val (.int q1), .val (.int (18 : Int32))] [(.ref wN), (.int q1)]))
                    refine own_step (fun t k => XS.iloadN X274.here hx rfl (hb hby own_dprog_11_method_2_code_14) rfl k) ?_
                    show own_Goes p e below _ (T274.setTop (mkF m 15 #[.val (.int q1), .val (.int (18 : Int32))] [(.int (18 : Int32)), (.ref wN), (.int q1)]))
                    refine own_step (fun t k => own_ial X274 hx hZ e274 V_wN ⟨by decide, by decide⟩ (g := (mkF m 15 #[.val (.int q1), .val (.int (18 : Int32))] [(.int (18 : Int32)), (.ref wN), (.int q1)])) rfl rfl (hb hby own_dprog_11_method_2_code_15) _ k) ?_
                    show own_Goes p e below _ (T274.setTop (mkF m 16 #[.val (.int q1), .val (.int (18 : Int32))] [(.int (11264 : Int32)), (.int q1)]))
                    have J275 : ∀ (T276 : State) (X276 : Stand p l e ({ frames := 0, cells := 0, slots := 0, locals := 0 } : Room) s m #[(.int q1)] below meth c T276 [] 0 0) (e276 : T276.heap = h0) (hl276 : q1 < (11264 : Int32) ∨ (12271 : Int32) < q1), own_Goes p e below (own_Fin s (own_b2_Q Z q1 wN kN h0 n0) ({ frames := 0, cells := 0, slots := 0, locals := 0 } : Room).cells ({ frames := 0, cells := 0, slots := 0, locals := 0 } : Room).slots) (T276.setTop (mkF m 32 #[.val (.int q1), .val (.int (18 : Int32))] [])) := by
                      intro T276 X276 e276 hl276
                      refine own_step (fun t k => XS.iinc X276.here hx rfl (hb hby own_dprog_11_method_2_code_32) rfl (l' := #[.val (.int q1), .val (.int (20 : Int32))]) rfl k) ?_
                      show own_Goes p e below _ (T276.setTop (mkF m 35 #[.val (.int q1), .val (.int (20 : Int32))] []))
                      refine own_step (fun t k => XS.goto X276.here hx rfl (pc0 := 35) (pc' := 2) rfl (hb hby own_dprog_11_method_2_code_35) (by decide) (by decide) k) ?_
                      show own_Goes p e below _ (T276.setTop (mkF m 2 #[.val (.int q1), .val (.int (20 : Int32))] []))
                      refine own_step (fun t k => XS.iloadN X276.here hx rfl (hb hby own_dprog_11_method_2_code_2) rfl k) ?_
                      show own_Goes p e below _ (T276.setTop (mkF m 3 #[.val (.int q1), .val (.int (20 : Int32))] [(.int (20 : Int32))]))
                      obtain ⟨T277, X277, e277, st277⟩ := getS2 X276 hx hZ hown (host := "") (Or.inl w13) Via.refl e276 (S_NAME_START.ext O0.2) (g := (mkF m 3 #[.val (.int q1), .val (.int (20 : Int32))] [(.int (20 : Int32))])) rfl (hb hby own_dprog_11_method_2_code_3)
                      refine own_step st277 ?_
                      show own_Goes p e below _ (T277.setTop (mkF m 6 #[.val (.int q1), .val (.int (20 : Int32))] [(.ref wN), (.int (20 : Int32))]))
                      refine own_step (fun t k => own_len X277 hx hZ e277 V_wN (g := (mkF m 6 #[.val (.int q1), .val (.int (20 : Int32))] [(.ref wN), (.int (20 : Int32))])) rfl rfl (hb hby own_dprog_11_method_2_code_6) _ k) ?_
                      show own_Goes p e below _ (T277.setTop (mkF m 7 #[.val (.int q1), .val (.int (20 : Int32))] [(.int (28 : Int32)), (.int (20 : Int32))]))
                      have hc278 : (20 : Int32) < (28 : Int32) := by decide
                      refine own_step (fun t k => XS.icmpNo X277.here hx rfl (hb hby own_dprog_11_method_2_code_7) rfl (tlt hc278).2.1 k) ?_
                      show own_Goes p e below _ (T277.setTop (mkF m 10 #[.val (.int q1), .val (.int (20 : Int32))] []))
                      refine own_step (fun t k => XS.iloadN X277.here hx rfl (hb hby own_dprog_11_method_2_code_10) rfl k) ?_
                      show own_Goes p e below _ (T277.setTop (mkF m 11 #[.val (.int q1), .val (.int (20 : Int32))] [(.int q1)]))
                      obtain ⟨T279, X279, e279, st279⟩ := getS2 X277 hx hZ hown (host := "") (Or.inl w13) Via.refl e277 (S_NAME_START.ext O0.2) (g := (mkF m 11 #[.val (.int q1), .val (.int (20 : Int32))] [(.int q1)])) rfl (hb hby own_dprog_11_method_2_code_11)
                      refine own_step st279 ?_
                      show own_Goes p e below _ (T279.setTop (mkF m 14 #[.val (.int q1), .val (.int (20 : Int32))] [(.ref wN), (.int q1)]))
                      refine own_step (fun t k => XS.iloadN X279.here hx rfl (hb hby own_dprog_11_method_2_code_14) rfl k) ?_
                      show own_Goes p e below _ (T279.setTop (mkF m 15 #[.val (.int q1), .val (.int (20 : Int32))] [(.int (20 : Int32)), (.ref wN), (.int q1)]))
                      refine own_step (fun t k => own_ial X279 hx hZ e279 V_wN ⟨by decide, by decide⟩ (g := (mkF m 15 #[.val (.int q1), .val (.int (20 : Int32))] [(.int (20 : Int32)), (.ref wN), (.int q1)])) rfl rfl (hb hby own_dprog_11_method_2_code_15) _ k) ?_
                      show own_Goes p e below _ (T279.setTop (mkF m 16 #[.val (.int q1), .val (.int (20 : Int32))] [(.int (12289 : Int32)), (.int q1)]))
                      have J280 : ∀ (T281 : State) (X281 : Stand p l e ({ frames := 0, cells := 0, slots := 0, locals := 0 } : Room) s m #[(.int q1)] below meth c T281 [] 0 0) (e281 : T281.heap = h0) (hl281 : q1 < (12289 : Int32) ∨ (55295 : Int32) < q1), own_Goes p e below (own_Fin s (own_b2_Q Z q1 wN kN h0 n0) ({ frames := 0, cells := 0, slots := 0, locals := 0 } : Room).cells ({ frames := 0, cells := 0, slots := 0, locals := 0 } : Room).slots) (T281.setTop (mkF m 32 #[.val (.int q1), .val (.int (20 : Int32))] [])) := by
                        intro T281 X281 e281 hl281
                        refine own_step (fun t k => XS.iinc X281.here hx rfl (hb hby own_dprog_11_method_2_code_32) rfl (l' := #[.val (.int q1), .val (.int (22 : Int32))]) rfl k) ?_
                        show own_Goes p e below _ (T281.setTop (mkF m 35 #[.val (.int q1), .val (.int (22 : Int32))] []))
                        refine own_step (fun t k => XS.goto X281.here hx rfl (pc0 := 35) (pc' := 2) rfl (hb hby own_dprog_11_method_2_code_35) (by decide) (by decide) k) ?_
                        show own_Goes p e below _ (T281.setTop (mkF m 2 #[.val (.int q1), .val (.int (22 : Int32))] []))
                        refine own_step (fun t k => XS.iloadN X281.here hx rfl (hb hby own_dprog_11_method_2_code_2) rfl k) ?_
                        show own_Goes p e below _ (T281.setTop (mkF m 3 #[.val (.int q1), .val (.int (22 : Int32))] [(.int (22 : Int32))]))
                        obtain ⟨T282, X282, e282, st282⟩ := getS2 X281 hx hZ hown (host := "") (Or.inl w13) Via.refl e281 (S_NAME_START.ext O0.2) (g := (mkF m 3 #[.val (.int q1), .val (.int (22 : Int32))] [(.int (22 : Int32))])) rfl (hb hby own_dprog_11_method_2_code_3)
                        refine own_step st282 ?_
                        show own_Goes p e below _ (T282.setTop (mkF m 6 #[.val (.int q1), .val (.int (22 : Int32))] [(.ref wN), (.int (22 : Int32))]))
                        refine own_step (fun t k => own_len X282 hx hZ e282 V_wN (g := (mkF m 6 #[.val (.int q1), .val (.int (22 : Int32))] [(.ref wN), (.int (22 : Int32))])) rfl rfl (hb hby own_dprog_11_method_2_code_6) _ k) ?_
                        show own_Goes p e below _ (T282.setTop (mkF m 7 #[.val (.int q1), .val (.int (22 : Int32))] [(.int (28 : Int32)), (.int (22 : Int32))]))
                        have hc283 : (22 : Int32) < (28 : Int32) := by decide
                        refine own_step (fun t k => XS.icmpNo X282.here hx rfl (hb hby own_dprog_11_method_2_code_7) rfl (tlt hc283).2.1 k) ?_
                        show own_Goes p e below _ (T282.setTop (mkF m 10 #[.val (.int q1), .val (.int (22 : Int32))] []))
                        refine own_step (fun t k => XS.iloadN X282.here hx rfl (hb hby own_dprog_11_method_2_code_10) rfl k) ?_
                        show own_Goes p e below _ (T282.setTop (mkF m 11 #[.val (.int q1), .val (.int (22 : Int32))] [(.int q1)]))
                        obtain ⟨T284, X284, e284, st284⟩ := getS2 X282 hx hZ hown (host := "") (Or.inl w13) Via.refl e282 (S_NAME_START.ext O0.2) (g := (mkF m 11 #[.val (.int q1), .val (.int (22 : Int32))] [(.int q1)])) rfl (hb hby own_dprog_11_method_2_code_11)
                        refine own_step st284 ?_
                        show own_Goes p e below _ (T284.setTop (mkF m 14 #[.val (.int q1), .val (.int (22 : Int32))] [(.ref wN), (.int q1)]))
                        refine own_step (fun t k => XS.iloadN X284.here hx rfl (hb hby own_dprog_11_method_2_code_14) rfl k) ?_
                        show own_Goes p e below _ (T284.setTop (mkF m 15 #[.val (.int q1), .val (.int (22 : Int32))] [(.int (22 : Int32)), (.ref wN), (.int q1)]))
                        refine own_step (fun t k => own_ial X284 hx hZ e284 V_wN ⟨by decide, by decide⟩ (g := (mkF m 15 #[.val (.int q1), .val (.int (22 : Int32))] [(.int (22 : Int32)), (.ref wN), (.int q1)])) rfl rfl (hb hby own_dprog_11_method_2_code_15) _ k) ?_
                        show own_Goes p e below _ (T284.setTop (mkF m 16 #[.val (.int q1), .val (.int (22 : Int32))] [(.int (63744 : Int32)), (.int q1)]))
                        have J285 : ∀ (T286 : State) (X286 : Stand p l e ({ frames := 0, cells := 0, slots := 0, locals := 0 } : Room) s m #[(.int q1)] below meth c T286 [] 0 0) (e286 : T286.heap = h0) (hl286 : q1 < (63744 : Int32) ∨ (64975 : Int32) < q1), own_Goes p e below (own_Fin s (own_b2_Q Z q1 wN kN h0 n0) ({ frames := 0, cells := 0, slots := 0, locals := 0 } : Room).cells ({ frames := 0, cells := 0, slots := 0, locals := 0 } : Room).slots) (T286.setTop (mkF m 32 #[.val (.int q1), .val (.int (22 : Int32))] [])) := by
                          intro T286 X286 e286 hl286
                          refine own_step (fun t k => XS.iinc X286.here hx rfl (hb hby own_dprog_11_method_2_code_32) rfl (l' := #[.val (.int q1), .val (.int (24 : Int32))]) rfl k) ?_
                          show own_Goes p e below _ (T286.setTop (mkF m 35 #[.val (.int q1), .val (.int (24 : Int32))] []))
                          refine own_step (fun t k => XS.goto X286.here hx rfl (pc0 := 35) (pc' := 2) rfl (hb hby own_dprog_11_method_2_code_35) (by decide) (by decide) k) ?_
                          show own_Goes p e below _ (T286.setTop (mkF m 2 #[.val (.int q1), .val (.int (24 : Int32))] []))
                          refine own_step (fun t k => XS.iloadN X286.here hx rfl (hb hby own_dprog_11_method_2_code_2) rfl k) ?_
                          show own_Goes p e below _ (T286.setTop (mkF m 3 #[.val (.int q1), .val (.int (24 : Int32))] [(.int (24 : Int32))]))
                          obtain ⟨T287, X287, e287, st287⟩ := getS2 X286 hx hZ hown (host := "") (Or.inl w13) Via.refl e286 (S_NAME_START.ext O0.2) (g := (mkF m 3 #[.val (.int q1), .val (.int (24 : Int32))] [(.int (24 : Int32))])) rfl (hb hby own_dprog_11_method_2_code_3)
                          refine own_step st287 ?_
                          show own_Goes p e below _ (T287.setTop (mkF m 6 #[.val (.int q1), .val (.int (24 : Int32))] [(.ref wN), (.int (24 : Int32))]))
                          refine own_step (fun t k => own_len X287 hx hZ e287 V_wN (g := (mkF m 6 #[.val (.int q1), .val (.int (24 : Int32))] [(.ref wN), (.int (24 : Int32))])) rfl rfl (hb hby own_dprog_11_method_2_code_6) _ k) ?_
                          show own_Goes p e below _ (T287.setTop (mkF m 7 #[.val (.int q1), .val (.int (24 : Int32))] [(.int (28 : Int32)), (.int (24 : Int32))]))
                          have hc288 : (24 : Int32) < (28 : Int32) := by decide
                          refine own_step (fun t k => XS.icmpNo X287.here hx rfl (hb hby own_dprog_11_method_2_code_7) rfl (tlt hc288).2.1 k) ?_
                          show own_Goes p e below _ (T287.setTop (mkF m 10 #[.val (.int q1), .val (.int (24 : Int32))] []))
                          refine own_step (fun t k => XS.iloadN X287.here hx rfl (hb hby own_dprog_11_method_2_code_10) rfl k) ?_
                          show own_Goes p e below _ (T287.setTop (mkF m 11 #[.val (.int q1), .val (.int (24 : Int32))] [(.int q1)]))
                          obtain ⟨T289, X289, e289, st289⟩ := getS2 X287 hx hZ hown (host := "") (Or.inl w13) Via.refl e287 (S_NAME_START.ext O0.2) (g := (mkF m 11 #[.val (.int q1), .val (.int (24 : Int32))] [(.int q1)])) rfl (hb hby own_dprog_11_method_2_code_11)
                          refine own_step st289 ?_
                          show own_Goes p e below _ (T289.setTop (mkF m 14 #[.val (.int q1), .val (.int (24 : Int32))] [(.ref wN), (.int q1)]))
                          refine own_step (fun t k => XS.iloadN X289.here hx rfl (hb hby own_dprog_11_method_2_code_14) rfl k) ?_
                          show own_Goes p e below _ (T289.setTop (mkF m 15 #[.val (.int q1), .val (.int (24 : Int32))] [(.int (24 : Int32)), (.ref wN), (.int q1)]))
                          refine own_step (fun t k => own_ial X289 hx hZ e289 V_wN ⟨by decide, by decide⟩ (g := (mkF m 15 #[.val (.int q1), .val (.int (24 : Int32))] [(.int (24 : Int32)), (.ref wN), (.int q1)])) rfl rfl (hb hby own_dprog_11_method_2_code_15) _ k) ?_
                          show own_Goes p e below _ (T289.setTop (mkF m 16 #[.val (.int q1), .val (.int (24 : Int32))] [(.int (65008 : Int32)), (.int q1)]))
                          have J290 : ∀ (T291 : State) (X291 : Stand p l e ({ frames := 0, cells := 0, slots := 0, locals := 0 } : Room) s m #[(.int q1)] below meth c T291 [] 0 0) (e291 : T291.heap = h0) (hl291 : q1 < (65008 : Int32) ∨ (65533 : Int32) < q1), own_Goes p e below (own_Fin s (own_b2_Q Z q1 wN kN h0 n0) ({ frames := 0, cells := 0, slots := 0, locals := 0 } : Room).cells ({ frames := 0, cells := 0, slots := 0, locals := 0 } : Room).slots) (T291.setTop (mkF m 32 #[.val (.int q1), .val (.int (24 : Int32))] [])) := by
                            intro T291 X291 e291 hl291
                            refine own_step (fun t k => XS.iinc X291.here hx rfl (hb hby own_dprog_11_method_2_code_32) rfl (l' := #[.val (.int q1), .val (.int (26 : Int32))]) rfl k) ?_
                            show own_Goes p e below _ (T291.setTop (mkF m 35 #[.val (.int q1), .val (.int (26 : Int32))] []))
                            refine own_step (fun t k => XS.goto X291.here hx rfl (pc0 := 35) (pc' := 2) rfl (hb hby own_dprog_11_method_2_code_35) (by decide) (by decide) k) ?_
                            show own_Goes p e below _ (T291.setTop (mkF m 2 #[.val (.int q1), .val (.int (26 : Int32))] []))
                            refine own_step (fun t k => XS.iloadN X291.here hx rfl (hb hby own_dprog_11_method_2_code_2) rfl k) ?_
                            show own_Goes p e below _ (T291.setTop (mkF m 3 #[.val (.int q1), .val (.int (26 : Int32))] [(.int (26 : Int32))]))
                            obtain ⟨T292, X292, e292, st292⟩ := getS2 X291 hx hZ hown (host := "") (Or.inl w13) Via.refl e291 (S_NAME_START.ext O0.2) (g := (mkF m 3 #[.val (.int q1), .val (.int (26 : Int32))] [(.int (26 : Int32))])) rfl (hb hby own_dprog_11_method_2_code_3)
                            refine own_step st292 ?_
                            show own_Goes p e below _ (T292.setTop (mkF m 6 #[.val (.int q1), .val (.int (26 : Int32))] [(.ref wN), (.int (26 : Int32))]))
                            refine own_step (fun t k => own_len X292 hx hZ e292 V_wN (g := (mkF m 6 #[.val (.int q1), .val (.int (26 : Int32))] [(.ref wN), (.int (26 : Int32))])) rfl rfl (hb hby own_dprog_11_method_2_code_6) _ k) ?_
                            show own_Goes p e below _ (T292.setTop (mkF m 7 #[.val (.int q1), .val (.int (26 : Int32))] [(.int (28 : Int32)), (.int (26 : Int32))]))
                            have hc293 : (26 : Int32) < (28 : Int32) := by decide
                            refine own_step (fun t k => XS.icmpNo X292.here hx rfl (hb hby own_dprog_11_method_2_code_7) rfl (tlt hc293).2.1 k) ?_
                            show own_Goes p e below _ (T292.setTop (mkF m 10 #[.val (.int q1), .val (.int (26 : Int32))] []))
                            refine own_step (fun t k => XS.iloadN X292.here hx rfl (hb hby own_dprog_11_method_2_code_10) rfl k) ?_
                            show own_Goes p e below _ (T292.setTop (mkF m 11 #[.val (.int q1), .val (.int (26 : Int32))] [(.int q1)]))
                            obtain ⟨T294, X294, e294, st294⟩ := getS2 X292 hx hZ hown (host := "") (Or.inl w13) Via.refl e292 (S_NAME_START.ext O0.2) (g := (mkF m 11 #[.val (.int q1), .val (.int (26 : Int32))] [(.int q1)])) rfl (hb hby own_dprog_11_method_2_code_11)
                            refine own_step st294 ?_
                            show own_Goes p e below _ (T294.setTop (mkF m 14 #[.val (.int q1), .val (.int (26 : Int32))] [(.ref wN), (.int q1)]))
                            refine own_step (fun t k => XS.iloadN X294.here hx rfl (hb hby own_dprog_11_method_2_code_14) rfl k) ?_
                            show own_Goes p e below _ (T294.setTop (mkF m 15 #[.val (.int q1), .val (.int (26 : Int32))] [(.int (26 : Int32)), (.ref wN), (.int q1)]))
                            refine own_step (fun t k => own_ial X294 hx hZ e294 V_wN ⟨by decide, by decide⟩ (g := (mkF m 15 #[.val (.int q1), .val (.int (26 : Int32))] [(.int (26 : Int32)), (.ref wN), (.int q1)])) rfl rfl (hb hby own_dprog_11_method_2_code_15) _ k) ?_
                            show own_Goes p e below _ (T294.setTop (mkF m 16 #[.val (.int q1), .val (.int (26 : Int32))] [(.int (65536 : Int32)), (.int q1)]))
                            have J295 : ∀ (T296 : State) (X296 : Stand p l e ({ frames := 0, cells := 0, slots := 0, locals := 0 } : Room) s m #[(.int q1)] below meth c T296 [] 0 0) (e296 : T296.heap = h0) (hl296 : q1 < (65536 : Int32) ∨ (983039 : Int32) < q1), own_Goes p e below (own_Fin s (own_b2_Q Z q1 wN kN h0 n0) ({ frames := 0, cells := 0, slots := 0, locals := 0 } : Room).cells ({ frames := 0, cells := 0, slots := 0, locals := 0 } : Room).slots) (T296.setTop (mkF m 32 #[.val (.int q1), .val (.int (26 : Int32))] [])) := by
                              intro T296 X296 e296 hl296
                              refine own_step (fun t k => XS.iinc X296.here hx rfl (hb hby own_dprog_11_method_2_code_32) rfl (l' := #[.val (.int q1), .val (.int (28 : Int32))]) rfl k) ?_
                              show own_Goes p e below _ (T296.setTop (mkF m 35 #[.val (.int q1), .val (.int (28 : Int32))] []))
                              refine own_step (fun t k => XS.goto X296.here hx rfl (pc0 := 35) (pc' := 2) rfl (hb hby own_dprog_11_method_2_code_35) (by decide) (by decide) k) ?_
                              show own_Goes p e below _ (T296.setTop (mkF m 2 #[.val (.int q1), .val (.int (28 : Int32))] []))
                              refine own_step (fun t k => XS.iloadN X296.here hx rfl (hb hby own_dprog_11_method_2_code_2) rfl k) ?_
                              show own_Goes p e below _ (T296.setTop (mkF m 3 #[.val (.int q1), .val (.int (28 : Int32))] [(.int (28 : Int32))]))
                              obtain ⟨T297, X297, e297, st297⟩ := getS2 X296 hx hZ hown (host := "") (Or.inl w13) Via.refl e296 (S_NAME_START.ext O0.2) (g := (mkF m 3 #[.val (.int q1), .val (.int (28 : Int32))] [(.int (28 : Int32))])) rfl (hb hby own_dprog_11_method_2_code_3)
                              refine own_step st297 ?_
                              show own_Goes p e below _ (T297.setTop (mkF m 6 #[.val (.int q1), .val (.int (28 : Int32))] [(.ref wN), (.int (28 : Int32))]))
                              refine own_step (fun t k => own_len X297 hx hZ e297 V_wN (g := (mkF m 6 #[.val (.int q1), .val (.int (28 : Int32))] [(.ref wN), (.int (28 : Int32))])) rfl rfl (hb hby own_dprog_11_method_2_code_6) _ k) ?_
                              show own_Goes p e below _ (T297.setTop (mkF m 7 #[.val (.int q1), .val (.int (28 : Int32))] [(.int (28 : Int32)), (.int (28 : Int32))]))
                              have hc298 : ¬ ((28 : Int32) < (28 : Int32)) := by decide
                              refine own_step (fun t k => XS.icmpYes X297.here hx rfl (pc0 := 7) (pc' := 38) rfl (hb hby own_dprog_11_method_2_code_7) rfl (flt hc298).2.1 (by decide) (by decide) k) ?_
                              show own_Goes p e below _ (T297.setTop (mkF m 38 #[.val (.int q1), .val (.int (28 : Int32))] []))
                              refine own_step (fun t k => XS.iconst X297.here hx rfl (hb hby own_dprog_11_method_2_code_38) k) ?_
                              show own_Goes p e below _ (T297.setTop (mkF m 39 #[.val (.int q1), .val (.int (28 : Int32))] [(.int (0 : Int32))]))
                              refine own_retV X297 hx hlk Bd.returns (w := (.int (0 : Int32))) (own_nb (Or.inl rfl)) (Or.inl ⟨rfl, Or.inr (Or.inl rfl), _, rfl⟩) (hb hby own_dprog_11_method_2_code_39) ?_ (by decide) (by decide)
                              show own_b2_Q Z q1 wN kN h0 n0 _ T297.heap _
                              rw [e297]
                              exact ⟨(by unfold own_ns; rw [if_neg (own_no hl231), if_neg (own_no hl236), if_neg (own_no hl241), if_neg (own_no hl246), if_neg (own_no hl251), if_neg (own_no hl256), if_neg (own_no hl261), if_neg (own_no hl266), if_neg (own_no hl271), if_neg (own_no hl276), if_neg (own_no hl281), if_neg (own_no hl286), if_neg (own_no hl291), if_neg (own_no hl296)]), N0, rfl⟩
                            by_cases hc299 : q1 < (65536 : Int32)
                            · --
                              refine own_step (fun t k => XS.icmpYes X294.here hx rfl (pc0 := 16) (pc' := 32) rfl (hb hby own_dprog_11_method_2_code_16) rfl (tlt hc299).1 (by decide) (by decide) k) ?_
                              show own_Goes p e below _ (T294.setTop (mkF m 32 #[.val (.int q1), .val (.int (26 : Int32))] []))
                              exact J295 T294 X294 e294 (by first | exact Or.inl (by assumption) | exact Or.inr (by assumption))
                            · --
                              refine own_step (fun t k => XS.icmpNo X294.here hx rfl (hb hby own_dprog_11_method_2_code_16) rfl (flt hc299).1 k) ?_
                              show own_Goes p e below _ (T294.setTop (mkF m 19 #[.val (.int q1), .val (.int (26 : Int32))] []))
                              refine own_step (fun t k => XS.iloadN X294.here hx rfl (hb hby own_dprog_11_method_2_code_19) rfl k) ?_
                              show own_Goes p e below _ (T294.setTop (mkF m 20 #[.val (.int q1), .val (.int (26 : Int32))] [(.int q1)]))
                              obtain ⟨T300, X300, e300, st300⟩ := getS2 X294 hx hZ hown (host := "") (Or.inl w13) Via.refl e294 (S_NAME_START.ext O0.2) (g := (mkF m 20 #[.val (.int q1), .val (.int (26 : Int32))] [(.int q1)])) rfl (hb hby own_dprog_11_method_2_code_20)
                              refine own_step st300 ?_
                              show own_Goes p e below _ (T300.setTop (mkF m 23 #[.val (.int q1), .val (.int (26 : Int32))] [(.ref wN), (.int q1)]))
                              refine own_step (fun t k => XS.iloadN X300.here hx rfl (hb hby own_dprog_11_method_2_code_23) rfl k) ?_
                              show own_Goes p e below _ (T300.setTop (mkF m 24 #[.val (.int q1), .val (.int (26 : Int32))] [(.int (26 : Int32)), (.ref wN), (.int q1)]))
                              refine own_step (fun t k => XS.iconst X300.here hx rfl (hb hby own_dprog_11_method_2_code_24) k) ?_
                              show own_Goes p e below _ (T300.setTop (mkF m 25 #[.val (.int q1), .val (.int (26 : Int32))] [(.int (1 : Int32)), (.int (26 : Int32)), (.ref wN), (.int q1)]))
                              refine own_step (fun t k => XS.iadd X300.here hx rfl (hb hby own_dprog_11_method_2_code_25) rfl k) ?_
                              show own_Goes p e below _ (T300.setTop (mkF m 26 #[.val (.int q1), .val (.int (26 : Int32))] [(.int (27 : Int32)), (.ref wN), (.int q1)]))
                              refine own_step (fun t k => own_ial X300 hx hZ e300 V_wN ⟨by decide, by decide⟩ (g := (mkF m 26 #[.val (.int q1), .val (.int (26 : Int32))] [(.int (27 : Int32)), (.ref wN), (.int q1)])) rfl rfl (hb hby own_dprog_11_method_2_code_26) _ k) ?_
                              show own_Goes p e below _ (T300.setTop (mkF m 27 #[.val (.int q1), .val (.int (26 : Int32))] [(.int (983039 : Int32)), (.int q1)]))
                              by_cases hc301 : (983039 : Int32) < q1
                              · --
                                refine own_step (fun t k => XS.icmpYes X300.here hx rfl (pc0 := 27) (pc' := 32) rfl (hb hby own_dprog_11_method_2_code_27) rfl (tlt hc301).2.2.1 (by decide) (by decide) k) ?_
                                show own_Goes p e below _ (T300.setTop (mkF m 32 #[.val (.int q1), .val (.int (26 : Int32))] []))
                                exact J295 T300 X300 e300 (by first | exact Or.inl (by assumption) | exact Or.inr (by assumption))
                              · --
                                refine own_step (fun t k => XS.icmpNo X300.here hx rfl (hb hby own_dprog_11_method_2_code_27) rfl (flt hc301).2.2.1 k) ?_
                                show own_Goes p e below _ (T300.setTop (mkF m 30 #[.val (.int q1), .val (.int (26 : Int32))] []))
                                refine own_step (fun t k => XS.iconst X300.here hx rfl (hb hby own_dprog_11_method_2_code_30) k) ?_
                                show own_Goes p e below _ (T300.setTop (mkF m 31 #[.val (.int q1), .val (.int (26 : Int32))] [(.int (1 : Int32))]))
                                refine own_retV X300 hx hlk Bd.returns (w := (.int (1 : Int32))) (own_nb (Or.inr rfl)) (Or.inl ⟨rfl, Or.inr (Or.inl rfl), _, rfl⟩) (hb hby own_dprog_11_method_2_code_31) ?_ (by decide) (by decide)
                                show own_b2_Q Z q1 wN kN h0 n0 _ T300.heap _
                                rw [e300]
                                exact ⟨(by unfold own_ns; rw [if_neg (own_no hl231), if_neg (own_no hl236), if_neg (own_no hl241), if_neg (own_no hl246), if_neg (own_no hl251), if_neg (own_no hl256), if_neg (own_no hl261), if_neg (own_no hl266), if_neg (own_no hl271), if_neg (own_no hl276), if_neg (own_no hl281), if_neg (own_no hl286), if_neg (own_no hl291), if_pos ⟨hc299, hc301⟩]), N0, rfl⟩
                          by_cases hc302 : q1 < (65008 : Int32)
                          · --
                            refine own_step (fun t k => XS.icmpYes X289.here hx rfl (pc0 := 16) (pc' := 32) rfl (hb hby own_dprog_11_method_2_code_16) rfl (tlt hc302).1 (by decide) (by decide) k) ?_
                            show own_Goes p e below _ (T289.setTop (mkF m 32 #[.val (.int q1), .val (.int (24 : Int32))] []))
                            exact J290 T289 X289 e289 (by first | exact Or.inl (by assumption) | exact Or.inr (by assumption))
                          · --
                            refine own_step (fun t k => XS.icmpNo X289.here hx rfl (hb hby own_dprog_11_method_2_code_16) rfl (flt hc302).1 k) ?_
                            show own_Goes p e below _ (T289.setTop (mkF m 19 #[.val (.int q1), .val (.int (24 : Int32))] []))
                            refine own_step (fun t k => XS.iloadN X289.here hx rfl (hb hby own_dprog_11_method_2_code_19) rfl k) ?_
                            show own_Goes p e below _ (T289.setTop (mkF m 20 #[.val (.int q1), .val (.int (24 : Int32))] [(.int q1)]))
                            obtain ⟨T303, X303, e303, st303⟩ := getS2 X289 hx hZ hown (host := "") (Or.inl w13) Via.refl e289 (S_NAME_START.ext O0.2) (g := (mkF m 20 #[.val (.int q1), .val (.int (24 : Int32))] [(.int q1)])) rfl (hb hby own_dprog_11_method_2_code_20)
                            refine own_step st303 ?_
                            show own_Goes p e below _ (T303.setTop (mkF m 23 #[.val (.int q1), .val (.int (24 : Int32))] [(.ref wN), (.int q1)]))
                            refine own_step (fun t k => XS.iloadN X303.here hx rfl (hb hby own_dprog_11_method_2_code_23) rfl k) ?_
                            show own_Goes p e below _ (T303.setTop (mkF m 24 #[.val (.int q1), .val (.int (24 : Int32))] [(.int (24 : Int32)), (.ref wN), (.int q1)]))
                            refine own_step (fun t k => XS.iconst X303.here hx rfl (hb hby own_dprog_11_method_2_code_24) k) ?_
                            show own_Goes p e below _ (T303.setTop (mkF m 25 #[.val (.int q1), .val (.int (24 : Int32))] [(.int (1 : Int32)), (.int (24 : Int32)), (.ref wN), (.int q1)]))
                            refine own_step (fun t k => XS.iadd X303.here hx rfl (hb hby own_dprog_11_method_2_code_25) rfl k) ?_
                            show own_Goes p e below _ (T303.setTop (mkF m 26 #[.val (.int q1), .val (.int (24 : Int32))] [(.int (25 : Int32)), (.ref wN), (.int q1)]))
                            refine own_step (fun t k => own_ial X303 hx hZ e303 V_wN ⟨by decide, by decide⟩ (g := (mkF m 26 #[.val (.int q1), .val (.int (24 : Int32))] [(.int (25 : Int32)), (.ref wN), (.int q1)])) rfl rfl (hb hby own_dprog_11_method_2_code_26) _ k) ?_
                            show own_Goes p e below _ (T303.setTop (mkF m 27 #[.val (.int q1), .val (.int (24 : Int32))] [(.int (65533 : Int32)), (.int q1)]))
                            by_cases hc304 : (65533 : Int32) < q1
                            · --
                              refine own_step (fun t k => XS.icmpYes X303.here hx rfl (pc0 := 27) (pc' := 32) rfl (hb hby own_dprog_11_method_2_code_27) rfl (tlt hc304).2.2.1 (by decide) (by decide) k) ?_
                              show own_Goes p e below _ (T303.setTop (mkF m 32 #[.val (.int q1), .val (.int (24 : Int32))] []))
                              exact J290 T303 X303 e303 (by first | exact Or.inl (by assumption) | exact Or.inr (by assumption))
                            · --
                              refine own_step (fun t k => XS.icmpNo X303.here hx rfl (hb hby own_dprog_11_method_2_code_27) rfl (flt hc304).2.2.1 k) ?_
                              show own_Goes p e below _ (T303.setTop (mkF m 30 #[.val (.int q1), .val (.int (24 : Int32))] []))
                              refine own_step (fun t k => XS.iconst X303.here hx rfl (hb hby own_dprog_11_method_2_code_30) k) ?_
                              show own_Goes p e below _ (T303.setTop (mkF m 31 #[.val (.int q1), .val (.int (24 : Int32))] [(.int (1 : Int32))]))
                              refine own_retV X303 hx hlk Bd.returns (w := (.int (1 : Int32))) (own_nb (Or.inr rfl)) (Or.inl ⟨rfl, Or.inr (Or.inl rfl), _, rfl⟩) (hb hby own_dprog_11_method_2_code_31) ?_ (by decide) (by decide)
                              show own_b2_Q Z q1 wN kN h0 n0 _ T303.heap _
                              rw [e303]
                              exact ⟨(by unfold own_ns; rw [if_neg (own_no hl231), if_neg (own_no hl236), if_neg (own_no hl241), if_neg (own_no hl246), if_neg (own_no hl251), if_neg (own_no hl256), if_neg (own_no hl261), if_neg (own_no hl266), if_neg (own_no hl271), if_neg (own_no hl276), if_neg (own_no hl281), if_neg (own_no hl286), if_pos ⟨hc302, hc304⟩]), N0, rfl⟩
                        by_cases hc305 : q1 < (63744 : Int32)
                        · --
                          refine own_step (fun t k => XS.icmpYes X284.here hx rfl (pc0 := 16) (pc' := 32) rfl (hb hby own_dprog_11_method_2_code_16) rfl (tlt hc305).1 (by decide) (by decide) k) ?_
                          show own_Goes p e below _ (T284.setTop (mkF m 32 #[.val (.int q1), .val (.int (22 : Int32))] []))
                          exact J285 T284 X284 e284 (by first | exact Or.inl (by assumption) | exact Or.inr (by assumption))
                        · --
                          refine own_step (fun t k => XS.icmpNo X284.here hx rfl (hb hby own_dprog_11_method_2_code_16) rfl (flt hc305).1 k) ?_
                          show own_Goes p e below _ (T284.setTop (mkF m 19 #[.val (.int q1), .val (.int (22 : Int32))] []))
                          refine own_step (fun t k => XS.iloadN X284.here hx rfl (hb hby own_dprog_11_method_2_code_19) rfl k) ?_
                          show own_Goes p e below _ (T284.setTop (mkF m 20 #[.val (.int q1), .val (.int (22 : Int32))] [(.int q1)]))
                          obtain ⟨T306, X306, e306, st306⟩ := getS2 X284 hx hZ hown (host := "") (Or.inl w13) Via.refl e284 (S_NAME_START.ext O0.2) (g := (mkF m 20 #[.val (.int q1), .val (.int (22 : Int32))] [(.int q1)])) rfl (hb hby own_dprog_11_method_2_code_20)
                          refine own_step st306 ?_
                          show own_Goes p e below _ (T306.setTop (mkF m 23 #[.val (.int q1), .val (.int (22 : Int32))] [(.ref wN), (.int q1)]))
                          refine own_step (fun t k => XS.iloadN X306.here hx rfl (hb hby own_dprog_11_method_2_code_23) rfl k) ?_
                          show own_Goes p e below _ (T306.setTop (mkF m 24 #[.val (.int q1), .val (.int (22 : Int32))] [(.int (22 : Int32)), (.ref wN), (.int q1)]))
                          refine own_step (fun t k => XS.iconst X306.here hx rfl (hb hby own_dprog_11_method_2_code_24) k) ?_
                          show own_Goes p e below _ (T306.setTop (mkF m 25 #[.val (.int q1), .val (.int (22 : Int32))] [(.int (1 : Int32)), (.int (22 : Int32)), (.ref wN), (.int q1)]))
                          refine own_step (fun t k => XS.iadd X306.here hx rfl (hb hby own_dprog_11_method_2_code_25) rfl k) ?_
                          show own_Goes p e below _ (T306.setTop (mkF m 26 #[.val (.int q1), .val (.int (22 : Int32))] [(.int (23 : Int32)), (.ref wN), (.int q1)]))
                          refine own_step (fun t k => own_ial X306 hx hZ e306 V_wN ⟨by decide, by decide⟩ (g := (mkF m 26 #[.val (.int q1), .val (.int (22 : Int32))] [(.int (23 : Int32)), (.ref wN), (.int q1)])) rfl rfl (hb hby own_dprog_11_method_2_code_26) _ k) ?_
                          show own_Goes p e below _ (T306.setTop (mkF m 27 #[.val (.int q1), .val (.int (22 : Int32))] [(.int (64975 : Int32)), (.int q1)]))
                          by_cases hc307 : (64975 : Int32) < q1
                          · --
                            refine own_step (fun t k => XS.icmpYes X306.here hx rfl (pc0 := 27) (pc' := 32) rfl (hb hby own_dprog_11_method_2_code_27) rfl (tlt hc307).2.2.1 (by decide) (by decide) k) ?_
                            show own_Goes p e below _ (T306.setTop (mkF m 32 #[.val (.int q1), .val (.int (22 : Int32))] []))
                            exact J285 T306 X306 e306 (by first | exact Or.inl (by assumption) | exact Or.inr (by assumption))
                          · --
                            refine own_step (fun t k => XS.icmpNo X306.here hx rfl (hb hby own_dprog_11_method_2_code_27) rfl (flt hc307).2.2.1 k) ?_
                            show own_Goes p e below _ (T306.setTop (mkF m 30 #[.val (.int q1), .val (.int (22 : Int32))] []))
                            refine own_step (fun t k => XS.iconst X306.here hx rfl (hb hby own_dprog_11_method_2_code_30) k) ?_
                            show own_Goes p e below _ (T306.setTop (mkF m 31 #[.val (.int q1), .val (.int (22 : Int32))] [(.int (1 : Int32))]))
                            refine own_retV X306 hx hlk Bd.returns (w := (.int (1 : Int32))) (own_nb (Or.inr rfl)) (Or.inl ⟨rfl, Or.inr (Or.inl rfl), _, rfl⟩) (hb hby own_dprog_11_method_2_code_31) ?_ (by decide) (by decide)
                            show own_b2_Q Z q1 wN kN h0 n0 _ T306.heap _
                            rw [e306]
                            exact ⟨(by unfold own_ns; rw [if_neg (own_no hl231), if_neg (own_no hl236), if_neg (own_no hl241), if_neg (own_no hl246), if_neg (own_no hl251), if_neg (own_no hl256), if_neg (own_no hl261), if_neg (own_no hl266), if_neg (own_no hl271), if_neg (own_no hl276), if_neg (own_no hl281), if_pos ⟨hc305, hc307⟩]), N0, rfl⟩
                      by_cases hc308 : q1 < (12289 : Int32)
                      · --
                        refine own_step (fun t k => XS.icmpYes X279.here hx rfl (pc0 := 16) (pc' := 32) rfl (hb hby own_dprog_11_method_2_code_16) rfl (tlt hc308).1 (by decide) (by decide) k) ?_
                        show own_Goes p e below _ (T279.setTop (mkF m 32 #[.val (.int q1), .val (.int (20 : Int32))] []))
                        exact J280 T279 X279 e279 (by first | exact Or.inl (by assumption) | exact Or.inr (by assumption))
                      · --
                        refine own_step (fun t k => XS.icmpNo X279.here hx rfl (hb hby own_dprog_11_method_2_code_16) rfl (flt hc308).1 k) ?_
                        show own_Goes p e below _ (T279.setTop (mkF m 19 #[.val (.int q1), .val (.int (20 : Int32))] []))
                        refine own_step (fun t k => XS.iloadN X279.here hx rfl (hb hby own_dprog_11_method_2_code_19) rfl k) ?_
                        show own_Goes p e below _ (T279.setTop (mkF m 20 #[.val (.int q1), .val (.int (20 : Int32))] [(.int q1)]))
                        obtain ⟨T309, X309, e309, st309⟩ := getS2 X279 hx hZ hown (host := "") (Or.inl w13) Via.refl e279 (S_NAME_START.ext O0.2) (g := (mkF m 20 #[.val (.int q1), .val (.int (20 : Int32))] [(.int q1)])) rfl (hb hby own_dprog_11_method_2_code_20)
                        refine own_step st309 ?_
                        show own_Goes p e below _ (T309.setTop (mkF m 23 #[.val (.int q1), .val (.int (20 : Int32))] [(.ref wN), (.int q1)]))
                        refine own_step (fun t k => XS.iloadN X309.here hx rfl (hb hby own_dprog_11_method_2_code_23) rfl k) ?_
                        show own_Goes p e below _ (T309.setTop (mkF m 24 #[.val (.int q1), .val (.int (20 : Int32))] [(.int (20 : Int32)), (.ref wN), (.int q1)]))
                        refine own_step (fun t k => XS.iconst X309.here hx rfl (hb hby own_dprog_11_method_2_code_24) k) ?_
                        show own_Goes p e below _ (T309.setTop (mkF m 25 #[.val (.int q1), .val (.int (20 : Int32))] [(.int (1 : Int32)), (.int (20 : Int32)), (.ref wN), (.int q1)]))
                        refine own_step (fun t k => XS.iadd X309.here hx rfl (hb hby own_dprog_11_method_2_code_25) rfl k) ?_
                        show own_Goes p e below _ (T309.setTop (mkF m 26 #[.val (.int q1), .val (.int (20 : Int32))] [(.int (21 : Int32)), (.ref wN), (.int q1)]))
                        refine own_step (fun t k => own_ial X309 hx hZ e309 V_wN ⟨by decide, by decide⟩ (g := (mkF m 26 #[.val (.int q1), .val (.int (20 : Int32))] [(.int (21 : Int32)), (.ref wN), (.int q1)])) rfl rfl (hb hby own_dprog_11_method_2_code_26) _ k) ?_
                        show own_Goes p e below _ (T309.setTop (mkF m 27 #[.val (.int q1), .val (.int (20 : Int32))] [(.int (55295 : Int32)), (.int q1)]))
                        by_cases hc310 : (55295 : Int32) < q1
                        · --
                          refine own_step (fun t k => XS.icmpYes X309.here hx rfl (pc0 := 27) (pc' := 32) rfl (hb hby own_dprog_11_method_2_code_27) rfl (tlt hc310).2.2.1 (by decide) (by decide) k) ?_
                          show own_Goes p e below _ (T309.setTop (mkF m 32 #[.val (.int q1), .val (.int (20 : Int32))] []))
                          exact J280 T309 X309 e309 (by first | exact Or.inl (by assumption) | exact Or.inr (by assumption))
                        · --
                          refine own_step (fun t k => XS.icmpNo X309.here hx rfl (hb hby own_dprog_11_method_2_code_27) rfl (flt hc310).2.2.1 k) ?_
                          show own_Goes p e below _ (T309.setTop (mkF m 30 #[.val (.int q1), .val (.int (20 : Int32))] []))
                          refine own_step (fun t k => XS.iconst X309.here hx rfl (hb hby own_dprog_11_method_2_code_30) k) ?_
                          show own_Goes p e below _ (T309.setTop (mkF m 31 #[.val (.int q1), .val (.int (20 : Int32))] [(.int (1 : Int32))]))
                          refine own_retV X309 hx hlk Bd.returns (w := (.int (1 : Int32))) (own_nb (Or.inr rfl)) (Or.inl ⟨rfl, Or.inr (Or.inl rfl), _, rfl⟩) (hb hby own_dprog_11_method_2_code_31) ?_ (by decide) (by decide)
                          show own_b2_Q Z q1 wN kN h0 n0 _ T309.heap _
                          rw [e309]
                          exact ⟨(by unfold own_ns; rw [if_neg (own_no hl231), if_neg (own_no hl236), if_neg (own_no hl241), if_neg (own_no hl246), if_neg (own_no hl251), if_neg (own_no hl256), if_neg (own_no hl261), if_neg (own_no hl266), if_neg (own_no hl271), if_neg (own_no hl276), if_pos ⟨hc308, hc310⟩]), N0, rfl⟩
                    by_cases hc311 : q1 < (11264 : Int32)
                    · --
                      refine own_step (fun t k => XS.icmpYes X274.here hx rfl (pc0 := 16) (pc' := 32) rfl (hb hby own_dprog_11_method_2_code_16) rfl (tlt hc311).1 (by decide) (by decide) k) ?_
                      show own_Goes p e below _ (T274.setTop (mkF m 32 #[.val (.int q1), .val (.int (18 : Int32))] []))
                      exact J275 T274 X274 e274 (by first | exact Or.inl (by assumption) | exact Or.inr (by assumption))
                    · --
                      refine own_step (fun t k => XS.icmpNo X274.here hx rfl (hb hby own_dprog_11_method_2_code_16) rfl (flt hc311).1 k) ?_
                      show own_Goes p e below _ (T274.setTop (mkF m 19 #[.val (.int q1), .val (.int (18 : Int32))] []))
                      refine own_step (fun t k => XS.iloadN X274.here hx rfl (hb hby own_dprog_11_method_2_code_19) rfl k) ?_
                      show own_Goes p e below _ (T274.setTop (mkF m 20 #[.val (.int q1), .val (.int (18 : Int32))] [(.int q1)]))
                      obtain ⟨T312, X312, e312, st312⟩ := getS2 X274 hx hZ hown (host := "") (Or.inl w13) Via.refl e274 (S_NAME_START.ext O0.2) (g := (mkF m 20 #[.val (.int q1), .val (.int (18 : Int32))] [(.int q1)])) rfl (hb hby own_dprog_11_method_2_code_20)
                      refine own_step st312 ?_
                      show own_Goes p e below _ (T312.setTop (mkF m 23 #[.val (.int q1), .val (.int (18 : Int32))] [(.ref wN), (.int q1)]))
                      refine own_step (fun t k => XS.iloadN X312.here hx rfl (hb hby own_dprog_11_method_2_code_23) rfl k) ?_
                      show own_Goes p e below _ (T312.setTop (mkF m 24 #[.val (.int q1), .val (.int (18 : Int32))] [(.int (18 : Int32)), (.ref wN), (.int q1)]))
                      refine own_step (fun t k => XS.iconst X312.here hx rfl (hb hby own_dprog_11_method_2_code_24) k) ?_
                      show own_Goes p e below _ (T312.setTop (mkF m 25 #[.val (.int q1), .val (.int (18 : Int32))] [(.int (1 : Int32)), (.int (18 : Int32)), (.ref wN), (.int q1)]))
                      refine own_step (fun t k => XS.iadd X312.here hx rfl (hb hby own_dprog_11_method_2_code_25) rfl k) ?_
                      show own_Goes p e below _ (T312.setTop (mkF m 26 #[.val (.int q1), .val (.int (18 : Int32))] [(.int (19 : Int32)), (.ref wN), (.int q1)]))
                      refine own_step (fun t k => own_ial X312 hx hZ e312 V_wN ⟨by decide, by decide⟩ (g := (mkF m 26 #[.val (.int q1), .val (.int (18 : Int32))] [(.int (19 : Int32)), (.ref wN), (.int q1)])) rfl rfl (hb hby own_dprog_11_method_2_code_26) _ k) ?_
                      show own_Goes p e below _ (T312.setTop (mkF m 27 #[.val (.int q1), .val (.int (18 : Int32))] [(.int (12271 : Int32)), (.int q1)]))
                      by_cases hc313 : (12271 : Int32) < q1
                      · --
                        refine own_step (fun t k => XS.icmpYes X312.here hx rfl (pc0 := 27) (pc' := 32) rfl (hb hby own_dprog_11_method_2_code_27) rfl (tlt hc313).2.2.1 (by decide) (by decide) k) ?_
                        show own_Goes p e below _ (T312.setTop (mkF m 32 #[.val (.int q1), .val (.int (18 : Int32))] []))
                        exact J275 T312 X312 e312 (by first | exact Or.inl (by assumption) | exact Or.inr (by assumption))
                      · --
                        refine own_step (fun t k => XS.icmpNo X312.here hx rfl (hb hby own_dprog_11_method_2_code_27) rfl (flt hc313).2.2.1 k) ?_
                        show own_Goes p e below _ (T312.setTop (mkF m 30 #[.val (.int q1), .val (.int (18 : Int32))] []))
                        refine own_step (fun t k => XS.iconst X312.here hx rfl (hb hby own_dprog_11_method_2_code_30) k) ?_
                        show own_Goes p e below _ (T312.setTop (mkF m 31 #[.val (.int q1), .val (.int (18 : Int32))] [(.int (1 : Int32))]))
                        refine own_retV X312 hx hlk Bd.returns (w := (.int (1 : Int32))) (own_nb (Or.inr rfl)) (Or.inl ⟨rfl, Or.inr (Or.inl rfl), _, rfl⟩) (hb hby own_dprog_11_method_2_code_31) ?_ (by decide) (by decide)
                        show own_b2_Q Z q1 wN kN h0 n0 _ T312.heap _
                        rw [e312]
                        exact ⟨(by unfold own_ns; rw [if_neg (own_no hl231), if_neg (own_no hl236), if_neg (own_no hl241), if_neg (own_no hl246), if_neg (own_no hl251), if_neg (own_no hl256), if_neg (own_no hl261), if_neg (own_no hl266), if_neg (own_no hl271), if_pos ⟨hc311, hc313⟩]), N0, rfl⟩
                  by_cases hc314 : q1 < (8304 : Int32)
                  · --
                    refine own_step (fun t k => XS.icmpYes X269.here hx rfl (pc0 := 16) (pc' := 32) rfl (hb hby own_dprog_11_method_2_code_16) rfl (tlt hc314).1 (by decide) (by decide) k) ?_
                    show own_Goes p e below _ (T269.setTop (mkF m 32 #[.val (.int q1), .val (.int (16 : Int32))] []))
                    exact J270 T269 X269 e269 (by first | exact Or.inl (by assumption) | exact Or.inr (by assumption))
                  · --
                    refine own_step (fun t k => XS.icmpNo X269.here hx rfl (hb hby own_dprog_11_method_2_code_16) rfl (flt hc314).1 k) ?_
                    show own_Goes p e below _ (T269.setTop (mkF m 19 #[.val (.int q1), .val (.int (16 : Int32))] []))
                    refine own_step (fun t k => XS.iloadN X269.here hx rfl (hb hby own_dprog_11_method_2_code_19) rfl k) ?_
                    show own_Goes p e below _ (T269.setTop (mkF m 20 #[.val (.int q1), .val (.int (16 : Int32))] [(.int q1)]))
                    obtain ⟨T315, X315, e315, st315⟩ := getS2 X269 hx hZ hown (host := "") (Or.inl w13) Via.refl e269 (S_NAME_START.ext O0.2) (g := (mkF m 20 #[.val (.int q1), .val (.int (16 : Int32))] [(.int q1)])) rfl (hb hby own_dprog_11_method_2_code_20)
                    refine own_step st315 ?_
                    show own_Goes p e below _ (T315.setTop (mkF m 23 #[.val (.int q1), .val (.int (16 : Int32))] [(.ref wN), (.int q1)]))
                    refine own_step (fun t k => XS.iloadN X315.here hx rfl (hb hby own_dprog_11_method_2_code_23) rfl k) ?_
                    show own_Goes p e below _ (T315.setTop (mkF m 24 #[.val (.int q1), .val (.int (16 : Int32))] [(.int (16 : Int32)), (.ref wN), (.int q1)]))
                    refine own_step (fun t k => XS.iconst X315.here hx rfl (hb hby own_dprog_11_method_2_code_24) k) ?_
                    show own_Goes p e below _ (T315.setTop (mkF m 25 #[.val (.int q1), .val (.int (16 : Int32))] [(.int (1 : Int32)), (.int (16 : Int32)), (.ref wN), (.int q1)]))
                    refine own_step (fun t k => XS.iadd X315.here hx rfl (hb hby own_dprog_11_method_2_code_25) rfl k) ?_
                    show own_Goes p e below _ (T315.setTop (mkF m 26 #[.val (.int q1), .val (.int (16 : Int32))] [(.int (17 : Int32)), (.ref wN), (.int q1)]))
                    refine own_step (fun t k => own_ial X315 hx hZ e315 V_wN ⟨by decide, by decide⟩ (g := (mkF m 26 #[.val (.int q1), .val (.int (16 : Int32))] [(.int (17 : Int32)), (.ref wN), (.int q1)])) rfl rfl (hb hby own_dprog_11_method_2_code_26) _ k) ?_
                    show own_Goes p e below _ (T315.setTop (mkF m 27 #[.val (.int q1), .val (.int (16 : Int32))] [(.int (8591 : Int32)), (.int q1)]))
                    by_cases hc316 : (8591 : Int32) < q1
                    · --
                      refine own_step (fun t k => XS.icmpYes X315.here hx rfl (pc0 := 27) (pc' := 32) rfl (hb hby own_dprog_11_method_2_code_27) rfl (tlt hc316).2.2.1 (by decide) (by decide) k) ?_
                      show own_Goes p e below _ (T315.setTop (mkF m 32 #[.val (.int q1), .val (.int (16 : Int32))] []))
                      exact J270 T315 X315 e315 (by first | exact Or.inl (by assumption) | exact Or.inr (by assumption))
                    · --
                      refine own_step (fun t k => XS.icmpNo X315.here hx rfl (hb hby own_dprog_11_method_2_code_27) rfl (flt hc316).2.2.1 k) ?_
                      show own_Goes p e below _ (T315.setTop (mkF m 30 #[.val (.int q1), .val (.int (16 : Int32))] []))
                      refine own_step (fun t k => XS.iconst X315.here hx rfl (hb hby own_dprog_11_method_2_code_30) k) ?_
                      show own_Goes p e below _ (T315.setTop (mkF m 31 #[.val (.int q1), .val (.int (16 : Int32))] [(.int (1 : Int32))]))
                      refine own_retV X315 hx hlk Bd.returns (w := (.int (1 : Int32))) (own_nb (Or.inr rfl)) (Or.inl ⟨rfl, Or.inr (Or.inl rfl), _, rfl⟩) (hb hby own_dprog_11_method_2_code_31) ?_ (by decide) (by decide)
                      show own_b2_Q Z q1 wN kN h0 n0 _ T315.heap _
                      rw [e315]
                      exact ⟨(by unfold own_ns; rw [if_neg (own_no hl231), if_neg (own_no hl236), if_neg (own_no hl241), if_neg (own_no hl246), if_neg (own_no hl251), if_neg (own_no hl256), if_neg (own_no hl261), if_neg (own_no hl266), if_pos ⟨hc314, hc316⟩]), N0, rfl⟩
                by_cases hc317 : q1 < (8204 : Int32)
                · --
                  refine own_step (fun t k => XS.icmpYes X264.here hx rfl (pc0 := 16) (pc' := 32) rfl (hb hby own_dprog_11_method_2_code_16) rfl (tlt hc317).1 (by decide) (by decide) k) ?_
                  show own_Goes p e below _ (T264.setTop (mkF m 32 #[.val (.int q1), .val (.int (14 : Int32))] []))
                  exact J265 T264 X264 e264 (by first | exact Or.inl (by assumption) | exact Or.inr (by assumption))
                · --
                  refine own_step (fun t k => XS.icmpNo X264.here hx rfl (hb hby own_dprog_11_method_2_code_16) rfl (flt hc317).1 k) ?_
                  show own_Goes p e below _ (T264.setTop (mkF m 19 #[.val (.int q1), .val (.int (14 : Int32))] []))
                  refine own_step (fun t k => XS.iloadN X264.here hx rfl (hb hby own_dprog_11_method_2_code_19) rfl k) ?_
                  show own_Goes p e below _ (T264.setTop (mkF m 20 #[.val (.int q1), .val (.int (14 : Int32))] [(.int q1)]))
                  obtain ⟨T318, X318, e318, st318⟩ := getS2 X264 hx hZ hown (host := "") (Or.inl w13) Via.refl e264 (S_NAME_START.ext O0.2) (g := (mkF m 20 #[.val (.int q1), .val (.int (14 : Int32))] [(.int q1)])) rfl (hb hby own_dprog_11_method_2_code_20)
                  refine own_step st318 ?_
                  show own_Goes p e below _ (T318.setTop (mkF m 23 #[.val (.int q1), .val (.int (14 : Int32))] [(.ref wN), (.int q1)]))
                  refine own_step (fun t k => XS.iloadN X318.here hx rfl (hb hby own_dprog_11_method_2_code_23) rfl k) ?_
                  show own_Goes p e below _ (T318.setTop (mkF m 24 #[.val (.int q1), .val (.int (14 : Int32))] [(.int (14 : Int32)), (.ref wN), (.int q1)]))
                  refine own_step (fun t k => XS.iconst X318.here hx rfl (hb hby own_dprog_11_method_2_code_24) k) ?_
                  show own_Goes p e below _ (T318.setTop (mkF m 25 #[.val (.int q1), .val (.int (14 : Int32))] [(.int (1 : Int32)), (.int (14 : Int32)), (.ref wN), (.int q1)]))
                  refine own_step (fun t k => XS.iadd X318.here hx rfl (hb hby own_dprog_11_method_2_code_25) rfl k) ?_
                  show own_Goes p e below _ (T318.setTop (mkF m 26 #[.val (.int q1), .val (.int (14 : Int32))] [(.int (15 : Int32)), (.ref wN), (.int q1)]))
                  refine own_step (fun t k => own_ial X318 hx hZ e318 V_wN ⟨by decide, by decide⟩ (g := (mkF m 26 #[.val (.int q1), .val (.int (14 : Int32))] [(.int (15 : Int32)), (.ref wN), (.int q1)])) rfl rfl (hb hby own_dprog_11_method_2_code_26) _ k) ?_
                  show own_Goes p e below _ (T318.setTop (mkF m 27 #[.val (.int q1), .val (.int (14 : Int32))] [(.int (8205 : Int32)), (.int q1)]))
                  by_cases hc319 : (8205 : Int32) < q1
                  · --
                    refine own_step (fun t k => XS.icmpYes X318.here hx rfl (pc0 := 27) (pc' := 32) rfl (hb hby own_dprog_11_method_2_code_27) rfl (tlt hc319).2.2.1 (by decide) (by decide) k) ?_
                    show own_Goes p e below _ (T318.setTop (mkF m 32 #[.val (.int q1), .val (.int (14 : Int32))] []))
                    exact J265 T318 X318 e318 (by first | exact Or.inl (by assumption) | exact Or.inr (by assumption))
                  · --
                    refine own_step (fun t k => XS.icmpNo X318.here hx rfl (hb hby own_dprog_11_method_2_code_27) rfl (flt hc319).2.2.1 k) ?_
                    show own_Goes p e below _ (T318.setTop (mkF m 30 #[.val (.int q1), .val (.int (14 : Int32))] []))
                    refine own_step (fun t k => XS.iconst X318.here hx rfl (hb hby own_dprog_11_method_2_code_30) k) ?_
                    show own_Goes p e below _ (T318.setTop (mkF m 31 #[.val (.int q1), .val (.int (14 : Int32))] [(.int (1 : Int32))]))
                    refine own_retV X318 hx hlk Bd.returns (w := (.int (1 : Int32))) (own_nb (Or.inr rfl)) (Or.inl ⟨rfl, Or.inr (Or.inl rfl), _, rfl⟩) (hb hby own_dprog_11_method_2_code_31) ?_ (by decide) (by decide)
                    show own_b2_Q Z q1 wN kN h0 n0 _ T318.heap _
                    rw [e318]
                    exact ⟨(by unfold own_ns; rw [if_neg (own_no hl231), if_neg (own_no hl236), if_neg (own_no hl241), if_neg (own_no hl246), if_neg (own_no hl251), if_neg (own_no hl256), if_neg (own_no hl261), if_pos ⟨hc317, hc319⟩]), N0, rfl⟩
              by_cases hc320 : q1 < (895 : Int32)
              · --
                refine own_step (fun t k => XS.icmpYes X259.here hx rfl (pc0 := 16) (pc' := 32) rfl (hb hby own_dprog_11_method_2_code_16) rfl (tlt hc320).1 (by decide) (by decide) k) ?_
                show own_Goes p e below _ (T259.setTop (mkF m 32 #[.val (.int q1), .val (.int (12 : Int32))] []))
                exact J260 T259 X259 e259 (by first | exact Or.inl (by assumption) | exact Or.inr (by assumption))
              · --
                refine own_step (fun t k => XS.icmpNo X259.here hx rfl (hb hby own_dprog_11_method_2_code_16) rfl (flt hc320).1 k) ?_
                show own_Goes p e below _ (T259.setTop (mkF m 19 #[.val (.int q1), .val (.int (12 : Int32))] []))
                refine own_step (fun t k => XS.iloadN X259.here hx rfl (hb hby own_dprog_11_method_2_code_19) rfl k) ?_
                show own_Goes p e below _ (T259.setTop (mkF m 20 #[.val (.int q1), .val (.int (12 : Int32))] [(.int q1)]))
                obtain ⟨T321, X321, e321, st321⟩ := getS2 X259 hx hZ hown (host := "") (Or.inl w13) Via.refl e259 (S_NAME_START.ext O0.2) (g := (mkF m 20 #[.val (.int q1), .val (.int (12 : Int32))] [(.int q1)])) rfl (hb hby own_dprog_11_method_2_code_20)
                refine own_step st321 ?_
                show own_Goes p e below _ (T321.setTop (mkF m 23 #[.val (.int q1), .val (.int (12 : Int32))] [(.ref wN), (.int q1)]))
                refine own_step (fun t k => XS.iloadN X321.here hx rfl (hb hby own_dprog_11_method_2_code_23) rfl k) ?_
                show own_Goes p e below _ (T321.setTop (mkF m 24 #[.val (.int q1), .val (.int (12 : Int32))] [(.int (12 : Int32)), (.ref wN), (.int q1)]))
                refine own_step (fun t k => XS.iconst X321.here hx rfl (hb hby own_dprog_11_method_2_code_24) k) ?_
                show own_Goes p e below _ (T321.setTop (mkF m 25 #[.val (.int q1), .val (.int (12 : Int32))] [(.int (1 : Int32)), (.int (12 : Int32)), (.ref wN), (.int q1)]))
                refine own_step (fun t k => XS.iadd X321.here hx rfl (hb hby own_dprog_11_method_2_code_25) rfl k) ?_
                show own_Goes p e below _ (T321.setTop (mkF m 26 #[.val (.int q1), .val (.int (12 : Int32))] [(.int (13 : Int32)), (.ref wN), (.int q1)]))
                refine own_step (fun t k => own_ial X321 hx hZ e321 V_wN ⟨by decide, by decide⟩ (g := (mkF m 26 #[.val (.int q1), .val (.int (12 : Int32))] [(.int (13 : Int32)), (.ref wN), (.int q1)])) rfl rfl (hb hby own_dprog_11_method_2_code_26) _ k) ?_
                show own_Goes p e below _ (T321.setTop (mkF m 27 #[.val (.int q1), .val (.int (12 : Int32))] [(.int (8191 : Int32)), (.int q1)]))
                by_cases hc322 : (8191 : Int32) < q1
                · --
                  refine own_step (fun t k => XS.icmpYes X321.here hx rfl (pc0 := 27) (pc' := 32) rfl (hb hby own_dprog_11_method_2_code_27) rfl (tlt hc322).2.2.1 (by decide) (by decide) k) ?_
                  show own_Goes p e below _ (T321.setTop (mkF m 32 #[.val (.int q1), .val (.int (12 : Int32))] []))
                  exact J260 T321 X321 e321 (by first | exact Or.inl (by assumption) | exact Or.inr (by assumption))
                · --
                  refine own_step (fun t k => XS.icmpNo X321.here hx rfl (hb hby own_dprog_11_method_2_code_27) rfl (flt hc322).2.2.1 k) ?_
                  show own_Goes p e below _ (T321.setTop (mkF m 30 #[.val (.int q1), .val (.int (12 : Int32))] []))
                  refine own_step (fun t k => XS.iconst X321.here hx rfl (hb hby own_dprog_11_method_2_code_30) k) ?_
                  show own_Goes p e below _ (T321.setTop (mkF m 31 #[.val (.int q1), .val (.int (12 : Int32))] [(.int (1 : Int32))]))
                  refine own_retV X321 hx hlk Bd.returns (w := (.int (1 : Int32))) (own_nb (Or.inr rfl)) (Or.inl ⟨rfl, Or.inr (Or.inl rfl), _, rfl⟩) (hb hby own_dprog_11_method_2_code_31) ?_ (by decide) (by decide)
                  show own_b2_Q Z q1 wN kN h0 n0 _ T321.heap _
                  rw [e321]
                  exact ⟨(by unfold own_ns; rw [if_neg (own_no hl231), if_neg (own_no hl236), if_neg (own_no hl241), if_neg (own_no hl246), if_neg (own_no hl251), if_neg (own_no hl256), if_pos ⟨hc320, hc322⟩]), N0, rfl⟩
            by_cases hc323 : q1 < (880 : Int32)
            · --
              refine own_step (fun t k => XS.icmpYes X254.here hx rfl (pc0 := 16) (pc' := 32) rfl (hb hby own_dprog_11_method_2_code_16) rfl (tlt hc323).1 (by decide) (by decide) k) ?_
              show own_Goes p e below _ (T254.setTop (mkF m 32 #[.val (.int q1), .val (.int (10 : Int32))] []))
              exact J255 T254 X254 e254 (by first | exact Or.inl (by assumption) | exact Or.inr (by assumption))
            · --
              refine own_step (fun t k => XS.icmpNo X254.here hx rfl (hb hby own_dprog_11_method_2_code_16) rfl (flt hc323).1 k) ?_
              show own_Goes p e below _ (T254.setTop (mkF m 19 #[.val (.int q1), .val (.int (10 : Int32))] []))
              refine own_step (fun t k => XS.iloadN X254.here hx rfl (hb hby own_dprog_11_method_2_code_19) rfl k) ?_
              show own_Goes p e below _ (T254.setTop (mkF m 20 #[.val (.int q1), .val (.int (10 : Int32))] [(.int q1)]))
              obtain ⟨T324, X324, e324, st324⟩ := getS2 X254 hx hZ hown (host := "") (Or.inl w13) Via.refl e254 (S_NAME_START.ext O0.2) (g := (mkF m 20 #[.val (.int q1), .val (.int (10 : Int32))] [(.int q1)])) rfl (hb hby own_dprog_11_method_2_code_20)
              refine own_step st324 ?_
              show own_Goes p e below _ (T324.setTop (mkF m 23 #[.val (.int q1), .val (.int (10 : Int32))] [(.ref wN), (.int q1)]))
              refine own_step (fun t k => XS.iloadN X324.here hx rfl (hb hby own_dprog_11_method_2_code_23) rfl k) ?_
              show own_Goes p e below _ (T324.setTop (mkF m 24 #[.val (.int q1), .val (.int (10 : Int32))] [(.int (10 : Int32)), (.ref wN), (.int q1)]))
              refine own_step (fun t k => XS.iconst X324.here hx rfl (hb hby own_dprog_11_method_2_code_24) k) ?_
              show own_Goes p e below _ (T324.setTop (mkF m 25 #[.val (.int q1), .val (.int (10 : Int32))] [(.int (1 : Int32)), (.int (10 : Int32)), (.ref wN), (.int q1)]))
              refine own_step (fun t k => XS.iadd X324.here hx rfl (hb hby own_dprog_11_method_2_code_25) rfl k) ?_
              show own_Goes p e below _ (T324.setTop (mkF m 26 #[.val (.int q1), .val (.int (10 : Int32))] [(.int (11 : Int32)), (.ref wN), (.int q1)]))
              refine own_step (fun t k => own_ial X324 hx hZ e324 V_wN ⟨by decide, by decide⟩ (g := (mkF m 26 #[.val (.int q1), .val (.int (10 : Int32))] [(.int (11 : Int32)), (.ref wN), (.int q1)])) rfl rfl (hb hby own_dprog_11_method_2_code_26) _ k) ?_
              show own_Goes p e below _ (T324.setTop (mkF m 27 #[.val (.int q1), .val (.int (10 : Int32))] [(.int (893 : Int32)), (.int q1)]))
              by_cases hc325 : (893 : Int32) < q1
              · --
                refine own_step (fun t k => XS.icmpYes X324.here hx rfl (pc0 := 27) (pc' := 32) rfl (hb hby own_dprog_11_method_2_code_27) rfl (tlt hc325).2.2.1 (by decide) (by decide) k) ?_
                show own_Goes p e below _ (T324.setTop (mkF m 32 #[.val (.int q1), .val (.int (10 : Int32))] []))
                exact J255 T324 X324 e324 (by first | exact Or.inl (by assumption) | exact Or.inr (by assumption))
              · --
                refine own_step (fun t k => XS.icmpNo X324.here hx rfl (hb hby own_dprog_11_method_2_code_27) rfl (flt hc325).2.2.1 k) ?_
                show own_Goes p e below _ (T324.setTop (mkF m 30 #[.val (.int q1), .val (.int (10 : Int32))] []))
                refine own_step (fun t k => XS.iconst X324.here hx rfl (hb hby own_dprog_11_method_2_code_30) k) ?_
                show own_Goes p e below _ (T324.setTop (mkF m 31 #[.val (.int q1), .val (.int (10 : Int32))] [(.int (1 : Int32))]))
                refine own_retV X324 hx hlk Bd.returns (w := (.int (1 : Int32))) (own_nb (Or.inr rfl)) (Or.inl ⟨rfl, Or.inr (Or.inl rfl), _, rfl⟩) (hb hby own_dprog_11_method_2_code_31) ?_ (by decide) (by decide)
                show own_b2_Q Z q1 wN kN h0 n0 _ T324.heap _
                rw [e324]
                exact ⟨(by unfold own_ns; rw [if_neg (own_no hl231), if_neg (own_no hl236), if_neg (own_no hl241), if_neg (own_no hl246), if_neg (own_no hl251), if_pos ⟨hc323, hc325⟩]), N0, rfl⟩
          by_cases hc326 : q1 < (248 : Int32)
          · --
            refine own_step (fun t k => XS.icmpYes X249.here hx rfl (pc0 := 16) (pc' := 32) rfl (hb hby own_dprog_11_method_2_code_16) rfl (tlt hc326).1 (by decide) (by decide) k) ?_
            show own_Goes p e below _ (T249.setTop (mkF m 32 #[.val (.int q1), .val (.int (8 : Int32))] []))
            exact J250 T249 X249 e249 (by first | exact Or.inl (by assumption) | exact Or.inr (by assumption))
          · --
            refine own_step (fun t k => XS.icmpNo X249.here hx rfl (hb hby own_dprog_11_method_2_code_16) rfl (flt hc326).1 k) ?_
            show own_Goes p e below _ (T249.setTop (mkF m 19 #[.val (.int q1), .val (.int (8 : Int32))] []))
            refine own_step (fun t k => XS.iloadN X249.here hx rfl (hb hby own_dprog_11_method_2_code_19) rfl k) ?_
            show own_Goes p e below _ (T249.setTop (mkF m 20 #[.val (.int q1), .val (.int (8 : Int32))] [(.int q1)]))
            obtain ⟨T327, X327, e327, st327⟩ := getS2 X249 hx hZ hown (host := "") (Or.inl w13) Via.refl e249 (S_NAME_START.ext O0.2) (g := (mkF m 20 #[.val (.int q1), .val (.int (8 : Int32))] [(.int q1)])) rfl (hb hby own_dprog_11_method_2_code_20)
            refine own_step st327 ?_
            show own_Goes p e below _ (T327.setTop (mkF m 23 #[.val (.int q1), .val (.int (8 : Int32))] [(.ref wN), (.int q1)]))
            refine own_step (fun t k => XS.iloadN X327.here hx rfl (hb hby own_dprog_11_method_2_code_23) rfl k) ?_
            show own_Goes p e below _ (T327.setTop (mkF m 24 #[.val (.int q1), .val (.int (8 : Int32))] [(.int (8 : Int32)), (.ref wN), (.int q1)]))
            refine own_step (fun t k => XS.iconst X327.here hx rfl (hb hby own_dprog_11_method_2_code_24) k) ?_
            show own_Goes p e below _ (T327.setTop (mkF m 25 #[.val (.int q1), .val (.int (8 : Int32))] [(.int (1 : Int32)), (.int (8 : Int32)), (.ref wN), (.int q1)]))
            refine own_step (fun t k => XS.iadd X327.here hx rfl (hb hby own_dprog_11_method_2_code_25) rfl k) ?_
            show own_Goes p e below _ (T327.setTop (mkF m 26 #[.val (.int q1), .val (.int (8 : Int32))] [(.int (9 : Int32)), (.ref wN), (.int q1)]))
            refine own_step (fun t k => own_ial X327 hx hZ e327 V_wN ⟨by decide, by decide⟩ (g := (mkF m 26 #[.val (.int q1), .val (.int (8 : Int32))] [(.int (9 : Int32)), (.ref wN), (.int q1)])) rfl rfl (hb hby own_dprog_11_method_2_code_26) _ k) ?_
            show own_Goes p e below _ (T327.setTop (mkF m 27 #[.val (.int q1), .val (.int (8 : Int32))] [(.int (767 : Int32)), (.int q1)]))
            by_cases hc328 : (767 : Int32) < q1
            · --
              refine own_step (fun t k => XS.icmpYes X327.here hx rfl (pc0 := 27) (pc' := 32) rfl (hb hby own_dprog_11_method_2_code_27) rfl (tlt hc328).2.2.1 (by decide) (by decide) k) ?_
              show own_Goes p e below _ (T327.setTop (mkF m 32 #[.val (.int q1), .val (.int (8 : Int32))] []))
              exact J250 T327 X327 e327 (by first | exact Or.inl (by assumption) | exact Or.inr (by assumption))
            · --
              refine own_step (fun t k => XS.icmpNo X327.here hx rfl (hb hby own_dprog_11_method_2_code_27) rfl (flt hc328).2.2.1 k) ?_
              show own_Goes p e below _ (T327.setTop (mkF m 30 #[.val (.int q1), .val (.int (8 : Int32))] []))
              refine own_step (fun t k => XS.iconst X327.here hx rfl (hb hby own_dprog_11_method_2_code_30) k) ?_
              show own_Goes p e below _ (T327.setTop (mkF m 31 #[.val (.int q1), .val (.int (8 : Int32))] [(.int (1 : Int32))]))
              refine own_retV X327 hx hlk Bd.returns (w := (.int (1 : Int32))) (own_nb (Or.inr rfl)) (Or.inl ⟨rfl, Or.inr (Or.inl rfl), _, rfl⟩) (hb hby own_dprog_11_method_2_code_31) ?_ (by decide) (by decide)
              show own_b2_Q Z q1 wN kN h0 n0 _ T327.heap _
              rw [e327]
              exact ⟨(by unfold own_ns; rw [if_neg (own_no hl231), if_neg (own_no hl236), if_neg (own_no hl241), if_neg (own_no hl246), if_pos ⟨hc326, hc328⟩]), N0, rfl⟩
        by_cases hc329 : q1 < (216 : Int32)
        · --
          refine own_step (fun t k => XS.icmpYes X244.here hx rfl (pc0 := 16) (pc' := 32) rfl (hb hby own_dprog_11_method_2_code_16) rfl (tlt hc329).1 (by decide) (by decide) k) ?_
          show own_Goes p e below _ (T244.setTop (mkF m 32 #[.val (.int q1), .val (.int (6 : Int32))] []))
          exact J245 T244 X244 e244 (by first | exact Or.inl (by assumption) | exact Or.inr (by assumption))
        · --
          refine own_step (fun t k => XS.icmpNo X244.here hx rfl (hb hby own_dprog_11_method_2_code_16) rfl (flt hc329).1 k) ?_
          show own_Goes p e below _ (T244.setTop (mkF m 19 #[.val (.int q1), .val (.int (6 : Int32))] []))
          refine own_step (fun t k => XS.iloadN X244.here hx rfl (hb hby own_dprog_11_method_2_code_19) rfl k) ?_
          show own_Goes p e below _ (T244.setTop (mkF m 20 #[.val (.int q1), .val (.int (6 : Int32))] [(.int q1)]))
          obtain ⟨T330, X330, e330, st330⟩ := getS2 X244 hx hZ hown (host := "") (Or.inl w13) Via.refl e244 (S_NAME_START.ext O0.2) (g := (mkF m 20 #[.val (.int q1), .val (.int (6 : Int32))] [(.int q1)])) rfl (hb hby own_dprog_11_method_2_code_20)
          refine own_step st330 ?_
          show own_Goes p e below _ (T330.setTop (mkF m 23 #[.val (.int q1), .val (.int (6 : Int32))] [(.ref wN), (.int q1)]))
          refine own_step (fun t k => XS.iloadN X330.here hx rfl (hb hby own_dprog_11_method_2_code_23) rfl k) ?_
          show own_Goes p e below _ (T330.setTop (mkF m 24 #[.val (.int q1), .val (.int (6 : Int32))] [(.int (6 : Int32)), (.ref wN), (.int q1)]))
          refine own_step (fun t k => XS.iconst X330.here hx rfl (hb hby own_dprog_11_method_2_code_24) k) ?_
          show own_Goes p e below _ (T330.setTop (mkF m 25 #[.val (.int q1), .val (.int (6 : Int32))] [(.int (1 : Int32)), (.int (6 : Int32)), (.ref wN), (.int q1)]))
          refine own_step (fun t k => XS.iadd X330.here hx rfl (hb hby own_dprog_11_method_2_code_25) rfl k) ?_
          show own_Goes p e below _ (T330.setTop (mkF m 26 #[.val (.int q1), .val (.int (6 : Int32))] [(.int (7 : Int32)), (.ref wN), (.int q1)]))
          refine own_step (fun t k => own_ial X330 hx hZ e330 V_wN ⟨by decide, by decide⟩ (g := (mkF m 26 #[.val (.int q1), .val (.int (6 : Int32))] [(.int (7 : Int32)), (.ref wN), (.int q1)])) rfl rfl (hb hby own_dprog_11_method_2_code_26) _ k) ?_
          show own_Goes p e below _ (T330.setTop (mkF m 27 #[.val (.int q1), .val (.int (6 : Int32))] [(.int (246 : Int32)), (.int q1)]))
          by_cases hc331 : (246 : Int32) < q1
          · --
            refine own_step (fun t k => XS.icmpYes X330.here hx rfl (pc0 := 27) (pc' := 32) rfl (hb hby own_dprog_11_method_2_code_27) rfl (tlt hc331).2.2.1 (by decide) (by decide) k) ?_
            show own_Goes p e below _ (T330.setTop (mkF m 32 #[.val (.int q1), .val (.int (6 : Int32))] []))
            exact J245 T330 X330 e330 (by first | exact Or.inl (by assumption) | exact Or.inr (by assumption))
          · --
            refine own_step (fun t k => XS.icmpNo X330.here hx rfl (hb hby own_dprog_11_method_2_code_27) rfl (flt hc331).2.2.1 k) ?_
            show own_Goes p e below _ (T330.setTop (mkF m 30 #[.val (.int q1), .val (.int (6 : Int32))] []))
            refine own_step (fun t k => XS.iconst X330.here hx rfl (hb hby own_dprog_11_method_2_code_30) k) ?_
            show own_Goes p e below _ (T330.setTop (mkF m 31 #[.val (.int q1), .val (.int (6 : Int32))] [(.int (1 : Int32))]))
            refine own_retV X330 hx hlk Bd.returns (w := (.int (1 : Int32))) (own_nb (Or.inr rfl)) (Or.inl ⟨rfl, Or.inr (Or.inl rfl), _, rfl⟩) (hb hby own_dprog_11_method_2_code_31) ?_ (by decide) (by decide)
            show own_b2_Q Z q1 wN kN h0 n0 _ T330.heap _
            rw [e330]
            exact ⟨(by unfold own_ns; rw [if_neg (own_no hl231), if_neg (own_no hl236), if_neg (own_no hl241), if_pos ⟨hc329, hc331⟩]), N0, rfl⟩
      by_cases hc332 : q1 < (192 : Int32)
      · --
        refine own_step (fun t k => XS.icmpYes X239.here hx rfl (pc0 := 16) (pc' := 32) rfl (hb hby own_dprog_11_method_2_code_16) rfl (tlt hc332).1 (by decide) (by decide) k) ?_
        show own_Goes p e below _ (T239.setTop (mkF m 32 #[.val (.int q1), .val (.int (4 : Int32))] []))
        exact J240 T239 X239 e239 (by first | exact Or.inl (by assumption) | exact Or.inr (by assumption))
      · --
        refine own_step (fun t k => XS.icmpNo X239.here hx rfl (hb hby own_dprog_11_method_2_code_16) rfl (flt hc332).1 k) ?_
        show own_Goes p e below _ (T239.setTop (mkF m 19 #[.val (.int q1), .val (.int (4 : Int32))] []))
        refine own_step (fun t k => XS.iloadN X239.here hx rfl (hb hby own_dprog_11_method_2_code_19) rfl k) ?_
        show own_Goes p e below _ (T239.setTop (mkF m 20 #[.val (.int q1), .val (.int (4 : Int32))] [(.int q1)]))
        obtain ⟨T333, X333, e333, st333⟩ := getS2 X239 hx hZ hown (host := "") (Or.inl w13) Via.refl e239 (S_NAME_START.ext O0.2) (g := (mkF m 20 #[.val (.int q1), .val (.int (4 : Int32))] [(.int q1)])) rfl (hb hby own_dprog_11_method_2_code_20)
        refine own_step st333 ?_
        show own_Goes p e below _ (T333.setTop (mkF m 23 #[.val (.int q1), .val (.int (4 : Int32))] [(.ref wN), (.int q1)]))
        refine own_step (fun t k => XS.iloadN X333.here hx rfl (hb hby own_dprog_11_method_2_code_23) rfl k) ?_
        show own_Goes p e below _ (T333.setTop (mkF m 24 #[.val (.int q1), .val (.int (4 : Int32))] [(.int (4 : Int32)), (.ref wN), (.int q1)]))
        refine own_step (fun t k => XS.iconst X333.here hx rfl (hb hby own_dprog_11_method_2_code_24) k) ?_
        show own_Goes p e below _ (T333.setTop (mkF m 25 #[.val (.int q1), .val (.int (4 : Int32))] [(.int (1 : Int32)), (.int (4 : Int32)), (.ref wN), (.int q1)]))
        refine own_step (fun t k => XS.iadd X333.here hx rfl (hb hby own_dprog_11_method_2_code_25) rfl k) ?_
        show own_Goes p e below _ (T333.setTop (mkF m 26 #[.val (.int q1), .val (.int (4 : Int32))] [(.int (5 : Int32)), (.ref wN), (.int q1)]))
        refine own_step (fun t k => own_ial X333 hx hZ e333 V_wN ⟨by decide, by decide⟩ (g := (mkF m 26 #[.val (.int q1), .val (.int (4 : Int32))] [(.int (5 : Int32)), (.ref wN), (.int q1)])) rfl rfl (hb hby own_dprog_11_method_2_code_26) _ k) ?_
        show own_Goes p e below _ (T333.setTop (mkF m 27 #[.val (.int q1), .val (.int (4 : Int32))] [(.int (214 : Int32)), (.int q1)]))
        by_cases hc334 : (214 : Int32) < q1
        · --
          refine own_step (fun t k => XS.icmpYes X333.here hx rfl (pc0 := 27) (pc' := 32) rfl (hb hby own_dprog_11_method_2_code_27) rfl (tlt hc334).2.2.1 (by decide) (by decide) k) ?_
          show own_Goes p e below _ (T333.setTop (mkF m 32 #[.val (.int q1), .val (.int (4 : Int32))] []))
          exact J240 T333 X333 e333 (by first | exact Or.inl (by assumption) | exact Or.inr (by assumption))
        · --
          refine own_step (fun t k => XS.icmpNo X333.here hx rfl (hb hby own_dprog_11_method_2_code_27) rfl (flt hc334).2.2.1 k) ?_
          show own_Goes p e below _ (T333.setTop (mkF m 30 #[.val (.int q1), .val (.int (4 : Int32))] []))
          refine own_step (fun t k => XS.iconst X333.here hx rfl (hb hby own_dprog_11_method_2_code_30) k) ?_
          show own_Goes p e below _ (T333.setTop (mkF m 31 #[.val (.int q1), .val (.int (4 : Int32))] [(.int (1 : Int32))]))
          refine own_retV X333 hx hlk Bd.returns (w := (.int (1 : Int32))) (own_nb (Or.inr rfl)) (Or.inl ⟨rfl, Or.inr (Or.inl rfl), _, rfl⟩) (hb hby own_dprog_11_method_2_code_31) ?_ (by decide) (by decide)
          show own_b2_Q Z q1 wN kN h0 n0 _ T333.heap _
          rw [e333]
          exact ⟨(by unfold own_ns; rw [if_neg (own_no hl231), if_neg (own_no hl236), if_pos ⟨hc332, hc334⟩]), N0, rfl⟩
    by_cases hc335 : q1 < (97 : Int32)
    · --
      refine own_step (fun t k => XS.icmpYes X234.here hx rfl (pc0 := 16) (pc' := 32) rfl (hb hby own_dprog_11_method_2_code_16) rfl (tlt hc335).1 (by decide) (by decide) k) ?_
      show own_Goes p e below _ (T234.setTop (mkF m 32 #[.val (.int q1), .val (.int (2 : Int32))] []))
      exact J235 T234 X234 e234 (by first | exact Or.inl (by assumption) | exact Or.inr (by assumption))
    · --
      refine own_step (fun t k => XS.icmpNo X234.here hx rfl (hb hby own_dprog_11_method_2_code_16) rfl (flt hc335).1 k) ?_
      show own_Goes p e below _ (T234.setTop (mkF m 19 #[.val (.int q1), .val (.int (2 : Int32))] []))
      refine own_step (fun t k => XS.iloadN X234.here hx rfl (hb hby own_dprog_11_method_2_code_19) rfl k) ?_
      show own_Goes p e below _ (T234.setTop (mkF m 20 #[.val (.int q1), .val (.int (2 : Int32))] [(.int q1)]))
      obtain ⟨T336, X336, e336, st336⟩ := getS2 X234 hx hZ hown (host := "") (Or.inl w13) Via.refl e234 (S_NAME_START.ext O0.2) (g := (mkF m 20 #[.val (.int q1), .val (.int (2 : Int32))] [(.int q1)])) rfl (hb hby own_dprog_11_method_2_code_20)
      refine own_step st336 ?_
      show own_Goes p e below _ (T336.setTop (mkF m 23 #[.val (.int q1), .val (.int (2 : Int32))] [(.ref wN), (.int q1)]))
      refine own_step (fun t k => XS.iloadN X336.here hx rfl (hb hby own_dprog_11_method_2_code_23) rfl k) ?_
      show own_Goes p e below _ (T336.setTop (mkF m 24 #[.val (.int q1), .val (.int (2 : Int32))] [(.int (2 : Int32)), (.ref wN), (.int q1)]))
      refine own_step (fun t k => XS.iconst X336.here hx rfl (hb hby own_dprog_11_method_2_code_24) k) ?_
      show own_Goes p e below _ (T336.setTop (mkF m 25 #[.val (.int q1), .val (.int (2 : Int32))] [(.int (1 : Int32)), (.int (2 : Int32)), (.ref wN), (.int q1)]))
      refine own_step (fun t k => XS.iadd X336.here hx rfl (hb hby own_dprog_11_method_2_code_25) rfl k) ?_
      show own_Goes p e below _ (T336.setTop (mkF m 26 #[.val (.int q1), .val (.int (2 : Int32))] [(.int (3 : Int32)), (.ref wN), (.int q1)]))
      refine own_step (fun t k => own_ial X336 hx hZ e336 V_wN ⟨by decide, by decide⟩ (g := (mkF m 26 #[.val (.int q1), .val (.int (2 : Int32))] [(.int (3 : Int32)), (.ref wN), (.int q1)])) rfl rfl (hb hby own_dprog_11_method_2_code_26) _ k) ?_
      show own_Goes p e below _ (T336.setTop (mkF m 27 #[.val (.int q1), .val (.int (2 : Int32))] [(.int (122 : Int32)), (.int q1)]))
      by_cases hc337 : (122 : Int32) < q1
      · --
        refine own_step (fun t k => XS.icmpYes X336.here hx rfl (pc0 := 27) (pc' := 32) rfl (hb hby own_dprog_11_method_2_code_27) rfl (tlt hc337).2.2.1 (by decide) (by decide) k) ?_
        show own_Goes p e below _ (T336.setTop (mkF m 32 #[.val (.int q1), .val (.int (2 : Int32))] []))
        exact J235 T336 X336 e336 (by first | exact Or.inl (by assumption) | exact Or.inr (by assumption))
      · --
        refine own_step (fun t k => XS.icmpNo X336.here hx rfl (hb hby own_dprog_11_method_2_code_27) rfl (flt hc337).2.2.1 k) ?_
        show own_Goes p e below _ (T336.setTop (mkF m 30 #[.val (.int q1), .val (.int (2 : Int32))] []))
        refine own_step (fun t k => XS.iconst X336.here hx rfl (hb hby own_dprog_11_method_2_code_30) k) ?_
        show own_Goes p e below _ (T336.setTop (mkF m 31 #[.val (.int q1), .val (.int (2 : Int32))] [(.int (1 : Int32))]))
        refine own_retV X336 hx hlk Bd.returns (w := (.int (1 : Int32))) (own_nb (Or.inr rfl)) (Or.inl ⟨rfl, Or.inr (Or.inl rfl), _, rfl⟩) (hb hby own_dprog_11_method_2_code_31) ?_ (by decide) (by decide)
        show own_b2_Q Z q1 wN kN h0 n0 _ T336.heap _
        rw [e336]
        exact ⟨(by unfold own_ns; rw [if_neg (own_no hl231), if_pos ⟨hc335, hc337⟩]), N0, rfl⟩
  by_cases hc338 : q1 < (65 : Int32)
  · --
    refine own_step (fun t k => XS.icmpYes X229.here hx rfl (pc0 := 16) (pc' := 32) rfl (hb hby own_dprog_11_method_2_code_16) rfl (tlt hc338).1 (by decide) (by decide) k) ?_
    show own_Goes p e below _ (T229.setTop (mkF m 32 #[.val (.int q1), .val (.int (0 : Int32))] []))
    exact J230 T229 X229 e229 (by first | exact Or.inl (by assumption) | exact Or.inr (by assumption))
  · --
    refine own_step (fun t k => XS.icmpNo X229.here hx rfl (hb hby own_dprog_11_method_2_code_16) rfl (flt hc338).1 k) ?_
    show own_Goes p e below _ (T229.setTop (mkF m 19 #[.val (.int q1), .val (.int (0 : Int32))] []))
    refine own_step (fun t k => XS.iloadN X229.here hx rfl (hb hby own_dprog_11_method_2_code_19) rfl k) ?_
    show own_Goes p e below _ (T229.setTop (mkF m 20 #[.val (.int q1), .val (.int (0 : Int32))] [(.int q1)]))
    obtain ⟨T339, X339, e339, st339⟩ := getS2 X229 hx hZ hown (host := "") (Or.inl w13) Via.refl e229 (S_NAME_START.ext O0.2) (g := (mkF m 20 #[.val (.int q1), .val (.int (0 : Int32))] [(.int q1)])) rfl (hb hby own_dprog_11_method_2_code_20)
    refine own_step st339 ?_
    show own_Goes p e below _ (T339.setTop (mkF m 23 #[.val (.int q1), .val (.int (0 : Int32))] [(.ref wN), (.int q1)]))
    refine own_step (fun t k => XS.iloadN X339.here hx rfl (hb hby own_dprog_11_method_2_code_23) rfl k) ?_
    show own_Goes p e below _ (T339.setTop (mkF m 24 #[.val (.int q1), .val (.int (0 : Int32))] [(.int (0 : Int32)), (.ref wN), (.int q1)]))
    refine own_step (fun t k => XS.iconst X339.here hx rfl (hb hby own_dprog_11_method_2_code_24) k) ?_
    show own_Goes p e below _ (T339.setTop (mkF m 25 #[.val (.int q1), .val (.int (0 : Int32))] [(.int (1 : Int32)), (.int (0 : Int32)), (.ref wN), (.int q1)]))
    refine own_step (fun t k => XS.iadd X339.here hx rfl (hb hby own_dprog_11_method_2_code_25) rfl k) ?_
    show own_Goes p e below _ (T339.setTop (mkF m 26 #[.val (.int q1), .val (.int (0 : Int32))] [(.int (1 : Int32)), (.ref wN), (.int q1)]))
    refine own_step (fun t k => own_ial X339 hx hZ e339 V_wN ⟨by decide, by decide⟩ (g := (mkF m 26 #[.val (.int q1), .val (.int (0 : Int32))] [(.int (1 : Int32)), (.ref wN), (.int q1)])) rfl rfl (hb hby own_dprog_11_method_2_code_26) _ k) ?_
    show own_Goes p e below _ (T339.setTop (mkF m 27 #[.val (.int q1), .val (.int (0 : Int32))] [(.int (90 : Int32)), (.int q1)]))
    by_cases hc340 : (90 : Int32) < q1
    · --
      refine own_step (fun t k => XS.icmpYes X339.here hx rfl (pc0 := 27) (pc' := 32) rfl (hb hby own_dprog_11_method_2_code_27) rfl (tlt hc340).2.2.1 (by decide) (by decide) k) ?_
      show own_Goes p e below _ (T339.setTop (mkF m 32 #[.val (.int q1), .val (.int (0 : Int32))] []))
      exact J230 T339 X339 e339 (by first | exact Or.inl (by assumption) | exact Or.inr (by assumption))
    · --
      refine own_step (fun t k => XS.icmpNo X339.here hx rfl (hb hby own_dprog_11_method_2_code_27) rfl (flt hc340).2.2.1 k) ?_
      show own_Goes p e below _ (T339.setTop (mkF m 30 #[.val (.int q1), .val (.int (0 : Int32))] []))
      refine own_step (fun t k => XS.iconst X339.here hx rfl (hb hby own_dprog_11_method_2_code_30) k) ?_
      show own_Goes p e below _ (T339.setTop (mkF m 31 #[.val (.int q1), .val (.int (0 : Int32))] [(.int (1 : Int32))]))
      refine own_retV X339 hx hlk Bd.returns (w := (.int (1 : Int32))) (own_nb (Or.inr rfl)) (Or.inl ⟨rfl, Or.inr (Or.inl rfl), _, rfl⟩) (hb hby own_dprog_11_method_2_code_31) ?_ (by decide) (by decide)
      show own_b2_Q Z q1 wN kN h0 n0 _ T339.heap _
      rw [e339]
      exact ⟨(by unfold own_ns; rw [if_pos ⟨hc338, hc340⟩]), N0, rfl⟩
theorem own_pd0 : parseMethodDescriptor "(I)Z" = some ⟨[.int], some .boolean⟩ := by decide +kernel
theorem own_law_ef (m : MethodId) (p1 : Int32) (p2 : Int32) (p3 : Int32) : entryFrame m #[(.int p1), (.int p2), (.int p3)] maxLocals = mkF m 0 #[.val (.int p1), .val (.int p2), .val (.int p3), .unset, .unset] [] := by first | (simp [entryFrame, mkF, argsToLocals, Value.category, maxLocals]; done) | rfl
set_option maxRecDepth 65536 in
set_option maxHeartbeats 40000000 in
theorem own_law (l : Launch) (Z : State) (a0 : Array Value) (hw : ∀ d ∈ tables_1, d.before a0 Z = true) (ws : List Jvm.Cond) (p1 : Int32) (p2 : Int32) (p3 : Int32) (wN : Addr) (kN : ClassId) (h0 : Heap) (n0 : Nat) (Z0 : n0 ≤ h0.size) (S_NAME_START : Sta Z Z.heap "com/example/concepta/concepta/formats/Characters" "NAME_START" "[I" (.ref wN)) (O0 : Old Z n0 h0) (V_wN : Arv Z h0 wN kN .int (28 : Int32) (([(65 : Int32), (90 : Int32), (97 : Int32), (122 : Int32), (192 : Int32), (214 : Int32), (216 : Int32), (246 : Int32), (248 : Int32), (767 : Int32), (880 : Int32), (893 : Int32), (895 : Int32), (8191 : Int32), (8204 : Int32), (8205 : Int32), (8304 : Int32), (8591 : Int32), (11264 : Int32), (12271 : Int32), (12289 : Int32), (55295 : Int32), (63744 : Int32), (64975 : Int32), (65008 : Int32), (65533 : Int32), (65536 : Int32), (983039 : Int32)] : List Int32).map Value.int) (Value.int 0)) :
    MetFree l x (head1 (Jvm.Cond.code x code maxLocals ret :: ws) room_1) (fun aa U => aa = #[(.int p1), (.int p2), (.int p3)] ∧ Z.Warmed39 U.vm ∧ U.heap = h0) (fun _ _ _ _ _ => True) (fun _ U o U' => ∃ v L, o = .returned v ∧ own_Q0 n0 v U'.heap L ∧ FrameEnd U o U' L 16 128) := by
  refine MetFree.of_bodySF (plainFor_of_name own_pn0) hisR ?_
  have w0 := hw _ (List.mem_of_getElem? (i := 0) rfl)
  have w1 := hw _ (List.mem_of_getElem? (i := 1) rfl)
  have w2 := hw _ (List.mem_of_getElem? (i := 2) rfl)
  have w3 := hw _ (List.mem_of_getElem? (i := 3) rfl)
  have w4 := hw _ (List.mem_of_getElem? (i := 4) rfl)
  have w5 := hw _ (List.mem_of_getElem? (i := 5) rfl)
  have w6 := hw _ (List.mem_of_getElem? (i := 6) rfl)
  have w7 := hw _ (List.mem_of_getElem? (i := 7) rfl)
  have w8 := hw _ (List.mem_of_getElem? (i := 8) rfl)
  have w9 := hw _ (List.mem_of_getElem? (i := 9) rfl)
  have w10 := hw _ (List.mem_of_getElem? (i := 10) rfl)
  have w11 := hw _ (List.mem_of_getElem? (i := 11) rfl)
  have w12 := hw _ (List.mem_of_getElem? (i := 12) rfl)
  have w15 := hw _ (List.mem_of_getElem? (i := 15) rfl)
  have w16 := hw _ (List.mem_of_getElem? (i := 16) rfl)
  have w17 := hw _ (List.mem_of_getElem? (i := 17) rfl)
  have w18 := hw _ (List.mem_of_getElem? (i := 18) rfl)
  intro p e s m args below meth c s₁ Bd hml0 hP hK
  obtain ⟨rfl, hZ, hh⟩ := hP
  have hx := Bd.exec
  have hby := Bd.bytes
  have hlk := Bd.notSynchronized
  have hml : c.maxLocals = 5 := hml0
  have hown : s.vm.findClass "com/example/concepta/concepta/formats/CharactersIsNameStartPinLaw" = some m.cls := findClass_of_methodNamed Bd.named
  have hnm := (name_of_methodNamed Bd.named Bd.method).1
  have X0 : Stand p l e room_1 s m #[(.int p1), (.int p2), (.int p3)] below meth c s₁ [] 0 0 := Stand.of_body Bd
  have e0 : s₁.heap = h0 := by rw [← hh, Bd.state]; rfl
  have N0 := Fr.nil n0
  have K0 : Keep h0 h0 [] := Keep.refl h0 _
  show own_Goes p e below (own_Fin s (own_Q0 n0) 16 128) _
  refine own_step (fun t k => castTop (own_law_ef m p1 p2 p3) k) ?_
  show own_Goes p e below _ (s₁.setTop (mkF m 0 #[.val (.int p1), .val (.int p2), .val (.int p3), .unset, .unset] []))
  refine own_step (fun t k => XS.bipush X0.here hx rfl (hb hby at_0) k) ?_
  show own_Goes p e below _ (s₁.setTop (mkF m 2 #[.val (.int p1), .val (.int p2), .val (.int p3), .unset, .unset] [(.int (28 : Int32))]))
  obtain ⟨T341, h341, k341, X341, e341, E341, A341, st341⟩ := newP (aty := .int) X0 hx hZ w0 e0 (g := (mkF m 2 #[.val (.int p1), .val (.int p2), .val (.int p3), .unset, .unset] [(.int (28 : Int32))])) rfl (hb hby at_2) rfl (by decide) (cap := 28) (by decide) (by decide) (by decide) (by decide)
  obtain ⟨b341, g341⟩ : ∃ z, z = h0.size := ⟨_, rfl⟩
  rw [← g341] at A341 st341
  have ne_wN_b341 : wN ≠ b341 := Nat.ne_of_lt (Nat.lt_of_lt_of_le V_wN.lt (Nat.le_of_eq g341.symm))
  have g_b341 : n0 ≤ b341 := Nat.le_trans Z0 (Nat.le_of_eq g341.symm)
  have sz_b341 : h0.size ≤ b341 := Nat.le_trans K0.1 (Nat.le_of_eq g341.symm)
  have V341 : Arv Z h341 b341 k341 .int (28 : Int32) (([(0 : Int32), (0 : Int32), (0 : Int32), (0 : Int32), (0 : Int32), (0 : Int32), (0 : Int32), (0 : Int32), (0 : Int32), (0 : Int32), (0 : Int32), (0 : Int32), (0 : Int32), (0 : Int32), (0 : Int32), (0 : Int32), (0 : Int32), (0 : Int32), (0 : Int32), (0 : Int32), (0 : Int32), (0 : Int32), (0 : Int32), (0 : Int32), (0 : Int32), (0 : Int32), (0 : Int32), (0 : Int32)] : List Int32).map Value.int) (Value.int (0 : Int32)) := own_newI A341 (by decide) 28
  have K342 : Keep h0 h341 [] := K0.ext E341
  refine own_step st341 ?_
  show own_Goes p e below _ (T341.setTop (mkF m 4 #[.val (.int p1), .val (.int p2), .val (.int p3), .unset, .unset] [(.ref b341)]))
  refine own_step (fun t k => XS.dup X341.here hx rfl (hb hby at_4) rfl rfl k) ?_
  show own_Goes p e below _ (T341.setTop (mkF m 5 #[.val (.int p1), .val (.int p2), .val (.int p3), .unset, .unset] [(.ref b341), (.ref b341)]))
  refine own_step (fun t k => XS.iconst X341.here hx rfl (hb hby at_5) k) ?_
  show own_Goes p e below _ (T341.setTop (mkF m 6 #[.val (.int p1), .val (.int p2), .val (.int p3), .unset, .unset] [(.int (0 : Int32)), (.ref b341), (.ref b341)]))
  refine own_step (fun t k => XS.bipush X341.here hx rfl (hb hby at_6) k) ?_
  show own_Goes p e below _ (T341.setTop (mkF m 8 #[.val (.int p1), .val (.int p2), .val (.int p3), .unset, .unset] [(.int (65 : Int32)), (.int (0 : Int32)), (.ref b341), (.ref b341)]))
  obtain ⟨T343, h343, X343, e343, W343, V343, st343⟩ := own_ist X341 hx hZ e341 V341 (j := (0 : Int32)) ⟨by decide, by decide⟩ (0) rfl (Nat.le_of_ble_eq_true rfl) (g := (mkF m 8 #[.val (.int p1), .val (.int p2), .val (.int p3), .unset, .unset] [(.int (65 : Int32)), (.int (0 : Int32)), (.ref b341), (.ref b341)])) rfl rfl (hb hby at_8)
  have V343 : Arv Z h343 b341 k341 .int (28 : Int32) (([(65 : Int32), (0 : Int32), (0 : Int32), (0 : Int32), (0 : Int32), (0 : Int32), (0 : Int32), (0 : Int32), (0 : Int32), (0 : Int32), (0 : Int32), (0 : Int32), (0 : Int32), (0 : Int32), (0 : Int32), (0 : Int32), (0 : Int32), (0 : Int32), (0 : Int32), (0 : Int32), (0 : Int32), (0 : Int32), (0 : Int32), (0 : Int32), (0 : Int32), (0 : Int32), (0 : Int32), (0 : Int32)] : List Int32).map Value.int) (Value.int 0) := V343
  have N343 := Fr.snoc X343 N0 g_b341
  have K344 : Keep h0 h343 [] := K342.wr W343 (Or.inr sz_b341)
  refine own_step st343 ?_
  show own_Goes p e below _ (T343.setTop (mkF m 9 #[.val (.int p1), .val (.int p2), .val (.int p3), .unset, .unset] [(.ref b341)]))
  refine own_step (fun t k => XS.dup X343.here hx rfl (hb hby at_9) rfl rfl k) ?_
  show own_Goes p e below _ (T343.setTop (mkF m 10 #[.val (.int p1), .val (.int p2), .val (.int p3), .unset, .unset] [(.ref b341), (.ref b341)]))
  refine own_step (fun t k => XS.iconst X343.here hx rfl (hb hby at_10) k) ?_
  show own_Goes p e below _ (T343.setTop (mkF m 11 #[.val (.int p1), .val (.int p2), .val (.int p3), .unset, .unset] [(.int (1 : Int32)), (.ref b341), (.ref b341)]))
  refine own_step (fun t k => XS.bipush X343.here hx rfl (hb hby at_11) k) ?_
  show own_Goes p e below _ (T343.setTop (mkF m 13 #[.val (.int p1), .val (.int p2), .val (.int p3), .unset, .unset] [(.int (90 : Int32)), (.int (1 : Int32)), (.ref b341), (.ref b341)]))
  obtain ⟨T345, h345, X345, e345, W345, V345, st345⟩ := own_ist X343 hx hZ e343 V343 (j := (1 : Int32)) ⟨by decide, by decide⟩ (1) rfl (Nat.le_of_ble_eq_true rfl) (g := (mkF m 13 #[.val (.int p1), .val (.int p2), .val (.int p3), .unset, .unset] [(.int (90 : Int32)), (.int (1 : Int32)), (.ref b341), (.ref b341)])) rfl rfl (hb hby at_13)
  have V345 : Arv Z h345 b341 k341 .int (28 : Int32) (([(65 : Int32), (90 : Int32), (0 : Int32), (0 : Int32), (0 : Int32), (0 : Int32), (0 : Int32), (0 : Int32), (0 : Int32), (0 : Int32), (0 : Int32), (0 : Int32), (0 : Int32), (0 : Int32), (0 : Int32), (0 : Int32), (0 : Int32), (0 : Int32), (0 : Int32), (0 : Int32), (0 : Int32), (0 : Int32), (0 : Int32), (0 : Int32), (0 : Int32), (0 : Int32), (0 : Int32), (0 : Int32)] : List Int32).map Value.int) (Value.int 0) := V345
  have N345 := Fr.snoc X345 N343 g_b341
  have K346 : Keep h0 h345 [] := K344.wr W345 (Or.inr sz_b341)
  refine own_step st345 ?_
  show own_Goes p e below _ (T345.setTop (mkF m 14 #[.val (.int p1), .val (.int p2), .val (.int p3), .unset, .unset] [(.ref b341)]))
  refine own_step (fun t k => XS.dup X345.here hx rfl (hb hby at_14) rfl rfl k) ?_
  show own_Goes p e below _ (T345.setTop (mkF m 15 #[.val (.int p1), .val (.int p2), .val (.int p3), .unset, .unset] [(.ref b341), (.ref b341)]))
  refine own_step (fun t k => XS.iconst X345.here hx rfl (hb hby at_15) k) ?_
  show own_Goes p e below _ (T345.setTop (mkF m 16 #[.val (.int p1), .val (.int p2), .val (.int p3), .unset, .unset] [(.int (2 : Int32)), (.ref b341), (.ref b341)]))
  refine own_step (fun t k => XS.bipush X345.here hx rfl (hb hby at_16) k) ?_
  show own_Goes p e below _ (T345.setTop (mkF m 18 #[.val (.int p1), .val (.int p2), .val (.int p3), .unset, .unset] [(.int (97 : Int32)), (.int (2 : Int32)), (.ref b341), (.ref b341)]))
  obtain ⟨T347, h347, X347, e347, W347, V347, st347⟩ := own_ist X345 hx hZ e345 V345 (j := (2 : Int32)) ⟨by decide, by decide⟩ (2) rfl (Nat.le_of_ble_eq_true rfl) (g := (mkF m 18 #[.val (.int p1), .val (.int p2), .val (.int p3), .unset, .unset] [(.int (97 : Int32)), (.int (2 : Int32)), (.ref b341), (.ref b341)])) rfl rfl (hb hby at_18)
  have V347 : Arv Z h347 b341 k341 .int (28 : Int32) (([(65 : Int32), (90 : Int32), (97 : Int32), (0 : Int32), (0 : Int32), (0 : Int32), (0 : Int32), (0 : Int32), (0 : Int32), (0 : Int32), (0 : Int32), (0 : Int32), (0 : Int32), (0 : Int32), (0 : Int32), (0 : Int32), (0 : Int32), (0 : Int32), (0 : Int32), (0 : Int32), (0 : Int32), (0 : Int32), (0 : Int32), (0 : Int32), (0 : Int32), (0 : Int32), (0 : Int32), (0 : Int32)] : List Int32).map Value.int) (Value.int 0) := V347
  have N347 := Fr.snoc X347 N345 g_b341
  have K348 : Keep h0 h347 [] := K346.wr W347 (Or.inr sz_b341)
  refine own_step st347 ?_
  show own_Goes p e below _ (T347.setTop (mkF m 19 #[.val (.int p1), .val (.int p2), .val (.int p3), .unset, .unset] [(.ref b341)]))
  refine own_step (fun t k => XS.dup X347.here hx rfl (hb hby at_19) rfl rfl k) ?_
  show own_Goes p e below _ (T347.setTop (mkF m 20 #[.val (.int p1), .val (.int p2), .val (.int p3), .unset, .unset] [(.ref b341), (.ref b341)]))
  refine own_step (fun t k => XS.iconst X347.here hx rfl (hb hby at_20) k) ?_
  show own_Goes p e below _ (T347.setTop (mkF m 21 #[.val (.int p1), .val (.int p2), .val (.int p3), .unset, .unset] [(.int (3 : Int32)), (.ref b341), (.ref b341)]))
  refine own_step (fun t k => XS.bipush X347.here hx rfl (hb hby at_21) k) ?_
  show own_Goes p e below _ (T347.setTop (mkF m 23 #[.val (.int p1), .val (.int p2), .val (.int p3), .unset, .unset] [(.int (122 : Int32)), (.int (3 : Int32)), (.ref b341), (.ref b341)]))
  obtain ⟨T349, h349, X349, e349, W349, V349, st349⟩ := own_ist X347 hx hZ e347 V347 (j := (3 : Int32)) ⟨by decide, by decide⟩ (3) rfl (Nat.le_of_ble_eq_true rfl) (g := (mkF m 23 #[.val (.int p1), .val (.int p2), .val (.int p3), .unset, .unset] [(.int (122 : Int32)), (.int (3 : Int32)), (.ref b341), (.ref b341)])) rfl rfl (hb hby at_23)
  have V349 : Arv Z h349 b341 k341 .int (28 : Int32) (([(65 : Int32), (90 : Int32), (97 : Int32), (122 : Int32), (0 : Int32), (0 : Int32), (0 : Int32), (0 : Int32), (0 : Int32), (0 : Int32), (0 : Int32), (0 : Int32), (0 : Int32), (0 : Int32), (0 : Int32), (0 : Int32), (0 : Int32), (0 : Int32), (0 : Int32), (0 : Int32), (0 : Int32), (0 : Int32), (0 : Int32), (0 : Int32), (0 : Int32), (0 : Int32), (0 : Int32), (0 : Int32)] : List Int32).map Value.int) (Value.int 0) := V349
  have N349 := Fr.snoc X349 N347 g_b341
  have K350 : Keep h0 h349 [] := K348.wr W349 (Or.inr sz_b341)
  refine own_step st349 ?_
  show own_Goes p e below _ (T349.setTop (mkF m 24 #[.val (.int p1), .val (.int p2), .val (.int p3), .unset, .unset] [(.ref b341)]))
  refine own_step (fun t k => XS.dup X349.here hx rfl (hb hby at_24) rfl rfl k) ?_
  show own_Goes p e below _ (T349.setTop (mkF m 25 #[.val (.int p1), .val (.int p2), .val (.int p3), .unset, .unset] [(.ref b341), (.ref b341)]))
  refine own_step (fun t k => XS.iconst X349.here hx rfl (hb hby at_25) k) ?_
  show own_Goes p e below _ (T349.setTop (mkF m 26 #[.val (.int p1), .val (.int p2), .val (.int p3), .unset, .unset] [(.int (4 : Int32)), (.ref b341), (.ref b341)]))
  refine own_step (fun t k => XS.sipush X349.here hx rfl (hb hby at_26) k) ?_
  show own_Goes p e below _ (T349.setTop (mkF m 29 #[.val (.int p1), .val (.int p2), .val (.int p3), .unset, .unset] [(.int (192 : Int32)), (.int (4 : Int32)), (.ref b341), (.ref b341)]))
  obtain ⟨T351, h351, X351, e351, W351, V351, st351⟩ := own_ist X349 hx hZ e349 V349 (j := (4 : Int32)) ⟨by decide, by decide⟩ (4) rfl (Nat.le_of_ble_eq_true rfl) (g := (mkF m 29 #[.val (.int p1), .val (.int p2), .val (.int p3), .unset, .unset] [(.int (192 : Int32)), (.int (4 : Int32)), (.ref b341), (.ref b341)])) rfl rfl (hb hby at_29)
  have V351 : Arv Z h351 b341 k341 .int (28 : Int32) (([(65 : Int32), (90 : Int32), (97 : Int32), (122 : Int32), (192 : Int32), (0 : Int32), (0 : Int32), (0 : Int32), (0 : Int32), (0 : Int32), (0 : Int32), (0 : Int32), (0 : Int32), (0 : Int32), (0 : Int32), (0 : Int32), (0 : Int32), (0 : Int32), (0 : Int32), (0 : Int32), (0 : Int32), (0 : Int32), (0 : Int32), (0 : Int32), (0 : Int32), (0 : Int32), (0 : Int32), (0 : Int32)] : List Int32).map Value.int) (Value.int 0) := V351
  have N351 := Fr.snoc X351 N349 g_b341
  have K352 : Keep h0 h351 [] := K350.wr W351 (Or.inr sz_b341)
  refine own_step st351 ?_
  show own_Goes p e below _ (T351.setTop (mkF m 30 #[.val (.int p1), .val (.int p2), .val (.int p3), .unset, .unset] [(.ref b341)]))
  refine own_step (fun t k => XS.dup X351.here hx rfl (hb hby at_30) rfl rfl k) ?_
  show own_Goes p e below _ (T351.setTop (mkF m 31 #[.val (.int p1), .val (.int p2), .val (.int p3), .unset, .unset] [(.ref b341), (.ref b341)]))
  refine own_step (fun t k => XS.iconst X351.here hx rfl (hb hby at_31) k) ?_
  show own_Goes p e below _ (T351.setTop (mkF m 32 #[.val (.int p1), .val (.int p2), .val (.int p3), .unset, .unset] [(.int (5 : Int32)), (.ref b341), (.ref b341)]))
  refine own_step (fun t k => XS.sipush X351.here hx rfl (hb hby at_32) k) ?_
  show own_Goes p e below _ (T351.setTop (mkF m 35 #[.val (.int p1), .val (.int p2), .val (.int p3), .unset, .unset] [(.int (214 : Int32)), (.int (5 : Int32)), (.ref b341), (.ref b341)]))
  obtain ⟨T353, h353, X353, e353, W353, V353, st353⟩ := own_ist X351 hx hZ e351 V351 (j := (5 : Int32)) ⟨by decide, by decide⟩ (5) rfl (Nat.le_of_ble_eq_true rfl) (g := (mkF m 35 #[.val (.int p1), .val (.int p2), .val (.int p3), .unset, .unset] [(.int (214 : Int32)), (.int (5 : Int32)), (.ref b341), (.ref b341)])) rfl rfl (hb hby at_35)
  have V353 : Arv Z h353 b341 k341 .int (28 : Int32) (([(65 : Int32), (90 : Int32), (97 : Int32), (122 : Int32), (192 : Int32), (214 : Int32), (0 : Int32), (0 : Int32), (0 : Int32), (0 : Int32), (0 : Int32), (0 : Int32), (0 : Int32), (0 : Int32), (0 : Int32), (0 : Int32), (0 : Int32), (0 : Int32), (0 : Int32), (0 : Int32), (0 : Int32), (0 : Int32), (0 : Int32), (0 : Int32), (0 : Int32), (0 : Int32), (0 : Int32), (0 : Int32)] : List Int32).map Value.int) (Value.int 0) := V353
  have N353 := Fr.snoc X353 N351 g_b341
  have K354 : Keep h0 h353 [] := K352.wr W353 (Or.inr sz_b341)
  refine own_step st353 ?_
  show own_Goes p e below _ (T353.setTop (mkF m 36 #[.val (.int p1), .val (.int p2), .val (.int p3), .unset, .unset] [(.ref b341)]))
  refine own_step (fun t k => XS.dup X353.here hx rfl (hb hby at_36) rfl rfl k) ?_
  show own_Goes p e below _ (T353.setTop (mkF m 37 #[.val (.int p1), .val (.int p2), .val (.int p3), .unset, .unset] [(.ref b341), (.ref b341)]))
  refine own_step (fun t k => XS.bipush X353.here hx rfl (hb hby at_37) k) ?_
  show own_Goes p e below _ (T353.setTop (mkF m 39 #[.val (.int p1), .val (.int p2), .val (.int p3), .unset, .unset] [(.int (6 : Int32)), (.ref b341), (.ref b341)]))
  refine own_step (fun t k => XS.sipush X353.here hx rfl (hb hby at_39) k) ?_
  show own_Goes p e below _ (T353.setTop (mkF m 42 #[.val (.int p1), .val (.int p2), .val (.int p3), .unset, .unset] [(.int (216 : Int32)), (.int (6 : Int32)), (.ref b341), (.ref b341)]))
  obtain ⟨T355, h355, X355, e355, W355, V355, st355⟩ := own_ist X353 hx hZ e353 V353 (j := (6 : Int32)) ⟨by decide, by decide⟩ (6) rfl (Nat.le_of_ble_eq_true rfl) (g := (mkF m 42 #[.val (.int p1), .val (.int p2), .val (.int p3), .unset, .unset] [(.int (216 : Int32)), (.int (6 : Int32)), (.ref b341), (.ref b341)])) rfl rfl (hb hby at_42)
  have V355 : Arv Z h355 b341 k341 .int (28 : Int32) (([(65 : Int32), (90 : Int32), (97 : Int32), (122 : Int32), (192 : Int32), (214 : Int32), (216 : Int32), (0 : Int32), (0 : Int32), (0 : Int32), (0 : Int32), (0 : Int32), (0 : Int32), (0 : Int32), (0 : Int32), (0 : Int32), (0 : Int32), (0 : Int32), (0 : Int32), (0 : Int32), (0 : Int32), (0 : Int32), (0 : Int32), (0 : Int32), (0 : Int32), (0 : Int32), (0 : Int32), (0 : Int32)] : List Int32).map Value.int) (Value.int 0) := V355
  have N355 := Fr.snoc X355 N353 g_b341
  have K356 : Keep h0 h355 [] := K354.wr W355 (Or.inr sz_b341)
  refine own_step st355 ?_
  show own_Goes p e below _ (T355.setTop (mkF m 43 #[.val (.int p1), .val (.int p2), .val (.int p3), .unset, .unset] [(.ref b341)]))
  refine own_step (fun t k => XS.dup X355.here hx rfl (hb hby at_43) rfl rfl k) ?_
  show own_Goes p e below _ (T355.setTop (mkF m 44 #[.val (.int p1), .val (.int p2), .val (.int p3), .unset, .unset] [(.ref b341), (.ref b341)]))
  refine own_step (fun t k => XS.bipush X355.here hx rfl (hb hby at_44) k) ?_
  show own_Goes p e below _ (T355.setTop (mkF m 46 #[.val (.int p1), .val (.int p2), .val (.int p3), .unset, .unset] [(.int (7 : Int32)), (.ref b341), (.ref b341)]))
  refine own_step (fun t k => XS.sipush X355.here hx rfl (hb hby at_46) k) ?_
  show own_Goes p e below _ (T355.setTop (mkF m 49 #[.val (.int p1), .val (.int p2), .val (.int p3), .unset, .unset] [(.int (246 : Int32)), (.int (7 : Int32)), (.ref b341), (.ref b341)]))
  obtain ⟨T357, h357, X357, e357, W357, V357, st357⟩ := own_ist X355 hx hZ e355 V355 (j := (7 : Int32)) ⟨by decide, by decide⟩ (7) rfl (Nat.le_of_ble_eq_true rfl) (g := (mkF m 49 #[.val (.int p1), .val (.int p2), .val (.int p3), .unset, .unset] [(.int (246 : Int32)), (.int (7 : Int32)), (.ref b341), (.ref b341)])) rfl rfl (hb hby at_49)
  have V357 : Arv Z h357 b341 k341 .int (28 : Int32) (([(65 : Int32), (90 : Int32), (97 : Int32), (122 : Int32), (192 : Int32), (214 : Int32), (216 : Int32), (246 : Int32), (0 : Int32), (0 : Int32), (0 : Int32), (0 : Int32), (0 : Int32), (0 : Int32), (0 : Int32), (0 : Int32), (0 : Int32), (0 : Int32), (0 : Int32), (0 : Int32), (0 : Int32), (0 : Int32), (0 : Int32), (0 : Int32), (0 : Int32), (0 : Int32), (0 : Int32), (0 : Int32)] : List Int32).map Value.int) (Value.int 0) := V357
  have N357 := Fr.snoc X357 N355 g_b341
  have K358 : Keep h0 h357 [] := K356.wr W357 (Or.inr sz_b341)
  refine own_step st357 ?_
  show own_Goes p e below _ (T357.setTop (mkF m 50 #[.val (.int p1), .val (.int p2), .val (.int p3), .unset, .unset] [(.ref b341)]))
  refine own_step (fun t k => XS.dup X357.here hx rfl (hb hby at_50) rfl rfl k) ?_
  show own_Goes p e below _ (T357.setTop (mkF m 51 #[.val (.int p1), .val (.int p2), .val (.int p3), .unset, .unset] [(.ref b341), (.ref b341)]))
  refine own_step (fun t k => XS.bipush X357.here hx rfl (hb hby at_51) k) ?_
  show own_Goes p e below _ (T357.setTop (mkF m 53 #[.val (.int p1), .val (.int p2), .val (.int p3), .unset, .unset] [(.int (8 : Int32)), (.ref b341), (.ref b341)]))
  refine own_step (fun t k => XS.sipush X357.here hx rfl (hb hby at_53) k) ?_
  show own_Goes p e below _ (T357.setTop (mkF m 56 #[.val (.int p1), .val (.int p2), .val (.int p3), .unset, .unset] [(.int (248 : Int32)), (.int (8 : Int32)), (.ref b341), (.ref b341)]))
  obtain ⟨T359, h359, X359, e359, W359, V359, st359⟩ := own_ist X357 hx hZ e357 V357 (j := (8 : Int32)) ⟨by decide, by decide⟩ (8) rfl (Nat.le_of_ble_eq_true rfl) (g := (mkF m 56 #[.val (.int p1), .val (.int p2), .val (.int p3), .unset, .unset] [(.int (248 : Int32)), (.int (8 : Int32)), (.ref b341), (.ref b341)])) rfl rfl (hb hby at_56)
  have V359 : Arv Z h359 b341 k341 .int (28 : Int32) (([(65 : Int32), (90 : Int32), (97 : Int32), (122 : Int32), (192 : Int32), (214 : Int32), (216 : Int32), (246 : Int32), (248 : Int32), (0 : Int32), (0 : Int32), (0 : Int32), (0 : Int32), (0 : Int32), (0 : Int32), (0 : Int32), (0 : Int32), (0 : Int32), (0 : Int32), (0 : Int32), (0 : Int32), (0 : Int32), (0 : Int32), (0 : Int32), (0 : Int32), (0 : Int32), (0 : Int32), (0 : Int32)] : List Int32).map Value.int) (Value.int 0) := V359
  have N359 := Fr.snoc X359 N357 g_b341
  have K360 : Keep h0 h359 [] := K358.wr W359 (Or.inr sz_b341)
  refine own_step st359 ?_
  show own_Goes p e below _ (T359.setTop (mkF m 57 #[.val (.int p1), .val (.int p2), .val (.int p3), .unset, .unset] [(.ref b341)]))
  refine own_step (fun t k => XS.dup X359.here hx rfl (hb hby at_57) rfl rfl k) ?_
  show own_Goes p e below _ (T359.setTop (mkF m 58 #[.val (.int p1), .val (.int p2), .val (.int p3), .unset, .unset] [(.ref b341), (.ref b341)]))
  refine own_step (fun t k => XS.bipush X359.here hx rfl (hb hby at_58) k) ?_
  show own_Goes p e below _ (T359.setTop (mkF m 60 #[.val (.int p1), .val (.int p2), .val (.int p3), .unset, .unset] [(.int (9 : Int32)), (.ref b341), (.ref b341)]))
  refine own_step (fun t k => XS.sipush X359.here hx rfl (hb hby at_60) k) ?_
  show own_Goes p e below _ (T359.setTop (mkF m 63 #[.val (.int p1), .val (.int p2), .val (.int p3), .unset, .unset] [(.int (767 : Int32)), (.int (9 : Int32)), (.ref b341), (.ref b341)]))
  obtain ⟨T361, h361, X361, e361, W361, V361, st361⟩ := own_ist X359 hx hZ e359 V359 (j := (9 : Int32)) ⟨by decide, by decide⟩ (9) rfl (Nat.le_of_ble_eq_true rfl) (g := (mkF m 63 #[.val (.int p1), .val (.int p2), .val (.int p3), .unset, .unset] [(.int (767 : Int32)), (.int (9 : Int32)), (.ref b341), (.ref b341)])) rfl rfl (hb hby at_63)
  have V361 : Arv Z h361 b341 k341 .int (28 : Int32) (([(65 : Int32), (90 : Int32), (97 : Int32), (122 : Int32), (192 : Int32), (214 : Int32), (216 : Int32), (246 : Int32), (248 : Int32), (767 : Int32), (0 : Int32), (0 : Int32), (0 : Int32), (0 : Int32), (0 : Int32), (0 : Int32), (0 : Int32), (0 : Int32), (0 : Int32), (0 : Int32), (0 : Int32), (0 : Int32), (0 : Int32), (0 : Int32), (0 : Int32), (0 : Int32), (0 : Int32), (0 : Int32)] : List Int32).map Value.int) (Value.int 0) := V361
  have N361 := Fr.snoc X361 N359 g_b341
  have K362 : Keep h0 h361 [] := K360.wr W361 (Or.inr sz_b341)
  refine own_step st361 ?_
  show own_Goes p e below _ (T361.setTop (mkF m 64 #[.val (.int p1), .val (.int p2), .val (.int p3), .unset, .unset] [(.ref b341)]))
  refine own_step (fun t k => XS.dup X361.here hx rfl (hb hby at_64) rfl rfl k) ?_
  show own_Goes p e below _ (T361.setTop (mkF m 65 #[.val (.int p1), .val (.int p2), .val (.int p3), .unset, .unset] [(.ref b341), (.ref b341)]))
  refine own_step (fun t k => XS.bipush X361.here hx rfl (hb hby at_65) k) ?_
  show own_Goes p e below _ (T361.setTop (mkF m 67 #[.val (.int p1), .val (.int p2), .val (.int p3), .unset, .unset] [(.int (10 : Int32)), (.ref b341), (.ref b341)]))
  refine own_step (fun t k => XS.sipush X361.here hx rfl (hb hby at_67) k) ?_
  show own_Goes p e below _ (T361.setTop (mkF m 70 #[.val (.int p1), .val (.int p2), .val (.int p3), .unset, .unset] [(.int (880 : Int32)), (.int (10 : Int32)), (.ref b341), (.ref b341)]))
  obtain ⟨T363, h363, X363, e363, W363, V363, st363⟩ := own_ist X361 hx hZ e361 V361 (j := (10 : Int32)) ⟨by decide, by decide⟩ (10) rfl (Nat.le_of_ble_eq_true rfl) (g := (mkF m 70 #[.val (.int p1), .val (.int p2), .val (.int p3), .unset, .unset] [(.int (880 : Int32)), (.int (10 : Int32)), (.ref b341), (.ref b341)])) rfl rfl (hb hby at_70)
  have V363 : Arv Z h363 b341 k341 .int (28 : Int32) (([(65 : Int32), (90 : Int32), (97 : Int32), (122 : Int32), (192 : Int32), (214 : Int32), (216 : Int32), (246 : Int32), (248 : Int32), (767 : Int32), (880 : Int32), (0 : Int32), (0 : Int32), (0 : Int32), (0 : Int32), (0 : Int32), (0 : Int32), (0 : Int32), (0 : Int32), (0 : Int32), (0 : Int32), (0 : Int32), (0 : Int32), (0 : Int32), (0 : Int32), (0 : Int32), (0 : Int32), (0 : Int32)] : List Int32).map Value.int) (Value.int 0) := V363
  have N363 := Fr.snoc X363 N361 g_b341
  have K364 : Keep h0 h363 [] := K362.wr W363 (Or.inr sz_b341)
  refine own_step st363 ?_
  show own_Goes p e below _ (T363.setTop (mkF m 71 #[.val (.int p1), .val (.int p2), .val (.int p3), .unset, .unset] [(.ref b341)]))
  refine own_step (fun t k => XS.dup X363.here hx rfl (hb hby at_71) rfl rfl k) ?_
  show own_Goes p e below _ (T363.setTop (mkF m 72 #[.val (.int p1), .val (.int p2), .val (.int p3), .unset, .unset] [(.ref b341), (.ref b341)]))
  refine own_step (fun t k => XS.bipush X363.here hx rfl (hb hby at_72) k) ?_
  show own_Goes p e below _ (T363.setTop (mkF m 74 #[.val (.int p1), .val (.int p2), .val (.int p3), .unset, .unset] [(.int (11 : Int32)), (.ref b341), (.ref b341)]))
  refine own_step (fun t k => XS.sipush X363.here hx rfl (hb hby at_74) k) ?_
  show own_Goes p e below _ (T363.setTop (mkF m 77 #[.val (.int p1), .val (.int p2), .val (.int p3), .unset, .unset] [(.int (893 : Int32)), (.int (11 : Int32)), (.ref b341), (.ref b341)]))
  obtain ⟨T365, h365, X365, e365, W365, V365, st365⟩ := own_ist X363 hx hZ e363 V363 (j := (11 : Int32)) ⟨by decide, by decide⟩ (11) rfl (Nat.le_of_ble_eq_true rfl) (g := (mkF m 77 #[.val (.int p1), .val (.int p2), .val (.int p3), .unset, .unset] [(.int (893 : Int32)), (.int (11 : Int32)), (.ref b341), (.ref b341)])) rfl rfl (hb hby at_77)
  have V365 : Arv Z h365 b341 k341 .int (28 : Int32) (([(65 : Int32), (90 : Int32), (97 : Int32), (122 : Int32), (192 : Int32), (214 : Int32), (216 : Int32), (246 : Int32), (248 : Int32), (767 : Int32), (880 : Int32), (893 : Int32), (0 : Int32), (0 : Int32), (0 : Int32), (0 : Int32), (0 : Int32), (0 : Int32), (0 : Int32), (0 : Int32), (0 : Int32), (0 : Int32), (0 : Int32), (0 : Int32), (0 : Int32), (0 : Int32), (0 : Int32), (0 : Int32)] : List Int32).map Value.int) (Value.int 0) := V365
  have N365 := Fr.snoc X365 N363 g_b341
  have K366 : Keep h0 h365 [] := K364.wr W365 (Or.inr sz_b341)
  refine own_step st365 ?_
  show own_Goes p e below _ (T365.setTop (mkF m 78 #[.val (.int p1), .val (.int p2), .val (.int p3), .unset, .unset] [(.ref b341)]))
  refine own_step (fun t k => XS.dup X365.here hx rfl (hb hby at_78) rfl rfl k) ?_
  show own_Goes p e below _ (T365.setTop (mkF m 79 #[.val (.int p1), .val (.int p2), .val (.int p3), .unset, .unset] [(.ref b341), (.ref b341)]))
  refine own_step (fun t k => XS.bipush X365.here hx rfl (hb hby at_79) k) ?_
  show own_Goes p e below _ (T365.setTop (mkF m 81 #[.val (.int p1), .val (.int p2), .val (.int p3), .unset, .unset] [(.int (12 : Int32)), (.ref b341), (.ref b341)]))
  refine own_step (fun t k => XS.sipush X365.here hx rfl (hb hby at_81) k) ?_
  show own_Goes p e below _ (T365.setTop (mkF m 84 #[.val (.int p1), .val (.int p2), .val (.int p3), .unset, .unset] [(.int (895 : Int32)), (.int (12 : Int32)), (.ref b341), (.ref b341)]))
  obtain ⟨T367, h367, X367, e367, W367, V367, st367⟩ := own_ist X365 hx hZ e365 V365 (j := (12 : Int32)) ⟨by decide, by decide⟩ (12) rfl (Nat.le_of_ble_eq_true rfl) (g := (mkF m 84 #[.val (.int p1), .val (.int p2), .val (.int p3), .unset, .unset] [(.int (895 : Int32)), (.int (12 : Int32)), (.ref b341), (.ref b341)])) rfl rfl (hb hby at_84)
  have V367 : Arv Z h367 b341 k341 .int (28 : Int32) (([(65 : Int32), (90 : Int32), (97 : Int32), (122 : Int32), (192 : Int32), (214 : Int32), (216 : Int32), (246 : Int32), (248 : Int32), (767 : Int32), (880 : Int32), (893 : Int32), (895 : Int32), (0 : Int32), (0 : Int32), (0 : Int32), (0 : Int32), (0 : Int32), (0 : Int32), (0 : Int32), (0 : Int32), (0 : Int32), (0 : Int32), (0 : Int32), (0 : Int32), (0 : Int32), (0 : Int32), (0 : Int32)] : List Int32).map Value.int) (Value.int 0) := V367
  have N367 := Fr.snoc X367 N365 g_b341
  have K368 : Keep h0 h367 [] := K366.wr W367 (Or.inr sz_b341)
  refine own_step st367 ?_
  show own_Goes p e below _ (T367.setTop (mkF m 85 #[.val (.int p1), .val (.int p2), .val (.int p3), .unset, .unset] [(.ref b341)]))
  refine own_step (fun t k => XS.dup X367.here hx rfl (hb hby at_85) rfl rfl k) ?_
  show own_Goes p e below _ (T367.setTop (mkF m 86 #[.val (.int p1), .val (.int p2), .val (.int p3), .unset, .unset] [(.ref b341), (.ref b341)]))
  refine own_step (fun t k => XS.bipush X367.here hx rfl (hb hby at_86) k) ?_
  show own_Goes p e below _ (T367.setTop (mkF m 88 #[.val (.int p1), .val (.int p2), .val (.int p3), .unset, .unset] [(.int (13 : Int32)), (.ref b341), (.ref b341)]))
  refine own_step (fun t k => XS.sipush X367.here hx rfl (hb hby at_88) k) ?_
  show own_Goes p e below _ (T367.setTop (mkF m 91 #[.val (.int p1), .val (.int p2), .val (.int p3), .unset, .unset] [(.int (8191 : Int32)), (.int (13 : Int32)), (.ref b341), (.ref b341)]))
  obtain ⟨T369, h369, X369, e369, W369, V369, st369⟩ := own_ist X367 hx hZ e367 V367 (j := (13 : Int32)) ⟨by decide, by decide⟩ (13) rfl (Nat.le_of_ble_eq_true rfl) (g := (mkF m 91 #[.val (.int p1), .val (.int p2), .val (.int p3), .unset, .unset] [(.int (8191 : Int32)), (.int (13 : Int32)), (.ref b341), (.ref b341)])) rfl rfl (hb hby at_91)
  have V369 : Arv Z h369 b341 k341 .int (28 : Int32) (([(65 : Int32), (90 : Int32), (97 : Int32), (122 : Int32), (192 : Int32), (214 : Int32), (216 : Int32), (246 : Int32), (248 : Int32), (767 : Int32), (880 : Int32), (893 : Int32), (895 : Int32), (8191 : Int32), (0 : Int32), (0 : Int32), (0 : Int32), (0 : Int32), (0 : Int32), (0 : Int32), (0 : Int32), (0 : Int32), (0 : Int32), (0 : Int32), (0 : Int32), (0 : Int32), (0 : Int32), (0 : Int32)] : List Int32).map Value.int) (Value.int 0) := V369
  have N369 := Fr.snoc X369 N367 g_b341
  have K370 : Keep h0 h369 [] := K368.wr W369 (Or.inr sz_b341)
  refine own_step st369 ?_
  show own_Goes p e below _ (T369.setTop (mkF m 92 #[.val (.int p1), .val (.int p2), .val (.int p3), .unset, .unset] [(.ref b341)]))
  refine own_step (fun t k => XS.dup X369.here hx rfl (hb hby at_92) rfl rfl k) ?_
  show own_Goes p e below _ (T369.setTop (mkF m 93 #[.val (.int p1), .val (.int p2), .val (.int p3), .unset, .unset] [(.ref b341), (.ref b341)]))
  refine own_step (fun t k => XS.bipush X369.here hx rfl (hb hby at_93) k) ?_
  show own_Goes p e below _ (T369.setTop (mkF m 95 #[.val (.int p1), .val (.int p2), .val (.int p3), .unset, .unset] [(.int (14 : Int32)), (.ref b341), (.ref b341)]))
  refine own_step (fun t k => XS.sipush X369.here hx rfl (hb hby at_95) k) ?_
  show own_Goes p e below _ (T369.setTop (mkF m 98 #[.val (.int p1), .val (.int p2), .val (.int p3), .unset, .unset] [(.int (8204 : Int32)), (.int (14 : Int32)), (.ref b341), (.ref b341)]))
  obtain ⟨T371, h371, X371, e371, W371, V371, st371⟩ := own_ist X369 hx hZ e369 V369 (j := (14 : Int32)) ⟨by decide, by decide⟩ (14) rfl (Nat.le_of_ble_eq_true rfl) (g := (mkF m 98 #[.val (.int p1), .val (.int p2), .val (.int p3), .unset, .unset] [(.int (8204 : Int32)), (.int (14 : Int32)), (.ref b341), (.ref b341)])) rfl rfl (hb hby at_98)
  have V371 : Arv Z h371 b341 k341 .int (28 : Int32) (([(65 : Int32), (90 : Int32), (97 : Int32), (122 : Int32), (192 : Int32), (214 : Int32), (216 : Int32), (246 : Int32), (248 : Int32), (767 : Int32), (880 : Int32), (893 : Int32), (895 : Int32), (8191 : Int32), (8204 : Int32), (0 : Int32), (0 : Int32), (0 : Int32), (0 : Int32), (0 : Int32), (0 : Int32), (0 : Int32), (0 : Int32), (0 : Int32), (0 : Int32), (0 : Int32), (0 : Int32), (0 : Int32)] : List Int32).map Value.int) (Value.int 0) := V371
  have N371 := Fr.snoc X371 N369 g_b341
  have K372 : Keep h0 h371 [] := K370.wr W371 (Or.inr sz_b341)
  refine own_step st371 ?_
  show own_Goes p e below _ (T371.setTop (mkF m 99 #[.val (.int p1), .val (.int p2), .val (.int p3), .unset, .unset] [(.ref b341)]))
  refine own_step (fun t k => XS.dup X371.here hx rfl (hb hby at_99) rfl rfl k) ?_
  show own_Goes p e below _ (T371.setTop (mkF m 100 #[.val (.int p1), .val (.int p2), .val (.int p3), .unset, .unset] [(.ref b341), (.ref b341)]))
  refine own_step (fun t k => XS.bipush X371.here hx rfl (hb hby at_100) k) ?_
  show own_Goes p e below _ (T371.setTop (mkF m 102 #[.val (.int p1), .val (.int p2), .val (.int p3), .unset, .unset] [(.int (15 : Int32)), (.ref b341), (.ref b341)]))
  refine own_step (fun t k => XS.sipush X371.here hx rfl (hb hby at_102) k) ?_
  show own_Goes p e below _ (T371.setTop (mkF m 105 #[.val (.int p1), .val (.int p2), .val (.int p3), .unset, .unset] [(.int (8205 : Int32)), (.int (15 : Int32)), (.ref b341), (.ref b341)]))
  obtain ⟨T373, h373, X373, e373, W373, V373, st373⟩ := own_ist X371 hx hZ e371 V371 (j := (15 : Int32)) ⟨by decide, by decide⟩ (15) rfl (Nat.le_of_ble_eq_true rfl) (g := (mkF m 105 #[.val (.int p1), .val (.int p2), .val (.int p3), .unset, .unset] [(.int (8205 : Int32)), (.int (15 : Int32)), (.ref b341), (.ref b341)])) rfl rfl (hb hby at_105)
  have V373 : Arv Z h373 b341 k341 .int (28 : Int32) (([(65 : Int32), (90 : Int32), (97 : Int32), (122 : Int32), (192 : Int32), (214 : Int32), (216 : Int32), (246 : Int32), (248 : Int32), (767 : Int32), (880 : Int32), (893 : Int32), (895 : Int32), (8191 : Int32), (8204 : Int32), (8205 : Int32), (0 : Int32), (0 : Int32), (0 : Int32), (0 : Int32), (0 : Int32), (0 : Int32), (0 : Int32), (0 : Int32), (0 : Int32), (0 : Int32), (0 : Int32), (0 : Int32)] : List Int32).map Value.int) (Value.int 0) := V373
  have N373 := Fr.snoc X373 N371 g_b341
  have K374 : Keep h0 h373 [] := K372.wr W373 (Or.inr sz_b341)
  refine own_step st373 ?_
  show own_Goes p e below _ (T373.setTop (mkF m 106 #[.val (.int p1), .val (.int p2), .val (.int p3), .unset, .unset] [(.ref b341)]))
  refine own_step (fun t k => XS.dup X373.here hx rfl (hb hby at_106) rfl rfl k) ?_
  show own_Goes p e below _ (T373.setTop (mkF m 107 #[.val (.int p1), .val (.int p2), .val (.int p3), .unset, .unset] [(.ref b341), (.ref b341)]))
  refine own_step (fun t k => XS.bipush X373.here hx rfl (hb hby at_107) k) ?_
  show own_Goes p e below _ (T373.setTop (mkF m 109 #[.val (.int p1), .val (.int p2), .val (.int p3), .unset, .unset] [(.int (16 : Int32)), (.ref b341), (.ref b341)]))
  refine own_step (fun t k => XS.sipush X373.here hx rfl (hb hby at_109) k) ?_
  show own_Goes p e below _ (T373.setTop (mkF m 112 #[.val (.int p1), .val (.int p2), .val (.int p3), .unset, .unset] [(.int (8304 : Int32)), (.int (16 : Int32)), (.ref b341), (.ref b341)]))
  obtain ⟨T375, h375, X375, e375, W375, V375, st375⟩ := own_ist X373 hx hZ e373 V373 (j := (16 : Int32)) ⟨by decide, by decide⟩ (16) rfl (Nat.le_of_ble_eq_true rfl) (g := (mkF m 112 #[.val (.int p1), .val (.int p2), .val (.int p3), .unset, .unset] [(.int (8304 : Int32)), (.int (16 : Int32)), (.ref b341), (.ref b341)])) rfl rfl (hb hby at_112)
  have V375 : Arv Z h375 b341 k341 .int (28 : Int32) (([(65 : Int32), (90 : Int32), (97 : Int32), (122 : Int32), (192 : Int32), (214 : Int32), (216 : Int32), (246 : Int32), (248 : Int32), (767 : Int32), (880 : Int32), (893 : Int32), (895 : Int32), (8191 : Int32), (8204 : Int32), (8205 : Int32), (8304 : Int32), (0 : Int32), (0 : Int32), (0 : Int32), (0 : Int32), (0 : Int32), (0 : Int32), (0 : Int32), (0 : Int32), (0 : Int32), (0 : Int32), (0 : Int32)] : List Int32).map Value.int) (Value.int 0) := V375
  have N375 := Fr.snoc X375 N373 g_b341
  have K376 : Keep h0 h375 [] := K374.wr W375 (Or.inr sz_b341)
  refine own_step st375 ?_
  show own_Goes p e below _ (T375.setTop (mkF m 113 #[.val (.int p1), .val (.int p2), .val (.int p3), .unset, .unset] [(.ref b341)]))
  refine own_step (fun t k => XS.dup X375.here hx rfl (hb hby at_113) rfl rfl k) ?_
  show own_Goes p e below _ (T375.setTop (mkF m 114 #[.val (.int p1), .val (.int p2), .val (.int p3), .unset, .unset] [(.ref b341), (.ref b341)]))
  refine own_step (fun t k => XS.bipush X375.here hx rfl (hb hby at_114) k) ?_
  show own_Goes p e below _ (T375.setTop (mkF m 116 #[.val (.int p1), .val (.int p2), .val (.int p3), .unset, .unset] [(.int (17 : Int32)), (.ref b341), (.ref b341)]))
  refine own_step (fun t k => XS.sipush X375.here hx rfl (hb hby at_116) k) ?_
  show own_Goes p e below _ (T375.setTop (mkF m 119 #[.val (.int p1), .val (.int p2), .val (.int p3), .unset, .unset] [(.int (8591 : Int32)), (.int (17 : Int32)), (.ref b341), (.ref b341)]))
  obtain ⟨T377, h377, X377, e377, W377, V377, st377⟩ := own_ist X375 hx hZ e375 V375 (j := (17 : Int32)) ⟨by decide, by decide⟩ (17) rfl (Nat.le_of_ble_eq_true rfl) (g := (mkF m 119 #[.val (.int p1), .val (.int p2), .val (.int p3), .unset, .unset] [(.int (8591 : Int32)), (.int (17 : Int32)), (.ref b341), (.ref b341)])) rfl rfl (hb hby at_119)
  have V377 : Arv Z h377 b341 k341 .int (28 : Int32) (([(65 : Int32), (90 : Int32), (97 : Int32), (122 : Int32), (192 : Int32), (214 : Int32), (216 : Int32), (246 : Int32), (248 : Int32), (767 : Int32), (880 : Int32), (893 : Int32), (895 : Int32), (8191 : Int32), (8204 : Int32), (8205 : Int32), (8304 : Int32), (8591 : Int32), (0 : Int32), (0 : Int32), (0 : Int32), (0 : Int32), (0 : Int32), (0 : Int32), (0 : Int32), (0 : Int32), (0 : Int32), (0 : Int32)] : List Int32).map Value.int) (Value.int 0) := V377
  have N377 := Fr.snoc X377 N375 g_b341
  have K378 : Keep h0 h377 [] := K376.wr W377 (Or.inr sz_b341)
  refine own_step st377 ?_
  show own_Goes p e below _ (T377.setTop (mkF m 120 #[.val (.int p1), .val (.int p2), .val (.int p3), .unset, .unset] [(.ref b341)]))
  refine own_step (fun t k => XS.dup X377.here hx rfl (hb hby at_120) rfl rfl k) ?_
  show own_Goes p e below _ (T377.setTop (mkF m 121 #[.val (.int p1), .val (.int p2), .val (.int p3), .unset, .unset] [(.ref b341), (.ref b341)]))
  refine own_step (fun t k => XS.bipush X377.here hx rfl (hb hby at_121) k) ?_
  show own_Goes p e below _ (T377.setTop (mkF m 123 #[.val (.int p1), .val (.int p2), .val (.int p3), .unset, .unset] [(.int (18 : Int32)), (.ref b341), (.ref b341)]))
  refine own_step (fun t k => XS.sipush X377.here hx rfl (hb hby at_123) k) ?_
  show own_Goes p e below _ (T377.setTop (mkF m 126 #[.val (.int p1), .val (.int p2), .val (.int p3), .unset, .unset] [(.int (11264 : Int32)), (.int (18 : Int32)), (.ref b341), (.ref b341)]))
  obtain ⟨T379, h379, X379, e379, W379, V379, st379⟩ := own_ist X377 hx hZ e377 V377 (j := (18 : Int32)) ⟨by decide, by decide⟩ (18) rfl (Nat.le_of_ble_eq_true rfl) (g := (mkF m 126 #[.val (.int p1), .val (.int p2), .val (.int p3), .unset, .unset] [(.int (11264 : Int32)), (.int (18 : Int32)), (.ref b341), (.ref b341)])) rfl rfl (hb hby at_126)
  have V379 : Arv Z h379 b341 k341 .int (28 : Int32) (([(65 : Int32), (90 : Int32), (97 : Int32), (122 : Int32), (192 : Int32), (214 : Int32), (216 : Int32), (246 : Int32), (248 : Int32), (767 : Int32), (880 : Int32), (893 : Int32), (895 : Int32), (8191 : Int32), (8204 : Int32), (8205 : Int32), (8304 : Int32), (8591 : Int32), (11264 : Int32), (0 : Int32), (0 : Int32), (0 : Int32), (0 : Int32), (0 : Int32), (0 : Int32), (0 : Int32), (0 : Int32), (0 : Int32)] : List Int32).map Value.int) (Value.int 0) := V379
  have N379 := Fr.snoc X379 N377 g_b341
  have K380 : Keep h0 h379 [] := K378.wr W379 (Or.inr sz_b341)
  refine own_step st379 ?_
  show own_Goes p e below _ (T379.setTop (mkF m 127 #[.val (.int p1), .val (.int p2), .val (.int p3), .unset, .unset] [(.ref b341)]))
  refine own_step (fun t k => XS.dup X379.here hx rfl (hb hby at_127) rfl rfl k) ?_
  show own_Goes p e below _ (T379.setTop (mkF m 128 #[.val (.int p1), .val (.int p2), .val (.int p3), .unset, .unset] [(.ref b341), (.ref b341)]))
  refine own_step (fun t k => XS.bipush X379.here hx rfl (hb hby at_128) k) ?_
  show own_Goes p e below _ (T379.setTop (mkF m 130 #[.val (.int p1), .val (.int p2), .val (.int p3), .unset, .unset] [(.int (19 : Int32)), (.ref b341), (.ref b341)]))
  refine own_step (fun t k => XS.sipush X379.here hx rfl (hb hby at_130) k) ?_
  show own_Goes p e below _ (T379.setTop (mkF m 133 #[.val (.int p1), .val (.int p2), .val (.int p3), .unset, .unset] [(.int (12271 : Int32)), (.int (19 : Int32)), (.ref b341), (.ref b341)]))
  obtain ⟨T381, h381, X381, e381, W381, V381, st381⟩ := own_ist X379 hx hZ e379 V379 (j := (19 : Int32)) ⟨by decide, by decide⟩ (19) rfl (Nat.le_of_ble_eq_true rfl) (g := (mkF m 133 #[.val (.int p1), .val (.int p2), .val (.int p3), .unset, .unset] [(.int (12271 : Int32)), (.int (19 : Int32)), (.ref b341), (.ref b341)])) rfl rfl (hb hby at_133)
  have V381 : Arv Z h381 b341 k341 .int (28 : Int32) (([(65 : Int32), (90 : Int32), (97 : Int32), (122 : Int32), (192 : Int32), (214 : Int32), (216 : Int32), (246 : Int32), (248 : Int32), (767 : Int32), (880 : Int32), (893 : Int32), (895 : Int32), (8191 : Int32), (8204 : Int32), (8205 : Int32), (8304 : Int32), (8591 : Int32), (11264 : Int32), (12271 : Int32), (0 : Int32), (0 : Int32), (0 : Int32), (0 : Int32), (0 : Int32), (0 : Int32), (0 : Int32), (0 : Int32)] : List Int32).map Value.int) (Value.int 0) := V381
  have N381 := Fr.snoc X381 N379 g_b341
  have K382 : Keep h0 h381 [] := K380.wr W381 (Or.inr sz_b341)
  refine own_step st381 ?_
  show own_Goes p e below _ (T381.setTop (mkF m 134 #[.val (.int p1), .val (.int p2), .val (.int p3), .unset, .unset] [(.ref b341)]))
  refine own_step (fun t k => XS.dup X381.here hx rfl (hb hby at_134) rfl rfl k) ?_
  show own_Goes p e below _ (T381.setTop (mkF m 135 #[.val (.int p1), .val (.int p2), .val (.int p3), .unset, .unset] [(.ref b341), (.ref b341)]))
  refine own_step (fun t k => XS.bipush X381.here hx rfl (hb hby at_135) k) ?_
  show own_Goes p e below _ (T381.setTop (mkF m 137 #[.val (.int p1), .val (.int p2), .val (.int p3), .unset, .unset] [(.int (20 : Int32)), (.ref b341), (.ref b341)]))
  refine own_step (fun t k => XS.sipush X381.here hx rfl (hb hby at_137) k) ?_
  show own_Goes p e below _ (T381.setTop (mkF m 140 #[.val (.int p1), .val (.int p2), .val (.int p3), .unset, .unset] [(.int (12289 : Int32)), (.int (20 : Int32)), (.ref b341), (.ref b341)]))
  obtain ⟨T383, h383, X383, e383, W383, V383, st383⟩ := own_ist X381 hx hZ e381 V381 (j := (20 : Int32)) ⟨by decide, by decide⟩ (20) rfl (Nat.le_of_ble_eq_true rfl) (g := (mkF m 140 #[.val (.int p1), .val (.int p2), .val (.int p3), .unset, .unset] [(.int (12289 : Int32)), (.int (20 : Int32)), (.ref b341), (.ref b341)])) rfl rfl (hb hby at_140)
  have V383 : Arv Z h383 b341 k341 .int (28 : Int32) (([(65 : Int32), (90 : Int32), (97 : Int32), (122 : Int32), (192 : Int32), (214 : Int32), (216 : Int32), (246 : Int32), (248 : Int32), (767 : Int32), (880 : Int32), (893 : Int32), (895 : Int32), (8191 : Int32), (8204 : Int32), (8205 : Int32), (8304 : Int32), (8591 : Int32), (11264 : Int32), (12271 : Int32), (12289 : Int32), (0 : Int32), (0 : Int32), (0 : Int32), (0 : Int32), (0 : Int32), (0 : Int32), (0 : Int32)] : List Int32).map Value.int) (Value.int 0) := V383
  have N383 := Fr.snoc X383 N381 g_b341
  have K384 : Keep h0 h383 [] := K382.wr W383 (Or.inr sz_b341)
  refine own_step st383 ?_
  show own_Goes p e below _ (T383.setTop (mkF m 141 #[.val (.int p1), .val (.int p2), .val (.int p3), .unset, .unset] [(.ref b341)]))
  refine own_step (fun t k => XS.dup X383.here hx rfl (hb hby at_141) rfl rfl k) ?_
  show own_Goes p e below _ (T383.setTop (mkF m 142 #[.val (.int p1), .val (.int p2), .val (.int p3), .unset, .unset] [(.ref b341), (.ref b341)]))
  refine own_step (fun t k => XS.bipush X383.here hx rfl (hb hby at_142) k) ?_
  show own_Goes p e below _ (T383.setTop (mkF m 144 #[.val (.int p1), .val (.int p2), .val (.int p3), .unset, .unset] [(.int (21 : Int32)), (.ref b341), (.ref b341)]))
  refine own_step (fun t k => X383.ldcInt hx hown (mvT hZ w1) (g := (mkF m 144 #[.val (.int p1), .val (.int p2), .val (.int p3), .unset, .unset] [(.int (21 : Int32)), (.ref b341), (.ref b341)])) rfl (hb hby at_144) _ k) ?_
  show own_Goes p e below _ (T383.setTop (mkF m 146 #[.val (.int p1), .val (.int p2), .val (.int p3), .unset, .unset] [(.int (55295 : Int32)), (.int (21 : Int32)), (.ref b341), (.ref b341)]))
  obtain ⟨T385, h385, X385, e385, W385, V385, st385⟩ := own_ist X383 hx hZ e383 V383 (j := (21 : Int32)) ⟨by decide, by decide⟩ (21) rfl (Nat.le_of_ble_eq_true rfl) (g := (mkF m 146 #[.val (.int p1), .val (.int p2), .val (.int p3), .unset, .unset] [(.int (55295 : Int32)), (.int (21 : Int32)), (.ref b341), (.ref b341)])) rfl rfl (hb hby at_146)
  have V385 : Arv Z h385 b341 k341 .int (28 : Int32) (([(65 : Int32), (90 : Int32), (97 : Int32), (122 : Int32), (192 : Int32), (214 : Int32), (216 : Int32), (246 : Int32), (248 : Int32), (767 : Int32), (880 : Int32), (893 : Int32), (895 : Int32), (8191 : Int32), (8204 : Int32), (8205 : Int32), (8304 : Int32), (8591 : Int32), (11264 : Int32), (12271 : Int32), (12289 : Int32), (55295 : Int32), (0 : Int32), (0 : Int32), (0 : Int32), (0 : Int32), (0 : Int32), (0 : Int32)] : List Int32).map Value.int) (Value.int 0) := V385
  have N385 := Fr.snoc X385 N383 g_b341
  have K386 : Keep h0 h385 [] := K384.wr W385 (Or.inr sz_b341)
  refine own_step st385 ?_
  show own_Goes p e below _ (T385.setTop (mkF m 147 #[.val (.int p1), .val (.int p2), .val (.int p3), .unset, .unset] [(.ref b341)]))
  refine own_step (fun t k => XS.dup X385.here hx rfl (hb hby at_147) rfl rfl k) ?_
  show own_Goes p e below _ (T385.setTop (mkF m 148 #[.val (.int p1), .val (.int p2), .val (.int p3), .unset, .unset] [(.ref b341), (.ref b341)]))
  refine own_step (fun t k => XS.bipush X385.here hx rfl (hb hby at_148) k) ?_
  show own_Goes p e below _ (T385.setTop (mkF m 150 #[.val (.int p1), .val (.int p2), .val (.int p3), .unset, .unset] [(.int (22 : Int32)), (.ref b341), (.ref b341)]))
  refine own_step (fun t k => X385.ldcInt hx hown (mvT hZ w2) (g := (mkF m 150 #[.val (.int p1), .val (.int p2), .val (.int p3), .unset, .unset] [(.int (22 : Int32)), (.ref b341), (.ref b341)])) rfl (hb hby at_150) _ k) ?_
  show own_Goes p e below _ (T385.setTop (mkF m 152 #[.val (.int p1), .val (.int p2), .val (.int p3), .unset, .unset] [(.int (63744 : Int32)), (.int (22 : Int32)), (.ref b341), (.ref b341)]))
  obtain ⟨T387, h387, X387, e387, W387, V387, st387⟩ := own_ist X385 hx hZ e385 V385 (j := (22 : Int32)) ⟨by decide, by decide⟩ (22) rfl (Nat.le_of_ble_eq_true rfl) (g := (mkF m 152 #[.val (.int p1), .val (.int p2), .val (.int p3), .unset, .unset] [(.int (63744 : Int32)), (.int (22 : Int32)), (.ref b341), (.ref b341)])) rfl rfl (hb hby at_152)
  have V387 : Arv Z h387 b341 k341 .int (28 : Int32) (([(65 : Int32), (90 : Int32), (97 : Int32), (122 : Int32), (192 : Int32), (214 : Int32), (216 : Int32), (246 : Int32), (248 : Int32), (767 : Int32), (880 : Int32), (893 : Int32), (895 : Int32), (8191 : Int32), (8204 : Int32), (8205 : Int32), (8304 : Int32), (8591 : Int32), (11264 : Int32), (12271 : Int32), (12289 : Int32), (55295 : Int32), (63744 : Int32), (0 : Int32), (0 : Int32), (0 : Int32), (0 : Int32), (0 : Int32)] : List Int32).map Value.int) (Value.int 0) := V387
  have N387 := Fr.snoc X387 N385 g_b341
  have K388 : Keep h0 h387 [] := K386.wr W387 (Or.inr sz_b341)
  refine own_step st387 ?_
  show own_Goes p e below _ (T387.setTop (mkF m 153 #[.val (.int p1), .val (.int p2), .val (.int p3), .unset, .unset] [(.ref b341)]))
  refine own_step (fun t k => XS.dup X387.here hx rfl (hb hby at_153) rfl rfl k) ?_
  show own_Goes p e below _ (T387.setTop (mkF m 154 #[.val (.int p1), .val (.int p2), .val (.int p3), .unset, .unset] [(.ref b341), (.ref b341)]))
  refine own_step (fun t k => XS.bipush X387.here hx rfl (hb hby at_154) k) ?_
  show own_Goes p e below _ (T387.setTop (mkF m 156 #[.val (.int p1), .val (.int p2), .val (.int p3), .unset, .unset] [(.int (23 : Int32)), (.ref b341), (.ref b341)]))
  refine own_step (fun t k => X387.ldcInt hx hown (mvT hZ w3) (g := (mkF m 156 #[.val (.int p1), .val (.int p2), .val (.int p3), .unset, .unset] [(.int (23 : Int32)), (.ref b341), (.ref b341)])) rfl (hb hby at_156) _ k) ?_
  show own_Goes p e below _ (T387.setTop (mkF m 158 #[.val (.int p1), .val (.int p2), .val (.int p3), .unset, .unset] [(.int (64975 : Int32)), (.int (23 : Int32)), (.ref b341), (.ref b341)]))
  obtain ⟨T389, h389, X389, e389, W389, V389, st389⟩ := own_ist X387 hx hZ e387 V387 (j := (23 : Int32)) ⟨by decide, by decide⟩ (23) rfl (Nat.le_of_ble_eq_true rfl) (g := (mkF m 158 #[.val (.int p1), .val (.int p2), .val (.int p3), .unset, .unset] [(.int (64975 : Int32)), (.int (23 : Int32)), (.ref b341), (.ref b341)])) rfl rfl (hb hby at_158)
  have V389 : Arv Z h389 b341 k341 .int (28 : Int32) (([(65 : Int32), (90 : Int32), (97 : Int32), (122 : Int32), (192 : Int32), (214 : Int32), (216 : Int32), (246 : Int32), (248 : Int32), (767 : Int32), (880 : Int32), (893 : Int32), (895 : Int32), (8191 : Int32), (8204 : Int32), (8205 : Int32), (8304 : Int32), (8591 : Int32), (11264 : Int32), (12271 : Int32), (12289 : Int32), (55295 : Int32), (63744 : Int32), (64975 : Int32), (0 : Int32), (0 : Int32), (0 : Int32), (0 : Int32)] : List Int32).map Value.int) (Value.int 0) := V389
  have N389 := Fr.snoc X389 N387 g_b341
  have K390 : Keep h0 h389 [] := K388.wr W389 (Or.inr sz_b341)
  refine own_step st389 ?_
  show own_Goes p e below _ (T389.setTop (mkF m 159 #[.val (.int p1), .val (.int p2), .val (.int p3), .unset, .unset] [(.ref b341)]))
  refine own_step (fun t k => XS.dup X389.here hx rfl (hb hby at_159) rfl rfl k) ?_
  show own_Goes p e below _ (T389.setTop (mkF m 160 #[.val (.int p1), .val (.int p2), .val (.int p3), .unset, .unset] [(.ref b341), (.ref b341)]))
  refine own_step (fun t k => XS.bipush X389.here hx rfl (hb hby at_160) k) ?_
  show own_Goes p e below _ (T389.setTop (mkF m 162 #[.val (.int p1), .val (.int p2), .val (.int p3), .unset, .unset] [(.int (24 : Int32)), (.ref b341), (.ref b341)]))
  refine own_step (fun t k => X389.ldcInt hx hown (mvT hZ w4) (g := (mkF m 162 #[.val (.int p1), .val (.int p2), .val (.int p3), .unset, .unset] [(.int (24 : Int32)), (.ref b341), (.ref b341)])) rfl (hb hby at_162) _ k) ?_
  show own_Goes p e below _ (T389.setTop (mkF m 164 #[.val (.int p1), .val (.int p2), .val (.int p3), .unset, .unset] [(.int (65008 : Int32)), (.int (24 : Int32)), (.ref b341), (.ref b341)]))
  obtain ⟨T391, h391, X391, e391, W391, V391, st391⟩ := own_ist X389 hx hZ e389 V389 (j := (24 : Int32)) ⟨by decide, by decide⟩ (24) rfl (Nat.le_of_ble_eq_true rfl) (g := (mkF m 164 #[.val (.int p1), .val (.int p2), .val (.int p3), .unset, .unset] [(.int (65008 : Int32)), (.int (24 : Int32)), (.ref b341), (.ref b341)])) rfl rfl (hb hby at_164)
  have V391 : Arv Z h391 b341 k341 .int (28 : Int32) (([(65 : Int32), (90 : Int32), (97 : Int32), (122 : Int32), (192 : Int32), (214 : Int32), (216 : Int32), (246 : Int32), (248 : Int32), (767 : Int32), (880 : Int32), (893 : Int32), (895 : Int32), (8191 : Int32), (8204 : Int32), (8205 : Int32), (8304 : Int32), (8591 : Int32), (11264 : Int32), (12271 : Int32), (12289 : Int32), (55295 : Int32), (63744 : Int32), (64975 : Int32), (65008 : Int32), (0 : Int32), (0 : Int32), (0 : Int32)] : List Int32).map Value.int) (Value.int 0) := V391
  have N391 := Fr.snoc X391 N389 g_b341
  have K392 : Keep h0 h391 [] := K390.wr W391 (Or.inr sz_b341)
  refine own_step st391 ?_
  show own_Goes p e below _ (T391.setTop (mkF m 165 #[.val (.int p1), .val (.int p2), .val (.int p3), .unset, .unset] [(.ref b341)]))
  refine own_step (fun t k => XS.dup X391.here hx rfl (hb hby at_165) rfl rfl k) ?_
  show own_Goes p e below _ (T391.setTop (mkF m 166 #[.val (.int p1), .val (.int p2), .val (.int p3), .unset, .unset] [(.ref b341), (.ref b341)]))
  refine own_step (fun t k => XS.bipush X391.here hx rfl (hb hby at_166) k) ?_
  show own_Goes p e below _ (T391.setTop (mkF m 168 #[.val (.int p1), .val (.int p2), .val (.int p3), .unset, .unset] [(.int (25 : Int32)), (.ref b341), (.ref b341)]))
  refine own_step (fun t k => X391.ldcInt hx hown (mvT hZ w5) (g := (mkF m 168 #[.val (.int p1), .val (.int p2), .val (.int p3), .unset, .unset] [(.int (25 : Int32)), (.ref b341), (.ref b341)])) rfl (hb hby at_168) _ k) ?_
  show own_Goes p e below _ (T391.setTop (mkF m 170 #[.val (.int p1), .val (.int p2), .val (.int p3), .unset, .unset] [(.int (65533 : Int32)), (.int (25 : Int32)), (.ref b341), (.ref b341)]))
  obtain ⟨T393, h393, X393, e393, W393, V393, st393⟩ := own_ist X391 hx hZ e391 V391 (j := (25 : Int32)) ⟨by decide, by decide⟩ (25) rfl (Nat.le_of_ble_eq_true rfl) (g := (mkF m 170 #[.val (.int p1), .val (.int p2), .val (.int p3), .unset, .unset] [(.int (65533 : Int32)), (.int (25 : Int32)), (.ref b341), (.ref b341)])) rfl rfl (hb hby at_170)
  have V393 : Arv Z h393 b341 k341 .int (28 : Int32) (([(65 : Int32), (90 : Int32), (97 : Int32), (122 : Int32), (192 : Int32), (214 : Int32), (216 : Int32), (246 : Int32), (248 : Int32), (767 : Int32), (880 : Int32), (893 : Int32), (895 : Int32), (8191 : Int32), (8204 : Int32), (8205 : Int32), (8304 : Int32), (8591 : Int32), (11264 : Int32), (12271 : Int32), (12289 : Int32), (55295 : Int32), (63744 : Int32), (64975 : Int32), (65008 : Int32), (65533 : Int32), (0 : Int32), (0 : Int32)] : List Int32).map Value.int) (Value.int 0) := V393
  have N393 := Fr.snoc X393 N391 g_b341
  have K394 : Keep h0 h393 [] := K392.wr W393 (Or.inr sz_b341)
  refine own_step st393 ?_
  show own_Goes p e below _ (T393.setTop (mkF m 171 #[.val (.int p1), .val (.int p2), .val (.int p3), .unset, .unset] [(.ref b341)]))
  refine own_step (fun t k => XS.dup X393.here hx rfl (hb hby at_171) rfl rfl k) ?_
  show own_Goes p e below _ (T393.setTop (mkF m 172 #[.val (.int p1), .val (.int p2), .val (.int p3), .unset, .unset] [(.ref b341), (.ref b341)]))
  refine own_step (fun t k => XS.bipush X393.here hx rfl (hb hby at_172) k) ?_
  show own_Goes p e below _ (T393.setTop (mkF m 174 #[.val (.int p1), .val (.int p2), .val (.int p3), .unset, .unset] [(.int (26 : Int32)), (.ref b341), (.ref b341)]))
  refine own_step (fun t k => X393.ldcInt hx hown (mvT hZ w6) (g := (mkF m 174 #[.val (.int p1), .val (.int p2), .val (.int p3), .unset, .unset] [(.int (26 : Int32)), (.ref b341), (.ref b341)])) rfl (hb hby at_174) _ k) ?_
  show own_Goes p e below _ (T393.setTop (mkF m 176 #[.val (.int p1), .val (.int p2), .val (.int p3), .unset, .unset] [(.int (65536 : Int32)), (.int (26 : Int32)), (.ref b341), (.ref b341)]))
  obtain ⟨T395, h395, X395, e395, W395, V395, st395⟩ := own_ist X393 hx hZ e393 V393 (j := (26 : Int32)) ⟨by decide, by decide⟩ (26) rfl (Nat.le_of_ble_eq_true rfl) (g := (mkF m 176 #[.val (.int p1), .val (.int p2), .val (.int p3), .unset, .unset] [(.int (65536 : Int32)), (.int (26 : Int32)), (.ref b341), (.ref b341)])) rfl rfl (hb hby at_176)
  have V395 : Arv Z h395 b341 k341 .int (28 : Int32) (([(65 : Int32), (90 : Int32), (97 : Int32), (122 : Int32), (192 : Int32), (214 : Int32), (216 : Int32), (246 : Int32), (248 : Int32), (767 : Int32), (880 : Int32), (893 : Int32), (895 : Int32), (8191 : Int32), (8204 : Int32), (8205 : Int32), (8304 : Int32), (8591 : Int32), (11264 : Int32), (12271 : Int32), (12289 : Int32), (55295 : Int32), (63744 : Int32), (64975 : Int32), (65008 : Int32), (65533 : Int32), (65536 : Int32), (0 : Int32)] : List Int32).map Value.int) (Value.int 0) := V395
  have N395 := Fr.snoc X395 N393 g_b341
  have K396 : Keep h0 h395 [] := K394.wr W395 (Or.inr sz_b341)
  refine own_step st395 ?_
  show own_Goes p e below _ (T395.setTop (mkF m 177 #[.val (.int p1), .val (.int p2), .val (.int p3), .unset, .unset] [(.ref b341)]))
  refine own_step (fun t k => XS.dup X395.here hx rfl (hb hby at_177) rfl rfl k) ?_
  show own_Goes p e below _ (T395.setTop (mkF m 178 #[.val (.int p1), .val (.int p2), .val (.int p3), .unset, .unset] [(.ref b341), (.ref b341)]))
  refine own_step (fun t k => XS.bipush X395.here hx rfl (hb hby at_178) k) ?_
  show own_Goes p e below _ (T395.setTop (mkF m 180 #[.val (.int p1), .val (.int p2), .val (.int p3), .unset, .unset] [(.int (27 : Int32)), (.ref b341), (.ref b341)]))
  refine own_step (fun t k => X395.ldcInt hx hown (mvT hZ w7) (g := (mkF m 180 #[.val (.int p1), .val (.int p2), .val (.int p3), .unset, .unset] [(.int (27 : Int32)), (.ref b341), (.ref b341)])) rfl (hb hby at_180) _ k) ?_
  show own_Goes p e below _ (T395.setTop (mkF m 182 #[.val (.int p1), .val (.int p2), .val (.int p3), .unset, .unset] [(.int (983039 : Int32)), (.int (27 : Int32)), (.ref b341), (.ref b341)]))
  obtain ⟨T397, h397, X397, e397, W397, V397, st397⟩ := own_ist X395 hx hZ e395 V395 (j := (27 : Int32)) ⟨by decide, by decide⟩ (27) rfl (Nat.le_of_ble_eq_true rfl) (g := (mkF m 182 #[.val (.int p1), .val (.int p2), .val (.int p3), .unset, .unset] [(.int (983039 : Int32)), (.int (27 : Int32)), (.ref b341), (.ref b341)])) rfl rfl (hb hby at_182)
  have V397 : Arv Z h397 b341 k341 .int (28 : Int32) (([(65 : Int32), (90 : Int32), (97 : Int32), (122 : Int32), (192 : Int32), (214 : Int32), (216 : Int32), (246 : Int32), (248 : Int32), (767 : Int32), (880 : Int32), (893 : Int32), (895 : Int32), (8191 : Int32), (8204 : Int32), (8205 : Int32), (8304 : Int32), (8591 : Int32), (11264 : Int32), (12271 : Int32), (12289 : Int32), (55295 : Int32), (63744 : Int32), (64975 : Int32), (65008 : Int32), (65533 : Int32), (65536 : Int32), (983039 : Int32)] : List Int32).map Value.int) (Value.int 0) := V397
  have N397 := Fr.snoc X397 N395 g_b341
  have K398 : Keep h0 h397 [] := K396.wr W397 (Or.inr sz_b341)
  refine own_step st397 ?_
  show own_Goes p e below _ (T397.setTop (mkF m 183 #[.val (.int p1), .val (.int p2), .val (.int p3), .unset, .unset] [(.ref b341)]))
  refine own_step (fun t k => XS.astoreN X397.here hx rfl (hb hby at_183) rfl rfl (l' := #[.val (.int p1), .val (.int p2), .val (.int p3), .val (.ref b341), .unset]) rfl k) ?_
  show own_Goes p e below _ (T397.setTop (mkF m 184 #[.val (.int p1), .val (.int p2), .val (.int p3), .val (.ref b341), .unset] []))
  refine own_step (fun t k => XS.aloadN X397.here hx rfl (hb hby at_184) rfl rfl k) ?_
  show own_Goes p e below _ (T397.setTop (mkF m 185 #[.val (.int p1), .val (.int p2), .val (.int p3), .val (.ref b341), .unset] [(.ref b341)]))
  refine own_step (fun t k => XS.iloadN X397.here hx rfl (hb hby at_185) rfl k) ?_
  show own_Goes p e below _ (T397.setTop (mkF m 186 #[.val (.int p1), .val (.int p2), .val (.int p3), .val (.ref b341), .unset] [(.int p2), (.ref b341)]))
  refine own_step (fun t k => X397.ldcInt hx hown (mvT hZ w8) (g := (mkF m 186 #[.val (.int p1), .val (.int p2), .val (.int p3), .val (.ref b341), .unset] [(.int p2), (.ref b341)])) rfl (hb hby at_186) _ k) ?_
  show own_Goes p e below _ (T397.setTop (mkF m 188 #[.val (.int p1), .val (.int p2), .val (.int p3), .val (.ref b341), .unset] [(.int (2147483647 : Int32)), (.int p2), (.ref b341)]))
  refine own_step (fun t k => XS.iand X397.here hx rfl (hb hby at_188) rfl k) ?_
  show own_Goes p e below _ (T397.setTop (mkF m 189 #[.val (.int p1), .val (.int p2), .val (.int p3), .val (.ref b341), .unset] [(.int (p2 &&& (2147483647 : Int32))), (.ref b341)]))
  refine own_step (fun t k => XS.bipush X397.here hx rfl (hb hby at_189) k) ?_
  show own_Goes p e below _ (T397.setTop (mkF m 191 #[.val (.int p1), .val (.int p2), .val (.int p3), .val (.ref b341), .unset] [(.int (28 : Int32)), (.int (p2 &&& (2147483647 : Int32))), (.ref b341)]))
  refine own_step (fun t k => Jvm.RoadKit.iremM X397 hx rfl (hb hby at_191) rfl (by decide) k) ?_
  show own_Goes p e below _ (T397.setTop (mkF m 192 #[.val (.int p1), .val (.int p2), .val (.int p3), .val (.ref b341), .unset] [(.int ((p2 &&& (2147483647 : Int32)) % (28 : Int32))), (.ref b341)]))
  refine own_step (fun t k => own_ial X397 hx hZ e397 V397 (own_idx _) (g := (mkF m 192 #[.val (.int p1), .val (.int p2), .val (.int p3), .val (.ref b341), .unset] [(.int ((p2 &&& (2147483647 : Int32)) % (28 : Int32))), (.ref b341)])) rfl rfl (hb hby at_192) _ k) ?_
  show own_Goes p e below _ (T397.setTop (mkF m 193 #[.val (.int p1), .val (.int p2), .val (.int p3), .val (.ref b341), .unset] [(.int (([(65 : Int32), (90 : Int32), (97 : Int32), (122 : Int32), (192 : Int32), (214 : Int32), (216 : Int32), (246 : Int32), (248 : Int32), (767 : Int32), (880 : Int32), (893 : Int32), (895 : Int32), (8191 : Int32), (8204 : Int32), (8205 : Int32), (8304 : Int32), (8591 : Int32), (11264 : Int32), (12271 : Int32), (12289 : Int32), (55295 : Int32), (63744 : Int32), (64975 : Int32), (65008 : Int32), (65533 : Int32), (65536 : Int32), (983039 : Int32)] : List Int32).getD ((p2 &&& (2147483647 : Int32)) % (28 : Int32)).toNatClampNeg 0))]))
  refine own_step (fun t k => XS.iloadN X397.here hx rfl (hb hby at_193) rfl k) ?_
  show own_Goes p e below _ (T397.setTop (mkF m 194 #[.val (.int p1), .val (.int p2), .val (.int p3), .val (.ref b341), .unset] [(.int p3), (.int (([(65 : Int32), (90 : Int32), (97 : Int32), (122 : Int32), (192 : Int32), (214 : Int32), (216 : Int32), (246 : Int32), (248 : Int32), (767 : Int32), (880 : Int32), (893 : Int32), (895 : Int32), (8191 : Int32), (8204 : Int32), (8205 : Int32), (8304 : Int32), (8591 : Int32), (11264 : Int32), (12271 : Int32), (12289 : Int32), (55295 : Int32), (63744 : Int32), (64975 : Int32), (65008 : Int32), (65533 : Int32), (65536 : Int32), (983039 : Int32)] : List Int32).getD ((p2 &&& (2147483647 : Int32)) % (28 : Int32)).toNatClampNeg 0))]))
  refine own_step (fun t k => XS.bipush X397.here hx rfl (hb hby at_194) k) ?_
  show own_Goes p e below _ (T397.setTop (mkF m 196 #[.val (.int p1), .val (.int p2), .val (.int p3), .val (.ref b341), .unset] [(.int (7 : Int32)), (.int p3), (.int (([(65 : Int32), (90 : Int32), (97 : Int32), (122 : Int32), (192 : Int32), (214 : Int32), (216 : Int32), (246 : Int32), (248 : Int32), (767 : Int32), (880 : Int32), (893 : Int32), (895 : Int32), (8191 : Int32), (8204 : Int32), (8205 : Int32), (8304 : Int32), (8591 : Int32), (11264 : Int32), (12271 : Int32), (12289 : Int32), (55295 : Int32), (63744 : Int32), (64975 : Int32), (65008 : Int32), (65533 : Int32), (65536 : Int32), (983039 : Int32)] : List Int32).getD ((p2 &&& (2147483647 : Int32)) % (28 : Int32)).toNatClampNeg 0))]))
  refine own_step (fun t k => XS.iand X397.here hx rfl (hb hby at_196) rfl k) ?_
  show own_Goes p e below _ (T397.setTop (mkF m 197 #[.val (.int p1), .val (.int p2), .val (.int p3), .val (.ref b341), .unset] [(.int (p3 &&& (7 : Int32))), (.int (([(65 : Int32), (90 : Int32), (97 : Int32), (122 : Int32), (192 : Int32), (214 : Int32), (216 : Int32), (246 : Int32), (248 : Int32), (767 : Int32), (880 : Int32), (893 : Int32), (895 : Int32), (8191 : Int32), (8204 : Int32), (8205 : Int32), (8304 : Int32), (8591 : Int32), (11264 : Int32), (12271 : Int32), (12289 : Int32), (55295 : Int32), (63744 : Int32), (64975 : Int32), (65008 : Int32), (65533 : Int32), (65536 : Int32), (983039 : Int32)] : List Int32).getD ((p2 &&& (2147483647 : Int32)) % (28 : Int32)).toNatClampNeg 0))]))
  refine own_step (fun t k => XS.iconst X397.here hx rfl (hb hby at_197) k) ?_
  show own_Goes p e below _ (T397.setTop (mkF m 198 #[.val (.int p1), .val (.int p2), .val (.int p3), .val (.ref b341), .unset] [(.int (3 : Int32)), (.int (p3 &&& (7 : Int32))), (.int (([(65 : Int32), (90 : Int32), (97 : Int32), (122 : Int32), (192 : Int32), (214 : Int32), (216 : Int32), (246 : Int32), (248 : Int32), (767 : Int32), (880 : Int32), (893 : Int32), (895 : Int32), (8191 : Int32), (8204 : Int32), (8205 : Int32), (8304 : Int32), (8591 : Int32), (11264 : Int32), (12271 : Int32), (12289 : Int32), (55295 : Int32), (63744 : Int32), (64975 : Int32), (65008 : Int32), (65533 : Int32), (65536 : Int32), (983039 : Int32)] : List Int32).getD ((p2 &&& (2147483647 : Int32)) % (28 : Int32)).toNatClampNeg 0))]))
  refine own_step (fun t k => XS.isub X397.here hx rfl (hb hby at_198) rfl k) ?_
  show own_Goes p e below _ (T397.setTop (mkF m 199 #[.val (.int p1), .val (.int p2), .val (.int p3), .val (.ref b341), .unset] [(.int ((p3 &&& (7 : Int32)) - (3 : Int32))), (.int (([(65 : Int32), (90 : Int32), (97 : Int32), (122 : Int32), (192 : Int32), (214 : Int32), (216 : Int32), (246 : Int32), (248 : Int32), (767 : Int32), (880 : Int32), (893 : Int32), (895 : Int32), (8191 : Int32), (8204 : Int32), (8205 : Int32), (8304 : Int32), (8591 : Int32), (11264 : Int32), (12271 : Int32), (12289 : Int32), (55295 : Int32), (63744 : Int32), (64975 : Int32), (65008 : Int32), (65533 : Int32), (65536 : Int32), (983039 : Int32)] : List Int32).getD ((p2 &&& (2147483647 : Int32)) % (28 : Int32)).toNatClampNeg 0))]))
  refine own_step (fun t k => XS.iadd X397.here hx rfl (hb hby at_199) rfl k) ?_
  show own_Goes p e below _ (T397.setTop (mkF m 200 #[.val (.int p1), .val (.int p2), .val (.int p3), .val (.ref b341), .unset] [(.int ((([(65 : Int32), (90 : Int32), (97 : Int32), (122 : Int32), (192 : Int32), (214 : Int32), (216 : Int32), (246 : Int32), (248 : Int32), (767 : Int32), (880 : Int32), (893 : Int32), (895 : Int32), (8191 : Int32), (8204 : Int32), (8205 : Int32), (8304 : Int32), (8591 : Int32), (11264 : Int32), (12271 : Int32), (12289 : Int32), (55295 : Int32), (63744 : Int32), (64975 : Int32), (65008 : Int32), (65533 : Int32), (65536 : Int32), (983039 : Int32)] : List Int32).getD ((p2 &&& (2147483647 : Int32)) % (28 : Int32)).toNatClampNeg 0) + ((p3 &&& (7 : Int32)) - (3 : Int32))))]))
  refine own_step (fun t k => XS.istore X397.here hx rfl (hb hby at_200) rfl (l' := #[.val (.int p1), .val (.int p2), .val (.int p3), .val (.ref b341), .val (.int ((([(65 : Int32), (90 : Int32), (97 : Int32), (122 : Int32), (192 : Int32), (214 : Int32), (216 : Int32), (246 : Int32), (248 : Int32), (767 : Int32), (880 : Int32), (893 : Int32), (895 : Int32), (8191 : Int32), (8204 : Int32), (8205 : Int32), (8304 : Int32), (8591 : Int32), (11264 : Int32), (12271 : Int32), (12289 : Int32), (55295 : Int32), (63744 : Int32), (64975 : Int32), (65008 : Int32), (65533 : Int32), (65536 : Int32), (983039 : Int32)] : List Int32).getD ((p2 &&& (2147483647 : Int32)) % (28 : Int32)).toNatClampNeg 0) + ((p3 &&& (7 : Int32)) - (3 : Int32))))]) rfl k) ?_
  show own_Goes p e below _ (T397.setTop (mkF m 202 #[.val (.int p1), .val (.int p2), .val (.int p3), .val (.ref b341), .val (.int ((([(65 : Int32), (90 : Int32), (97 : Int32), (122 : Int32), (192 : Int32), (214 : Int32), (216 : Int32), (246 : Int32), (248 : Int32), (767 : Int32), (880 : Int32), (893 : Int32), (895 : Int32), (8191 : Int32), (8204 : Int32), (8205 : Int32), (8304 : Int32), (8591 : Int32), (11264 : Int32), (12271 : Int32), (12289 : Int32), (55295 : Int32), (63744 : Int32), (64975 : Int32), (65008 : Int32), (65533 : Int32), (65536 : Int32), (983039 : Int32)] : List Int32).getD ((p2 &&& (2147483647 : Int32)) % (28 : Int32)).toNatClampNeg 0) + ((p3 &&& (7 : Int32)) - (3 : Int32))))] []))
  generalize hv_vy : ((([(65 : Int32), (90 : Int32), (97 : Int32), (122 : Int32), (192 : Int32), (214 : Int32), (216 : Int32), (246 : Int32), (248 : Int32), (767 : Int32), (880 : Int32), (893 : Int32), (895 : Int32), (8191 : Int32), (8204 : Int32), (8205 : Int32), (8304 : Int32), (8591 : Int32), (11264 : Int32), (12271 : Int32), (12289 : Int32), (55295 : Int32), (63744 : Int32), (64975 : Int32), (65008 : Int32), (65533 : Int32), (65536 : Int32), (983039 : Int32)] : List Int32).getD ((p2 &&& (2147483647 : Int32)) % (28 : Int32)).toNatClampNeg 0) + ((p3 &&& (7 : Int32)) - (3 : Int32))) = vy
  refine own_step (fun t k => XS.iloadN X397.here hx rfl (hb hby at_202) rfl k) ?_
  show own_Goes p e below _ (T397.setTop (mkF m 203 #[.val (.int p1), .val (.int p2), .val (.int p3), .val (.ref b341), .val (.int vy)] [(.int p1)]))
  obtain ⟨_, _, ⟨T399, L399, k399, n399⟩, -, X399, ⟨Lc399, hQ399, l399, y399, z399⟩, st399⟩ := Jvm.LawKit.callS X397 hx (y := (⟨"com/example/concepta/concepta/formats/Characters", "isNameStart", "(I)Z"⟩ : MethodName)) hown (mvT hZ w9) (mvT hZ w10) (mvT hZ w11) (mvT hZ w12) (by decide) (backOf (W := 0) (own_b2 l Z a0 hw [] p1 (wN) (kN) h397 n0 (Nat.le_trans (Nat.le_trans (Nat.le_trans (Nat.le_trans (Nat.le_trans (Nat.le_trans (Nat.le_trans (Nat.le_trans (Nat.le_trans (Nat.le_trans (Nat.le_trans (Nat.le_trans (Nat.le_trans (Nat.le_trans (Nat.le_trans (Nat.le_trans (Nat.le_trans (Nat.le_trans (Nat.le_trans (Nat.le_trans (Nat.le_trans (Nat.le_trans (Nat.le_trans (Nat.le_trans (Nat.le_trans (Nat.le_trans (Nat.le_trans (Nat.le_trans (Nat.le_trans Z0 E341.1) (Keep.of_wr W343).1) (Keep.of_wr W345).1) (Keep.of_wr W347).1) (Keep.of_wr W349).1) (Keep.of_wr W351).1) (Keep.of_wr W353).1) (Keep.of_wr W355).1) (Keep.of_wr W357).1) (Keep.of_wr W359).1) (Keep.of_wr W361).1) (Keep.of_wr W363).1) (Keep.of_wr W365).1) (Keep.of_wr W367).1) (Keep.of_wr W369).1) (Keep.of_wr W371).1) (Keep.of_wr W373).1) (Keep.of_wr W375).1) (Keep.of_wr W377).1) (Keep.of_wr W379).1) (Keep.of_wr W381).1) (Keep.of_wr W383).1) (Keep.of_wr W385).1) (Keep.of_wr W387).1) (Keep.of_wr W389).1) (Keep.of_wr W391).1) (Keep.of_wr W393).1) (Keep.of_wr W395).1) (Keep.of_wr W397).1) S_NAME_START (((((((((((((((((((((((((((((O0.ext E341).wr W343 g_b341).wr W345 g_b341).wr W347 g_b341).wr W349 g_b341).wr W351 g_b341).wr W353 g_b341).wr W355 g_b341).wr W357 g_b341).wr W359 g_b341).wr W361 g_b341).wr W363 g_b341).wr W365 g_b341).wr W367 g_b341).wr W369 g_b341).wr W371 g_b341).wr W373 g_b341).wr W375 g_b341).wr W377 g_b341).wr W379 g_b341).wr W381 g_b341).wr W383 g_b341).wr W385 g_b341).wr W387 g_b341).wr W389 g_b341).wr W391 g_b341).wr W393 g_b341).wr W395 g_b341).wr W397 g_b341) (((((((((((((((((((((((((((((V_wN.ext E341).other W343 ne_wN_b341).other W345 ne_wN_b341).other W347 ne_wN_b341).other W349 ne_wN_b341).other W351 ne_wN_b341).other W353 ne_wN_b341).other W355 ne_wN_b341).other W357 ne_wN_b341).other W359 ne_wN_b341).other W361 ne_wN_b341).other W363 ne_wN_b341).other W365 ne_wN_b341).other W367 ne_wN_b341).other W369 ne_wN_b341).other W371 ne_wN_b341).other W373 ne_wN_b341).other W375 ne_wN_b341).other W377 ne_wN_b341).other W379 ne_wN_b341).other W381 ne_wN_b341).other W383 ne_wN_b341).other W385 ne_wN_b341).other W387 ne_wN_b341).other W389 ne_wN_b341).other W391 ne_wN_b341).other W393 ne_wN_b341).other W395 ne_wN_b341).other W397 ne_wN_b341)) hZ w12 w11 (by decide) (by decide)) (g := (mkF m 203 #[.val (.int p1), .val (.int p2), .val (.int p3), .val (.ref b341), .val (.int vy)] [(.int p1)])) rfl (by rw [hml]; rfl) (argsL := [(.int p1)]) (rest := []) (lenOf own_pd0 rfl) rfl (by show 2 * 0 + _ ≤ _; exact Nat.le_of_eq rfl) (hb hby at_203) (fun _ _ => ⟨rfl, e397, (by decide : 1 + 0 ≤ _), (by decide : 28 + 0 ≤ _)⟩)
  dsimp only [Pt.U, Pt.locs, Pt.cells, Pt.slots] at X399 l399 y399 z399 st399 hQ399
  subst y399 z399
  obtain ⟨rfl, N399q, eh399⟩ := hQ399
  have N399 : Fr n0 L399 := by rw [l399]; exact Fr.app N397 N399q
  refine own_step st399 ?_
  show own_Goes p e below _ (T399.setTop (mkF m 206 #[.val (.int p1), .val (.int p2), .val (.int p3), .val (.ref b341), .val (.int vy)] [(.int (own_ns p1))]))
  refine own_step (fun t k => XS.iloadN X399.here hx rfl (hb hby at_206) rfl k) ?_
  show own_Goes p e below _ (T399.setTop (mkF m 207 #[.val (.int p1), .val (.int p2), .val (.int p3), .val (.ref b341), .val (.int vy)] [(.int p1), (.int (own_ns p1))]))
  obtain ⟨_, _, ⟨T400, L400, k400, n400⟩, -, X400, ⟨Lc400, hQ400, l400, y400, z400⟩, st400⟩ := Jvm.LawKit.callS X399 hx (y := (⟨"com/example/concepta/concepta/formats/CharactersIsNameStartPinLaw", "ref", "(I)Z"⟩ : MethodName)) hown (mvT hZ w15) (mvT hZ w16) (mvT hZ w17) (mvT hZ w18) (by decide) (backOf (W := 1) (own_b1 l Z a0 hw [] p1  h397 n0 (Nat.le_trans (Nat.le_trans (Nat.le_trans (Nat.le_trans (Nat.le_trans (Nat.le_trans (Nat.le_trans (Nat.le_trans (Nat.le_trans (Nat.le_trans (Nat.le_trans (Nat.le_trans (Nat.le_trans (Nat.le_trans (Nat.le_trans (Nat.le_trans (Nat.le_trans (Nat.le_trans (Nat.le_trans (Nat.le_trans (Nat.le_trans (Nat.le_trans (Nat.le_trans (Nat.le_trans (Nat.le_trans (Nat.le_trans (Nat.le_trans (Nat.le_trans (Nat.le_trans Z0 E341.1) (Keep.of_wr W343).1) (Keep.of_wr W345).1) (Keep.of_wr W347).1) (Keep.of_wr W349).1) (Keep.of_wr W351).1) (Keep.of_wr W353).1) (Keep.of_wr W355).1) (Keep.of_wr W357).1) (Keep.of_wr W359).1) (Keep.of_wr W361).1) (Keep.of_wr W363).1) (Keep.of_wr W365).1) (Keep.of_wr W367).1) (Keep.of_wr W369).1) (Keep.of_wr W371).1) (Keep.of_wr W373).1) (Keep.of_wr W375).1) (Keep.of_wr W377).1) (Keep.of_wr W379).1) (Keep.of_wr W381).1) (Keep.of_wr W383).1) (Keep.of_wr W385).1) (Keep.of_wr W387).1) (Keep.of_wr W389).1) (Keep.of_wr W391).1) (Keep.of_wr W393).1) (Keep.of_wr W395).1) (Keep.of_wr W397).1) ) hZ w18 w17 (by decide) (by decide)) (g := (mkF m 207 #[.val (.int p1), .val (.int p2), .val (.int p3), .val (.ref b341), .val (.int vy)] [(.int p1), (.int (own_ns p1))])) rfl (by rw [hml]; rfl) (argsL := [(.int p1)]) (rest := [(.int (own_ns p1))]) (lenOf own_pd0 rfl) rfl (by show 2 * 0 + _ ≤ _; exact Nat.le_of_eq rfl) (hb hby at_207) (fun _ _ => ⟨rfl, eh399, (by decide : 1 + 0 ≤ _), (by decide : 28 + 0 ≤ _)⟩)
  dsimp only [Pt.U, Pt.locs, Pt.cells, Pt.slots] at X400 l400 y400 z400 st400 hQ400
  subst y400 z400
  obtain ⟨rfl, N400q, eh400⟩ := hQ400
  have N400 : Fr n0 L400 := by rw [l400]; exact Fr.app N399 N400q
  refine own_step st400 ?_
  show own_Goes p e below _ (T400.setTop (mkF m 210 #[.val (.int p1), .val (.int p2), .val (.int p3), .val (.ref b341), .val (.int vy)] [(.int (own_ns p1)), (.int (own_ns p1))]))
  have hc401 : (own_ns p1) = (own_ns p1) := rfl
  refine own_step (fun t k => XS.icmpNo X400.here hx rfl (hb hby at_210) rfl (teq hc401).2 k) ?_
  show own_Goes p e below _ (T400.setTop (mkF m 213 #[.val (.int p1), .val (.int p2), .val (.int p3), .val (.ref b341), .val (.int vy)] []))
  refine own_step (fun t k => XS.iload X400.here hx rfl (hb hby at_213) rfl k) ?_
  show own_Goes p e below _ (T400.setTop (mkF m 215 #[.val (.int p1), .val (.int p2), .val (.int p3), .val (.ref b341), .val (.int vy)] [(.int vy)]))
  obtain ⟨_, _, ⟨T402, L402, k402, n402⟩, -, X402, ⟨Lc402, hQ402, l402, y402, z402⟩, st402⟩ := Jvm.LawKit.callS X400 hx (y := (⟨"com/example/concepta/concepta/formats/Characters", "isNameStart", "(I)Z"⟩ : MethodName)) hown (mvT hZ w9) (mvT hZ w10) (mvT hZ w11) (mvT hZ w12) (by decide) (backOf (W := 0) (own_b2 l Z a0 hw [] vy (wN) (kN) h397 n0 (Nat.le_trans (Nat.le_trans (Nat.le_trans (Nat.le_trans (Nat.le_trans (Nat.le_trans (Nat.le_trans (Nat.le_trans (Nat.le_trans (Nat.le_trans (Nat.le_trans (Nat.le_trans (Nat.le_trans (Nat.le_trans (Nat.le_trans (Nat.le_trans (Nat.le_trans (Nat.le_trans (Nat.le_trans (Nat.le_trans (Nat.le_trans (Nat.le_trans (Nat.le_trans (Nat.le_trans (Nat.le_trans (Nat.le_trans (Nat.le_trans (Nat.le_trans (Nat.le_trans Z0 E341.1) (Keep.of_wr W343).1) (Keep.of_wr W345).1) (Keep.of_wr W347).1) (Keep.of_wr W349).1) (Keep.of_wr W351).1) (Keep.of_wr W353).1) (Keep.of_wr W355).1) (Keep.of_wr W357).1) (Keep.of_wr W359).1) (Keep.of_wr W361).1) (Keep.of_wr W363).1) (Keep.of_wr W365).1) (Keep.of_wr W367).1) (Keep.of_wr W369).1) (Keep.of_wr W371).1) (Keep.of_wr W373).1) (Keep.of_wr W375).1) (Keep.of_wr W377).1) (Keep.of_wr W379).1) (Keep.of_wr W381).1) (Keep.of_wr W383).1) (Keep.of_wr W385).1) (Keep.of_wr W387).1) (Keep.of_wr W389).1) (Keep.of_wr W391).1) (Keep.of_wr W393).1) (Keep.of_wr W395).1) (Keep.of_wr W397).1) S_NAME_START (((((((((((((((((((((((((((((O0.ext E341).wr W343 g_b341).wr W345 g_b341).wr W347 g_b341).wr W349 g_b341).wr W351 g_b341).wr W353 g_b341).wr W355 g_b341).wr W357 g_b341).wr W359 g_b341).wr W361 g_b341).wr W363 g_b341).wr W365 g_b341).wr W367 g_b341).wr W369 g_b341).wr W371 g_b341).wr W373 g_b341).wr W375 g_b341).wr W377 g_b341).wr W379 g_b341).wr W381 g_b341).wr W383 g_b341).wr W385 g_b341).wr W387 g_b341).wr W389 g_b341).wr W391 g_b341).wr W393 g_b341).wr W395 g_b341).wr W397 g_b341) (((((((((((((((((((((((((((((V_wN.ext E341).other W343 ne_wN_b341).other W345 ne_wN_b341).other W347 ne_wN_b341).other W349 ne_wN_b341).other W351 ne_wN_b341).other W353 ne_wN_b341).other W355 ne_wN_b341).other W357 ne_wN_b341).other W359 ne_wN_b341).other W361 ne_wN_b341).other W363 ne_wN_b341).other W365 ne_wN_b341).other W367 ne_wN_b341).other W369 ne_wN_b341).other W371 ne_wN_b341).other W373 ne_wN_b341).other W375 ne_wN_b341).other W377 ne_wN_b341).other W379 ne_wN_b341).other W381 ne_wN_b341).other W383 ne_wN_b341).other W385 ne_wN_b341).other W387 ne_wN_b341).other W389 ne_wN_b341).other W391 ne_wN_b341).other W393 ne_wN_b341).other W395 ne_wN_b341).other W397 ne_wN_b341)) hZ w12 w11 (by decide) (by decide)) (g := (mkF m 215 #[.val (.int p1), .val (.int p2), .val (.int p3), .val (.ref b341), .val (.int vy)] [(.int vy)])) rfl (by rw [hml]; rfl) (argsL := [(.int vy)]) (rest := []) (lenOf own_pd0 rfl) rfl (by show 2 * 0 + _ ≤ _; exact Nat.le_of_eq rfl) (hb hby at_215) (fun _ _ => ⟨rfl, eh400, (by decide : 1 + 0 ≤ _), (by decide : 28 + 0 ≤ _)⟩)
  dsimp only [Pt.U, Pt.locs, Pt.cells, Pt.slots] at X402 l402 y402 z402 st402 hQ402
  subst y402 z402
  obtain ⟨rfl, N402q, eh402⟩ := hQ402
  have N402 : Fr n0 L402 := by rw [l402]; exact Fr.app N400 N402q
  refine own_step st402 ?_
  show own_Goes p e below _ (T402.setTop (mkF m 218 #[.val (.int p1), .val (.int p2), .val (.int p3), .val (.ref b341), .val (.int vy)] [(.int (own_ns vy))]))
  refine own_step (fun t k => XS.iload X402.here hx rfl (hb hby at_218) rfl k) ?_
  show own_Goes p e below _ (T402.setTop (mkF m 220 #[.val (.int p1), .val (.int p2), .val (.int p3), .val (.ref b341), .val (.int vy)] [(.int vy), (.int (own_ns vy))]))
  obtain ⟨_, _, ⟨T403, L403, k403, n403⟩, -, X403, ⟨Lc403, hQ403, l403, y403, z403⟩, st403⟩ := Jvm.LawKit.callS X402 hx (y := (⟨"com/example/concepta/concepta/formats/CharactersIsNameStartPinLaw", "ref", "(I)Z"⟩ : MethodName)) hown (mvT hZ w15) (mvT hZ w16) (mvT hZ w17) (mvT hZ w18) (by decide) (backOf (W := 1) (own_b1 l Z a0 hw [] vy  h397 n0 (Nat.le_trans (Nat.le_trans (Nat.le_trans (Nat.le_trans (Nat.le_trans (Nat.le_trans (Nat.le_trans (Nat.le_trans (Nat.le_trans (Nat.le_trans (Nat.le_trans (Nat.le_trans (Nat.le_trans (Nat.le_trans (Nat.le_trans (Nat.le_trans (Nat.le_trans (Nat.le_trans (Nat.le_trans (Nat.le_trans (Nat.le_trans (Nat.le_trans (Nat.le_trans (Nat.le_trans (Nat.le_trans (Nat.le_trans (Nat.le_trans (Nat.le_trans (Nat.le_trans Z0 E341.1) (Keep.of_wr W343).1) (Keep.of_wr W345).1) (Keep.of_wr W347).1) (Keep.of_wr W349).1) (Keep.of_wr W351).1) (Keep.of_wr W353).1) (Keep.of_wr W355).1) (Keep.of_wr W357).1) (Keep.of_wr W359).1) (Keep.of_wr W361).1) (Keep.of_wr W363).1) (Keep.of_wr W365).1) (Keep.of_wr W367).1) (Keep.of_wr W369).1) (Keep.of_wr W371).1) (Keep.of_wr W373).1) (Keep.of_wr W375).1) (Keep.of_wr W377).1) (Keep.of_wr W379).1) (Keep.of_wr W381).1) (Keep.of_wr W383).1) (Keep.of_wr W385).1) (Keep.of_wr W387).1) (Keep.of_wr W389).1) (Keep.of_wr W391).1) (Keep.of_wr W393).1) (Keep.of_wr W395).1) (Keep.of_wr W397).1) ) hZ w18 w17 (by decide) (by decide)) (g := (mkF m 220 #[.val (.int p1), .val (.int p2), .val (.int p3), .val (.ref b341), .val (.int vy)] [(.int vy), (.int (own_ns vy))])) rfl (by rw [hml]; rfl) (argsL := [(.int vy)]) (rest := [(.int (own_ns vy))]) (lenOf own_pd0 rfl) rfl (by show 2 * 0 + _ ≤ _; exact Nat.le_of_eq rfl) (hb hby at_220) (fun _ _ => ⟨rfl, eh402, (by decide : 1 + 0 ≤ _), (by decide : 28 + 0 ≤ _)⟩)
  dsimp only [Pt.U, Pt.locs, Pt.cells, Pt.slots] at X403 l403 y403 z403 st403 hQ403
  subst y403 z403
  obtain ⟨rfl, N403q, eh403⟩ := hQ403
  have N403 : Fr n0 L403 := by rw [l403]; exact Fr.app N402 N403q
  refine own_step st403 ?_
  show own_Goes p e below _ (T403.setTop (mkF m 223 #[.val (.int p1), .val (.int p2), .val (.int p3), .val (.ref b341), .val (.int vy)] [(.int (own_ns vy)), (.int (own_ns vy))]))
  have hc404 : (own_ns vy) = (own_ns vy) := rfl
  refine own_step (fun t k => XS.icmpNo X403.here hx rfl (hb hby at_223) rfl (teq hc404).2 k) ?_
  show own_Goes p e below _ (T403.setTop (mkF m 226 #[.val (.int p1), .val (.int p2), .val (.int p3), .val (.ref b341), .val (.int vy)] []))
  refine own_step (fun t k => XS.iconst X403.here hx rfl (hb hby at_226) k) ?_
  show own_Goes p e below _ (T403.setTop (mkF m 227 #[.val (.int p1), .val (.int p2), .val (.int p3), .val (.ref b341), .val (.int vy)] [(.int (1 : Int32))]))
  refine own_step (fun t k => XS.goto X403.here hx rfl (pc0 := 227) (pc' := 231) rfl (hb hby at_227) (by decide) (by decide) k) ?_
  show own_Goes p e below _ (T403.setTop (mkF m 231 #[.val (.int p1), .val (.int p2), .val (.int p3), .val (.ref b341), .val (.int vy)] [(.int (1 : Int32))]))
  refine own_retL X403 hx hlk Bd.returns (hb hby at_231) (?_ : (1 : Int32) = 1) N403 (by decide) (by decide)
  exact rfl
set_option maxRecDepth 65536 in
set_option maxHeartbeats 40000000 in
theorem comes_1 {Post : Tables → Env → Array Value → State → Outcome → State → Prop} (hpost : ∀ tb e args s v u, (limb_1_1.after args s (.returned v) u = true ∧ limb_1_2.after args s (.returned v) u = true ∧ True) → FrameEnd s (.returned v) u (Jvm.fieldLocs frame_1_writes args s ++ Jvm.arrayLocs frame_1_arrays args s ++ Jvm.staticLocs frame_1_statics s) 16 128 → Post tb e args s (.returned v) u) :
    ArmFor flags0 classFile x code maxLocals ret World_1 tables_1 room_1 Calls_1 rest_1 Pre_1 Post := by
  intro l hfl _ _ p e ha hc hk s m args below hf hA hF happ hP
  obtain ⟨hcalls, hrest, hpre⟩ := hP
  obtain ⟨-, -, -, hnamed, -, -, -, hat⟩ := (Spec.applies_iff hf).mp happ
  obtain ⟨hg, hn⟩ := and_e (Cond.before_iff.mp (show (Jvm.Cond.and given_1 narrow_1).before args s = true from hpre))
  obtain ⟨gg1, gg2⟩ := and_e hg
  obtain ⟨gg3, gg4⟩ := and_e gg2
  obtain ⟨gg5, gg6⟩ := and_e gg4
  obtain ⟨w0, w1, w2, rfl⟩ : ∃ w0 w1 w2 : Value, args = #[w0, w1, w2] := by
    have hs : args.size = 3 := by simpa [Cond.value, given_1] using gg1
    obtain ⟨L⟩ := args
    match L, hs with
    | [w0, w1, w2], _ => exact ⟨w0, w1, w2, rfl⟩
  have hw := fun d (hd : d ∈ tables_1) => atoms_spec (ws := Jvm.Cond.code x code maxLocals ret :: tables_1) hat d (List.mem_cons_of_mem _ hd)
  have hfit : Fit s := fun {y c} hc i hi => by
    obtain ⟨ha, rfl⟩ := Array.getElem?_eq_some_iff.mp hc
    have q := List.all_eq_true.mp ((Array.all_eq_true_iff_forall_mem.mp hF) _ (Array.getElem_mem ha)) i (List.mem_range.mpr hi)
    simpa [Array.getElem?_eq_getElem hi] using q
  obtain ⟨i0, ei0⟩ := is_v gg3
  obtain rfl : w0 = (.int i0) := Option.some.inj ei0
  obtain ⟨i1, ei1⟩ := is_v gg5
  obtain rfl : w1 = (.int i1) := Option.some.inj ei1
  obtain ⟨i2, ei2⟩ := is_v gg6
  obtain rfl : w2 = (.int i2) := Option.some.inj ei2
  obtain ⟨na0, nb0⟩ := and_e hn
  obtain ⟨na1, nb1⟩ := and_e nb0
  obtain ⟨na2, nb2⟩ := and_e nb1
  obtain ⟨na3, nb3⟩ := and_e nb2
  obtain ⟨na4, nb4⟩ := and_e nb3
  obtain ⟨na5, nb5⟩ := and_e nb4
  obtain ⟨na6, nb6⟩ := and_e nb5
  obtain ⟨na7, nb7⟩ := and_e nb6
  obtain ⟨na8, nb8⟩ := and_e nb7
  obtain ⟨na9, nb9⟩ := and_e nb8
  obtain ⟨na10, nb10⟩ := and_e nb9
  obtain ⟨na11, nb11⟩ := and_e nb10
  obtain ⟨na12, nb12⟩ := and_e nb11
  obtain ⟨na13, nb13⟩ := and_e nb12
  obtain ⟨na14, nb14⟩ := and_e nb13
  obtain ⟨na15, nb15⟩ := and_e nb14
  obtain ⟨na16, nb16⟩ := and_e nb15
  obtain ⟨na17, nb17⟩ := and_e nb16
  obtain ⟨na18, nb18⟩ := and_e nb17
  obtain ⟨na19, nb19⟩ := and_e nb18
  obtain ⟨na20, nb20⟩ := and_e nb19
  obtain ⟨na21, nb21⟩ := and_e nb20
  obtain ⟨na22, nb22⟩ := and_e nb21
  obtain ⟨na23, nb23⟩ := and_e nb22
  obtain ⟨na24, nb24⟩ := and_e nb23
  obtain ⟨na25, nb25⟩ := and_e nb24
  obtain ⟨na26, nb26⟩ := and_e nb25
  obtain ⟨na27, nb27⟩ := and_e nb26
  obtain ⟨na28, nb28⟩ := and_e nb27
  obtain ⟨wN, evN⟩ := arr_v na0
  have SN := Sta.start evN (Or.inr ⟨(hw _ (List.mem_of_getElem? (i := 11) rfl)), (hw _ (List.mem_of_getElem? (i := 14) rfl))⟩)
  obtain ⟨cN, AN⟩ := Arr.start evN na0
  have lN := own_length evN AN na1
  have VN : Arv s s.heap wN cN.cls .int (28 : Int32) (([(65 : Int32), (90 : Int32), (97 : Int32), (122 : Int32), (192 : Int32), (214 : Int32), (216 : Int32), (246 : Int32), (248 : Int32), (767 : Int32), (880 : Int32), (893 : Int32), (895 : Int32), (8191 : Int32), (8204 : Int32), (8205 : Int32), (8304 : Int32), (8591 : Int32), (11264 : Int32), (12271 : Int32), (12289 : Int32), (55295 : Int32), (63744 : Int32), (64975 : Int32), (65008 : Int32), (65533 : Int32), (65536 : Int32), (983039 : Int32)] : List Int32).map Value.int) (Value.int 0) := Arv.start hfit AN lN.1 lN.2 (by decide) (by decide) ⟨own_elem evN AN na2, own_elem evN AN na3, own_elem evN AN na4, own_elem evN AN na5, own_elem evN AN na6, own_elem evN AN na7, own_elem evN AN na8, own_elem evN AN na9, own_elem evN AN na10, own_elem evN AN na11, own_elem evN AN na12, own_elem evN AN na13, own_elem evN AN na14, own_elem evN AN na15, own_elem evN AN na16, own_elem evN AN na17, own_elem evN AN na18, own_elem evN AN na19, own_elem evN AN na20, own_elem evN AN na21, own_elem evN AN na22, own_elem evN AN na23, own_elem evN AN na24, own_elem evN AN na25, own_elem evN AN na26, own_elem evN AN na27, own_elem evN AN na28, own_elem evN AN nb28, trivial⟩
  obtain ⟨n, o, h1, h2, h3, _, L, rfl, ⟨rfl, N⟩, hq⟩ := own_law l s _ hw tables_1 i0 i1 i2 wN cN.cls s.heap s.heap.size (Nat.le_refl _) SN (Old.start s) VN p e ha hc hk s m _ below hf ((Spec.applies_iff_loose hf).mp happ).1 ⟨rfl, State.Warmed39.refl s, rfl⟩ trivial
  refine ⟨n, _, h1, h2, h3, hpost _ _ _ _ _ _ ⟨Cond.after_iff.mpr rfl, Cond.after_iff.mpr (eq_i res_at (Term.int_eval (1)) rfl), trivial⟩ ⟨hq.1, hq.2.1, (hq.2.2.sift fun y hy => Or.inr (N y hy)).mono (by decide) (by decide)⟩⟩
theorem main_1_1 : Claimed_1_1 := comes_1 fun _ _ _ _ _ _ h hF => ⟨h.1, hF⟩
theorem main_1_2 : Claimed_1_2 := comes_1 fun _ _ _ _ _ _ h hF => ⟨h.2.1, hF⟩
end Jvm.Pilot.@@N@@
namespace Jvm.Pilot.@@N@@
open Jvm Jvm.ClassFile Sem Op Lib Jvm.Free Jvm.Stand Jvm.Pilot.@@N@@.Jvm.D
/-! MADE BY PROGRAM (witnessworld.py) out of the Statement's table words and the real class files: 9 classes; the members and pool entries that the words name. The judged class is class 1, her method 2. -/
namespace start1
open Jvm.ClassFile
def u (s : String) : CpInfo := .utf8 (stringToUtf16 s)
/-- a pool by its gaps: so many unusable entries, then the entry; so many at the end -/
def gap : Nat → List CpInfo → List CpInfo
  | 0, r => r
  | n + 1, r => .unusable :: gap n r
def poolList (es : List (Nat × CpInfo)) (last : Nat) : List CpInfo := es.foldr (fun e r => gap e.1 (e.2 :: r)) (gap last [])
def pool (es : List (Nat × CpInfo)) (last : Nat) : Array CpInfo := ⟨poolList es last⟩
def fileOf (pool : Array CpInfo) (this : Nat) (attrs : Array Attribute := #[]) (ms : Array MethodInfo := #[]) (fl : Nat := 33) (sup : Nat := 0) (ifs : Array Nat := #[]) (fds : Array FieldInfo := #[]) : ClassFile where
  minorVersion := 0
  majorVersion := 65
  constantPool := pool
  accessFlags := fl
  thisClass := this
  superClass := sup
  interfaces := ifs
  fields := fds
  methods := ms
  attributes := attrs
def plain (name : String) (sup : Option ClassId) : Class where
  name := name
  kind := .ordinary
  loader := none
  accessFlags := 33
  super := sup
  interfaces := #[]
  cf := none
  fields := #[]
  methods := #[]
  instanceTypes := #[]
  staticTypes := #[]
  resolved := #[]
  callSites := []
  init := .initialized
  statics := none
  mirror := none

def pool0 : Array CpInfo := pool [(5, u "<init>"), (0, u "()V"), (1, .class_ 10), (1, u "java/lang/Object")] 113

def k0m0 : Method := { name := "<init>", desc := "()V", sig := { parameters := [], returnType := none }, accessFlags := 1, code := none }
/-- java/lang/Object -/
def k0 : Class := { plain "java/lang/Object" none with
  accessFlags := 33
  interfaces := #[]
  cf := some (fileOf pool0 8 #[] #[{ accessFlags := 1, nameIndex := 5, descriptorIndex := 6, attributes := #[] }] 33 0 #[] #[])
  fields := #[]
  methods := #[k0m0]
  instanceTypes := #[]
  staticTypes := #[]
  resolved := Array.replicate 124 none
  statics := none }

def pool1 : Array CpInfo := pool [(2, .class_ 4), (1, u "java/lang/Object"), (0, u "<init>"), (0, u "()V"), (0, .integer 55295), (0, .integer 63744), (0, .integer 64975), (0, .integer 65008), (0, .integer 65533), (0, .integer 65536), (0, .integer 983039), (0, .integer 2147483647), (0, .methodref 16 17), (0, .class_ 18), (0, .nameAndType 19 20), (0, u "com/example/concepta/concepta/formats/Characters"), (0, u "isNameStart"), (0, u "(I)Z"), (0, .methodref 22 23), (0, .class_ 24), (0, .nameAndType 25 20), (0, u "com/example/concepta/concepta/formats/CharactersIsNameStartPinLaw"), (0, u "ref"), (3, u "law"), (0, u "(III)Z")] 4

def k1m0 : Method := { name := "<init>", desc := "()V", sig := { parameters := [], returnType := none }, accessFlags := 1, code := none }
def k1c1 : Code := { maxStack := 2, maxLocals := 1, code := method_2_code, exceptionTable := #[], attributes := #[] }
def k1m1 : Method := { name := "ref", desc := "(I)Z", sig := { parameters := [.int], returnType := some .boolean }, accessFlags := 10, code := some k1c1 }
def k1c2 : Code := { maxStack := 4, maxLocals := 5, code := code, exceptionTable := #[], attributes := #[] }
def k1m2 : Method := { name := "law", desc := "(III)Z", sig := { parameters := [.int, .int, .int], returnType := some .boolean }, accessFlags := 9, code := some k1c2 }
/-- com/example/concepta/concepta/formats/CharactersIsNameStartPinLaw -/
def k1 : Class := { plain "com/example/concepta/concepta/formats/CharactersIsNameStartPinLaw" (some 0) with
  accessFlags := 49
  interfaces := #[]
  cf := some (fileOf pool1 22 #[] #[{ accessFlags := 1, nameIndex := 5, descriptorIndex := 6, attributes := #[] }, { accessFlags := 10, nameIndex := 25, descriptorIndex := 20, attributes := #[] }, { accessFlags := 9, nameIndex := 29, descriptorIndex := 30, attributes := #[] }] 49 2 #[] #[])
  fields := #[]
  methods := #[k1m0, k1m1, k1m2]
  instanceTypes := #[]
  staticTypes := #[]
  resolved := Array.replicate 35 none
  statics := none }

def pool2 : Array CpInfo := pool [(2, .class_ 4), (1, u "java/lang/Object"), (0, u "<init>"), (0, u "()V"), (0, .fieldref 8 9), (0, .class_ 10), (0, .nameAndType 11 12), (0, u "com/example/concepta/concepta/formats/Characters"), (0, u "NAME_START"), (0, u "[I"), (2, u "isNameStart"), (0, u "(I)Z")] 68

def k2m0 : Method := { name := "<init>", desc := "()V", sig := { parameters := [], returnType := none }, accessFlags := 2, code := none }
def k2c1 : Code := { maxStack := 4, maxLocals := 2, code := prog_11_method_2_code, exceptionTable := #[], attributes := #[] }
def k2m1 : Method := { name := "isNameStart", desc := "(I)Z", sig := { parameters := [.int], returnType := some .boolean }, accessFlags := 8, code := some k2c1 }
/-- com/example/concepta/concepta/formats/Characters -/
def k2 : Class := { plain "com/example/concepta/concepta/formats/Characters" (some 0) with
  accessFlags := 48
  interfaces := #[]
  cf := some (fileOf pool2 8 #[] #[{ accessFlags := 2, nameIndex := 5, descriptorIndex := 6, attributes := #[] }, { accessFlags := 8, nameIndex := 15, descriptorIndex := 16, attributes := #[] }] 48 2 #[] #[{ accessFlags := 26, nameIndex := 11, descriptorIndex := 12, attributes := #[] }])
  fields := #[{ name := "NAME_START", type := (.array .int), accessFlags := 26, slot := 0, constantValue := 0 }]
  methods := #[k2m0, k2m1]
  instanceTypes := #[]
  staticTypes := #[(.array .int)]
  resolved := Array.replicate 85 none
  statics := some 0 }

def pool3 : Array CpInfo := pool [(1, u "java/lang/Cloneable"), (0, .class_ 1), (0, u "java/lang/Object"), (0, .class_ 3)] 3

/-- java/lang/Cloneable -/
def k3 : Class := { plain "java/lang/Cloneable" (some 0) with
  accessFlags := 1537
  interfaces := #[]
  cf := some (fileOf pool3 2 #[] #[] 1537 4 #[] #[])
  fields := #[]
  methods := #[]
  instanceTypes := #[]
  staticTypes := #[]
  resolved := Array.replicate 8 none
  statics := none }

def pool4 : Array CpInfo := pool [(1, u "java/io/Serializable"), (0, .class_ 1), (0, u "java/lang/Object"), (0, .class_ 3)] 3

/-- java/io/Serializable -/
def k4 : Class := { plain "java/io/Serializable" (some 0) with
  accessFlags := 1537
  interfaces := #[]
  cf := some (fileOf pool4 2 #[] #[] 1537 4 #[] #[])
  fields := #[]
  methods := #[]
  instanceTypes := #[]
  staticTypes := #[]
  resolved := Array.replicate 8 none
  statics := none }

/-- the primitive byte -/
def k5 : Class := { plain "byte" none with kind := .primitive 'B', accessFlags := 0x411 }
/-- [B -/
def k6 : Class := { plain "[B" (some 0) with kind := .array 5 .byte, interfaces := #[3, 4], accessFlags := 1041 }

/-- the primitive int -/
def k7 : Class := { plain "int" none with kind := .primitive 'I', accessFlags := 0x411 }
/-- [I -/
def k8 : Class := { plain "[I" (some 0) with kind := .array 7 .int, interfaces := #[3, 4], accessFlags := 1041 }

def heap : Heap := #[{ cls := 2, slots := #[.ref 1], vm := .statics 2 },
  { cls := 8, slots := #[.int 65, .int 90, .int 97, .int 122, .int 192, .int 214, .int 216, .int 246, .int 248, .int 767, .int 880, .int 893, .int 895, .int 8191, .int 8204, .int 8205, .int 8304, .int 8591, .int 11264, .int 12271, .int 12289, .int 55295, .int 63744, .int 64975, .int 65008, .int 65533, .int 65536, .int 983039], vm := .none }]
def classes : Array Class := #[k0, k1, k2, k3, k4, k5, k6, k7, k8]
def interned : List (Array UInt16 × Addr) := []
def slotsUsed : Nat := 29
def theMethod : MethodId := ⟨1, 2⟩
def args0 : Array Value := #[.int 65, .int 1, .int 2]
def aboutOver (below : List Frame) : State where
  vm := { classes := classes, interned := interned.toArray }
  heap := heap
  slotsUsed := slotsUsed
  threads := #[{ frames := .invoking theMethod args0 :: below }]
def below0 : List Frame := [.native { method := ⟨0, 0⟩, args := #[] }]
def about1 : State := aboutOver below0
def p0 : Program := .bare "" "" ""
def e0 : Env := launch0.env 0 0 0
theorem w_frames : about1.frames = Frame.invoking theMethod args0 :: below0 := rfl
set_option maxRecDepth 65536 in
theorem w_args : argsFit about1.vm theMethod args0 = true := by decide +kernel
set_option maxRecDepth 65536 in
theorem w_heap : heapFits about1 = true := by decide +kernel
set_option maxRecDepth 65536 in
theorem w_runnable : about1.curStatus? = some .runnable := by decide +kernel
set_option maxRecDepth 65536 in
theorem w_alone : about1.alone = true := by decide +kernel
set_option maxRecDepth 65536 in
theorem w_named : about1.methodNamed? x = some theMethod := by decide +kernel
set_option maxRecDepth 65536 in
theorem w_hears : about1.hears theMethod below0 = true := by decide +kernel
set_option maxRecDepth 65536 in
theorem w_ripe : about1.ripe theMethod args0 below0 = true := by decide +kernel
theorem w_running : about1.status = .running := rfl
set_option maxRecDepth 65536 in
theorem w_room : about1.hasRoom e0.platform room_1 = true :=
  launch0.hasRoom_least _ room_1 (by decide +kernel) (by decide +kernel) (by decide +kernel) (by decide +kernel) (by decide +kernel) (by decide +kernel)
theorem allAtoms_all (ts : List Jvm.Cond) (a : Array Jvm.Value) (st : Jvm.State) : (allAtoms ts).before a st = ts.all (fun c => c.before a st) := by
  induction ts with
  | nil => rfl
  | cons c t ih =>
    show (Jvm.Cond.and c (allAtoms t)).before a st = _
    rw [Jvm.Cond.before_and, ih, List.all_cons]
def words1 : List Jvm.Cond := Jvm.Cond.code x code maxLocals ret :: tables_1
/-- a 'code' word, met by the world's own term for the bytes: nothing is compared byte by byte -/
theorem code_word {y : MethodName} {bytes : ByteArray} {mx : Nat} {rt : Option FieldType} {a : Array Value} {s : State} {m : MethodId} {meth : Method} {c : Code} (h1 : s.methodNamed? y = some m) (h2 : s.vm.method? m = some meth) (h3 : meth.code = some c) (h4 : c.code = bytes)
    (h5 : (c.maxLocals == mx && c.exceptionTable.isEmpty && decide (c.maxStack ≤ mostOperands) && decide (meth.sig.returnType = rt) && !meth.locks && decide (parseMethodDescriptor y.desc = some meth.sig)) = true) : (Jvm.Cond.code y bytes mx rt).before a s = true := by
  simp only [Bool.and_eq_true, beq_iff_eq, Bool.not_eq_true', decide_eq_true_eq] at h5
  obtain ⟨⟨⟨⟨⟨g1, g2⟩, g3⟩, g4⟩, g5⟩, g6⟩ := h5
  simp [Cond.before, Cond.holds, Cond.value, h1, h2, h3, h4, g1, g2, g3, g4, g5, g6]
def isCode : Jvm.Cond → Bool
  | .code _ _ _ _ => true
  | _ => false
theorem all_split {L : List Jvm.Cond} {P : Jvm.Cond → Bool} (h1 : L.all (fun c => isCode c || P c) = true) (h2 : ∀ c ∈ L.filter isCode, P c = true) : L.all P = true := by
  refine List.all_eq_true.mpr fun c hc => ?_
  have h := List.all_eq_true.mp h1 c hc
  rcases Bool.eq_false_or_eq_true (isCode c) with hi | hi
  · exact h2 c (List.mem_filter.mpr ⟨hc, hi⟩)
  · simpa [hi] using h
set_option maxRecDepth 65536 in
theorem w_c0 : (Jvm.Cond.code x code maxLocals ret).before args0 about1 = true := code_word (m := ⟨1, 2⟩) (meth := k1m2) (c := k1c2) (by decide +kernel) rfl rfl rfl (by decide +kernel)
set_option maxRecDepth 65536 in
theorem w_c1 : (Jvm.Cond.code ({ cls := "com/example/concepta/concepta/formats/Characters", name := "isNameStart", desc := "(I)Z" } : Jvm.MethodName) prog_11_method_2_code (2 : Nat) (Option.some Jvm.ClassFile.FieldType.boolean)).before args0 about1 = true := code_word (m := ⟨2, 1⟩) (meth := k2m1) (c := k2c1) (by decide +kernel) rfl rfl rfl (by decide +kernel)
set_option maxRecDepth 65536 in
theorem w_c2 : (Jvm.Cond.code ({ cls := "com/example/concepta/concepta/formats/CharactersIsNameStartPinLaw", name := "ref", desc := "(I)Z" } : Jvm.MethodName) method_2_code (1 : Nat) (Option.some Jvm.ClassFile.FieldType.boolean)).before args0 about1 = true := code_word (m := ⟨1, 1⟩) (meth := k1m1) (c := k1c1) (by decide +kernel) rfl rfl rfl (by decide +kernel)
def codes1 : List Jvm.Cond := [Jvm.Cond.code x code maxLocals ret, Jvm.Cond.code ({ cls := "com/example/concepta/concepta/formats/Characters", name := "isNameStart", desc := "(I)Z" } : Jvm.MethodName) prog_11_method_2_code (2 : Nat) (Option.some Jvm.ClassFile.FieldType.boolean), Jvm.Cond.code ({ cls := "com/example/concepta/concepta/formats/CharactersIsNameStartPinLaw", name := "ref", desc := "(I)Z" } : Jvm.MethodName) method_2_code (1 : Nat) (Option.some Jvm.ClassFile.FieldType.boolean)]
set_option maxRecDepth 65536 in
theorem codes_eq : words1.filter isCode = codes1 := rfl
theorem w_codes : ∀ c ∈ words1.filter isCode, c.before args0 about1 = true := by
  rw [codes_eq]
  intro c hc
  simp only [codes1, List.mem_cons, List.not_mem_nil, or_false] at hc
  rcases hc with rfl | rfl | rfl
  · exact w_c0
  · exact w_c1
  · exact w_c2
set_option maxRecDepth 65536 in
theorem w_t1 : words1.all (fun c => isCode c || c.before args0 about1) = true := by decide +kernel
theorem w_tables : (allAtoms (Jvm.Cond.code x code maxLocals ret :: tables_1)).before args0 about1 = true := by
  rw [allAtoms_all]
  show words1.all (fun c => c.before args0 about1) = true
  refine all_split ?_ w_codes
  rw [w_t1]
set_option maxRecDepth 65536 in
theorem w_case : (Jvm.Cond.and given_1 narrow_1).before args0 about1 = true := by decide +kernel
theorem w_applies : (headSpec (Jvm.Cond.code x code maxLocals ret :: tables_1) room_1).applies x e0.platform about1 = true :=
  (Spec.applies_iff w_frames).mpr ⟨w_running, w_runnable, w_alone, w_named, w_hears, w_ripe, w_room, w_tables⟩
theorem atStart : AtStart classFile x code maxLocals ret World_1 tables_1 room_1 Calls_1 rest_1 Pre_1 launch0 p0 e0 about1 theMethod args0 below0 :=
  ⟨lists_1, trivial, launch0.admits_env _ _ _, launch0.least_env, fairChoices_fair.cas, fairChoices_fair.clock, w_frames, w_args, w_heap, w_applies, trivial, trivial, w_case⟩
end start1
theorem witness_1 : WitnessClaimed_1 := ⟨start1.p0, start1.e0, start1.about1, start1.theMethod, start1.args0, start1.below0, start1.atStart⟩
end Jvm.Pilot.@@N@@
