import JvmDerived
import JvmDerived.Pilot.@@N@@Statement
import JvmDerived.Pilot.@@N@@Code
set_option linter.unusedVariables false
set_option linter.unusedSimpArgs false
namespace Jvm.Pilot.@@N@@
open Jvm Jvm.ClassFile Sem Op Lib Jvm.Free Jvm.Stand Jvm.LawKit Jvm.RoadKit Bundle Jvm.Pilot.@@N@@.Jvm.D
section OwnKit
variable {p : Program} {l : Launch} {e : Env} {R : Room} {s : State} {m : MethodId} {args : Array Value} {below : List Frame} {meth : Method} {c : Code} {T : State} {locs : List Loc} {cells slots : Nat} {Z : State} {h : Heap} {a : Addr} {k : ClassId} {z : Int32} {vs : List Value} {dv : Value}
theorem oLen (X : Stand p l e R s m args below meth c T locs cells slots) (hx : p.tables.exec = Jvm.exec) (hZ : Z.Warmed39 s.vm) (eT : T.heap = h) {ty : FieldType} (F : Arv Z h a k ty z vs dv) {g : JFrame} (hg : g.method = m) {rest : List Value} (hs : g.stack = .ref a :: rest) (hd : decode c.code g.pc = .ok (.arraylength, 1)) (target : State)
    (hr : Steps p.tables e below (T.setTop { g with pc := g.pc + 1, stack := .int z :: rest }) target) : Steps p.tables e below (T.setTop g) target := by
  obtain ⟨cl, A, -, S, M, -, -⟩ := F
  refine X.arraylength hx (by rw [eT]; exact A.1) (State.isArrayOf_alike hZ.alike A.2.1) hg hs hd target ?_
  rw [len_of S M]
  exact hr
theorem oLdI (X : Stand p l e R s m args below meth c T locs cells slots) (hx : p.tables.exec = Jvm.exec) (hZ : Z.Warmed39 s.vm) (eT : T.heap = h) (F : Arv Z h a k .int z vs dv) {j : Int32} {v : Value} (hj : ¬ j < 0 ∧ j < z) (hv : vs.getD j.toNatClampNeg dv = v) {g : JFrame} (hg : g.method = m) {rest : List Value} (hs : g.stack = .int j :: .ref a :: rest) (hd : decode c.code g.pc = .ok (.iaload, 1)) (target : State)
    (hr : Steps p.tables e below (T.setTop { g with pc := g.pc + 1, stack := v :: rest }) target) : Steps p.tables e below (T.setTop g) target := by
  obtain ⟨cl, A, -, S, -, H, -⟩ := F
  have hin := inb_of S hj
  exact X.iaload hx (by rw [eT]; exact A.1) (State.isArrayOf_alike hZ.alike A.2.1) A.2.2 hin (Has.at H hin hv) hg hs hd target hr
theorem oLdB (X : Stand p l e R s m args below meth c T locs cells slots) (hx : p.tables.exec = Jvm.exec) (hZ : Z.Warmed39 s.vm) (eT : T.heap = h) (F : Arv Z h a k .byte z vs dv) {j : Int32} {v : Value} (hj : ¬ j < 0 ∧ j < z) (hv : vs.getD j.toNatClampNeg dv = v) {g : JFrame} (hg : g.method = m) {rest : List Value} (hs : g.stack = .int j :: .ref a :: rest) (hd : decode c.code g.pc = .ok (.baload, 1)) (target : State)
    (hr : Steps p.tables e below (T.setTop { g with pc := g.pc + 1, stack := v :: rest }) target) : Steps p.tables e below (T.setTop g) target := by
  obtain ⟨cl, A, -, S, -, H, -⟩ := F
  have hin := inb_of S hj
  exact X.baloadBytes hx (by rw [eT]; exact A.1) (State.isArrayOf_alike hZ.alike A.2.1) A.2.2 hin (Has.at H hin hv) hg hs hd target hr
theorem oLdJ (X : Stand p l e R s m args below meth c T locs cells slots) (hx : p.tables.exec = Jvm.exec) (hZ : Z.Warmed39 s.vm) (eT : T.heap = h) (F : Arv Z h a k .long z vs dv) {j : Int32} {v : Value} (hj : ¬ j < 0 ∧ j < z) (hv : vs.getD j.toNatClampNeg dv = v) {g : JFrame} (hg : g.method = m) {rest : List Value} (hs : g.stack = .int j :: .ref a :: rest) (hd : decode c.code g.pc = .ok (.laload, 1)) (target : State)
    (hr : Steps p.tables e below (T.setTop { g with pc := g.pc + 1, stack := v :: rest }) target) : Steps p.tables e below (T.setTop g) target := by
  obtain ⟨cl, A, -, S, -, H, -⟩ := F
  have hin := inb_of S hj
  exact X.laload hx (by rw [eT]; exact A.1) (State.isArrayOf_alike hZ.alike A.2.1) A.2.2 hin (Has.at H hin hv) hg hs hd target hr
theorem oLdD (X : Stand p l e R s m args below meth c T locs cells slots) (hx : p.tables.exec = Jvm.exec) (hZ : Z.Warmed39 s.vm) (eT : T.heap = h) (F : Arv Z h a k .double z vs dv) {j : Int32} {v : Value} (hj : ¬ j < 0 ∧ j < z) (hv : vs.getD j.toNatClampNeg dv = v) {g : JFrame} (hg : g.method = m) {rest : List Value} (hs : g.stack = .int j :: .ref a :: rest) (hd : decode c.code g.pc = .ok (.daload, 1)) (target : State)
    (hr : Steps p.tables e below (T.setTop { g with pc := g.pc + 1, stack := v :: rest }) target) : Steps p.tables e below (T.setTop g) target := by
  obtain ⟨cl, A, -, S, -, H, -⟩ := F
  have hin := inb_of S hj
  exact X.daload hx (by rw [eT]; exact A.1) (State.isArrayOf_alike hZ.alike A.2.1) A.2.2 hin (Has.at H hin hv) hg hs hd target hr
theorem oStI (X : Stand p l e R s m args below meth c T locs cells slots) (hx : p.tables.exec = Jvm.exec) (hZ : Z.Warmed39 s.vm) (eT : T.heap = h) (F : Arv Z h a k .int z vs dv) {j : Int32} {x : Int32} (hj : ¬ j < 0 ∧ j < z) (i : Nat) (hi : j.toNatClampNeg = i) (hl : i < vs.length) {g : JFrame} (hg : g.method = m) {rest : List Value} (hs : g.stack = .int x :: .int j :: .ref a :: rest) (hd : decode c.code g.pc = .ok (.iastore, 1)) :
    ∃ T' h', Stand p l e R s m args below meth c T' (locs ++ [⟨a, j.toNatClampNeg⟩]) cells slots ∧ T'.heap = h' ∧ Wr h h' a j.toNatClampNeg (.int x) ∧ Arv Z h' a k .int z (vs.set i (.int x)) dv ∧ ∀ target, Steps p.tables e below (T'.setTop { g with pc := g.pc + 1, stack := rest }) target → Steps p.tables e below (T.setTop g) target := by
  obtain ⟨cl, A, q1, S, M, H, G⟩ := F
  obtain ⟨T', h', X', e', W, st⟩ := stI X hx hZ eT A (j := j) (inb_of S hj) hg hs hd
  exact ⟨T', h', X', e', W, Arv.set A q1 S M H G rfl W i hi hl, st⟩
theorem oStB (X : Stand p l e R s m args below meth c T locs cells slots) (hx : p.tables.exec = Jvm.exec) (hZ : Z.Warmed39 s.vm) (eT : T.heap = h) (F : Arv Z h a k .byte z vs dv) {j : Int32} {x : Int32} (hj : ¬ j < 0 ∧ j < z) (i : Nat) (hi : j.toNatClampNeg = i) (hl : i < vs.length) {g : JFrame} (hg : g.method = m) {rest : List Value} (hs : g.stack = .int x :: .int j :: .ref a :: rest) (hd : decode c.code g.pc = .ok (.bastore, 1)) :
    ∃ T' h', Stand p l e R s m args below meth c T' (locs ++ [⟨a, j.toNatClampNeg⟩]) cells slots ∧ T'.heap = h' ∧ Wr h h' a j.toNatClampNeg (.int (nar .byte x)) ∧ Arv Z h' a k .byte z (vs.set i (.int (nar .byte x))) dv ∧ ∀ target, Steps p.tables e below (T'.setTop { g with pc := g.pc + 1, stack := rest }) target → Steps p.tables e below (T.setTop g) target := by
  obtain ⟨cl, A, q1, S, M, H, G⟩ := F
  obtain ⟨T', h', X', e', W, st⟩ := stB X hx hZ eT A (j := j) (inb_of S hj) hg hs hd
  exact ⟨T', h', X', e', W, Arv.set A q1 S M H G (fits_nar_byte x) W i hi hl, st⟩
theorem oStJ (X : Stand p l e R s m args below meth c T locs cells slots) (hx : p.tables.exec = Jvm.exec) (hZ : Z.Warmed39 s.vm) (eT : T.heap = h) (F : Arv Z h a k .long z vs dv) {j : Int32} {x : Int64} (hj : ¬ j < 0 ∧ j < z) (i : Nat) (hi : j.toNatClampNeg = i) (hl : i < vs.length) {g : JFrame} (hg : g.method = m) {rest : List Value} (hs : g.stack = .long x :: .int j :: .ref a :: rest) (hd : decode c.code g.pc = .ok (.lastore, 1)) :
    ∃ T' h', Stand p l e R s m args below meth c T' (locs ++ [⟨a, j.toNatClampNeg⟩]) cells slots ∧ T'.heap = h' ∧ Wr h h' a j.toNatClampNeg (.long x) ∧ Arv Z h' a k .long z (vs.set i (.long x)) dv ∧ ∀ target, Steps p.tables e below (T'.setTop { g with pc := g.pc + 1, stack := rest }) target → Steps p.tables e below (T.setTop g) target := by
  obtain ⟨cl, A, q1, S, M, H, G⟩ := F
  obtain ⟨T', h', X', e', W, st⟩ := stJ X hx hZ eT A (j := j) (inb_of S hj) hg hs hd
  exact ⟨T', h', X', e', W, Arv.set A q1 S M H G rfl W i hi hl, st⟩
theorem oStD (X : Stand p l e R s m args below meth c T locs cells slots) (hx : p.tables.exec = Jvm.exec) (hZ : Z.Warmed39 s.vm) (eT : T.heap = h) (F : Arv Z h a k .double z vs dv) {j : Int32} {x : UInt64} (hj : ¬ j < 0 ∧ j < z) (i : Nat) (hi : j.toNatClampNeg = i) (hl : i < vs.length) {g : JFrame} (hg : g.method = m) {rest : List Value} (hs : g.stack = .double x :: .int j :: .ref a :: rest) (hd : decode c.code g.pc = .ok (.dastore, 1)) :
    ∃ T' h', Stand p l e R s m args below meth c T' (locs ++ [⟨a, j.toNatClampNeg⟩]) cells slots ∧ T'.heap = h' ∧ Wr h h' a j.toNatClampNeg (.double x) ∧ Arv Z h' a k .double z (vs.set i (.double x)) dv ∧ ∀ target, Steps p.tables e below (T'.setTop { g with pc := g.pc + 1, stack := rest }) target → Steps p.tables e below (T.setTop g) target := by
  obtain ⟨cl, A, q1, S, M, H, G⟩ := F
  obtain ⟨T', h', X', e', W, st⟩ := stD X hx hZ eT A (j := j) (inb_of S hj) hg hs hd
  exact ⟨T', h', X', e', W, Arv.set A q1 S M H G rfl W i hi hl, st⟩
end OwnKit
abbrev oi (x : Int32) : Slot := .val (.int x)
abbrev oj (x : Int64) : Slot := .val (.long x)
abbrev oa (x : Addr) : Slot := .val (.ref x)
abbrev od (x : UInt64) : Slot := .val (.double x)
abbrev oS (p : Program) (e : Env) (below : List Frame) (T : State) (m : MethodId) (pc : Nat) (L : Array Slot) (S : List Value) (t : State) : Prop := Steps p.tables e below (T.setTop (mkF m pc L S)) t
theorem own_ltp (x k : Int32) : (x < k) = (x.toInt < k.toInt) := propext Int32.lt_iff_toInt_lt
theorem own_eqp (x k : Int32) : (x = k) = (x.toInt = k.toInt) := propext Int32.toInt_inj.symm
theorem own_ltpL (x k : Int64) : (x < k) = (x.toInt < k.toInt) := propext Int64.lt_iff_toInt_lt
theorem own_eqpL (x k : Int64) : (x = k) = (x.toInt = k.toInt) := propext Int64.toInt_inj.symm
theorem own_of_range {P : Int32 → Prop} (n : Nat) (h : ∀ i : Fin n, P (Int32.ofNat i.1)) (x : Int32) (h0 : 0 ≤ x.toInt) (h1 : x.toInt < (n : Int)) : P x := by
  have e : Int32.ofNat x.toInt.toNat = x := by
    rw [← Int32.ofInt_eq_ofNat, Int.toNat_of_nonneg h0, Int32.ofInt_toInt]
  have q := h ⟨x.toInt.toNat, by omega⟩
  rwa [e] at q
theorem own_getD (ws : List Int32) (n : Nat) : (ws.map Value.int).getD n (.int (0 : Int32)) = .int (ws.getD n 0) := by
  simp only [List.getD_eq_getElem?_getD, List.getElem?_map]
  cases ws[n]? <;> rfl

theorem own_pn0 : plainName "com/example/typewright/typewright/declaration/Keyword" = true := by first | (simp [plainName, overriddenIn]; done) | decide +kernel
theorem own_d1_0 : decode prog_20_method_7_code 0 = .ok (.lload_n 0, 1) := by decide +kernel
theorem own_d1_1 : decode prog_20_method_7_code 1 = .ok (.bipush 8, 2) := by decide +kernel
theorem own_d1_3 : decode prog_20_method_7_code 3 = .ok (.lshl, 1) := by decide +kernel
theorem own_d1_4 : decode prog_20_method_7_code 4 = .ok (.iload_n 2, 1) := by decide +kernel
theorem own_d1_5 : decode prog_20_method_7_code 5 = .ok (.i2l, 1) := by decide +kernel
theorem own_d1_6 : decode prog_20_method_7_code 6 = .ok (.lor, 1) := by decide +kernel
theorem own_d1_7 : decode prog_20_method_7_code 7 = .ok (.ldc2_w 198, 3) := by decide +kernel
theorem own_d1_10 : decode prog_20_method_7_code 10 = .ok (.lor, 1) := by decide +kernel
theorem own_d1_11 : decode prog_20_method_7_code 11 = .ok (.lreturn, 1) := by decide +kernel
theorem own_ef1 (m : MethodId) (q0 : Int64) (p1 : Int32) : entryFrame m #[(.long q0), (.int p1)] 3 = mkF m 0 #[oj q0, .second, oi p1] [] := by first | (simp [entryFrame, mkF, argsToLocals, Value.category]; done) | rfl
def own_f1 (q0 : Int64) (p1 : Int32) : Int64 := (((q0 <<< ((8 : Int32) &&& 0x3f).toInt64) ||| (p1.toInt64)) ||| (32 : Int64))
def own_Q1 (Z : State) (q0 : Int64) (p1 : Int32) (h0 : Heap) (n0 : Nat) (v : Option Value) (h : Heap) (L : List Loc) : Prop := v = some (Value.long (own_f1 q0 p1)) ∧ Fr n0 L ∧ h = h0
set_option maxRecDepth 65536 in
set_option maxHeartbeats 40000000 in
theorem own_rm1 (l : Launch) (Z : State) (av : Array Value) (hw : ∀ d ∈ tables_1, d.before av Z = true) (ws : List Jvm.Cond) (q0 : Int64) (p1 : Int32) (h0 : Heap) (n0 : Nat) (Z0 : n0 ≤ h0.size) :
    MetFree l (⟨"com/example/typewright/typewright/declaration/Keyword", "pack", "(JC)J"⟩ : MethodName) (head1 (Jvm.Cond.code (⟨"com/example/typewright/typewright/declaration/Keyword", "pack", "(JC)J"⟩ : MethodName) prog_20_method_7_code 3 (some .long) :: ws) ({ frames := 0, cells := 0, slots := 0, locals := 0 } : Room)) (fun a U => a = #[(.long q0), (.int p1)] ∧ Z.Warmed39 U.vm ∧ U.heap = h0) (fun _ _ _ _ _ => True) (fun _ U o U' => ∃ v L, o = .returned v ∧ own_Q1 Z q0 p1 h0 n0 v U'.heap L ∧ FrameEnd U o U' L ({ frames := 0, cells := 0, slots := 0, locals := 0 } : Room).cells ({ frames := 0, cells := 0, slots := 0, locals := 0 } : Room).slots) := by
  refine MetFree.of_bodySF (plainFor_of_name own_pn0) hisR ?_
  intro p e s m args below meth c s₁ Bd hml0 hP hK
  obtain ⟨rfl, hZ, hh⟩ := hP
  have hx := Bd.exec
  have hby := Bd.bytes
  have hml : c.maxLocals = 3 := hml0
  have hown : s.vm.findClass "com/example/typewright/typewright/declaration/Keyword" = some m.cls := findClass_of_methodNamed Bd.named
  have hnm := (name_of_methodNamed Bd.named Bd.method).1
  have X0 : Stand p l e ({ frames := 0, cells := 0, slots := 0, locals := 0 } : Room) s m #[(.long q0), (.int p1)] below meth c s₁ [] 0 0 := Stand.of_body Bd
  have e0 : s₁.heap = h0 := by rw [← hh, Bd.state]; rfl
  have N0 := Fr.nil n0
  have pre0 : ∀ t, Steps p.tables e below (s₁.setTop (mkF m 0 #[oj q0, .second, oi p1] [])) t → Steps p.tables e below (s₁.setTop (entryFrame m #[(.long q0), (.int p1)] 3)) t := fun t k => castTop (own_ef1 m q0 p1) k
  obtain ⟨fs, hr, hrun, hended, hW, hsame⟩ := X0.leave (v := (some (.long (((q0 <<< ((8 : Int32) &&& 0x3f).toInt64) ||| (p1.toInt64)) ||| (32 : Int64))))) (fun h => by rw [Bd.returns] at h; cases h)
  refine ⟨_, _, pre0 _ ?_, hrun, hended, _, _, rfl, ?_, ⟨_, rfl⟩, hW, hsame.mono (by decide) (by decide)⟩
  · show oS p e below s₁ m 0 #[oj q0, .second, oi p1] [] _
    refine XS.lloadN X0.here hx rfl (hb hby own_d1_0) rfl ?_
    show oS p e below s₁ m 1 #[oj q0, .second, oi p1] [(.long q0)] _
    refine XS.bipush X0.here hx rfl (hb hby own_d1_1) ?_
    show oS p e below s₁ m 3 #[oj q0, .second, oi p1] [(.int (8 : Int32)), (.long q0)] _
    refine XS.lshl X0.here hx rfl (hb hby own_d1_3) rfl ?_
    show oS p e below s₁ m 4 #[oj q0, .second, oi p1] [(.long (q0 <<< ((8 : Int32) &&& 0x3f).toInt64))] _
    refine XS.iloadN X0.here hx rfl (hb hby own_d1_4) rfl ?_
    show oS p e below s₁ m 5 #[oj q0, .second, oi p1] [(.int p1), (.long (q0 <<< ((8 : Int32) &&& 0x3f).toInt64))] _
    refine XS.i2l X0.here hx rfl (hb hby own_d1_5) rfl ?_
    show oS p e below s₁ m 6 #[oj q0, .second, oi p1] [(.long (p1.toInt64)), (.long (q0 <<< ((8 : Int32) &&& 0x3f).toInt64))] _
    refine XS.lor X0.here hx rfl (hb hby own_d1_6) rfl ?_
    show oS p e below s₁ m 7 #[oj q0, .second, oi p1] [(.long ((q0 <<< ((8 : Int32) &&& 0x3f).toInt64) ||| (p1.toInt64)))] _
    refine X0.ldc2Long hx hown (mvT hZ (hw _ (List.mem_of_getElem? (i := 5) rfl))) (g := (mkF m 7 #[oj q0, .second, oi p1] [(.long ((q0 <<< ((8 : Int32) &&& 0x3f).toInt64) ||| (p1.toInt64)))])) rfl (hb hby own_d1_7) _ ?_
    show oS p e below s₁ m 10 #[oj q0, .second, oi p1] [(.long (32 : Int64)), (.long ((q0 <<< ((8 : Int32) &&& 0x3f).toInt64) ||| (p1.toInt64)))] _
    refine XS.lor X0.here hx rfl (hb hby own_d1_10) rfl ?_
    show oS p e below s₁ m 11 #[oj q0, .second, oi p1] [(.long (((q0 <<< ((8 : Int32) &&& 0x3f).toInt64) ||| (p1.toInt64)) ||| (32 : Int64)))] _
    exact retOut X0 hx Bd.returns rfl (Or.inr (Or.inl ⟨rfl, rfl, _, rfl⟩)) (hb hby own_d1_11) hr
  · show own_Q1 Z q0 p1 h0 n0 _ s₁.heap _
    rw [e0]
    exact ⟨congrArg (fun z => some (Value.long z)) (by rw [own_f1]), N0, rfl⟩
theorem own_idx (x : Int32) : 0 ≤ ((x &&& (2147483647 : Int32)) % (53 : Int32)).toInt ∧ ((x &&& (2147483647 : Int32)) % (53 : Int32)).toInt < 53 := by
  have h : (x &&& (2147483647 : Int32)).toInt = x.toInt % 2147483648 := c_mask x 2147483647 31 (by decide) (by decide)
  have h2 := (c_irem (x &&& 2147483647) 53 53 (by decide)).1 (by omega)
  rw [h2]; omega
def own_A (v : Int32) : Int32 := ((97 : Int32) + v).toUInt32.toUInt16.toUInt32.toInt32
def own_B (v : Int32) : Int32 := ((65 : Int32) + v).toUInt32.toUInt16.toUInt32.toInt32
def own_A' (v : Int32) : Int32 := ((97 : Int32) + (v - (26 : Int32))).toUInt32.toUInt16.toUInt32.toInt32
def own_B' (v : Int32) : Int32 := ((65 : Int32) + (v - (26 : Int32))).toUInt32.toUInt16.toUInt32.toInt32
theorem own_t1 : ∀ i : Fin 26, (own_A (Int32.ofNat i.1)).toInt64 ||| (32 : Int64) = ((97 : Int32) + Int32.ofNat i.1).toInt64 ∧ (own_B (Int32.ofNat i.1)).toInt64 ||| (32 : Int64) = ((97 : Int32) + Int32.ofNat i.1).toInt64 ∧ 0 ≤ ((97 : Int32) + Int32.ofNat i.1).toInt ∧ ((97 : Int32) + Int32.ofNat i.1).toInt < 256 := by decide +kernel
theorem own_t2 : ∀ i : Fin 53, 26 ≤ i.1 → i.1 < 52 → (own_A' (Int32.ofNat i.1)).toInt64 ||| (32 : Int64) = ((97 : Int32) + (Int32.ofNat i.1 - (26 : Int32))).toInt64 ∧ (own_B' (Int32.ofNat i.1)).toInt64 ||| (32 : Int64) = ((97 : Int32) + (Int32.ofNat i.1 - (26 : Int32))).toInt64 ∧ 0 ≤ ((97 : Int32) + (Int32.ofNat i.1 - (26 : Int32))).toInt ∧ ((97 : Int32) + (Int32.ofNat i.1 - (26 : Int32))).toInt < 256 := by decide +kernel
theorem own_pack (p : Int64) (c low : Int32) (h : c.toInt64 ||| (32 : Int64) = low.toInt64) (h0 : 0 ≤ low.toInt) (h1 : low.toInt < 256) : own_f1 p c = p * (256 : Int64) + low.toInt64 := by
  unfold own_f1
  rw [Int64.or_assoc, h]
  have e1 : ((p <<< ((8 : Int32) &&& 0x3f).toInt64).toInt - p.toInt * 256) % 18446744073709551616 = 0 := c_lshl p 8 8 (by decide)
  have e2 := c_i2l low
  have e3 := c_orL (p <<< ((8 : Int32) &&& 0x3f).toInt64) low.toInt64 8 (by decide) 256 (by decide) (by omega) (by omega) (by omega)
  have e4 := c_lmul p 256
  have e5 := c_ladd (p * 256) low.toInt64
  have r1 := rng64 (p <<< ((8 : Int32) &&& 0x3f).toInt64 ||| low.toInt64)
  have r2 := rng64 (p * 256 + low.toInt64)
  simp only [Int64.reduceToInt] at e4
  refine Int64.toInt_inj.mp ?_
  omega
theorem own_shr (p : Int64) (low : Int32) (h0 : 0 ≤ low.toInt) (h1 : low.toInt < 256) : (((p * (256 : Int64) + low.toInt64).toUInt64 >>> ((8 : Int32) &&& 0x3f).toInt64.toUInt64).toInt64) = p &&& (72057594037927935 : Int64) := by
  have e1 : (((p * (256 : Int64) + low.toInt64).toUInt64 >>> ((8 : Int32) &&& 0x3f).toInt64.toUInt64).toInt64).toInt = ((p * (256 : Int64) + low.toInt64).toInt % 18446744073709551616) / 256 := c_lushr _ 8 8 (by decide) (by decide)
  have e2 : (p &&& (72057594037927935 : Int64)).toInt = p.toInt % 72057594037927936 := c_maskL p 72057594037927935 56 (by decide) (by decide)
  have e3 := c_i2l low
  have e4 := c_lmul p 256
  have e5 := c_ladd (p * 256) low.toInt64
  simp only [Int64.reduceToInt] at e4
  refine Int64.toInt_inj.mp ?_
  omega
theorem own_low (p : Int64) (low : Int32) (h0 : 0 ≤ low.toInt) (h1 : low.toInt < 256) : (p * (256 : Int64) + low.toInt64) &&& (255 : Int64) = low.toInt64 := by
  have e2 : ((p * (256 : Int64) + low.toInt64) &&& (255 : Int64)).toInt = (p * (256 : Int64) + low.toInt64).toInt % 256 := c_maskL _ 255 8 (by decide) (by decide)
  have e3 := c_i2l low
  have e4 := c_lmul p 256
  have e5 := c_ladd (p * 256) low.toInt64
  simp only [Int64.reduceToInt] at e4
  refine Int64.toInt_inj.mp ?_
  omega
theorem own_1 (v : Int32) (h0 : 0 ≤ v.toInt) (h1 : v < (26 : Int32)) : (own_A v).toInt64 ||| (32 : Int64) = ((97 : Int32) + v).toInt64 ∧ (own_B v).toInt64 ||| (32 : Int64) = ((97 : Int32) + v).toInt64 ∧ 0 ≤ ((97 : Int32) + v).toInt ∧ ((97 : Int32) + v).toInt < 256 := by
  simp only [own_ltp, Int32.reduceToInt] at h1
  exact own_of_range (P := fun v => (own_A v).toInt64 ||| (32 : Int64) = ((97 : Int32) + v).toInt64 ∧ (own_B v).toInt64 ||| (32 : Int64) = ((97 : Int32) + v).toInt64 ∧ 0 ≤ ((97 : Int32) + v).toInt ∧ ((97 : Int32) + v).toInt < 256) 26 own_t1 v h0 h1
theorem own_2 (v : Int32) (h0 : 0 ≤ v.toInt) (h1 : ¬ v < (26 : Int32)) (h2 : v < (52 : Int32)) : (own_A' v).toInt64 ||| (32 : Int64) = ((97 : Int32) + (v - (26 : Int32))).toInt64 ∧ (own_B' v).toInt64 ||| (32 : Int64) = ((97 : Int32) + (v - (26 : Int32))).toInt64 ∧ 0 ≤ ((97 : Int32) + (v - (26 : Int32))).toInt ∧ ((97 : Int32) + (v - (26 : Int32))).toInt < 256 := by
  simp only [own_ltp, Int32.reduceToInt] at h1 h2
  have q := own_t2 ⟨v.toInt.toNat, by omega⟩ (by show 26 ≤ v.toInt.toNat; omega) (by show v.toInt.toNat < 52; omega)
  have e : Int32.ofNat v.toInt.toNat = v := by rw [← Int32.ofInt_eq_ofNat, Int.toNat_of_nonneg h0, Int32.ofInt_toInt]
  simp only [e] at q
  exact q
theorem own_pd0 : parseMethodDescriptor "(JC)J" = some ⟨[.long, .char], some .long⟩ := by decide +kernel
theorem own_pn1 : plainName "com/example/typewright/typewright/declaration/KeywordPackPinLaw" = true := by first | (simp [plainName, overriddenIn]; done) | decide +kernel
theorem own_ef0 (m : MethodId) (q0 : Int64) (p1 : Int32) : entryFrame m #[(.long q0), (.int p1)] maxLocals = mkF m 0 #[oj q0, .second, oi p1, .unset, .unset, .unset, .unset, .unset, .unset, .unset, .unset, .unset] [] := by first | (simp [entryFrame, mkF, argsToLocals, Value.category, maxLocals]; done) | rfl
def own_Q0 (Z : State) (q0 : Int64) (p1 : Int32) (h0 : Heap) (n0 : Nat) (v : Option Value) (h : Heap) (L : List Loc) : Prop := v = some (Value.int (1 : Int32)) ∧ Fr n0 L
set_option maxRecDepth 65536 in
set_option maxHeartbeats 40000000 in
theorem own_rm0 (l : Launch) (Z : State) (av : Array Value) (hw : ∀ d ∈ tables_1, d.before av Z = true) (ws : List Jvm.Cond) (q0 : Int64) (p1 : Int32) (h0 : Heap) (n0 : Nat) (Z0 : n0 ≤ h0.size) :
    MetFree l x (head1 (Jvm.Cond.code x code maxLocals ret :: ws) room_1) (fun a U => a = #[(.long q0), (.int p1)] ∧ Z.Warmed39 U.vm ∧ U.heap = h0) (fun _ _ _ _ _ => True) (fun _ U o U' => ∃ v L, o = .returned v ∧ own_Q0 Z q0 p1 h0 n0 v U'.heap L ∧ FrameEnd U o U' L room_1.cells room_1.slots) := by
  refine MetFree.of_bodySF (plainFor_of_name own_pn1) hisR ?_
  intro p e s m args below meth c s₁ Bd hml0 hP hK
  obtain ⟨rfl, hZ, hh⟩ := hP
  have hx := Bd.exec
  have hby := Bd.bytes
  have hml : c.maxLocals = 12 := hml0
  have hown : s.vm.findClass "com/example/typewright/typewright/declaration/KeywordPackPinLaw" = some m.cls := findClass_of_methodNamed Bd.named
  have hnm := (name_of_methodNamed Bd.named Bd.method).1
  have X0 : Stand p l e room_1 s m #[(.long q0), (.int p1)] below meth c s₁ [] 0 0 := Stand.of_body Bd
  have e0 : s₁.heap = h0 := by rw [← hh, Bd.state]; rfl
  have N0 := Fr.nil n0
  have pre0 : ∀ t, Steps p.tables e below (s₁.setTop (mkF m 0 #[oj q0, .second, oi p1, .unset, .unset, .unset, .unset, .unset, .unset, .unset, .unset, .unset] [])) t → Steps p.tables e below (s₁.setTop (entryFrame m #[(.long q0), (.int p1)] maxLocals)) t := fun t k => castTop (own_ef0 m q0 p1) k
  have pre1 : ∀ t, Steps p.tables e below (s₁.setTop (mkF m 7 #[oj q0, .second, oi p1, .unset, .unset, .unset, .unset, .unset, .unset, .unset, .unset, .unset] [(.int ((p1 &&& (2147483647 : Int32)) % (53 : Int32)))])) t → Steps p.tables e below (s₁.setTop (entryFrame m #[(.long q0), (.int p1)] maxLocals)) t := by
    intro t k
    refine pre0 t ?_
    show oS p e below s₁ m 0 #[oj q0, .second, oi p1, .unset, .unset, .unset, .unset, .unset, .unset, .unset, .unset, .unset] [] _
    refine XS.iloadN X0.here hx rfl (hb hby at_0) rfl ?_
    show oS p e below s₁ m 1 #[oj q0, .second, oi p1, .unset, .unset, .unset, .unset, .unset, .unset, .unset, .unset, .unset] [(.int p1)] _
    refine X0.ldcInt hx hown (mvT hZ (hw _ (List.mem_of_getElem? (i := 0) rfl))) (g := (mkF m 1 #[oj q0, .second, oi p1, .unset, .unset, .unset, .unset, .unset, .unset, .unset, .unset, .unset] [(.int p1)])) rfl (hb hby at_1) _ ?_
    show oS p e below s₁ m 3 #[oj q0, .second, oi p1, .unset, .unset, .unset, .unset, .unset, .unset, .unset, .unset, .unset] [(.int (2147483647 : Int32)), (.int p1)] _
    refine XS.iand X0.here hx rfl (hb hby at_3) rfl ?_
    show oS p e below s₁ m 4 #[oj q0, .second, oi p1, .unset, .unset, .unset, .unset, .unset, .unset, .unset, .unset, .unset] [(.int (p1 &&& (2147483647 : Int32)))] _
    refine XS.bipush X0.here hx rfl (hb hby at_4) ?_
    show oS p e below s₁ m 6 #[oj q0, .second, oi p1, .unset, .unset, .unset, .unset, .unset, .unset, .unset, .unset, .unset] [(.int (53 : Int32)), (.int (p1 &&& (2147483647 : Int32)))] _
    refine Jvm.RoadKit.iremM X0 hx rfl (hb hby at_6) rfl (by decide) ?_
    exact k
  obtain ⟨vd, hvd⟩ : ∃ z : Int32, z = ((p1 &&& (2147483647 : Int32)) % (53 : Int32)) := ⟨_, rfl⟩
  rw [← hvd] at pre1
  have rv : 0 ≤ vd.toInt ∧ vd.toInt < 53 := by rw [hvd]; exact own_idx _
  have pre2 : ∀ t, Steps p.tables e below (s₁.setTop (mkF m 11 #[oj q0, .second, oi p1, oi vd, .unset, .unset, .unset, .unset, .unset, .unset, .unset, .unset] [(.int (26 : Int32)), (.int vd)])) t → Steps p.tables e below (s₁.setTop (entryFrame m #[(.long q0), (.int p1)] maxLocals)) t := by
    intro t k
    refine pre1 t ?_
    show oS p e below s₁ m 7 #[oj q0, .second, oi p1, .unset, .unset, .unset, .unset, .unset, .unset, .unset, .unset, .unset] [(.int vd)] _
    refine XS.istoreN X0.here hx rfl (hb hby at_7) rfl (l' := #[oj q0, .second, oi p1, oi vd, .unset, .unset, .unset, .unset, .unset, .unset, .unset, .unset]) rfl ?_
    show oS p e below s₁ m 8 #[oj q0, .second, oi p1, oi vd, .unset, .unset, .unset, .unset, .unset, .unset, .unset, .unset] [] _
    refine XS.iloadN X0.here hx rfl (hb hby at_8) rfl ?_
    show oS p e below s₁ m 9 #[oj q0, .second, oi p1, oi vd, .unset, .unset, .unset, .unset, .unset, .unset, .unset, .unset] [(.int vd)] _
    refine XS.bipush X0.here hx rfl (hb hby at_9) ?_
    exact k
  by_cases c3 : vd < (26 : Int32)
  · skip
    obtain ⟨k1, k2, k3, k4⟩ := own_1 vd rv.1 c3
    have e1 : own_f1 q0 (((97 : Int32) + vd).toUInt32.toUInt16.toUInt32.toInt32) = q0 * (256 : Int64) + (((97 : Int32) + vd)).toInt64 := own_pack _ _ _ k1 k3 k4
    have e2 : own_f1 q0 (((65 : Int32) + vd).toUInt32.toUInt16.toUInt32.toInt32) = q0 * (256 : Int64) + (((97 : Int32) + vd)).toInt64 := own_pack _ _ _ k2 k3 k4
    obtain ⟨_, _, ⟨T4, L4, k4, n4⟩, -, X4, ⟨Lc4, hQ4, l4, y4, z4⟩, st4⟩ := Jvm.LawKit.callS X0 hx (y := (⟨"com/example/typewright/typewright/declaration/Keyword", "pack", "(JC)J"⟩ : MethodName)) hown (mvT hZ (hw _ (List.mem_of_getElem? (i := 1) rfl))) (mvT hZ (hw _ (List.mem_of_getElem? (i := 2) rfl))) (mvT hZ (hw _ (List.mem_of_getElem? (i := 3) rfl))) (mvT hZ (hw _ (List.mem_of_getElem? (i := 4) rfl))) (by decide) (backOf (W := 0) (own_rm1 l Z av hw [] q0 (((97 : Int32) + vd).toUInt32.toUInt16.toUInt32.toInt32) h0 n0 Z0 ) hZ (hw _ (List.mem_of_getElem? (i := 4) rfl)) (hw _ (List.mem_of_getElem? (i := 3) rfl)) (by decide) (by decide)) (g := (mkF m 90 #[oj q0, .second, oi p1, oi vd, oi (((97 : Int32) + vd).toUInt32.toUInt16.toUInt32.toInt32), oi (((65 : Int32) + vd).toUInt32.toUInt16.toUInt32.toInt32), oi ((97 : Int32) + vd), .unset, .unset, .unset, .unset, .unset] [(.int (((97 : Int32) + vd).toUInt32.toUInt16.toUInt32.toInt32)), (.long q0)])) rfl (by rw [hml]; rfl) (argsL := [(.long q0), (.int (((97 : Int32) + vd).toUInt32.toUInt16.toUInt32.toInt32))]) (rest := []) (lenOf own_pd0 rfl) rfl (by show 2 * 0 + _ ≤ _; exact Nat.le_of_eq rfl) (hb hby at_90) (fun _ _ => ⟨rfl, e0, (by decide : 0 + 0 ≤ _), (by decide : 0 + 0 ≤ _)⟩)
    dsimp only [Pt.U, Pt.locs, Pt.cells, Pt.slots] at X4 l4 y4 z4 st4 hQ4
    subst l4 y4 z4
    obtain ⟨rfl, Nq4, eq4⟩ := hQ4
    have N4 := Fr.app N0 Nq4
    have b5 : (own_f1 q0 (((97 : Int32) + vd).toUInt32.toUInt16.toUInt32.toInt32)) = ((q0 * (256 : Int64)) + (((97 : Int32) + vd).toInt64)) := e1
    have b6 : ¬ ((1 : Int32) = (0 : Int32)) := (by decide)
    have b7 : (((own_f1 q0 (((97 : Int32) + vd).toUInt32.toUInt16.toUInt32.toInt32)).toUInt64 >>> ((8 : Int32) &&& 0x3f).toInt64.toUInt64).toInt64) = (q0 &&& (72057594037927935 : Int64)) := by rw [e1]; exact own_shr _ _ k3 k4
    have b8 : ¬ ((1 : Int32) = (0 : Int32)) := (by decide)
    have b9 : ((own_f1 q0 (((97 : Int32) + vd).toUInt32.toUInt16.toUInt32.toInt32)) &&& (255 : Int64)) = (((97 : Int32) + vd).toInt64) := by rw [e1]; exact own_low _ _ k3 k4
    have b10 : vd < (52 : Int32) := by simp only [own_ltp, Int32.reduceToInt] at *; omega
    have b11 : ¬ ((1 : Int32) = (0 : Int32)) := (by decide)
    obtain ⟨_, _, ⟨T12, L12, k12, n12⟩, -, X12, ⟨Lc12, hQ12, l12, y12, z12⟩, st12⟩ := Jvm.LawKit.callS X4 hx (y := (⟨"com/example/typewright/typewright/declaration/Keyword", "pack", "(JC)J"⟩ : MethodName)) hown (mvT hZ (hw _ (List.mem_of_getElem? (i := 1) rfl))) (mvT hZ (hw _ (List.mem_of_getElem? (i := 2) rfl))) (mvT hZ (hw _ (List.mem_of_getElem? (i := 3) rfl))) (mvT hZ (hw _ (List.mem_of_getElem? (i := 4) rfl))) (by decide) (backOf (W := 0) (own_rm1 l Z av hw [] q0 (((65 : Int32) + vd).toUInt32.toUInt16.toUInt32.toInt32) h0 n0 Z0 ) hZ (hw _ (List.mem_of_getElem? (i := 4) rfl)) (hw _ (List.mem_of_getElem? (i := 3) rfl)) (by decide) (by decide)) (g := (mkF m 186 #[oj q0, .second, oi p1, oi vd, oi (((97 : Int32) + vd).toUInt32.toUInt16.toUInt32.toInt32), oi (((65 : Int32) + vd).toUInt32.toUInt16.toUInt32.toInt32), oi ((97 : Int32) + vd), oj (own_f1 q0 (((97 : Int32) + vd).toUInt32.toUInt16.toUInt32.toInt32)), .second, oj ((q0 * (256 : Int64)) + (((97 : Int32) + vd).toInt64)), .second, oi (1 : Int32)] [(.int (((65 : Int32) + vd).toUInt32.toUInt16.toUInt32.toInt32)), (.long q0)])) rfl (by rw [hml]; rfl) (argsL := [(.long q0), (.int (((65 : Int32) + vd).toUInt32.toUInt16.toUInt32.toInt32))]) (rest := []) (lenOf own_pd0 rfl) rfl (by show 2 * 0 + _ ≤ _; exact Nat.le_of_eq rfl) (hb hby at_186) (fun _ _ => ⟨rfl, eq4, (by decide : 0 + 0 ≤ _), (by decide : 0 + 0 ≤ _)⟩)
    dsimp only [Pt.U, Pt.locs, Pt.cells, Pt.slots] at X12 l12 y12 z12 st12 hQ12
    subst l12 y12 z12
    obtain ⟨rfl, Nq12, eq12⟩ := hQ12
    have N12 := Fr.app N4 Nq12
    have b13 : (own_f1 q0 (((65 : Int32) + vd).toUInt32.toUInt16.toUInt32.toInt32)) = (own_f1 q0 (((97 : Int32) + vd).toUInt32.toUInt16.toUInt32.toInt32)) := e2.trans e1.symm
    obtain ⟨fs, hr, hrun, hended, hW, hsame⟩ := X12.leave (v := (some (.int (1 : Int32)))) (fun h => by rw [Bd.returns] at h; cases h)
    refine ⟨_, _, pre2 _ ?_, hrun, hended, _, _, rfl, ?_, ⟨_, rfl⟩, hW, hsame.mono (by decide) (by decide)⟩
    · show oS p e below s₁ m 11 #[oj q0, .second, oi p1, oi vd, .unset, .unset, .unset, .unset, .unset, .unset, .unset, .unset] [(.int (26 : Int32)), (.int vd)] _
      refine XS.icmpNo X0.here hx rfl (hb hby at_11) rfl (tlt c3).2.1 ?_
      show oS p e below s₁ m 14 #[oj q0, .second, oi p1, oi vd, .unset, .unset, .unset, .unset, .unset, .unset, .unset, .unset] [] _
      refine XS.bipush X0.here hx rfl (hb hby at_14) ?_
      show oS p e below s₁ m 16 #[oj q0, .second, oi p1, oi vd, .unset, .unset, .unset, .unset, .unset, .unset, .unset, .unset] [(.int (97 : Int32))] _
      refine XS.iloadN X0.here hx rfl (hb hby at_16) rfl ?_
      show oS p e below s₁ m 17 #[oj q0, .second, oi p1, oi vd, .unset, .unset, .unset, .unset, .unset, .unset, .unset, .unset] [(.int vd), (.int (97 : Int32))] _
      refine XS.iadd X0.here hx rfl (hb hby at_17) rfl ?_
      show oS p e below s₁ m 18 #[oj q0, .second, oi p1, oi vd, .unset, .unset, .unset, .unset, .unset, .unset, .unset, .unset] [(.int ((97 : Int32) + vd))] _
      refine XS.i2c X0.here hx rfl (hb hby at_18) rfl ?_
      show oS p e below s₁ m 19 #[oj q0, .second, oi p1, oi vd, .unset, .unset, .unset, .unset, .unset, .unset, .unset, .unset] [(.int (((97 : Int32) + vd).toUInt32.toUInt16.toUInt32.toInt32))] _
      refine XS.istore X0.here hx rfl (hb hby at_19) rfl (l' := #[oj q0, .second, oi p1, oi vd, oi (((97 : Int32) + vd).toUInt32.toUInt16.toUInt32.toInt32), .unset, .unset, .unset, .unset, .unset, .unset, .unset]) rfl ?_
      show oS p e below s₁ m 21 #[oj q0, .second, oi p1, oi vd, oi (((97 : Int32) + vd).toUInt32.toUInt16.toUInt32.toInt32), .unset, .unset, .unset, .unset, .unset, .unset, .unset] [] _
      refine XS.bipush X0.here hx rfl (hb hby at_21) ?_
      show oS p e below s₁ m 23 #[oj q0, .second, oi p1, oi vd, oi (((97 : Int32) + vd).toUInt32.toUInt16.toUInt32.toInt32), .unset, .unset, .unset, .unset, .unset, .unset, .unset] [(.int (65 : Int32))] _
      refine XS.iloadN X0.here hx rfl (hb hby at_23) rfl ?_
      show oS p e below s₁ m 24 #[oj q0, .second, oi p1, oi vd, oi (((97 : Int32) + vd).toUInt32.toUInt16.toUInt32.toInt32), .unset, .unset, .unset, .unset, .unset, .unset, .unset] [(.int vd), (.int (65 : Int32))] _
      refine XS.iadd X0.here hx rfl (hb hby at_24) rfl ?_
      show oS p e below s₁ m 25 #[oj q0, .second, oi p1, oi vd, oi (((97 : Int32) + vd).toUInt32.toUInt16.toUInt32.toInt32), .unset, .unset, .unset, .unset, .unset, .unset, .unset] [(.int ((65 : Int32) + vd))] _
      refine XS.i2c X0.here hx rfl (hb hby at_25) rfl ?_
      show oS p e below s₁ m 26 #[oj q0, .second, oi p1, oi vd, oi (((97 : Int32) + vd).toUInt32.toUInt16.toUInt32.toInt32), .unset, .unset, .unset, .unset, .unset, .unset, .unset] [(.int (((65 : Int32) + vd).toUInt32.toUInt16.toUInt32.toInt32))] _
      refine XS.istore X0.here hx rfl (hb hby at_26) rfl (l' := #[oj q0, .second, oi p1, oi vd, oi (((97 : Int32) + vd).toUInt32.toUInt16.toUInt32.toInt32), oi (((65 : Int32) + vd).toUInt32.toUInt16.toUInt32.toInt32), .unset, .unset, .unset, .unset, .unset, .unset]) rfl ?_
      show oS p e below s₁ m 28 #[oj q0, .second, oi p1, oi vd, oi (((97 : Int32) + vd).toUInt32.toUInt16.toUInt32.toInt32), oi (((65 : Int32) + vd).toUInt32.toUInt16.toUInt32.toInt32), .unset, .unset, .unset, .unset, .unset, .unset] [] _
      refine XS.bipush X0.here hx rfl (hb hby at_28) ?_
      show oS p e below s₁ m 30 #[oj q0, .second, oi p1, oi vd, oi (((97 : Int32) + vd).toUInt32.toUInt16.toUInt32.toInt32), oi (((65 : Int32) + vd).toUInt32.toUInt16.toUInt32.toInt32), .unset, .unset, .unset, .unset, .unset, .unset] [(.int (97 : Int32))] _
      refine XS.iloadN X0.here hx rfl (hb hby at_30) rfl ?_
      show oS p e below s₁ m 31 #[oj q0, .second, oi p1, oi vd, oi (((97 : Int32) + vd).toUInt32.toUInt16.toUInt32.toInt32), oi (((65 : Int32) + vd).toUInt32.toUInt16.toUInt32.toInt32), .unset, .unset, .unset, .unset, .unset, .unset] [(.int vd), (.int (97 : Int32))] _
      refine XS.iadd X0.here hx rfl (hb hby at_31) rfl ?_
      show oS p e below s₁ m 32 #[oj q0, .second, oi p1, oi vd, oi (((97 : Int32) + vd).toUInt32.toUInt16.toUInt32.toInt32), oi (((65 : Int32) + vd).toUInt32.toUInt16.toUInt32.toInt32), .unset, .unset, .unset, .unset, .unset, .unset] [(.int ((97 : Int32) + vd))] _
      refine XS.istore X0.here hx rfl (hb hby at_32) rfl (l' := #[oj q0, .second, oi p1, oi vd, oi (((97 : Int32) + vd).toUInt32.toUInt16.toUInt32.toInt32), oi (((65 : Int32) + vd).toUInt32.toUInt16.toUInt32.toInt32), oi ((97 : Int32) + vd), .unset, .unset, .unset, .unset, .unset]) rfl ?_
      show oS p e below s₁ m 34 #[oj q0, .second, oi p1, oi vd, oi (((97 : Int32) + vd).toUInt32.toUInt16.toUInt32.toInt32), oi (((65 : Int32) + vd).toUInt32.toUInt16.toUInt32.toInt32), oi ((97 : Int32) + vd), .unset, .unset, .unset, .unset, .unset] [] _
      refine XS.goto X0.here hx rfl (pc0 := 34) (pc' := 87) rfl (hb hby at_34) (by decide) (by decide) ?_
      show oS p e below s₁ m 87 #[oj q0, .second, oi p1, oi vd, oi (((97 : Int32) + vd).toUInt32.toUInt16.toUInt32.toInt32), oi (((65 : Int32) + vd).toUInt32.toUInt16.toUInt32.toInt32), oi ((97 : Int32) + vd), .unset, .unset, .unset, .unset, .unset] [] _
      refine XS.lloadN X0.here hx rfl (hb hby at_87) rfl ?_
      show oS p e below s₁ m 88 #[oj q0, .second, oi p1, oi vd, oi (((97 : Int32) + vd).toUInt32.toUInt16.toUInt32.toInt32), oi (((65 : Int32) + vd).toUInt32.toUInt16.toUInt32.toInt32), oi ((97 : Int32) + vd), .unset, .unset, .unset, .unset, .unset] [(.long q0)] _
      refine XS.iload X0.here hx rfl (hb hby at_88) rfl ?_
      show oS p e below s₁ m 90 #[oj q0, .second, oi p1, oi vd, oi (((97 : Int32) + vd).toUInt32.toUInt16.toUInt32.toInt32), oi (((65 : Int32) + vd).toUInt32.toUInt16.toUInt32.toInt32), oi ((97 : Int32) + vd), .unset, .unset, .unset, .unset, .unset] [(.int (((97 : Int32) + vd).toUInt32.toUInt16.toUInt32.toInt32)), (.long q0)] _
      refine st4 _ ?_
      show oS p e below T4 m 93 #[oj q0, .second, oi p1, oi vd, oi (((97 : Int32) + vd).toUInt32.toUInt16.toUInt32.toInt32), oi (((65 : Int32) + vd).toUInt32.toUInt16.toUInt32.toInt32), oi ((97 : Int32) + vd), .unset, .unset, .unset, .unset, .unset] [(.long (own_f1 q0 (((97 : Int32) + vd).toUInt32.toUInt16.toUInt32.toInt32)))] _
      refine XS.lstore X4.here hx rfl (hb hby at_93) rfl (l' := #[oj q0, .second, oi p1, oi vd, oi (((97 : Int32) + vd).toUInt32.toUInt16.toUInt32.toInt32), oi (((65 : Int32) + vd).toUInt32.toUInt16.toUInt32.toInt32), oi ((97 : Int32) + vd), oj (own_f1 q0 (((97 : Int32) + vd).toUInt32.toUInt16.toUInt32.toInt32)), .second, .unset, .unset, .unset]) rfl ?_
      show oS p e below T4 m 95 #[oj q0, .second, oi p1, oi vd, oi (((97 : Int32) + vd).toUInt32.toUInt16.toUInt32.toInt32), oi (((65 : Int32) + vd).toUInt32.toUInt16.toUInt32.toInt32), oi ((97 : Int32) + vd), oj (own_f1 q0 (((97 : Int32) + vd).toUInt32.toUInt16.toUInt32.toInt32)), .second, .unset, .unset, .unset] [] _
      refine XS.lloadN X4.here hx rfl (hb hby at_95) rfl ?_
      show oS p e below T4 m 96 #[oj q0, .second, oi p1, oi vd, oi (((97 : Int32) + vd).toUInt32.toUInt16.toUInt32.toInt32), oi (((65 : Int32) + vd).toUInt32.toUInt16.toUInt32.toInt32), oi ((97 : Int32) + vd), oj (own_f1 q0 (((97 : Int32) + vd).toUInt32.toUInt16.toUInt32.toInt32)), .second, .unset, .unset, .unset] [(.long q0)] _
      refine X4.ldc2Long hx hown (mvT hZ (hw _ (List.mem_of_getElem? (i := 6) rfl))) (g := (mkF m 96 #[oj q0, .second, oi p1, oi vd, oi (((97 : Int32) + vd).toUInt32.toUInt16.toUInt32.toInt32), oi (((65 : Int32) + vd).toUInt32.toUInt16.toUInt32.toInt32), oi ((97 : Int32) + vd), oj (own_f1 q0 (((97 : Int32) + vd).toUInt32.toUInt16.toUInt32.toInt32)), .second, .unset, .unset, .unset] [(.long q0)])) rfl (hb hby at_96) _ ?_
      show oS p e below T4 m 99 #[oj q0, .second, oi p1, oi vd, oi (((97 : Int32) + vd).toUInt32.toUInt16.toUInt32.toInt32), oi (((65 : Int32) + vd).toUInt32.toUInt16.toUInt32.toInt32), oi ((97 : Int32) + vd), oj (own_f1 q0 (((97 : Int32) + vd).toUInt32.toUInt16.toUInt32.toInt32)), .second, .unset, .unset, .unset] [(.long (256 : Int64)), (.long q0)] _
      refine XS.lmul X4.here hx rfl (hb hby at_99) rfl ?_
      show oS p e below T4 m 100 #[oj q0, .second, oi p1, oi vd, oi (((97 : Int32) + vd).toUInt32.toUInt16.toUInt32.toInt32), oi (((65 : Int32) + vd).toUInt32.toUInt16.toUInt32.toInt32), oi ((97 : Int32) + vd), oj (own_f1 q0 (((97 : Int32) + vd).toUInt32.toUInt16.toUInt32.toInt32)), .second, .unset, .unset, .unset] [(.long (q0 * (256 : Int64)))] _
      refine XS.iload X4.here hx rfl (hb hby at_100) rfl ?_
      show oS p e below T4 m 102 #[oj q0, .second, oi p1, oi vd, oi (((97 : Int32) + vd).toUInt32.toUInt16.toUInt32.toInt32), oi (((65 : Int32) + vd).toUInt32.toUInt16.toUInt32.toInt32), oi ((97 : Int32) + vd), oj (own_f1 q0 (((97 : Int32) + vd).toUInt32.toUInt16.toUInt32.toInt32)), .second, .unset, .unset, .unset] [(.int ((97 : Int32) + vd)), (.long (q0 * (256 : Int64)))] _
      refine XS.i2l X4.here hx rfl (hb hby at_102) rfl ?_
      show oS p e below T4 m 103 #[oj q0, .second, oi p1, oi vd, oi (((97 : Int32) + vd).toUInt32.toUInt16.toUInt32.toInt32), oi (((65 : Int32) + vd).toUInt32.toUInt16.toUInt32.toInt32), oi ((97 : Int32) + vd), oj (own_f1 q0 (((97 : Int32) + vd).toUInt32.toUInt16.toUInt32.toInt32)), .second, .unset, .unset, .unset] [(.long (((97 : Int32) + vd).toInt64)), (.long (q0 * (256 : Int64)))] _
      refine XS.ladd X4.here hx rfl (hb hby at_103) rfl ?_
      show oS p e below T4 m 104 #[oj q0, .second, oi p1, oi vd, oi (((97 : Int32) + vd).toUInt32.toUInt16.toUInt32.toInt32), oi (((65 : Int32) + vd).toUInt32.toUInt16.toUInt32.toInt32), oi ((97 : Int32) + vd), oj (own_f1 q0 (((97 : Int32) + vd).toUInt32.toUInt16.toUInt32.toInt32)), .second, .unset, .unset, .unset] [(.long ((q0 * (256 : Int64)) + (((97 : Int32) + vd).toInt64)))] _
      refine XS.lstore X4.here hx rfl (hb hby at_104) rfl (l' := #[oj q0, .second, oi p1, oi vd, oi (((97 : Int32) + vd).toUInt32.toUInt16.toUInt32.toInt32), oi (((65 : Int32) + vd).toUInt32.toUInt16.toUInt32.toInt32), oi ((97 : Int32) + vd), oj (own_f1 q0 (((97 : Int32) + vd).toUInt32.toUInt16.toUInt32.toInt32)), .second, oj ((q0 * (256 : Int64)) + (((97 : Int32) + vd).toInt64)), .second, .unset]) rfl ?_
      show oS p e below T4 m 106 #[oj q0, .second, oi p1, oi vd, oi (((97 : Int32) + vd).toUInt32.toUInt16.toUInt32.toInt32), oi (((65 : Int32) + vd).toUInt32.toUInt16.toUInt32.toInt32), oi ((97 : Int32) + vd), oj (own_f1 q0 (((97 : Int32) + vd).toUInt32.toUInt16.toUInt32.toInt32)), .second, oj ((q0 * (256 : Int64)) + (((97 : Int32) + vd).toInt64)), .second, .unset] [] _
      refine XS.lload X4.here hx rfl (hb hby at_106) rfl ?_
      show oS p e below T4 m 108 #[oj q0, .second, oi p1, oi vd, oi (((97 : Int32) + vd).toUInt32.toUInt16.toUInt32.toInt32), oi (((65 : Int32) + vd).toUInt32.toUInt16.toUInt32.toInt32), oi ((97 : Int32) + vd), oj (own_f1 q0 (((97 : Int32) + vd).toUInt32.toUInt16.toUInt32.toInt32)), .second, oj ((q0 * (256 : Int64)) + (((97 : Int32) + vd).toInt64)), .second, .unset] [(.long (own_f1 q0 (((97 : Int32) + vd).toUInt32.toUInt16.toUInt32.toInt32)))] _
      refine XS.lload X4.here hx rfl (hb hby at_108) rfl ?_
      show oS p e below T4 m 110 #[oj q0, .second, oi p1, oi vd, oi (((97 : Int32) + vd).toUInt32.toUInt16.toUInt32.toInt32), oi (((65 : Int32) + vd).toUInt32.toUInt16.toUInt32.toInt32), oi ((97 : Int32) + vd), oj (own_f1 q0 (((97 : Int32) + vd).toUInt32.toUInt16.toUInt32.toInt32)), .second, oj ((q0 * (256 : Int64)) + (((97 : Int32) + vd).toInt64)), .second, .unset] [(.long ((q0 * (256 : Int64)) + (((97 : Int32) + vd).toInt64))), (.long (own_f1 q0 (((97 : Int32) + vd).toUInt32.toUInt16.toUInt32.toInt32)))] _
      refine XS.lcmp X4.here hx rfl (hb hby at_110) rfl ?_
      show oS p e below T4 m 111 #[oj q0, .second, oi p1, oi vd, oi (((97 : Int32) + vd).toUInt32.toUInt16.toUInt32.toInt32), oi (((65 : Int32) + vd).toUInt32.toUInt16.toUInt32.toInt32), oi ((97 : Int32) + vd), oj (own_f1 q0 (((97 : Int32) + vd).toUInt32.toUInt16.toUInt32.toInt32)), .second, oj ((q0 * (256 : Int64)) + (((97 : Int32) + vd).toInt64)), .second, .unset] [(.int (lcmpW (own_f1 q0 (((97 : Int32) + vd).toUInt32.toUInt16.toUInt32.toInt32)) ((q0 * (256 : Int64)) + (((97 : Int32) + vd).toInt64))))] _
      refine XS.ifNo X4.here hx rfl (hb hby at_111) rfl ((if0 _ _).trans (teq ((lw_eq (own_f1 q0 (((97 : Int32) + vd).toUInt32.toUInt16.toUInt32.toInt32)) ((q0 * (256 : Int64)) + (((97 : Int32) + vd).toInt64))).mpr b5)).2) ?_
      show oS p e below T4 m 114 #[oj q0, .second, oi p1, oi vd, oi (((97 : Int32) + vd).toUInt32.toUInt16.toUInt32.toInt32), oi (((65 : Int32) + vd).toUInt32.toUInt16.toUInt32.toInt32), oi ((97 : Int32) + vd), oj (own_f1 q0 (((97 : Int32) + vd).toUInt32.toUInt16.toUInt32.toInt32)), .second, oj ((q0 * (256 : Int64)) + (((97 : Int32) + vd).toInt64)), .second, .unset] [] _
      refine XS.iconst X4.here hx rfl (hb hby at_114) ?_
      show oS p e below T4 m 115 #[oj q0, .second, oi p1, oi vd, oi (((97 : Int32) + vd).toUInt32.toUInt16.toUInt32.toInt32), oi (((65 : Int32) + vd).toUInt32.toUInt16.toUInt32.toInt32), oi ((97 : Int32) + vd), oj (own_f1 q0 (((97 : Int32) + vd).toUInt32.toUInt16.toUInt32.toInt32)), .second, oj ((q0 * (256 : Int64)) + (((97 : Int32) + vd).toInt64)), .second, .unset] [(.int (1 : Int32))] _
      refine XS.goto X4.here hx rfl (pc0 := 115) (pc' := 119) rfl (hb hby at_115) (by decide) (by decide) ?_
      show oS p e below T4 m 119 #[oj q0, .second, oi p1, oi vd, oi (((97 : Int32) + vd).toUInt32.toUInt16.toUInt32.toInt32), oi (((65 : Int32) + vd).toUInt32.toUInt16.toUInt32.toInt32), oi ((97 : Int32) + vd), oj (own_f1 q0 (((97 : Int32) + vd).toUInt32.toUInt16.toUInt32.toInt32)), .second, oj ((q0 * (256 : Int64)) + (((97 : Int32) + vd).toInt64)), .second, .unset] [(.int (1 : Int32))] _
      refine XS.istore X4.here hx rfl (hb hby at_119) rfl (l' := #[oj q0, .second, oi p1, oi vd, oi (((97 : Int32) + vd).toUInt32.toUInt16.toUInt32.toInt32), oi (((65 : Int32) + vd).toUInt32.toUInt16.toUInt32.toInt32), oi ((97 : Int32) + vd), oj (own_f1 q0 (((97 : Int32) + vd).toUInt32.toUInt16.toUInt32.toInt32)), .second, oj ((q0 * (256 : Int64)) + (((97 : Int32) + vd).toInt64)), .second, oi (1 : Int32)]) rfl ?_
      show oS p e below T4 m 121 #[oj q0, .second, oi p1, oi vd, oi (((97 : Int32) + vd).toUInt32.toUInt16.toUInt32.toInt32), oi (((65 : Int32) + vd).toUInt32.toUInt16.toUInt32.toInt32), oi ((97 : Int32) + vd), oj (own_f1 q0 (((97 : Int32) + vd).toUInt32.toUInt16.toUInt32.toInt32)), .second, oj ((q0 * (256 : Int64)) + (((97 : Int32) + vd).toInt64)), .second, oi (1 : Int32)] [] _
      refine XS.iload X4.here hx rfl (hb hby at_121) rfl ?_
      show oS p e below T4 m 123 #[oj q0, .second, oi p1, oi vd, oi (((97 : Int32) + vd).toUInt32.toUInt16.toUInt32.toInt32), oi (((65 : Int32) + vd).toUInt32.toUInt16.toUInt32.toInt32), oi ((97 : Int32) + vd), oj (own_f1 q0 (((97 : Int32) + vd).toUInt32.toUInt16.toUInt32.toInt32)), .second, oj ((q0 * (256 : Int64)) + (((97 : Int32) + vd).toInt64)), .second, oi (1 : Int32)] [(.int (1 : Int32))] _
      refine XS.ifNo X4.here hx rfl (hb hby at_123) rfl ((if0 _ _).trans (feq b6).1) ?_
      show oS p e below T4 m 126 #[oj q0, .second, oi p1, oi vd, oi (((97 : Int32) + vd).toUInt32.toUInt16.toUInt32.toInt32), oi (((65 : Int32) + vd).toUInt32.toUInt16.toUInt32.toInt32), oi ((97 : Int32) + vd), oj (own_f1 q0 (((97 : Int32) + vd).toUInt32.toUInt16.toUInt32.toInt32)), .second, oj ((q0 * (256 : Int64)) + (((97 : Int32) + vd).toInt64)), .second, oi (1 : Int32)] [] _
      refine XS.lload X4.here hx rfl (hb hby at_126) rfl ?_
      show oS p e below T4 m 128 #[oj q0, .second, oi p1, oi vd, oi (((97 : Int32) + vd).toUInt32.toUInt16.toUInt32.toInt32), oi (((65 : Int32) + vd).toUInt32.toUInt16.toUInt32.toInt32), oi ((97 : Int32) + vd), oj (own_f1 q0 (((97 : Int32) + vd).toUInt32.toUInt16.toUInt32.toInt32)), .second, oj ((q0 * (256 : Int64)) + (((97 : Int32) + vd).toInt64)), .second, oi (1 : Int32)] [(.long (own_f1 q0 (((97 : Int32) + vd).toUInt32.toUInt16.toUInt32.toInt32)))] _
      refine XS.bipush X4.here hx rfl (hb hby at_128) ?_
      show oS p e below T4 m 130 #[oj q0, .second, oi p1, oi vd, oi (((97 : Int32) + vd).toUInt32.toUInt16.toUInt32.toInt32), oi (((65 : Int32) + vd).toUInt32.toUInt16.toUInt32.toInt32), oi ((97 : Int32) + vd), oj (own_f1 q0 (((97 : Int32) + vd).toUInt32.toUInt16.toUInt32.toInt32)), .second, oj ((q0 * (256 : Int64)) + (((97 : Int32) + vd).toInt64)), .second, oi (1 : Int32)] [(.int (8 : Int32)), (.long (own_f1 q0 (((97 : Int32) + vd).toUInt32.toUInt16.toUInt32.toInt32)))] _
      refine XS.lushr X4.here hx rfl (hb hby at_130) rfl ?_
      show oS p e below T4 m 131 #[oj q0, .second, oi p1, oi vd, oi (((97 : Int32) + vd).toUInt32.toUInt16.toUInt32.toInt32), oi (((65 : Int32) + vd).toUInt32.toUInt16.toUInt32.toInt32), oi ((97 : Int32) + vd), oj (own_f1 q0 (((97 : Int32) + vd).toUInt32.toUInt16.toUInt32.toInt32)), .second, oj ((q0 * (256 : Int64)) + (((97 : Int32) + vd).toInt64)), .second, oi (1 : Int32)] [(.long (((own_f1 q0 (((97 : Int32) + vd).toUInt32.toUInt16.toUInt32.toInt32)).toUInt64 >>> ((8 : Int32) &&& 0x3f).toInt64.toUInt64).toInt64))] _
      refine XS.lloadN X4.here hx rfl (hb hby at_131) rfl ?_
      show oS p e below T4 m 132 #[oj q0, .second, oi p1, oi vd, oi (((97 : Int32) + vd).toUInt32.toUInt16.toUInt32.toInt32), oi (((65 : Int32) + vd).toUInt32.toUInt16.toUInt32.toInt32), oi ((97 : Int32) + vd), oj (own_f1 q0 (((97 : Int32) + vd).toUInt32.toUInt16.toUInt32.toInt32)), .second, oj ((q0 * (256 : Int64)) + (((97 : Int32) + vd).toInt64)), .second, oi (1 : Int32)] [(.long q0), (.long (((own_f1 q0 (((97 : Int32) + vd).toUInt32.toUInt16.toUInt32.toInt32)).toUInt64 >>> ((8 : Int32) &&& 0x3f).toInt64.toUInt64).toInt64))] _
      refine X4.ldc2Long hx hown (mvT hZ (hw _ (List.mem_of_getElem? (i := 7) rfl))) (g := (mkF m 132 #[oj q0, .second, oi p1, oi vd, oi (((97 : Int32) + vd).toUInt32.toUInt16.toUInt32.toInt32), oi (((65 : Int32) + vd).toUInt32.toUInt16.toUInt32.toInt32), oi ((97 : Int32) + vd), oj (own_f1 q0 (((97 : Int32) + vd).toUInt32.toUInt16.toUInt32.toInt32)), .second, oj ((q0 * (256 : Int64)) + (((97 : Int32) + vd).toInt64)), .second, oi (1 : Int32)] [(.long q0), (.long (((own_f1 q0 (((97 : Int32) + vd).toUInt32.toUInt16.toUInt32.toInt32)).toUInt64 >>> ((8 : Int32) &&& 0x3f).toInt64.toUInt64).toInt64))])) rfl (hb hby at_132) _ ?_
      show oS p e below T4 m 135 #[oj q0, .second, oi p1, oi vd, oi (((97 : Int32) + vd).toUInt32.toUInt16.toUInt32.toInt32), oi (((65 : Int32) + vd).toUInt32.toUInt16.toUInt32.toInt32), oi ((97 : Int32) + vd), oj (own_f1 q0 (((97 : Int32) + vd).toUInt32.toUInt16.toUInt32.toInt32)), .second, oj ((q0 * (256 : Int64)) + (((97 : Int32) + vd).toInt64)), .second, oi (1 : Int32)] [(.long (72057594037927935 : Int64)), (.long q0), (.long (((own_f1 q0 (((97 : Int32) + vd).toUInt32.toUInt16.toUInt32.toInt32)).toUInt64 >>> ((8 : Int32) &&& 0x3f).toInt64.toUInt64).toInt64))] _
      refine XS.land X4.here hx rfl (hb hby at_135) rfl ?_
      show oS p e below T4 m 136 #[oj q0, .second, oi p1, oi vd, oi (((97 : Int32) + vd).toUInt32.toUInt16.toUInt32.toInt32), oi (((65 : Int32) + vd).toUInt32.toUInt16.toUInt32.toInt32), oi ((97 : Int32) + vd), oj (own_f1 q0 (((97 : Int32) + vd).toUInt32.toUInt16.toUInt32.toInt32)), .second, oj ((q0 * (256 : Int64)) + (((97 : Int32) + vd).toInt64)), .second, oi (1 : Int32)] [(.long (q0 &&& (72057594037927935 : Int64))), (.long (((own_f1 q0 (((97 : Int32) + vd).toUInt32.toUInt16.toUInt32.toInt32)).toUInt64 >>> ((8 : Int32) &&& 0x3f).toInt64.toUInt64).toInt64))] _
      refine XS.lcmp X4.here hx rfl (hb hby at_136) rfl ?_
      show oS p e below T4 m 137 #[oj q0, .second, oi p1, oi vd, oi (((97 : Int32) + vd).toUInt32.toUInt16.toUInt32.toInt32), oi (((65 : Int32) + vd).toUInt32.toUInt16.toUInt32.toInt32), oi ((97 : Int32) + vd), oj (own_f1 q0 (((97 : Int32) + vd).toUInt32.toUInt16.toUInt32.toInt32)), .second, oj ((q0 * (256 : Int64)) + (((97 : Int32) + vd).toInt64)), .second, oi (1 : Int32)] [(.int (lcmpW (((own_f1 q0 (((97 : Int32) + vd).toUInt32.toUInt16.toUInt32.toInt32)).toUInt64 >>> ((8 : Int32) &&& 0x3f).toInt64.toUInt64).toInt64) (q0 &&& (72057594037927935 : Int64))))] _
      refine XS.ifNo X4.here hx rfl (hb hby at_137) rfl ((if0 _ _).trans (teq ((lw_eq (((own_f1 q0 (((97 : Int32) + vd).toUInt32.toUInt16.toUInt32.toInt32)).toUInt64 >>> ((8 : Int32) &&& 0x3f).toInt64.toUInt64).toInt64) (q0 &&& (72057594037927935 : Int64))).mpr b7)).2) ?_
      show oS p e below T4 m 140 #[oj q0, .second, oi p1, oi vd, oi (((97 : Int32) + vd).toUInt32.toUInt16.toUInt32.toInt32), oi (((65 : Int32) + vd).toUInt32.toUInt16.toUInt32.toInt32), oi ((97 : Int32) + vd), oj (own_f1 q0 (((97 : Int32) + vd).toUInt32.toUInt16.toUInt32.toInt32)), .second, oj ((q0 * (256 : Int64)) + (((97 : Int32) + vd).toInt64)), .second, oi (1 : Int32)] [] _
      refine XS.iconst X4.here hx rfl (hb hby at_140) ?_
      show oS p e below T4 m 141 #[oj q0, .second, oi p1, oi vd, oi (((97 : Int32) + vd).toUInt32.toUInt16.toUInt32.toInt32), oi (((65 : Int32) + vd).toUInt32.toUInt16.toUInt32.toInt32), oi ((97 : Int32) + vd), oj (own_f1 q0 (((97 : Int32) + vd).toUInt32.toUInt16.toUInt32.toInt32)), .second, oj ((q0 * (256 : Int64)) + (((97 : Int32) + vd).toInt64)), .second, oi (1 : Int32)] [(.int (1 : Int32))] _
      refine XS.goto X4.here hx rfl (pc0 := 141) (pc' := 145) rfl (hb hby at_141) (by decide) (by decide) ?_
      show oS p e below T4 m 145 #[oj q0, .second, oi p1, oi vd, oi (((97 : Int32) + vd).toUInt32.toUInt16.toUInt32.toInt32), oi (((65 : Int32) + vd).toUInt32.toUInt16.toUInt32.toInt32), oi ((97 : Int32) + vd), oj (own_f1 q0 (((97 : Int32) + vd).toUInt32.toUInt16.toUInt32.toInt32)), .second, oj ((q0 * (256 : Int64)) + (((97 : Int32) + vd).toInt64)), .second, oi (1 : Int32)] [(.int (1 : Int32))] _
      refine XS.istore X4.here hx rfl (hb hby at_145) rfl (l' := #[oj q0, .second, oi p1, oi vd, oi (((97 : Int32) + vd).toUInt32.toUInt16.toUInt32.toInt32), oi (((65 : Int32) + vd).toUInt32.toUInt16.toUInt32.toInt32), oi ((97 : Int32) + vd), oj (own_f1 q0 (((97 : Int32) + vd).toUInt32.toUInt16.toUInt32.toInt32)), .second, oj ((q0 * (256 : Int64)) + (((97 : Int32) + vd).toInt64)), .second, oi (1 : Int32)]) rfl ?_
      show oS p e below T4 m 147 #[oj q0, .second, oi p1, oi vd, oi (((97 : Int32) + vd).toUInt32.toUInt16.toUInt32.toInt32), oi (((65 : Int32) + vd).toUInt32.toUInt16.toUInt32.toInt32), oi ((97 : Int32) + vd), oj (own_f1 q0 (((97 : Int32) + vd).toUInt32.toUInt16.toUInt32.toInt32)), .second, oj ((q0 * (256 : Int64)) + (((97 : Int32) + vd).toInt64)), .second, oi (1 : Int32)] [] _
      refine XS.iload X4.here hx rfl (hb hby at_147) rfl ?_
      show oS p e below T4 m 149 #[oj q0, .second, oi p1, oi vd, oi (((97 : Int32) + vd).toUInt32.toUInt16.toUInt32.toInt32), oi (((65 : Int32) + vd).toUInt32.toUInt16.toUInt32.toInt32), oi ((97 : Int32) + vd), oj (own_f1 q0 (((97 : Int32) + vd).toUInt32.toUInt16.toUInt32.toInt32)), .second, oj ((q0 * (256 : Int64)) + (((97 : Int32) + vd).toInt64)), .second, oi (1 : Int32)] [(.int (1 : Int32))] _
      refine XS.ifNo X4.here hx rfl (hb hby at_149) rfl ((if0 _ _).trans (feq b8).1) ?_
      show oS p e below T4 m 152 #[oj q0, .second, oi p1, oi vd, oi (((97 : Int32) + vd).toUInt32.toUInt16.toUInt32.toInt32), oi (((65 : Int32) + vd).toUInt32.toUInt16.toUInt32.toInt32), oi ((97 : Int32) + vd), oj (own_f1 q0 (((97 : Int32) + vd).toUInt32.toUInt16.toUInt32.toInt32)), .second, oj ((q0 * (256 : Int64)) + (((97 : Int32) + vd).toInt64)), .second, oi (1 : Int32)] [] _
      refine XS.lload X4.here hx rfl (hb hby at_152) rfl ?_
      show oS p e below T4 m 154 #[oj q0, .second, oi p1, oi vd, oi (((97 : Int32) + vd).toUInt32.toUInt16.toUInt32.toInt32), oi (((65 : Int32) + vd).toUInt32.toUInt16.toUInt32.toInt32), oi ((97 : Int32) + vd), oj (own_f1 q0 (((97 : Int32) + vd).toUInt32.toUInt16.toUInt32.toInt32)), .second, oj ((q0 * (256 : Int64)) + (((97 : Int32) + vd).toInt64)), .second, oi (1 : Int32)] [(.long (own_f1 q0 (((97 : Int32) + vd).toUInt32.toUInt16.toUInt32.toInt32)))] _
      refine X4.ldc2Long hx hown (mvT hZ (hw _ (List.mem_of_getElem? (i := 8) rfl))) (g := (mkF m 154 #[oj q0, .second, oi p1, oi vd, oi (((97 : Int32) + vd).toUInt32.toUInt16.toUInt32.toInt32), oi (((65 : Int32) + vd).toUInt32.toUInt16.toUInt32.toInt32), oi ((97 : Int32) + vd), oj (own_f1 q0 (((97 : Int32) + vd).toUInt32.toUInt16.toUInt32.toInt32)), .second, oj ((q0 * (256 : Int64)) + (((97 : Int32) + vd).toInt64)), .second, oi (1 : Int32)] [(.long (own_f1 q0 (((97 : Int32) + vd).toUInt32.toUInt16.toUInt32.toInt32)))])) rfl (hb hby at_154) _ ?_
      show oS p e below T4 m 157 #[oj q0, .second, oi p1, oi vd, oi (((97 : Int32) + vd).toUInt32.toUInt16.toUInt32.toInt32), oi (((65 : Int32) + vd).toUInt32.toUInt16.toUInt32.toInt32), oi ((97 : Int32) + vd), oj (own_f1 q0 (((97 : Int32) + vd).toUInt32.toUInt16.toUInt32.toInt32)), .second, oj ((q0 * (256 : Int64)) + (((97 : Int32) + vd).toInt64)), .second, oi (1 : Int32)] [(.long (255 : Int64)), (.long (own_f1 q0 (((97 : Int32) + vd).toUInt32.toUInt16.toUInt32.toInt32)))] _
      refine XS.land X4.here hx rfl (hb hby at_157) rfl ?_
      show oS p e below T4 m 158 #[oj q0, .second, oi p1, oi vd, oi (((97 : Int32) + vd).toUInt32.toUInt16.toUInt32.toInt32), oi (((65 : Int32) + vd).toUInt32.toUInt16.toUInt32.toInt32), oi ((97 : Int32) + vd), oj (own_f1 q0 (((97 : Int32) + vd).toUInt32.toUInt16.toUInt32.toInt32)), .second, oj ((q0 * (256 : Int64)) + (((97 : Int32) + vd).toInt64)), .second, oi (1 : Int32)] [(.long ((own_f1 q0 (((97 : Int32) + vd).toUInt32.toUInt16.toUInt32.toInt32)) &&& (255 : Int64)))] _
      refine XS.iload X4.here hx rfl (hb hby at_158) rfl ?_
      show oS p e below T4 m 160 #[oj q0, .second, oi p1, oi vd, oi (((97 : Int32) + vd).toUInt32.toUInt16.toUInt32.toInt32), oi (((65 : Int32) + vd).toUInt32.toUInt16.toUInt32.toInt32), oi ((97 : Int32) + vd), oj (own_f1 q0 (((97 : Int32) + vd).toUInt32.toUInt16.toUInt32.toInt32)), .second, oj ((q0 * (256 : Int64)) + (((97 : Int32) + vd).toInt64)), .second, oi (1 : Int32)] [(.int ((97 : Int32) + vd)), (.long ((own_f1 q0 (((97 : Int32) + vd).toUInt32.toUInt16.toUInt32.toInt32)) &&& (255 : Int64)))] _
      refine XS.i2l X4.here hx rfl (hb hby at_160) rfl ?_
      show oS p e below T4 m 161 #[oj q0, .second, oi p1, oi vd, oi (((97 : Int32) + vd).toUInt32.toUInt16.toUInt32.toInt32), oi (((65 : Int32) + vd).toUInt32.toUInt16.toUInt32.toInt32), oi ((97 : Int32) + vd), oj (own_f1 q0 (((97 : Int32) + vd).toUInt32.toUInt16.toUInt32.toInt32)), .second, oj ((q0 * (256 : Int64)) + (((97 : Int32) + vd).toInt64)), .second, oi (1 : Int32)] [(.long (((97 : Int32) + vd).toInt64)), (.long ((own_f1 q0 (((97 : Int32) + vd).toUInt32.toUInt16.toUInt32.toInt32)) &&& (255 : Int64)))] _
      refine XS.lcmp X4.here hx rfl (hb hby at_161) rfl ?_
      show oS p e below T4 m 162 #[oj q0, .second, oi p1, oi vd, oi (((97 : Int32) + vd).toUInt32.toUInt16.toUInt32.toInt32), oi (((65 : Int32) + vd).toUInt32.toUInt16.toUInt32.toInt32), oi ((97 : Int32) + vd), oj (own_f1 q0 (((97 : Int32) + vd).toUInt32.toUInt16.toUInt32.toInt32)), .second, oj ((q0 * (256 : Int64)) + (((97 : Int32) + vd).toInt64)), .second, oi (1 : Int32)] [(.int (lcmpW ((own_f1 q0 (((97 : Int32) + vd).toUInt32.toUInt16.toUInt32.toInt32)) &&& (255 : Int64)) (((97 : Int32) + vd).toInt64)))] _
      refine XS.ifNo X4.here hx rfl (hb hby at_162) rfl ((if0 _ _).trans (teq ((lw_eq ((own_f1 q0 (((97 : Int32) + vd).toUInt32.toUInt16.toUInt32.toInt32)) &&& (255 : Int64)) (((97 : Int32) + vd).toInt64)).mpr b9)).2) ?_
      show oS p e below T4 m 165 #[oj q0, .second, oi p1, oi vd, oi (((97 : Int32) + vd).toUInt32.toUInt16.toUInt32.toInt32), oi (((65 : Int32) + vd).toUInt32.toUInt16.toUInt32.toInt32), oi ((97 : Int32) + vd), oj (own_f1 q0 (((97 : Int32) + vd).toUInt32.toUInt16.toUInt32.toInt32)), .second, oj ((q0 * (256 : Int64)) + (((97 : Int32) + vd).toInt64)), .second, oi (1 : Int32)] [] _
      refine XS.iconst X4.here hx rfl (hb hby at_165) ?_
      show oS p e below T4 m 166 #[oj q0, .second, oi p1, oi vd, oi (((97 : Int32) + vd).toUInt32.toUInt16.toUInt32.toInt32), oi (((65 : Int32) + vd).toUInt32.toUInt16.toUInt32.toInt32), oi ((97 : Int32) + vd), oj (own_f1 q0 (((97 : Int32) + vd).toUInt32.toUInt16.toUInt32.toInt32)), .second, oj ((q0 * (256 : Int64)) + (((97 : Int32) + vd).toInt64)), .second, oi (1 : Int32)] [(.int (1 : Int32))] _
      refine XS.goto X4.here hx rfl (pc0 := 166) (pc' := 170) rfl (hb hby at_166) (by decide) (by decide) ?_
      show oS p e below T4 m 170 #[oj q0, .second, oi p1, oi vd, oi (((97 : Int32) + vd).toUInt32.toUInt16.toUInt32.toInt32), oi (((65 : Int32) + vd).toUInt32.toUInt16.toUInt32.toInt32), oi ((97 : Int32) + vd), oj (own_f1 q0 (((97 : Int32) + vd).toUInt32.toUInt16.toUInt32.toInt32)), .second, oj ((q0 * (256 : Int64)) + (((97 : Int32) + vd).toInt64)), .second, oi (1 : Int32)] [(.int (1 : Int32))] _
      refine XS.istore X4.here hx rfl (hb hby at_170) rfl (l' := #[oj q0, .second, oi p1, oi vd, oi (((97 : Int32) + vd).toUInt32.toUInt16.toUInt32.toInt32), oi (((65 : Int32) + vd).toUInt32.toUInt16.toUInt32.toInt32), oi ((97 : Int32) + vd), oj (own_f1 q0 (((97 : Int32) + vd).toUInt32.toUInt16.toUInt32.toInt32)), .second, oj ((q0 * (256 : Int64)) + (((97 : Int32) + vd).toInt64)), .second, oi (1 : Int32)]) rfl ?_
      show oS p e below T4 m 172 #[oj q0, .second, oi p1, oi vd, oi (((97 : Int32) + vd).toUInt32.toUInt16.toUInt32.toInt32), oi (((65 : Int32) + vd).toUInt32.toUInt16.toUInt32.toInt32), oi ((97 : Int32) + vd), oj (own_f1 q0 (((97 : Int32) + vd).toUInt32.toUInt16.toUInt32.toInt32)), .second, oj ((q0 * (256 : Int64)) + (((97 : Int32) + vd).toInt64)), .second, oi (1 : Int32)] [] _
      refine XS.iloadN X4.here hx rfl (hb hby at_172) rfl ?_
      show oS p e below T4 m 173 #[oj q0, .second, oi p1, oi vd, oi (((97 : Int32) + vd).toUInt32.toUInt16.toUInt32.toInt32), oi (((65 : Int32) + vd).toUInt32.toUInt16.toUInt32.toInt32), oi ((97 : Int32) + vd), oj (own_f1 q0 (((97 : Int32) + vd).toUInt32.toUInt16.toUInt32.toInt32)), .second, oj ((q0 * (256 : Int64)) + (((97 : Int32) + vd).toInt64)), .second, oi (1 : Int32)] [(.int vd)] _
      refine XS.bipush X4.here hx rfl (hb hby at_173) ?_
      show oS p e below T4 m 175 #[oj q0, .second, oi p1, oi vd, oi (((97 : Int32) + vd).toUInt32.toUInt16.toUInt32.toInt32), oi (((65 : Int32) + vd).toUInt32.toUInt16.toUInt32.toInt32), oi ((97 : Int32) + vd), oj (own_f1 q0 (((97 : Int32) + vd).toUInt32.toUInt16.toUInt32.toInt32)), .second, oj ((q0 * (256 : Int64)) + (((97 : Int32) + vd).toInt64)), .second, oi (1 : Int32)] [(.int (52 : Int32)), (.int vd)] _
      refine XS.icmpNo X4.here hx rfl (hb hby at_175) rfl (tlt b10).2.1 ?_
      show oS p e below T4 m 178 #[oj q0, .second, oi p1, oi vd, oi (((97 : Int32) + vd).toUInt32.toUInt16.toUInt32.toInt32), oi (((65 : Int32) + vd).toUInt32.toUInt16.toUInt32.toInt32), oi ((97 : Int32) + vd), oj (own_f1 q0 (((97 : Int32) + vd).toUInt32.toUInt16.toUInt32.toInt32)), .second, oj ((q0 * (256 : Int64)) + (((97 : Int32) + vd).toInt64)), .second, oi (1 : Int32)] [] _
      refine XS.iload X4.here hx rfl (hb hby at_178) rfl ?_
      show oS p e below T4 m 180 #[oj q0, .second, oi p1, oi vd, oi (((97 : Int32) + vd).toUInt32.toUInt16.toUInt32.toInt32), oi (((65 : Int32) + vd).toUInt32.toUInt16.toUInt32.toInt32), oi ((97 : Int32) + vd), oj (own_f1 q0 (((97 : Int32) + vd).toUInt32.toUInt16.toUInt32.toInt32)), .second, oj ((q0 * (256 : Int64)) + (((97 : Int32) + vd).toInt64)), .second, oi (1 : Int32)] [(.int (1 : Int32))] _
      refine XS.ifNo X4.here hx rfl (hb hby at_180) rfl ((if0 _ _).trans (feq b11).1) ?_
      show oS p e below T4 m 183 #[oj q0, .second, oi p1, oi vd, oi (((97 : Int32) + vd).toUInt32.toUInt16.toUInt32.toInt32), oi (((65 : Int32) + vd).toUInt32.toUInt16.toUInt32.toInt32), oi ((97 : Int32) + vd), oj (own_f1 q0 (((97 : Int32) + vd).toUInt32.toUInt16.toUInt32.toInt32)), .second, oj ((q0 * (256 : Int64)) + (((97 : Int32) + vd).toInt64)), .second, oi (1 : Int32)] [] _
      refine XS.lloadN X4.here hx rfl (hb hby at_183) rfl ?_
      show oS p e below T4 m 184 #[oj q0, .second, oi p1, oi vd, oi (((97 : Int32) + vd).toUInt32.toUInt16.toUInt32.toInt32), oi (((65 : Int32) + vd).toUInt32.toUInt16.toUInt32.toInt32), oi ((97 : Int32) + vd), oj (own_f1 q0 (((97 : Int32) + vd).toUInt32.toUInt16.toUInt32.toInt32)), .second, oj ((q0 * (256 : Int64)) + (((97 : Int32) + vd).toInt64)), .second, oi (1 : Int32)] [(.long q0)] _
      refine XS.iload X4.here hx rfl (hb hby at_184) rfl ?_
      show oS p e below T4 m 186 #[oj q0, .second, oi p1, oi vd, oi (((97 : Int32) + vd).toUInt32.toUInt16.toUInt32.toInt32), oi (((65 : Int32) + vd).toUInt32.toUInt16.toUInt32.toInt32), oi ((97 : Int32) + vd), oj (own_f1 q0 (((97 : Int32) + vd).toUInt32.toUInt16.toUInt32.toInt32)), .second, oj ((q0 * (256 : Int64)) + (((97 : Int32) + vd).toInt64)), .second, oi (1 : Int32)] [(.int (((65 : Int32) + vd).toUInt32.toUInt16.toUInt32.toInt32)), (.long q0)] _
      refine st12 _ ?_
      show oS p e below T12 m 189 #[oj q0, .second, oi p1, oi vd, oi (((97 : Int32) + vd).toUInt32.toUInt16.toUInt32.toInt32), oi (((65 : Int32) + vd).toUInt32.toUInt16.toUInt32.toInt32), oi ((97 : Int32) + vd), oj (own_f1 q0 (((97 : Int32) + vd).toUInt32.toUInt16.toUInt32.toInt32)), .second, oj ((q0 * (256 : Int64)) + (((97 : Int32) + vd).toInt64)), .second, oi (1 : Int32)] [(.long (own_f1 q0 (((65 : Int32) + vd).toUInt32.toUInt16.toUInt32.toInt32)))] _
      refine XS.lload X12.here hx rfl (hb hby at_189) rfl ?_
      show oS p e below T12 m 191 #[oj q0, .second, oi p1, oi vd, oi (((97 : Int32) + vd).toUInt32.toUInt16.toUInt32.toInt32), oi (((65 : Int32) + vd).toUInt32.toUInt16.toUInt32.toInt32), oi ((97 : Int32) + vd), oj (own_f1 q0 (((97 : Int32) + vd).toUInt32.toUInt16.toUInt32.toInt32)), .second, oj ((q0 * (256 : Int64)) + (((97 : Int32) + vd).toInt64)), .second, oi (1 : Int32)] [(.long (own_f1 q0 (((97 : Int32) + vd).toUInt32.toUInt16.toUInt32.toInt32))), (.long (own_f1 q0 (((65 : Int32) + vd).toUInt32.toUInt16.toUInt32.toInt32)))] _
      refine XS.lcmp X12.here hx rfl (hb hby at_191) rfl ?_
      show oS p e below T12 m 192 #[oj q0, .second, oi p1, oi vd, oi (((97 : Int32) + vd).toUInt32.toUInt16.toUInt32.toInt32), oi (((65 : Int32) + vd).toUInt32.toUInt16.toUInt32.toInt32), oi ((97 : Int32) + vd), oj (own_f1 q0 (((97 : Int32) + vd).toUInt32.toUInt16.toUInt32.toInt32)), .second, oj ((q0 * (256 : Int64)) + (((97 : Int32) + vd).toInt64)), .second, oi (1 : Int32)] [(.int (lcmpW (own_f1 q0 (((65 : Int32) + vd).toUInt32.toUInt16.toUInt32.toInt32)) (own_f1 q0 (((97 : Int32) + vd).toUInt32.toUInt16.toUInt32.toInt32))))] _
      refine XS.ifNo X12.here hx rfl (hb hby at_192) rfl ((if0 _ _).trans (teq ((lw_eq (own_f1 q0 (((65 : Int32) + vd).toUInt32.toUInt16.toUInt32.toInt32)) (own_f1 q0 (((97 : Int32) + vd).toUInt32.toUInt16.toUInt32.toInt32))).mpr b13)).2) ?_
      show oS p e below T12 m 195 #[oj q0, .second, oi p1, oi vd, oi (((97 : Int32) + vd).toUInt32.toUInt16.toUInt32.toInt32), oi (((65 : Int32) + vd).toUInt32.toUInt16.toUInt32.toInt32), oi ((97 : Int32) + vd), oj (own_f1 q0 (((97 : Int32) + vd).toUInt32.toUInt16.toUInt32.toInt32)), .second, oj ((q0 * (256 : Int64)) + (((97 : Int32) + vd).toInt64)), .second, oi (1 : Int32)] [] _
      refine XS.iconst X12.here hx rfl (hb hby at_195) ?_
      show oS p e below T12 m 196 #[oj q0, .second, oi p1, oi vd, oi (((97 : Int32) + vd).toUInt32.toUInt16.toUInt32.toInt32), oi (((65 : Int32) + vd).toUInt32.toUInt16.toUInt32.toInt32), oi ((97 : Int32) + vd), oj (own_f1 q0 (((97 : Int32) + vd).toUInt32.toUInt16.toUInt32.toInt32)), .second, oj ((q0 * (256 : Int64)) + (((97 : Int32) + vd).toInt64)), .second, oi (1 : Int32)] [(.int (1 : Int32))] _
      refine XS.goto X12.here hx rfl (pc0 := 196) (pc' := 200) rfl (hb hby at_196) (by decide) (by decide) ?_
      show oS p e below T12 m 200 #[oj q0, .second, oi p1, oi vd, oi (((97 : Int32) + vd).toUInt32.toUInt16.toUInt32.toInt32), oi (((65 : Int32) + vd).toUInt32.toUInt16.toUInt32.toInt32), oi ((97 : Int32) + vd), oj (own_f1 q0 (((97 : Int32) + vd).toUInt32.toUInt16.toUInt32.toInt32)), .second, oj ((q0 * (256 : Int64)) + (((97 : Int32) + vd).toInt64)), .second, oi (1 : Int32)] [(.int (1 : Int32))] _
      refine XS.istore X12.here hx rfl (hb hby at_200) rfl (l' := #[oj q0, .second, oi p1, oi vd, oi (((97 : Int32) + vd).toUInt32.toUInt16.toUInt32.toInt32), oi (((65 : Int32) + vd).toUInt32.toUInt16.toUInt32.toInt32), oi ((97 : Int32) + vd), oj (own_f1 q0 (((97 : Int32) + vd).toUInt32.toUInt16.toUInt32.toInt32)), .second, oj ((q0 * (256 : Int64)) + (((97 : Int32) + vd).toInt64)), .second, oi (1 : Int32)]) rfl ?_
      show oS p e below T12 m 202 #[oj q0, .second, oi p1, oi vd, oi (((97 : Int32) + vd).toUInt32.toUInt16.toUInt32.toInt32), oi (((65 : Int32) + vd).toUInt32.toUInt16.toUInt32.toInt32), oi ((97 : Int32) + vd), oj (own_f1 q0 (((97 : Int32) + vd).toUInt32.toUInt16.toUInt32.toInt32)), .second, oj ((q0 * (256 : Int64)) + (((97 : Int32) + vd).toInt64)), .second, oi (1 : Int32)] [] _
      refine XS.iload X12.here hx rfl (hb hby at_202) rfl ?_
      show oS p e below T12 m 204 #[oj q0, .second, oi p1, oi vd, oi (((97 : Int32) + vd).toUInt32.toUInt16.toUInt32.toInt32), oi (((65 : Int32) + vd).toUInt32.toUInt16.toUInt32.toInt32), oi ((97 : Int32) + vd), oj (own_f1 q0 (((97 : Int32) + vd).toUInt32.toUInt16.toUInt32.toInt32)), .second, oj ((q0 * (256 : Int64)) + (((97 : Int32) + vd).toInt64)), .second, oi (1 : Int32)] [(.int (1 : Int32))] _
      exact retN X12 hx (t := .boolean) Bd.returns (by simp) (hb hby at_204) hr
    · show own_Q0 Z q0 p1 h0 n0 _ T12.heap _
      rw [eq12]
      exact ⟨rfl, N12⟩
  · skip
    have pre14 : ∀ t, Steps p.tables e below (s₁.setTop (mkF m 40 #[oj q0, .second, oi p1, oi vd, .unset, .unset, .unset, .unset, .unset, .unset, .unset, .unset] [(.int (52 : Int32)), (.int vd)])) t → Steps p.tables e below (s₁.setTop (entryFrame m #[(.long q0), (.int p1)] maxLocals)) t := by
      intro t k
      refine pre2 t ?_
      show oS p e below s₁ m 11 #[oj q0, .second, oi p1, oi vd, .unset, .unset, .unset, .unset, .unset, .unset, .unset, .unset] [(.int (26 : Int32)), (.int vd)] _
      refine XS.icmpYes X0.here hx rfl (pc0 := 11) (pc' := 37) rfl (hb hby at_11) rfl (flt c3).2.1 (by decide) (by decide) ?_
      show oS p e below s₁ m 37 #[oj q0, .second, oi p1, oi vd, .unset, .unset, .unset, .unset, .unset, .unset, .unset, .unset] [] _
      refine XS.iloadN X0.here hx rfl (hb hby at_37) rfl ?_
      show oS p e below s₁ m 38 #[oj q0, .second, oi p1, oi vd, .unset, .unset, .unset, .unset, .unset, .unset, .unset, .unset] [(.int vd)] _
      refine XS.bipush X0.here hx rfl (hb hby at_38) ?_
      exact k
    by_cases c15 : vd < (52 : Int32)
    · skip
      obtain ⟨k2, k1, k3, k4⟩ := own_2 vd rv.1 c3 c15
      have e1 : own_f1 q0 (((65 : Int32) + (vd - (26 : Int32))).toUInt32.toUInt16.toUInt32.toInt32) = q0 * (256 : Int64) + (((97 : Int32) + (vd - (26 : Int32)))).toInt64 := own_pack _ _ _ k1 k3 k4
      have e2 : own_f1 q0 (((97 : Int32) + (vd - (26 : Int32))).toUInt32.toUInt16.toUInt32.toInt32) = q0 * (256 : Int64) + (((97 : Int32) + (vd - (26 : Int32)))).toInt64 := own_pack _ _ _ k2 k3 k4
      obtain ⟨_, _, ⟨T16, L16, k16, n16⟩, -, X16, ⟨Lc16, hQ16, l16, y16, z16⟩, st16⟩ := Jvm.LawKit.callS X0 hx (y := (⟨"com/example/typewright/typewright/declaration/Keyword", "pack", "(JC)J"⟩ : MethodName)) hown (mvT hZ (hw _ (List.mem_of_getElem? (i := 1) rfl))) (mvT hZ (hw _ (List.mem_of_getElem? (i := 2) rfl))) (mvT hZ (hw _ (List.mem_of_getElem? (i := 3) rfl))) (mvT hZ (hw _ (List.mem_of_getElem? (i := 4) rfl))) (by decide) (backOf (W := 0) (own_rm1 l Z av hw [] q0 (((65 : Int32) + (vd - (26 : Int32))).toUInt32.toUInt16.toUInt32.toInt32) h0 n0 Z0 ) hZ (hw _ (List.mem_of_getElem? (i := 4) rfl)) (hw _ (List.mem_of_getElem? (i := 3) rfl)) (by decide) (by decide)) (g := (mkF m 90 #[oj q0, .second, oi p1, oi vd, oi (((65 : Int32) + (vd - (26 : Int32))).toUInt32.toUInt16.toUInt32.toInt32), oi (((97 : Int32) + (vd - (26 : Int32))).toUInt32.toUInt16.toUInt32.toInt32), oi ((97 : Int32) + (vd - (26 : Int32))), .unset, .unset, .unset, .unset, .unset] [(.int (((65 : Int32) + (vd - (26 : Int32))).toUInt32.toUInt16.toUInt32.toInt32)), (.long q0)])) rfl (by rw [hml]; rfl) (argsL := [(.long q0), (.int (((65 : Int32) + (vd - (26 : Int32))).toUInt32.toUInt16.toUInt32.toInt32))]) (rest := []) (lenOf own_pd0 rfl) rfl (by show 2 * 0 + _ ≤ _; exact Nat.le_of_eq rfl) (hb hby at_90) (fun _ _ => ⟨rfl, e0, (by decide : 0 + 0 ≤ _), (by decide : 0 + 0 ≤ _)⟩)
      dsimp only [Pt.U, Pt.locs, Pt.cells, Pt.slots] at X16 l16 y16 z16 st16 hQ16
      subst l16 y16 z16
      obtain ⟨rfl, Nq16, eq16⟩ := hQ16
      have N16 := Fr.app N0 Nq16
      have b17 : (own_f1 q0 (((65 : Int32) + (vd - (26 : Int32))).toUInt32.toUInt16.toUInt32.toInt32)) = ((q0 * (256 : Int64)) + (((97 : Int32) + (vd - (26 : Int32))).toInt64)) := e1
      have b18 : ¬ ((1 : Int32) = (0 : Int32)) := (by decide)
      have b19 : (((own_f1 q0 (((65 : Int32) + (vd - (26 : Int32))).toUInt32.toUInt16.toUInt32.toInt32)).toUInt64 >>> ((8 : Int32) &&& 0x3f).toInt64.toUInt64).toInt64) = (q0 &&& (72057594037927935 : Int64)) := by rw [e1]; exact own_shr _ _ k3 k4
      have b20 : ¬ ((1 : Int32) = (0 : Int32)) := (by decide)
      have b21 : ((own_f1 q0 (((65 : Int32) + (vd - (26 : Int32))).toUInt32.toUInt16.toUInt32.toInt32)) &&& (255 : Int64)) = (((97 : Int32) + (vd - (26 : Int32))).toInt64) := by rw [e1]; exact own_low _ _ k3 k4
      have b22 : vd < (52 : Int32) := c15
      have b23 : ¬ ((1 : Int32) = (0 : Int32)) := (by decide)
      obtain ⟨_, _, ⟨T24, L24, k24, n24⟩, -, X24, ⟨Lc24, hQ24, l24, y24, z24⟩, st24⟩ := Jvm.LawKit.callS X16 hx (y := (⟨"com/example/typewright/typewright/declaration/Keyword", "pack", "(JC)J"⟩ : MethodName)) hown (mvT hZ (hw _ (List.mem_of_getElem? (i := 1) rfl))) (mvT hZ (hw _ (List.mem_of_getElem? (i := 2) rfl))) (mvT hZ (hw _ (List.mem_of_getElem? (i := 3) rfl))) (mvT hZ (hw _ (List.mem_of_getElem? (i := 4) rfl))) (by decide) (backOf (W := 0) (own_rm1 l Z av hw [] q0 (((97 : Int32) + (vd - (26 : Int32))).toUInt32.toUInt16.toUInt32.toInt32) h0 n0 Z0 ) hZ (hw _ (List.mem_of_getElem? (i := 4) rfl)) (hw _ (List.mem_of_getElem? (i := 3) rfl)) (by decide) (by decide)) (g := (mkF m 186 #[oj q0, .second, oi p1, oi vd, oi (((65 : Int32) + (vd - (26 : Int32))).toUInt32.toUInt16.toUInt32.toInt32), oi (((97 : Int32) + (vd - (26 : Int32))).toUInt32.toUInt16.toUInt32.toInt32), oi ((97 : Int32) + (vd - (26 : Int32))), oj (own_f1 q0 (((65 : Int32) + (vd - (26 : Int32))).toUInt32.toUInt16.toUInt32.toInt32)), .second, oj ((q0 * (256 : Int64)) + (((97 : Int32) + (vd - (26 : Int32))).toInt64)), .second, oi (1 : Int32)] [(.int (((97 : Int32) + (vd - (26 : Int32))).toUInt32.toUInt16.toUInt32.toInt32)), (.long q0)])) rfl (by rw [hml]; rfl) (argsL := [(.long q0), (.int (((97 : Int32) + (vd - (26 : Int32))).toUInt32.toUInt16.toUInt32.toInt32))]) (rest := []) (lenOf own_pd0 rfl) rfl (by show 2 * 0 + _ ≤ _; exact Nat.le_of_eq rfl) (hb hby at_186) (fun _ _ => ⟨rfl, eq16, (by decide : 0 + 0 ≤ _), (by decide : 0 + 0 ≤ _)⟩)
      dsimp only [Pt.U, Pt.locs, Pt.cells, Pt.slots] at X24 l24 y24 z24 st24 hQ24
      subst l24 y24 z24
      obtain ⟨rfl, Nq24, eq24⟩ := hQ24
      have N24 := Fr.app N16 Nq24
      have b25 : (own_f1 q0 (((97 : Int32) + (vd - (26 : Int32))).toUInt32.toUInt16.toUInt32.toInt32)) = (own_f1 q0 (((65 : Int32) + (vd - (26 : Int32))).toUInt32.toUInt16.toUInt32.toInt32)) := e2.trans e1.symm
      obtain ⟨fs, hr, hrun, hended, hW, hsame⟩ := X24.leave (v := (some (.int (1 : Int32)))) (fun h => by rw [Bd.returns] at h; cases h)
      refine ⟨_, _, pre14 _ ?_, hrun, hended, _, _, rfl, ?_, ⟨_, rfl⟩, hW, hsame.mono (by decide) (by decide)⟩
      · show oS p e below s₁ m 40 #[oj q0, .second, oi p1, oi vd, .unset, .unset, .unset, .unset, .unset, .unset, .unset, .unset] [(.int (52 : Int32)), (.int vd)] _
        refine XS.icmpNo X0.here hx rfl (hb hby at_40) rfl (tlt c15).2.1 ?_
        show oS p e below s₁ m 43 #[oj q0, .second, oi p1, oi vd, .unset, .unset, .unset, .unset, .unset, .unset, .unset, .unset] [] _
        refine XS.bipush X0.here hx rfl (hb hby at_43) ?_
        show oS p e below s₁ m 45 #[oj q0, .second, oi p1, oi vd, .unset, .unset, .unset, .unset, .unset, .unset, .unset, .unset] [(.int (65 : Int32))] _
        refine XS.iloadN X0.here hx rfl (hb hby at_45) rfl ?_
        show oS p e below s₁ m 46 #[oj q0, .second, oi p1, oi vd, .unset, .unset, .unset, .unset, .unset, .unset, .unset, .unset] [(.int vd), (.int (65 : Int32))] _
        refine XS.bipush X0.here hx rfl (hb hby at_46) ?_
        show oS p e below s₁ m 48 #[oj q0, .second, oi p1, oi vd, .unset, .unset, .unset, .unset, .unset, .unset, .unset, .unset] [(.int (26 : Int32)), (.int vd), (.int (65 : Int32))] _
        refine XS.isub X0.here hx rfl (hb hby at_48) rfl ?_
        show oS p e below s₁ m 49 #[oj q0, .second, oi p1, oi vd, .unset, .unset, .unset, .unset, .unset, .unset, .unset, .unset] [(.int (vd - (26 : Int32))), (.int (65 : Int32))] _
        refine XS.iadd X0.here hx rfl (hb hby at_49) rfl ?_
        show oS p e below s₁ m 50 #[oj q0, .second, oi p1, oi vd, .unset, .unset, .unset, .unset, .unset, .unset, .unset, .unset] [(.int ((65 : Int32) + (vd - (26 : Int32))))] _
        refine XS.i2c X0.here hx rfl (hb hby at_50) rfl ?_
        show oS p e below s₁ m 51 #[oj q0, .second, oi p1, oi vd, .unset, .unset, .unset, .unset, .unset, .unset, .unset, .unset] [(.int (((65 : Int32) + (vd - (26 : Int32))).toUInt32.toUInt16.toUInt32.toInt32))] _
        refine XS.istore X0.here hx rfl (hb hby at_51) rfl (l' := #[oj q0, .second, oi p1, oi vd, oi (((65 : Int32) + (vd - (26 : Int32))).toUInt32.toUInt16.toUInt32.toInt32), .unset, .unset, .unset, .unset, .unset, .unset, .unset]) rfl ?_
        show oS p e below s₁ m 53 #[oj q0, .second, oi p1, oi vd, oi (((65 : Int32) + (vd - (26 : Int32))).toUInt32.toUInt16.toUInt32.toInt32), .unset, .unset, .unset, .unset, .unset, .unset, .unset] [] _
        refine XS.bipush X0.here hx rfl (hb hby at_53) ?_
        show oS p e below s₁ m 55 #[oj q0, .second, oi p1, oi vd, oi (((65 : Int32) + (vd - (26 : Int32))).toUInt32.toUInt16.toUInt32.toInt32), .unset, .unset, .unset, .unset, .unset, .unset, .unset] [(.int (97 : Int32))] _
        refine XS.iloadN X0.here hx rfl (hb hby at_55) rfl ?_
        show oS p e below s₁ m 56 #[oj q0, .second, oi p1, oi vd, oi (((65 : Int32) + (vd - (26 : Int32))).toUInt32.toUInt16.toUInt32.toInt32), .unset, .unset, .unset, .unset, .unset, .unset, .unset] [(.int vd), (.int (97 : Int32))] _
        refine XS.bipush X0.here hx rfl (hb hby at_56) ?_
        show oS p e below s₁ m 58 #[oj q0, .second, oi p1, oi vd, oi (((65 : Int32) + (vd - (26 : Int32))).toUInt32.toUInt16.toUInt32.toInt32), .unset, .unset, .unset, .unset, .unset, .unset, .unset] [(.int (26 : Int32)), (.int vd), (.int (97 : Int32))] _
        refine XS.isub X0.here hx rfl (hb hby at_58) rfl ?_
        show oS p e below s₁ m 59 #[oj q0, .second, oi p1, oi vd, oi (((65 : Int32) + (vd - (26 : Int32))).toUInt32.toUInt16.toUInt32.toInt32), .unset, .unset, .unset, .unset, .unset, .unset, .unset] [(.int (vd - (26 : Int32))), (.int (97 : Int32))] _
        refine XS.iadd X0.here hx rfl (hb hby at_59) rfl ?_
        show oS p e below s₁ m 60 #[oj q0, .second, oi p1, oi vd, oi (((65 : Int32) + (vd - (26 : Int32))).toUInt32.toUInt16.toUInt32.toInt32), .unset, .unset, .unset, .unset, .unset, .unset, .unset] [(.int ((97 : Int32) + (vd - (26 : Int32))))] _
        refine XS.i2c X0.here hx rfl (hb hby at_60) rfl ?_
        show oS p e below s₁ m 61 #[oj q0, .second, oi p1, oi vd, oi (((65 : Int32) + (vd - (26 : Int32))).toUInt32.toUInt16.toUInt32.toInt32), .unset, .unset, .unset, .unset, .unset, .unset, .unset] [(.int (((97 : Int32) + (vd - (26 : Int32))).toUInt32.toUInt16.toUInt32.toInt32))] _
        refine XS.istore X0.here hx rfl (hb hby at_61) rfl (l' := #[oj q0, .second, oi p1, oi vd, oi (((65 : Int32) + (vd - (26 : Int32))).toUInt32.toUInt16.toUInt32.toInt32), oi (((97 : Int32) + (vd - (26 : Int32))).toUInt32.toUInt16.toUInt32.toInt32), .unset, .unset, .unset, .unset, .unset, .unset]) rfl ?_
        show oS p e below s₁ m 63 #[oj q0, .second, oi p1, oi vd, oi (((65 : Int32) + (vd - (26 : Int32))).toUInt32.toUInt16.toUInt32.toInt32), oi (((97 : Int32) + (vd - (26 : Int32))).toUInt32.toUInt16.toUInt32.toInt32), .unset, .unset, .unset, .unset, .unset, .unset] [] _
        refine XS.bipush X0.here hx rfl (hb hby at_63) ?_
        show oS p e below s₁ m 65 #[oj q0, .second, oi p1, oi vd, oi (((65 : Int32) + (vd - (26 : Int32))).toUInt32.toUInt16.toUInt32.toInt32), oi (((97 : Int32) + (vd - (26 : Int32))).toUInt32.toUInt16.toUInt32.toInt32), .unset, .unset, .unset, .unset, .unset, .unset] [(.int (97 : Int32))] _
        refine XS.iloadN X0.here hx rfl (hb hby at_65) rfl ?_
        show oS p e below s₁ m 66 #[oj q0, .second, oi p1, oi vd, oi (((65 : Int32) + (vd - (26 : Int32))).toUInt32.toUInt16.toUInt32.toInt32), oi (((97 : Int32) + (vd - (26 : Int32))).toUInt32.toUInt16.toUInt32.toInt32), .unset, .unset, .unset, .unset, .unset, .unset] [(.int vd), (.int (97 : Int32))] _
        refine XS.bipush X0.here hx rfl (hb hby at_66) ?_
        show oS p e below s₁ m 68 #[oj q0, .second, oi p1, oi vd, oi (((65 : Int32) + (vd - (26 : Int32))).toUInt32.toUInt16.toUInt32.toInt32), oi (((97 : Int32) + (vd - (26 : Int32))).toUInt32.toUInt16.toUInt32.toInt32), .unset, .unset, .unset, .unset, .unset, .unset] [(.int (26 : Int32)), (.int vd), (.int (97 : Int32))] _
        refine XS.isub X0.here hx rfl (hb hby at_68) rfl ?_
        show oS p e below s₁ m 69 #[oj q0, .second, oi p1, oi vd, oi (((65 : Int32) + (vd - (26 : Int32))).toUInt32.toUInt16.toUInt32.toInt32), oi (((97 : Int32) + (vd - (26 : Int32))).toUInt32.toUInt16.toUInt32.toInt32), .unset, .unset, .unset, .unset, .unset, .unset] [(.int (vd - (26 : Int32))), (.int (97 : Int32))] _
        refine XS.iadd X0.here hx rfl (hb hby at_69) rfl ?_
        show oS p e below s₁ m 70 #[oj q0, .second, oi p1, oi vd, oi (((65 : Int32) + (vd - (26 : Int32))).toUInt32.toUInt16.toUInt32.toInt32), oi (((97 : Int32) + (vd - (26 : Int32))).toUInt32.toUInt16.toUInt32.toInt32), .unset, .unset, .unset, .unset, .unset, .unset] [(.int ((97 : Int32) + (vd - (26 : Int32))))] _
        refine XS.istore X0.here hx rfl (hb hby at_70) rfl (l' := #[oj q0, .second, oi p1, oi vd, oi (((65 : Int32) + (vd - (26 : Int32))).toUInt32.toUInt16.toUInt32.toInt32), oi (((97 : Int32) + (vd - (26 : Int32))).toUInt32.toUInt16.toUInt32.toInt32), oi ((97 : Int32) + (vd - (26 : Int32))), .unset, .unset, .unset, .unset, .unset]) rfl ?_
        show oS p e below s₁ m 72 #[oj q0, .second, oi p1, oi vd, oi (((65 : Int32) + (vd - (26 : Int32))).toUInt32.toUInt16.toUInt32.toInt32), oi (((97 : Int32) + (vd - (26 : Int32))).toUInt32.toUInt16.toUInt32.toInt32), oi ((97 : Int32) + (vd - (26 : Int32))), .unset, .unset, .unset, .unset, .unset] [] _
        refine XS.goto X0.here hx rfl (pc0 := 72) (pc' := 87) rfl (hb hby at_72) (by decide) (by decide) ?_
        show oS p e below s₁ m 87 #[oj q0, .second, oi p1, oi vd, oi (((65 : Int32) + (vd - (26 : Int32))).toUInt32.toUInt16.toUInt32.toInt32), oi (((97 : Int32) + (vd - (26 : Int32))).toUInt32.toUInt16.toUInt32.toInt32), oi ((97 : Int32) + (vd - (26 : Int32))), .unset, .unset, .unset, .unset, .unset] [] _
        refine XS.lloadN X0.here hx rfl (hb hby at_87) rfl ?_
        show oS p e below s₁ m 88 #[oj q0, .second, oi p1, oi vd, oi (((65 : Int32) + (vd - (26 : Int32))).toUInt32.toUInt16.toUInt32.toInt32), oi (((97 : Int32) + (vd - (26 : Int32))).toUInt32.toUInt16.toUInt32.toInt32), oi ((97 : Int32) + (vd - (26 : Int32))), .unset, .unset, .unset, .unset, .unset] [(.long q0)] _
        refine XS.iload X0.here hx rfl (hb hby at_88) rfl ?_
        show oS p e below s₁ m 90 #[oj q0, .second, oi p1, oi vd, oi (((65 : Int32) + (vd - (26 : Int32))).toUInt32.toUInt16.toUInt32.toInt32), oi (((97 : Int32) + (vd - (26 : Int32))).toUInt32.toUInt16.toUInt32.toInt32), oi ((97 : Int32) + (vd - (26 : Int32))), .unset, .unset, .unset, .unset, .unset] [(.int (((65 : Int32) + (vd - (26 : Int32))).toUInt32.toUInt16.toUInt32.toInt32)), (.long q0)] _
        refine st16 _ ?_
        show oS p e below T16 m 93 #[oj q0, .second, oi p1, oi vd, oi (((65 : Int32) + (vd - (26 : Int32))).toUInt32.toUInt16.toUInt32.toInt32), oi (((97 : Int32) + (vd - (26 : Int32))).toUInt32.toUInt16.toUInt32.toInt32), oi ((97 : Int32) + (vd - (26 : Int32))), .unset, .unset, .unset, .unset, .unset] [(.long (own_f1 q0 (((65 : Int32) + (vd - (26 : Int32))).toUInt32.toUInt16.toUInt32.toInt32)))] _
        refine XS.lstore X16.here hx rfl (hb hby at_93) rfl (l' := #[oj q0, .second, oi p1, oi vd, oi (((65 : Int32) + (vd - (26 : Int32))).toUInt32.toUInt16.toUInt32.toInt32), oi (((97 : Int32) + (vd - (26 : Int32))).toUInt32.toUInt16.toUInt32.toInt32), oi ((97 : Int32) + (vd - (26 : Int32))), oj (own_f1 q0 (((65 : Int32) + (vd - (26 : Int32))).toUInt32.toUInt16.toUInt32.toInt32)), .second, .unset, .unset, .unset]) rfl ?_
        show oS p e below T16 m 95 #[oj q0, .second, oi p1, oi vd, oi (((65 : Int32) + (vd - (26 : Int32))).toUInt32.toUInt16.toUInt32.toInt32), oi (((97 : Int32) + (vd - (26 : Int32))).toUInt32.toUInt16.toUInt32.toInt32), oi ((97 : Int32) + (vd - (26 : Int32))), oj (own_f1 q0 (((65 : Int32) + (vd - (26 : Int32))).toUInt32.toUInt16.toUInt32.toInt32)), .second, .unset, .unset, .unset] [] _
        refine XS.lloadN X16.here hx rfl (hb hby at_95) rfl ?_
        show oS p e below T16 m 96 #[oj q0, .second, oi p1, oi vd, oi (((65 : Int32) + (vd - (26 : Int32))).toUInt32.toUInt16.toUInt32.toInt32), oi (((97 : Int32) + (vd - (26 : Int32))).toUInt32.toUInt16.toUInt32.toInt32), oi ((97 : Int32) + (vd - (26 : Int32))), oj (own_f1 q0 (((65 : Int32) + (vd - (26 : Int32))).toUInt32.toUInt16.toUInt32.toInt32)), .second, .unset, .unset, .unset] [(.long q0)] _
        refine X16.ldc2Long hx hown (mvT hZ (hw _ (List.mem_of_getElem? (i := 6) rfl))) (g := (mkF m 96 #[oj q0, .second, oi p1, oi vd, oi (((65 : Int32) + (vd - (26 : Int32))).toUInt32.toUInt16.toUInt32.toInt32), oi (((97 : Int32) + (vd - (26 : Int32))).toUInt32.toUInt16.toUInt32.toInt32), oi ((97 : Int32) + (vd - (26 : Int32))), oj (own_f1 q0 (((65 : Int32) + (vd - (26 : Int32))).toUInt32.toUInt16.toUInt32.toInt32)), .second, .unset, .unset, .unset] [(.long q0)])) rfl (hb hby at_96) _ ?_
        show oS p e below T16 m 99 #[oj q0, .second, oi p1, oi vd, oi (((65 : Int32) + (vd - (26 : Int32))).toUInt32.toUInt16.toUInt32.toInt32), oi (((97 : Int32) + (vd - (26 : Int32))).toUInt32.toUInt16.toUInt32.toInt32), oi ((97 : Int32) + (vd - (26 : Int32))), oj (own_f1 q0 (((65 : Int32) + (vd - (26 : Int32))).toUInt32.toUInt16.toUInt32.toInt32)), .second, .unset, .unset, .unset] [(.long (256 : Int64)), (.long q0)] _
        refine XS.lmul X16.here hx rfl (hb hby at_99) rfl ?_
        show oS p e below T16 m 100 #[oj q0, .second, oi p1, oi vd, oi (((65 : Int32) + (vd - (26 : Int32))).toUInt32.toUInt16.toUInt32.toInt32), oi (((97 : Int32) + (vd - (26 : Int32))).toUInt32.toUInt16.toUInt32.toInt32), oi ((97 : Int32) + (vd - (26 : Int32))), oj (own_f1 q0 (((65 : Int32) + (vd - (26 : Int32))).toUInt32.toUInt16.toUInt32.toInt32)), .second, .unset, .unset, .unset] [(.long (q0 * (256 : Int64)))] _
        refine XS.iload X16.here hx rfl (hb hby at_100) rfl ?_
        show oS p e below T16 m 102 #[oj q0, .second, oi p1, oi vd, oi (((65 : Int32) + (vd - (26 : Int32))).toUInt32.toUInt16.toUInt32.toInt32), oi (((97 : Int32) + (vd - (26 : Int32))).toUInt32.toUInt16.toUInt32.toInt32), oi ((97 : Int32) + (vd - (26 : Int32))), oj (own_f1 q0 (((65 : Int32) + (vd - (26 : Int32))).toUInt32.toUInt16.toUInt32.toInt32)), .second, .unset, .unset, .unset] [(.int ((97 : Int32) + (vd - (26 : Int32)))), (.long (q0 * (256 : Int64)))] _
        refine XS.i2l X16.here hx rfl (hb hby at_102) rfl ?_
        show oS p e below T16 m 103 #[oj q0, .second, oi p1, oi vd, oi (((65 : Int32) + (vd - (26 : Int32))).toUInt32.toUInt16.toUInt32.toInt32), oi (((97 : Int32) + (vd - (26 : Int32))).toUInt32.toUInt16.toUInt32.toInt32), oi ((97 : Int32) + (vd - (26 : Int32))), oj (own_f1 q0 (((65 : Int32) + (vd - (26 : Int32))).toUInt32.toUInt16.toUInt32.toInt32)), .second, .unset, .unset, .unset] [(.long (((97 : Int32) + (vd - (26 : Int32))).toInt64)), (.long (q0 * (256 : Int64)))] _
        refine XS.ladd X16.here hx rfl (hb hby at_103) rfl ?_
        show oS p e below T16 m 104 #[oj q0, .second, oi p1, oi vd, oi (((65 : Int32) + (vd - (26 : Int32))).toUInt32.toUInt16.toUInt32.toInt32), oi (((97 : Int32) + (vd - (26 : Int32))).toUInt32.toUInt16.toUInt32.toInt32), oi ((97 : Int32) + (vd - (26 : Int32))), oj (own_f1 q0 (((65 : Int32) + (vd - (26 : Int32))).toUInt32.toUInt16.toUInt32.toInt32)), .second, .unset, .unset, .unset] [(.long ((q0 * (256 : Int64)) + (((97 : Int32) + (vd - (26 : Int32))).toInt64)))] _
        refine XS.lstore X16.here hx rfl (hb hby at_104) rfl (l' := #[oj q0, .second, oi p1, oi vd, oi (((65 : Int32) + (vd - (26 : Int32))).toUInt32.toUInt16.toUInt32.toInt32), oi (((97 : Int32) + (vd - (26 : Int32))).toUInt32.toUInt16.toUInt32.toInt32), oi ((97 : Int32) + (vd - (26 : Int32))), oj (own_f1 q0 (((65 : Int32) + (vd - (26 : Int32))).toUInt32.toUInt16.toUInt32.toInt32)), .second, oj ((q0 * (256 : Int64)) + (((97 : Int32) + (vd - (26 : Int32))).toInt64)), .second, .unset]) rfl ?_
        show oS p e below T16 m 106 #[oj q0, .second, oi p1, oi vd, oi (((65 : Int32) + (vd - (26 : Int32))).toUInt32.toUInt16.toUInt32.toInt32), oi (((97 : Int32) + (vd - (26 : Int32))).toUInt32.toUInt16.toUInt32.toInt32), oi ((97 : Int32) + (vd - (26 : Int32))), oj (own_f1 q0 (((65 : Int32) + (vd - (26 : Int32))).toUInt32.toUInt16.toUInt32.toInt32)), .second, oj ((q0 * (256 : Int64)) + (((97 : Int32) + (vd - (26 : Int32))).toInt64)), .second, .unset] [] _
        refine XS.lload X16.here hx rfl (hb hby at_106) rfl ?_
        show oS p e below T16 m 108 #[oj q0, .second, oi p1, oi vd, oi (((65 : Int32) + (vd - (26 : Int32))).toUInt32.toUInt16.toUInt32.toInt32), oi (((97 : Int32) + (vd - (26 : Int32))).toUInt32.toUInt16.toUInt32.toInt32), oi ((97 : Int32) + (vd - (26 : Int32))), oj (own_f1 q0 (((65 : Int32) + (vd - (26 : Int32))).toUInt32.toUInt16.toUInt32.toInt32)), .second, oj ((q0 * (256 : Int64)) + (((97 : Int32) + (vd - (26 : Int32))).toInt64)), .second, .unset] [(.long (own_f1 q0 (((65 : Int32) + (vd - (26 : Int32))).toUInt32.toUInt16.toUInt32.toInt32)))] _
        refine XS.lload X16.here hx rfl (hb hby at_108) rfl ?_
        show oS p e below T16 m 110 #[oj q0, .second, oi p1, oi vd, oi (((65 : Int32) + (vd - (26 : Int32))).toUInt32.toUInt16.toUInt32.toInt32), oi (((97 : Int32) + (vd - (26 : Int32))).toUInt32.toUInt16.toUInt32.toInt32), oi ((97 : Int32) + (vd - (26 : Int32))), oj (own_f1 q0 (((65 : Int32) + (vd - (26 : Int32))).toUInt32.toUInt16.toUInt32.toInt32)), .second, oj ((q0 * (256 : Int64)) + (((97 : Int32) + (vd - (26 : Int32))).toInt64)), .second, .unset] [(.long ((q0 * (256 : Int64)) + (((97 : Int32) + (vd - (26 : Int32))).toInt64))), (.long (own_f1 q0 (((65 : Int32) + (vd - (26 : Int32))).toUInt32.toUInt16.toUInt32.toInt32)))] _
        refine XS.lcmp X16.here hx rfl (hb hby at_110) rfl ?_
        show oS p e below T16 m 111 #[oj q0, .second, oi p1, oi vd, oi (((65 : Int32) + (vd - (26 : Int32))).toUInt32.toUInt16.toUInt32.toInt32), oi (((97 : Int32) + (vd - (26 : Int32))).toUInt32.toUInt16.toUInt32.toInt32), oi ((97 : Int32) + (vd - (26 : Int32))), oj (own_f1 q0 (((65 : Int32) + (vd - (26 : Int32))).toUInt32.toUInt16.toUInt32.toInt32)), .second, oj ((q0 * (256 : Int64)) + (((97 : Int32) + (vd - (26 : Int32))).toInt64)), .second, .unset] [(.int (lcmpW (own_f1 q0 (((65 : Int32) + (vd - (26 : Int32))).toUInt32.toUInt16.toUInt32.toInt32)) ((q0 * (256 : Int64)) + (((97 : Int32) + (vd - (26 : Int32))).toInt64))))] _
        refine XS.ifNo X16.here hx rfl (hb hby at_111) rfl ((if0 _ _).trans (teq ((lw_eq (own_f1 q0 (((65 : Int32) + (vd - (26 : Int32))).toUInt32.toUInt16.toUInt32.toInt32)) ((q0 * (256 : Int64)) + (((97 : Int32) + (vd - (26 : Int32))).toInt64))).mpr b17)).2) ?_
        show oS p e below T16 m 114 #[oj q0, .second, oi p1, oi vd, oi (((65 : Int32) + (vd - (26 : Int32))).toUInt32.toUInt16.toUInt32.toInt32), oi (((97 : Int32) + (vd - (26 : Int32))).toUInt32.toUInt16.toUInt32.toInt32), oi ((97 : Int32) + (vd - (26 : Int32))), oj (own_f1 q0 (((65 : Int32) + (vd - (26 : Int32))).toUInt32.toUInt16.toUInt32.toInt32)), .second, oj ((q0 * (256 : Int64)) + (((97 : Int32) + (vd - (26 : Int32))).toInt64)), .second, .unset] [] _
        refine XS.iconst X16.here hx rfl (hb hby at_114) ?_
        show oS p e below T16 m 115 #[oj q0, .second, oi p1, oi vd, oi (((65 : Int32) + (vd - (26 : Int32))).toUInt32.toUInt16.toUInt32.toInt32), oi (((97 : Int32) + (vd - (26 : Int32))).toUInt32.toUInt16.toUInt32.toInt32), oi ((97 : Int32) + (vd - (26 : Int32))), oj (own_f1 q0 (((65 : Int32) + (vd - (26 : Int32))).toUInt32.toUInt16.toUInt32.toInt32)), .second, oj ((q0 * (256 : Int64)) + (((97 : Int32) + (vd - (26 : Int32))).toInt64)), .second, .unset] [(.int (1 : Int32))] _
        refine XS.goto X16.here hx rfl (pc0 := 115) (pc' := 119) rfl (hb hby at_115) (by decide) (by decide) ?_
        show oS p e below T16 m 119 #[oj q0, .second, oi p1, oi vd, oi (((65 : Int32) + (vd - (26 : Int32))).toUInt32.toUInt16.toUInt32.toInt32), oi (((97 : Int32) + (vd - (26 : Int32))).toUInt32.toUInt16.toUInt32.toInt32), oi ((97 : Int32) + (vd - (26 : Int32))), oj (own_f1 q0 (((65 : Int32) + (vd - (26 : Int32))).toUInt32.toUInt16.toUInt32.toInt32)), .second, oj ((q0 * (256 : Int64)) + (((97 : Int32) + (vd - (26 : Int32))).toInt64)), .second, .unset] [(.int (1 : Int32))] _
        refine XS.istore X16.here hx rfl (hb hby at_119) rfl (l' := #[oj q0, .second, oi p1, oi vd, oi (((65 : Int32) + (vd - (26 : Int32))).toUInt32.toUInt16.toUInt32.toInt32), oi (((97 : Int32) + (vd - (26 : Int32))).toUInt32.toUInt16.toUInt32.toInt32), oi ((97 : Int32) + (vd - (26 : Int32))), oj (own_f1 q0 (((65 : Int32) + (vd - (26 : Int32))).toUInt32.toUInt16.toUInt32.toInt32)), .second, oj ((q0 * (256 : Int64)) + (((97 : Int32) + (vd - (26 : Int32))).toInt64)), .second, oi (1 : Int32)]) rfl ?_
        show oS p e below T16 m 121 #[oj q0, .second, oi p1, oi vd, oi (((65 : Int32) + (vd - (26 : Int32))).toUInt32.toUInt16.toUInt32.toInt32), oi (((97 : Int32) + (vd - (26 : Int32))).toUInt32.toUInt16.toUInt32.toInt32), oi ((97 : Int32) + (vd - (26 : Int32))), oj (own_f1 q0 (((65 : Int32) + (vd - (26 : Int32))).toUInt32.toUInt16.toUInt32.toInt32)), .second, oj ((q0 * (256 : Int64)) + (((97 : Int32) + (vd - (26 : Int32))).toInt64)), .second, oi (1 : Int32)] [] _
        refine XS.iload X16.here hx rfl (hb hby at_121) rfl ?_
        show oS p e below T16 m 123 #[oj q0, .second, oi p1, oi vd, oi (((65 : Int32) + (vd - (26 : Int32))).toUInt32.toUInt16.toUInt32.toInt32), oi (((97 : Int32) + (vd - (26 : Int32))).toUInt32.toUInt16.toUInt32.toInt32), oi ((97 : Int32) + (vd - (26 : Int32))), oj (own_f1 q0 (((65 : Int32) + (vd - (26 : Int32))).toUInt32.toUInt16.toUInt32.toInt32)), .second, oj ((q0 * (256 : Int64)) + (((97 : Int32) + (vd - (26 : Int32))).toInt64)), .second, oi (1 : Int32)] [(.int (1 : Int32))] _
        refine XS.ifNo X16.here hx rfl (hb hby at_123) rfl ((if0 _ _).trans (feq b18).1) ?_
        show oS p e below T16 m 126 #[oj q0, .second, oi p1, oi vd, oi (((65 : Int32) + (vd - (26 : Int32))).toUInt32.toUInt16.toUInt32.toInt32), oi (((97 : Int32) + (vd - (26 : Int32))).toUInt32.toUInt16.toUInt32.toInt32), oi ((97 : Int32) + (vd - (26 : Int32))), oj (own_f1 q0 (((65 : Int32) + (vd - (26 : Int32))).toUInt32.toUInt16.toUInt32.toInt32)), .second, oj ((q0 * (256 : Int64)) + (((97 : Int32) + (vd - (26 : Int32))).toInt64)), .second, oi (1 : Int32)] [] _
        refine XS.lload X16.here hx rfl (hb hby at_126) rfl ?_
        show oS p e below T16 m 128 #[oj q0, .second, oi p1, oi vd, oi (((65 : Int32) + (vd - (26 : Int32))).toUInt32.toUInt16.toUInt32.toInt32), oi (((97 : Int32) + (vd - (26 : Int32))).toUInt32.toUInt16.toUInt32.toInt32), oi ((97 : Int32) + (vd - (26 : Int32))), oj (own_f1 q0 (((65 : Int32) + (vd - (26 : Int32))).toUInt32.toUInt16.toUInt32.toInt32)), .second, oj ((q0 * (256 : Int64)) + (((97 : Int32) + (vd - (26 : Int32))).toInt64)), .second, oi (1 : Int32)] [(.long (own_f1 q0 (((65 : Int32) + (vd - (26 : Int32))).toUInt32.toUInt16.toUInt32.toInt32)))] _
        refine XS.bipush X16.here hx rfl (hb hby at_128) ?_
        show oS p e below T16 m 130 #[oj q0, .second, oi p1, oi vd, oi (((65 : Int32) + (vd - (26 : Int32))).toUInt32.toUInt16.toUInt32.toInt32), oi (((97 : Int32) + (vd - (26 : Int32))).toUInt32.toUInt16.toUInt32.toInt32), oi ((97 : Int32) + (vd - (26 : Int32))), oj (own_f1 q0 (((65 : Int32) + (vd - (26 : Int32))).toUInt32.toUInt16.toUInt32.toInt32)), .second, oj ((q0 * (256 : Int64)) + (((97 : Int32) + (vd - (26 : Int32))).toInt64)), .second, oi (1 : Int32)] [(.int (8 : Int32)), (.long (own_f1 q0 (((65 : Int32) + (vd - (26 : Int32))).toUInt32.toUInt16.toUInt32.toInt32)))] _
        refine XS.lushr X16.here hx rfl (hb hby at_130) rfl ?_
        show oS p e below T16 m 131 #[oj q0, .second, oi p1, oi vd, oi (((65 : Int32) + (vd - (26 : Int32))).toUInt32.toUInt16.toUInt32.toInt32), oi (((97 : Int32) + (vd - (26 : Int32))).toUInt32.toUInt16.toUInt32.toInt32), oi ((97 : Int32) + (vd - (26 : Int32))), oj (own_f1 q0 (((65 : Int32) + (vd - (26 : Int32))).toUInt32.toUInt16.toUInt32.toInt32)), .second, oj ((q0 * (256 : Int64)) + (((97 : Int32) + (vd - (26 : Int32))).toInt64)), .second, oi (1 : Int32)] [(.long (((own_f1 q0 (((65 : Int32) + (vd - (26 : Int32))).toUInt32.toUInt16.toUInt32.toInt32)).toUInt64 >>> ((8 : Int32) &&& 0x3f).toInt64.toUInt64).toInt64))] _
        refine XS.lloadN X16.here hx rfl (hb hby at_131) rfl ?_
        show oS p e below T16 m 132 #[oj q0, .second, oi p1, oi vd, oi (((65 : Int32) + (vd - (26 : Int32))).toUInt32.toUInt16.toUInt32.toInt32), oi (((97 : Int32) + (vd - (26 : Int32))).toUInt32.toUInt16.toUInt32.toInt32), oi ((97 : Int32) + (vd - (26 : Int32))), oj (own_f1 q0 (((65 : Int32) + (vd - (26 : Int32))).toUInt32.toUInt16.toUInt32.toInt32)), .second, oj ((q0 * (256 : Int64)) + (((97 : Int32) + (vd - (26 : Int32))).toInt64)), .second, oi (1 : Int32)] [(.long q0), (.long (((own_f1 q0 (((65 : Int32) + (vd - (26 : Int32))).toUInt32.toUInt16.toUInt32.toInt32)).toUInt64 >>> ((8 : Int32) &&& 0x3f).toInt64.toUInt64).toInt64))] _
        refine X16.ldc2Long hx hown (mvT hZ (hw _ (List.mem_of_getElem? (i := 7) rfl))) (g := (mkF m 132 #[oj q0, .second, oi p1, oi vd, oi (((65 : Int32) + (vd - (26 : Int32))).toUInt32.toUInt16.toUInt32.toInt32), oi (((97 : Int32) + (vd - (26 : Int32))).toUInt32.toUInt16.toUInt32.toInt32), oi ((97 : Int32) + (vd - (26 : Int32))), oj (own_f1 q0 (((65 : Int32) + (vd - (26 : Int32))).toUInt32.toUInt16.toUInt32.toInt32)), .second, oj ((q0 * (256 : Int64)) + (((97 : Int32) + (vd - (26 : Int32))).toInt64)), .second, oi (1 : Int32)] [(.long q0), (.long (((own_f1 q0 (((65 : Int32) + (vd - (26 : Int32))).toUInt32.toUInt16.toUInt32.toInt32)).toUInt64 >>> ((8 : Int32) &&& 0x3f).toInt64.toUInt64).toInt64))])) rfl (hb hby at_132) _ ?_
        show oS p e below T16 m 135 #[oj q0, .second, oi p1, oi vd, oi (((65 : Int32) + (vd - (26 : Int32))).toUInt32.toUInt16.toUInt32.toInt32), oi (((97 : Int32) + (vd - (26 : Int32))).toUInt32.toUInt16.toUInt32.toInt32), oi ((97 : Int32) + (vd - (26 : Int32))), oj (own_f1 q0 (((65 : Int32) + (vd - (26 : Int32))).toUInt32.toUInt16.toUInt32.toInt32)), .second, oj ((q0 * (256 : Int64)) + (((97 : Int32) + (vd - (26 : Int32))).toInt64)), .second, oi (1 : Int32)] [(.long (72057594037927935 : Int64)), (.long q0), (.long (((own_f1 q0 (((65 : Int32) + (vd - (26 : Int32))).toUInt32.toUInt16.toUInt32.toInt32)).toUInt64 >>> ((8 : Int32) &&& 0x3f).toInt64.toUInt64).toInt64))] _
        refine XS.land X16.here hx rfl (hb hby at_135) rfl ?_
        show oS p e below T16 m 136 #[oj q0, .second, oi p1, oi vd, oi (((65 : Int32) + (vd - (26 : Int32))).toUInt32.toUInt16.toUInt32.toInt32), oi (((97 : Int32) + (vd - (26 : Int32))).toUInt32.toUInt16.toUInt32.toInt32), oi ((97 : Int32) + (vd - (26 : Int32))), oj (own_f1 q0 (((65 : Int32) + (vd - (26 : Int32))).toUInt32.toUInt16.toUInt32.toInt32)), .second, oj ((q0 * (256 : Int64)) + (((97 : Int32) + (vd - (26 : Int32))).toInt64)), .second, oi (1 : Int32)] [(.long (q0 &&& (72057594037927935 : Int64))), (.long (((own_f1 q0 (((65 : Int32) + (vd - (26 : Int32))).toUInt32.toUInt16.toUInt32.toInt32)).toUInt64 >>> ((8 : Int32) &&& 0x3f).toInt64.toUInt64).toInt64))] _
        refine XS.lcmp X16.here hx rfl (hb hby at_136) rfl ?_
        show oS p e below T16 m 137 #[oj q0, .second, oi p1, oi vd, oi (((65 : Int32) + (vd - (26 : Int32))).toUInt32.toUInt16.toUInt32.toInt32), oi (((97 : Int32) + (vd - (26 : Int32))).toUInt32.toUInt16.toUInt32.toInt32), oi ((97 : Int32) + (vd - (26 : Int32))), oj (own_f1 q0 (((65 : Int32) + (vd - (26 : Int32))).toUInt32.toUInt16.toUInt32.toInt32)), .second, oj ((q0 * (256 : Int64)) + (((97 : Int32) + (vd - (26 : Int32))).toInt64)), .second, oi (1 : Int32)] [(.int (lcmpW (((own_f1 q0 (((65 : Int32) + (vd - (26 : Int32))).toUInt32.toUInt16.toUInt32.toInt32)).toUInt64 >>> ((8 : Int32) &&& 0x3f).toInt64.toUInt64).toInt64) (q0 &&& (72057594037927935 : Int64))))] _
        refine XS.ifNo X16.here hx rfl (hb hby at_137) rfl ((if0 _ _).trans (teq ((lw_eq (((own_f1 q0 (((65 : Int32) + (vd - (26 : Int32))).toUInt32.toUInt16.toUInt32.toInt32)).toUInt64 >>> ((8 : Int32) &&& 0x3f).toInt64.toUInt64).toInt64) (q0 &&& (72057594037927935 : Int64))).mpr b19)).2) ?_
        show oS p e below T16 m 140 #[oj q0, .second, oi p1, oi vd, oi (((65 : Int32) + (vd - (26 : Int32))).toUInt32.toUInt16.toUInt32.toInt32), oi (((97 : Int32) + (vd - (26 : Int32))).toUInt32.toUInt16.toUInt32.toInt32), oi ((97 : Int32) + (vd - (26 : Int32))), oj (own_f1 q0 (((65 : Int32) + (vd - (26 : Int32))).toUInt32.toUInt16.toUInt32.toInt32)), .second, oj ((q0 * (256 : Int64)) + (((97 : Int32) + (vd - (26 : Int32))).toInt64)), .second, oi (1 : Int32)] [] _
        refine XS.iconst X16.here hx rfl (hb hby at_140) ?_
        show oS p e below T16 m 141 #[oj q0, .second, oi p1, oi vd, oi (((65 : Int32) + (vd - (26 : Int32))).toUInt32.toUInt16.toUInt32.toInt32), oi (((97 : Int32) + (vd - (26 : Int32))).toUInt32.toUInt16.toUInt32.toInt32), oi ((97 : Int32) + (vd - (26 : Int32))), oj (own_f1 q0 (((65 : Int32) + (vd - (26 : Int32))).toUInt32.toUInt16.toUInt32.toInt32)), .second, oj ((q0 * (256 : Int64)) + (((97 : Int32) + (vd - (26 : Int32))).toInt64)), .second, oi (1 : Int32)] [(.int (1 : Int32))] _
        refine XS.goto X16.here hx rfl (pc0 := 141) (pc' := 145) rfl (hb hby at_141) (by decide) (by decide) ?_
        show oS p e below T16 m 145 #[oj q0, .second, oi p1, oi vd, oi (((65 : Int32) + (vd - (26 : Int32))).toUInt32.toUInt16.toUInt32.toInt32), oi (((97 : Int32) + (vd - (26 : Int32))).toUInt32.toUInt16.toUInt32.toInt32), oi ((97 : Int32) + (vd - (26 : Int32))), oj (own_f1 q0 (((65 : Int32) + (vd - (26 : Int32))).toUInt32.toUInt16.toUInt32.toInt32)), .second, oj ((q0 * (256 : Int64)) + (((97 : Int32) + (vd - (26 : Int32))).toInt64)), .second, oi (1 : Int32)] [(.int (1 : Int32))] _
        refine XS.istore X16.here hx rfl (hb hby at_145) rfl (l' := #[oj q0, .second, oi p1, oi vd, oi (((65 : Int32) + (vd - (26 : Int32))).toUInt32.toUInt16.toUInt32.toInt32), oi (((97 : Int32) + (vd - (26 : Int32))).toUInt32.toUInt16.toUInt32.toInt32), oi ((97 : Int32) + (vd - (26 : Int32))), oj (own_f1 q0 (((65 : Int32) + (vd - (26 : Int32))).toUInt32.toUInt16.toUInt32.toInt32)), .second, oj ((q0 * (256 : Int64)) + (((97 : Int32) + (vd - (26 : Int32))).toInt64)), .second, oi (1 : Int32)]) rfl ?_
        show oS p e below T16 m 147 #[oj q0, .second, oi p1, oi vd, oi (((65 : Int32) + (vd - (26 : Int32))).toUInt32.toUInt16.toUInt32.toInt32), oi (((97 : Int32) + (vd - (26 : Int32))).toUInt32.toUInt16.toUInt32.toInt32), oi ((97 : Int32) + (vd - (26 : Int32))), oj (own_f1 q0 (((65 : Int32) + (vd - (26 : Int32))).toUInt32.toUInt16.toUInt32.toInt32)), .second, oj ((q0 * (256 : Int64)) + (((97 : Int32) + (vd - (26 : Int32))).toInt64)), .second, oi (1 : Int32)] [] _
        refine XS.iload X16.here hx rfl (hb hby at_147) rfl ?_
        show oS p e below T16 m 149 #[oj q0, .second, oi p1, oi vd, oi (((65 : Int32) + (vd - (26 : Int32))).toUInt32.toUInt16.toUInt32.toInt32), oi (((97 : Int32) + (vd - (26 : Int32))).toUInt32.toUInt16.toUInt32.toInt32), oi ((97 : Int32) + (vd - (26 : Int32))), oj (own_f1 q0 (((65 : Int32) + (vd - (26 : Int32))).toUInt32.toUInt16.toUInt32.toInt32)), .second, oj ((q0 * (256 : Int64)) + (((97 : Int32) + (vd - (26 : Int32))).toInt64)), .second, oi (1 : Int32)] [(.int (1 : Int32))] _
        refine XS.ifNo X16.here hx rfl (hb hby at_149) rfl ((if0 _ _).trans (feq b20).1) ?_
        show oS p e below T16 m 152 #[oj q0, .second, oi p1, oi vd, oi (((65 : Int32) + (vd - (26 : Int32))).toUInt32.toUInt16.toUInt32.toInt32), oi (((97 : Int32) + (vd - (26 : Int32))).toUInt32.toUInt16.toUInt32.toInt32), oi ((97 : Int32) + (vd - (26 : Int32))), oj (own_f1 q0 (((65 : Int32) + (vd - (26 : Int32))).toUInt32.toUInt16.toUInt32.toInt32)), .second, oj ((q0 * (256 : Int64)) + (((97 : Int32) + (vd - (26 : Int32))).toInt64)), .second, oi (1 : Int32)] [] _
        refine XS.lload X16.here hx rfl (hb hby at_152) rfl ?_
        show oS p e below T16 m 154 #[oj q0, .second, oi p1, oi vd, oi (((65 : Int32) + (vd - (26 : Int32))).toUInt32.toUInt16.toUInt32.toInt32), oi (((97 : Int32) + (vd - (26 : Int32))).toUInt32.toUInt16.toUInt32.toInt32), oi ((97 : Int32) + (vd - (26 : Int32))), oj (own_f1 q0 (((65 : Int32) + (vd - (26 : Int32))).toUInt32.toUInt16.toUInt32.toInt32)), .second, oj ((q0 * (256 : Int64)) + (((97 : Int32) + (vd - (26 : Int32))).toInt64)), .second, oi (1 : Int32)] [(.long (own_f1 q0 (((65 : Int32) + (vd - (26 : Int32))).toUInt32.toUInt16.toUInt32.toInt32)))] _
        refine X16.ldc2Long hx hown (mvT hZ (hw _ (List.mem_of_getElem? (i := 8) rfl))) (g := (mkF m 154 #[oj q0, .second, oi p1, oi vd, oi (((65 : Int32) + (vd - (26 : Int32))).toUInt32.toUInt16.toUInt32.toInt32), oi (((97 : Int32) + (vd - (26 : Int32))).toUInt32.toUInt16.toUInt32.toInt32), oi ((97 : Int32) + (vd - (26 : Int32))), oj (own_f1 q0 (((65 : Int32) + (vd - (26 : Int32))).toUInt32.toUInt16.toUInt32.toInt32)), .second, oj ((q0 * (256 : Int64)) + (((97 : Int32) + (vd - (26 : Int32))).toInt64)), .second, oi (1 : Int32)] [(.long (own_f1 q0 (((65 : Int32) + (vd - (26 : Int32))).toUInt32.toUInt16.toUInt32.toInt32)))])) rfl (hb hby at_154) _ ?_
        show oS p e below T16 m 157 #[oj q0, .second, oi p1, oi vd, oi (((65 : Int32) + (vd - (26 : Int32))).toUInt32.toUInt16.toUInt32.toInt32), oi (((97 : Int32) + (vd - (26 : Int32))).toUInt32.toUInt16.toUInt32.toInt32), oi ((97 : Int32) + (vd - (26 : Int32))), oj (own_f1 q0 (((65 : Int32) + (vd - (26 : Int32))).toUInt32.toUInt16.toUInt32.toInt32)), .second, oj ((q0 * (256 : Int64)) + (((97 : Int32) + (vd - (26 : Int32))).toInt64)), .second, oi (1 : Int32)] [(.long (255 : Int64)), (.long (own_f1 q0 (((65 : Int32) + (vd - (26 : Int32))).toUInt32.toUInt16.toUInt32.toInt32)))] _
        refine XS.land X16.here hx rfl (hb hby at_157) rfl ?_
        show oS p e below T16 m 158 #[oj q0, .second, oi p1, oi vd, oi (((65 : Int32) + (vd - (26 : Int32))).toUInt32.toUInt16.toUInt32.toInt32), oi (((97 : Int32) + (vd - (26 : Int32))).toUInt32.toUInt16.toUInt32.toInt32), oi ((97 : Int32) + (vd - (26 : Int32))), oj (own_f1 q0 (((65 : Int32) + (vd - (26 : Int32))).toUInt32.toUInt16.toUInt32.toInt32)), .second, oj ((q0 * (256 : Int64)) + (((97 : Int32) + (vd - (26 : Int32))).toInt64)), .second, oi (1 : Int32)] [(.long ((own_f1 q0 (((65 : Int32) + (vd - (26 : Int32))).toUInt32.toUInt16.toUInt32.toInt32)) &&& (255 : Int64)))] _
        refine XS.iload X16.here hx rfl (hb hby at_158) rfl ?_
        show oS p e below T16 m 160 #[oj q0, .second, oi p1, oi vd, oi (((65 : Int32) + (vd - (26 : Int32))).toUInt32.toUInt16.toUInt32.toInt32), oi (((97 : Int32) + (vd - (26 : Int32))).toUInt32.toUInt16.toUInt32.toInt32), oi ((97 : Int32) + (vd - (26 : Int32))), oj (own_f1 q0 (((65 : Int32) + (vd - (26 : Int32))).toUInt32.toUInt16.toUInt32.toInt32)), .second, oj ((q0 * (256 : Int64)) + (((97 : Int32) + (vd - (26 : Int32))).toInt64)), .second, oi (1 : Int32)] [(.int ((97 : Int32) + (vd - (26 : Int32)))), (.long ((own_f1 q0 (((65 : Int32) + (vd - (26 : Int32))).toUInt32.toUInt16.toUInt32.toInt32)) &&& (255 : Int64)))] _
        refine XS.i2l X16.here hx rfl (hb hby at_160) rfl ?_
        show oS p e below T16 m 161 #[oj q0, .second, oi p1, oi vd, oi (((65 : Int32) + (vd - (26 : Int32))).toUInt32.toUInt16.toUInt32.toInt32), oi (((97 : Int32) + (vd - (26 : Int32))).toUInt32.toUInt16.toUInt32.toInt32), oi ((97 : Int32) + (vd - (26 : Int32))), oj (own_f1 q0 (((65 : Int32) + (vd - (26 : Int32))).toUInt32.toUInt16.toUInt32.toInt32)), .second, oj ((q0 * (256 : Int64)) + (((97 : Int32) + (vd - (26 : Int32))).toInt64)), .second, oi (1 : Int32)] [(.long (((97 : Int32) + (vd - (26 : Int32))).toInt64)), (.long ((own_f1 q0 (((65 : Int32) + (vd - (26 : Int32))).toUInt32.toUInt16.toUInt32.toInt32)) &&& (255 : Int64)))] _
        refine XS.lcmp X16.here hx rfl (hb hby at_161) rfl ?_
        show oS p e below T16 m 162 #[oj q0, .second, oi p1, oi vd, oi (((65 : Int32) + (vd - (26 : Int32))).toUInt32.toUInt16.toUInt32.toInt32), oi (((97 : Int32) + (vd - (26 : Int32))).toUInt32.toUInt16.toUInt32.toInt32), oi ((97 : Int32) + (vd - (26 : Int32))), oj (own_f1 q0 (((65 : Int32) + (vd - (26 : Int32))).toUInt32.toUInt16.toUInt32.toInt32)), .second, oj ((q0 * (256 : Int64)) + (((97 : Int32) + (vd - (26 : Int32))).toInt64)), .second, oi (1 : Int32)] [(.int (lcmpW ((own_f1 q0 (((65 : Int32) + (vd - (26 : Int32))).toUInt32.toUInt16.toUInt32.toInt32)) &&& (255 : Int64)) (((97 : Int32) + (vd - (26 : Int32))).toInt64)))] _
        refine XS.ifNo X16.here hx rfl (hb hby at_162) rfl ((if0 _ _).trans (teq ((lw_eq ((own_f1 q0 (((65 : Int32) + (vd - (26 : Int32))).toUInt32.toUInt16.toUInt32.toInt32)) &&& (255 : Int64)) (((97 : Int32) + (vd - (26 : Int32))).toInt64)).mpr b21)).2) ?_
        show oS p e below T16 m 165 #[oj q0, .second, oi p1, oi vd, oi (((65 : Int32) + (vd - (26 : Int32))).toUInt32.toUInt16.toUInt32.toInt32), oi (((97 : Int32) + (vd - (26 : Int32))).toUInt32.toUInt16.toUInt32.toInt32), oi ((97 : Int32) + (vd - (26 : Int32))), oj (own_f1 q0 (((65 : Int32) + (vd - (26 : Int32))).toUInt32.toUInt16.toUInt32.toInt32)), .second, oj ((q0 * (256 : Int64)) + (((97 : Int32) + (vd - (26 : Int32))).toInt64)), .second, oi (1 : Int32)] [] _
        refine XS.iconst X16.here hx rfl (hb hby at_165) ?_
        show oS p e below T16 m 166 #[oj q0, .second, oi p1, oi vd, oi (((65 : Int32) + (vd - (26 : Int32))).toUInt32.toUInt16.toUInt32.toInt32), oi (((97 : Int32) + (vd - (26 : Int32))).toUInt32.toUInt16.toUInt32.toInt32), oi ((97 : Int32) + (vd - (26 : Int32))), oj (own_f1 q0 (((65 : Int32) + (vd - (26 : Int32))).toUInt32.toUInt16.toUInt32.toInt32)), .second, oj ((q0 * (256 : Int64)) + (((97 : Int32) + (vd - (26 : Int32))).toInt64)), .second, oi (1 : Int32)] [(.int (1 : Int32))] _
        refine XS.goto X16.here hx rfl (pc0 := 166) (pc' := 170) rfl (hb hby at_166) (by decide) (by decide) ?_
        show oS p e below T16 m 170 #[oj q0, .second, oi p1, oi vd, oi (((65 : Int32) + (vd - (26 : Int32))).toUInt32.toUInt16.toUInt32.toInt32), oi (((97 : Int32) + (vd - (26 : Int32))).toUInt32.toUInt16.toUInt32.toInt32), oi ((97 : Int32) + (vd - (26 : Int32))), oj (own_f1 q0 (((65 : Int32) + (vd - (26 : Int32))).toUInt32.toUInt16.toUInt32.toInt32)), .second, oj ((q0 * (256 : Int64)) + (((97 : Int32) + (vd - (26 : Int32))).toInt64)), .second, oi (1 : Int32)] [(.int (1 : Int32))] _
        refine XS.istore X16.here hx rfl (hb hby at_170) rfl (l' := #[oj q0, .second, oi p1, oi vd, oi (((65 : Int32) + (vd - (26 : Int32))).toUInt32.toUInt16.toUInt32.toInt32), oi (((97 : Int32) + (vd - (26 : Int32))).toUInt32.toUInt16.toUInt32.toInt32), oi ((97 : Int32) + (vd - (26 : Int32))), oj (own_f1 q0 (((65 : Int32) + (vd - (26 : Int32))).toUInt32.toUInt16.toUInt32.toInt32)), .second, oj ((q0 * (256 : Int64)) + (((97 : Int32) + (vd - (26 : Int32))).toInt64)), .second, oi (1 : Int32)]) rfl ?_
        show oS p e below T16 m 172 #[oj q0, .second, oi p1, oi vd, oi (((65 : Int32) + (vd - (26 : Int32))).toUInt32.toUInt16.toUInt32.toInt32), oi (((97 : Int32) + (vd - (26 : Int32))).toUInt32.toUInt16.toUInt32.toInt32), oi ((97 : Int32) + (vd - (26 : Int32))), oj (own_f1 q0 (((65 : Int32) + (vd - (26 : Int32))).toUInt32.toUInt16.toUInt32.toInt32)), .second, oj ((q0 * (256 : Int64)) + (((97 : Int32) + (vd - (26 : Int32))).toInt64)), .second, oi (1 : Int32)] [] _
        refine XS.iloadN X16.here hx rfl (hb hby at_172) rfl ?_
        show oS p e below T16 m 173 #[oj q0, .second, oi p1, oi vd, oi (((65 : Int32) + (vd - (26 : Int32))).toUInt32.toUInt16.toUInt32.toInt32), oi (((97 : Int32) + (vd - (26 : Int32))).toUInt32.toUInt16.toUInt32.toInt32), oi ((97 : Int32) + (vd - (26 : Int32))), oj (own_f1 q0 (((65 : Int32) + (vd - (26 : Int32))).toUInt32.toUInt16.toUInt32.toInt32)), .second, oj ((q0 * (256 : Int64)) + (((97 : Int32) + (vd - (26 : Int32))).toInt64)), .second, oi (1 : Int32)] [(.int vd)] _
        refine XS.bipush X16.here hx rfl (hb hby at_173) ?_
        show oS p e below T16 m 175 #[oj q0, .second, oi p1, oi vd, oi (((65 : Int32) + (vd - (26 : Int32))).toUInt32.toUInt16.toUInt32.toInt32), oi (((97 : Int32) + (vd - (26 : Int32))).toUInt32.toUInt16.toUInt32.toInt32), oi ((97 : Int32) + (vd - (26 : Int32))), oj (own_f1 q0 (((65 : Int32) + (vd - (26 : Int32))).toUInt32.toUInt16.toUInt32.toInt32)), .second, oj ((q0 * (256 : Int64)) + (((97 : Int32) + (vd - (26 : Int32))).toInt64)), .second, oi (1 : Int32)] [(.int (52 : Int32)), (.int vd)] _
        refine XS.icmpNo X16.here hx rfl (hb hby at_175) rfl (tlt b22).2.1 ?_
        show oS p e below T16 m 178 #[oj q0, .second, oi p1, oi vd, oi (((65 : Int32) + (vd - (26 : Int32))).toUInt32.toUInt16.toUInt32.toInt32), oi (((97 : Int32) + (vd - (26 : Int32))).toUInt32.toUInt16.toUInt32.toInt32), oi ((97 : Int32) + (vd - (26 : Int32))), oj (own_f1 q0 (((65 : Int32) + (vd - (26 : Int32))).toUInt32.toUInt16.toUInt32.toInt32)), .second, oj ((q0 * (256 : Int64)) + (((97 : Int32) + (vd - (26 : Int32))).toInt64)), .second, oi (1 : Int32)] [] _
        refine XS.iload X16.here hx rfl (hb hby at_178) rfl ?_
        show oS p e below T16 m 180 #[oj q0, .second, oi p1, oi vd, oi (((65 : Int32) + (vd - (26 : Int32))).toUInt32.toUInt16.toUInt32.toInt32), oi (((97 : Int32) + (vd - (26 : Int32))).toUInt32.toUInt16.toUInt32.toInt32), oi ((97 : Int32) + (vd - (26 : Int32))), oj (own_f1 q0 (((65 : Int32) + (vd - (26 : Int32))).toUInt32.toUInt16.toUInt32.toInt32)), .second, oj ((q0 * (256 : Int64)) + (((97 : Int32) + (vd - (26 : Int32))).toInt64)), .second, oi (1 : Int32)] [(.int (1 : Int32))] _
        refine XS.ifNo X16.here hx rfl (hb hby at_180) rfl ((if0 _ _).trans (feq b23).1) ?_
        show oS p e below T16 m 183 #[oj q0, .second, oi p1, oi vd, oi (((65 : Int32) + (vd - (26 : Int32))).toUInt32.toUInt16.toUInt32.toInt32), oi (((97 : Int32) + (vd - (26 : Int32))).toUInt32.toUInt16.toUInt32.toInt32), oi ((97 : Int32) + (vd - (26 : Int32))), oj (own_f1 q0 (((65 : Int32) + (vd - (26 : Int32))).toUInt32.toUInt16.toUInt32.toInt32)), .second, oj ((q0 * (256 : Int64)) + (((97 : Int32) + (vd - (26 : Int32))).toInt64)), .second, oi (1 : Int32)] [] _
        refine XS.lloadN X16.here hx rfl (hb hby at_183) rfl ?_
        show oS p e below T16 m 184 #[oj q0, .second, oi p1, oi vd, oi (((65 : Int32) + (vd - (26 : Int32))).toUInt32.toUInt16.toUInt32.toInt32), oi (((97 : Int32) + (vd - (26 : Int32))).toUInt32.toUInt16.toUInt32.toInt32), oi ((97 : Int32) + (vd - (26 : Int32))), oj (own_f1 q0 (((65 : Int32) + (vd - (26 : Int32))).toUInt32.toUInt16.toUInt32.toInt32)), .second, oj ((q0 * (256 : Int64)) + (((97 : Int32) + (vd - (26 : Int32))).toInt64)), .second, oi (1 : Int32)] [(.long q0)] _
        refine XS.iload X16.here hx rfl (hb hby at_184) rfl ?_
        show oS p e below T16 m 186 #[oj q0, .second, oi p1, oi vd, oi (((65 : Int32) + (vd - (26 : Int32))).toUInt32.toUInt16.toUInt32.toInt32), oi (((97 : Int32) + (vd - (26 : Int32))).toUInt32.toUInt16.toUInt32.toInt32), oi ((97 : Int32) + (vd - (26 : Int32))), oj (own_f1 q0 (((65 : Int32) + (vd - (26 : Int32))).toUInt32.toUInt16.toUInt32.toInt32)), .second, oj ((q0 * (256 : Int64)) + (((97 : Int32) + (vd - (26 : Int32))).toInt64)), .second, oi (1 : Int32)] [(.int (((97 : Int32) + (vd - (26 : Int32))).toUInt32.toUInt16.toUInt32.toInt32)), (.long q0)] _
        refine st24 _ ?_
        show oS p e below T24 m 189 #[oj q0, .second, oi p1, oi vd, oi (((65 : Int32) + (vd - (26 : Int32))).toUInt32.toUInt16.toUInt32.toInt32), oi (((97 : Int32) + (vd - (26 : Int32))).toUInt32.toUInt16.toUInt32.toInt32), oi ((97 : Int32) + (vd - (26 : Int32))), oj (own_f1 q0 (((65 : Int32) + (vd - (26 : Int32))).toUInt32.toUInt16.toUInt32.toInt32)), .second, oj ((q0 * (256 : Int64)) + (((97 : Int32) + (vd - (26 : Int32))).toInt64)), .second, oi (1 : Int32)] [(.long (own_f1 q0 (((97 : Int32) + (vd - (26 : Int32))).toUInt32.toUInt16.toUInt32.toInt32)))] _
        refine XS.lload X24.here hx rfl (hb hby at_189) rfl ?_
        show oS p e below T24 m 191 #[oj q0, .second, oi p1, oi vd, oi (((65 : Int32) + (vd - (26 : Int32))).toUInt32.toUInt16.toUInt32.toInt32), oi (((97 : Int32) + (vd - (26 : Int32))).toUInt32.toUInt16.toUInt32.toInt32), oi ((97 : Int32) + (vd - (26 : Int32))), oj (own_f1 q0 (((65 : Int32) + (vd - (26 : Int32))).toUInt32.toUInt16.toUInt32.toInt32)), .second, oj ((q0 * (256 : Int64)) + (((97 : Int32) + (vd - (26 : Int32))).toInt64)), .second, oi (1 : Int32)] [(.long (own_f1 q0 (((65 : Int32) + (vd - (26 : Int32))).toUInt32.toUInt16.toUInt32.toInt32))), (.long (own_f1 q0 (((97 : Int32) + (vd - (26 : Int32))).toUInt32.toUInt16.toUInt32.toInt32)))] _
        refine XS.lcmp X24.here hx rfl (hb hby at_191) rfl ?_
        show oS p e below T24 m 192 #[oj q0, .second, oi p1, oi vd, oi (((65 : Int32) + (vd - (26 : Int32))).toUInt32.toUInt16.toUInt32.toInt32), oi (((97 : Int32) + (vd - (26 : Int32))).toUInt32.toUInt16.toUInt32.toInt32), oi ((97 : Int32) + (vd - (26 : Int32))), oj (own_f1 q0 (((65 : Int32) + (vd - (26 : Int32))).toUInt32.toUInt16.toUInt32.toInt32)), .second, oj ((q0 * (256 : Int64)) + (((97 : Int32) + (vd - (26 : Int32))).toInt64)), .second, oi (1 : Int32)] [(.int (lcmpW (own_f1 q0 (((97 : Int32) + (vd - (26 : Int32))).toUInt32.toUInt16.toUInt32.toInt32)) (own_f1 q0 (((65 : Int32) + (vd - (26 : Int32))).toUInt32.toUInt16.toUInt32.toInt32))))] _
        refine XS.ifNo X24.here hx rfl (hb hby at_192) rfl ((if0 _ _).trans (teq ((lw_eq (own_f1 q0 (((97 : Int32) + (vd - (26 : Int32))).toUInt32.toUInt16.toUInt32.toInt32)) (own_f1 q0 (((65 : Int32) + (vd - (26 : Int32))).toUInt32.toUInt16.toUInt32.toInt32))).mpr b25)).2) ?_
        show oS p e below T24 m 195 #[oj q0, .second, oi p1, oi vd, oi (((65 : Int32) + (vd - (26 : Int32))).toUInt32.toUInt16.toUInt32.toInt32), oi (((97 : Int32) + (vd - (26 : Int32))).toUInt32.toUInt16.toUInt32.toInt32), oi ((97 : Int32) + (vd - (26 : Int32))), oj (own_f1 q0 (((65 : Int32) + (vd - (26 : Int32))).toUInt32.toUInt16.toUInt32.toInt32)), .second, oj ((q0 * (256 : Int64)) + (((97 : Int32) + (vd - (26 : Int32))).toInt64)), .second, oi (1 : Int32)] [] _
        refine XS.iconst X24.here hx rfl (hb hby at_195) ?_
        show oS p e below T24 m 196 #[oj q0, .second, oi p1, oi vd, oi (((65 : Int32) + (vd - (26 : Int32))).toUInt32.toUInt16.toUInt32.toInt32), oi (((97 : Int32) + (vd - (26 : Int32))).toUInt32.toUInt16.toUInt32.toInt32), oi ((97 : Int32) + (vd - (26 : Int32))), oj (own_f1 q0 (((65 : Int32) + (vd - (26 : Int32))).toUInt32.toUInt16.toUInt32.toInt32)), .second, oj ((q0 * (256 : Int64)) + (((97 : Int32) + (vd - (26 : Int32))).toInt64)), .second, oi (1 : Int32)] [(.int (1 : Int32))] _
        refine XS.goto X24.here hx rfl (pc0 := 196) (pc' := 200) rfl (hb hby at_196) (by decide) (by decide) ?_
        show oS p e below T24 m 200 #[oj q0, .second, oi p1, oi vd, oi (((65 : Int32) + (vd - (26 : Int32))).toUInt32.toUInt16.toUInt32.toInt32), oi (((97 : Int32) + (vd - (26 : Int32))).toUInt32.toUInt16.toUInt32.toInt32), oi ((97 : Int32) + (vd - (26 : Int32))), oj (own_f1 q0 (((65 : Int32) + (vd - (26 : Int32))).toUInt32.toUInt16.toUInt32.toInt32)), .second, oj ((q0 * (256 : Int64)) + (((97 : Int32) + (vd - (26 : Int32))).toInt64)), .second, oi (1 : Int32)] [(.int (1 : Int32))] _
        refine XS.istore X24.here hx rfl (hb hby at_200) rfl (l' := #[oj q0, .second, oi p1, oi vd, oi (((65 : Int32) + (vd - (26 : Int32))).toUInt32.toUInt16.toUInt32.toInt32), oi (((97 : Int32) + (vd - (26 : Int32))).toUInt32.toUInt16.toUInt32.toInt32), oi ((97 : Int32) + (vd - (26 : Int32))), oj (own_f1 q0 (((65 : Int32) + (vd - (26 : Int32))).toUInt32.toUInt16.toUInt32.toInt32)), .second, oj ((q0 * (256 : Int64)) + (((97 : Int32) + (vd - (26 : Int32))).toInt64)), .second, oi (1 : Int32)]) rfl ?_
        show oS p e below T24 m 202 #[oj q0, .second, oi p1, oi vd, oi (((65 : Int32) + (vd - (26 : Int32))).toUInt32.toUInt16.toUInt32.toInt32), oi (((97 : Int32) + (vd - (26 : Int32))).toUInt32.toUInt16.toUInt32.toInt32), oi ((97 : Int32) + (vd - (26 : Int32))), oj (own_f1 q0 (((65 : Int32) + (vd - (26 : Int32))).toUInt32.toUInt16.toUInt32.toInt32)), .second, oj ((q0 * (256 : Int64)) + (((97 : Int32) + (vd - (26 : Int32))).toInt64)), .second, oi (1 : Int32)] [] _
        refine XS.iload X24.here hx rfl (hb hby at_202) rfl ?_
        show oS p e below T24 m 204 #[oj q0, .second, oi p1, oi vd, oi (((65 : Int32) + (vd - (26 : Int32))).toUInt32.toUInt16.toUInt32.toInt32), oi (((97 : Int32) + (vd - (26 : Int32))).toUInt32.toUInt16.toUInt32.toInt32), oi ((97 : Int32) + (vd - (26 : Int32))), oj (own_f1 q0 (((65 : Int32) + (vd - (26 : Int32))).toUInt32.toUInt16.toUInt32.toInt32)), .second, oj ((q0 * (256 : Int64)) + (((97 : Int32) + (vd - (26 : Int32))).toInt64)), .second, oi (1 : Int32)] [(.int (1 : Int32))] _
        exact retN X24 hx (t := .boolean) Bd.returns (by simp) (hb hby at_204) hr
      · show own_Q0 Z q0 p1 h0 n0 _ T24.heap _
        rw [eq24]
        exact ⟨rfl, N24⟩
    · skip
      obtain ⟨k1, k2, k3, k4⟩ : ((95 : Int32).toInt64 ||| (32 : Int64) = (127 : Int32).toInt64) ∧ ((95 : Int32).toInt64 ||| (32 : Int64) = (127 : Int32).toInt64) ∧ 0 ≤ (127 : Int32).toInt ∧ (127 : Int32).toInt < 256 := by decide +kernel
      have e1 : own_f1 q0 (95 : Int32) = q0 * (256 : Int64) + ((127 : Int32)).toInt64 := own_pack _ _ _ k1 k3 k4
      have e2 : own_f1 q0 (95 : Int32) = q0 * (256 : Int64) + ((127 : Int32)).toInt64 := own_pack _ _ _ k2 k3 k4
      obtain ⟨_, _, ⟨T26, L26, k26, n26⟩, -, X26, ⟨Lc26, hQ26, l26, y26, z26⟩, st26⟩ := Jvm.LawKit.callS X0 hx (y := (⟨"com/example/typewright/typewright/declaration/Keyword", "pack", "(JC)J"⟩ : MethodName)) hown (mvT hZ (hw _ (List.mem_of_getElem? (i := 1) rfl))) (mvT hZ (hw _ (List.mem_of_getElem? (i := 2) rfl))) (mvT hZ (hw _ (List.mem_of_getElem? (i := 3) rfl))) (mvT hZ (hw _ (List.mem_of_getElem? (i := 4) rfl))) (by decide) (backOf (W := 0) (own_rm1 l Z av hw [] q0 (95 : Int32) h0 n0 Z0 ) hZ (hw _ (List.mem_of_getElem? (i := 4) rfl)) (hw _ (List.mem_of_getElem? (i := 3) rfl)) (by decide) (by decide)) (g := (mkF m 90 #[oj q0, .second, oi p1, oi vd, oi (95 : Int32), oi (95 : Int32), oi (127 : Int32), .unset, .unset, .unset, .unset, .unset] [(.int (95 : Int32)), (.long q0)])) rfl (by rw [hml]; rfl) (argsL := [(.long q0), (.int (95 : Int32))]) (rest := []) (lenOf own_pd0 rfl) rfl (by show 2 * 0 + _ ≤ _; exact Nat.le_of_eq rfl) (hb hby at_90) (fun _ _ => ⟨rfl, e0, (by decide : 0 + 0 ≤ _), (by decide : 0 + 0 ≤ _)⟩)
      dsimp only [Pt.U, Pt.locs, Pt.cells, Pt.slots] at X26 l26 y26 z26 st26 hQ26
      subst l26 y26 z26
      obtain ⟨rfl, Nq26, eq26⟩ := hQ26
      have N26 := Fr.app N0 Nq26
      have b27 : (own_f1 q0 (95 : Int32)) = ((q0 * (256 : Int64)) + ((127 : Int32).toInt64)) := e1
      have b28 : ¬ ((1 : Int32) = (0 : Int32)) := (by decide)
      have b29 : (((own_f1 q0 (95 : Int32)).toUInt64 >>> ((8 : Int32) &&& 0x3f).toInt64.toUInt64).toInt64) = (q0 &&& (72057594037927935 : Int64)) := by rw [e1]; exact own_shr _ _ k3 k4
      have b30 : ¬ ((1 : Int32) = (0 : Int32)) := (by decide)
      have b31 : ((own_f1 q0 (95 : Int32)) &&& (255 : Int64)) = ((127 : Int32).toInt64) := by rw [e1]; exact own_low _ _ k3 k4
      have b32 : ¬ (vd < (52 : Int32)) := c15
      obtain ⟨fs, hr, hrun, hended, hW, hsame⟩ := X26.leave (v := (some (.int (1 : Int32)))) (fun h => by rw [Bd.returns] at h; cases h)
      refine ⟨_, _, pre14 _ ?_, hrun, hended, _, _, rfl, ?_, ⟨_, rfl⟩, hW, hsame.mono (by decide) (by decide)⟩
      · show oS p e below s₁ m 40 #[oj q0, .second, oi p1, oi vd, .unset, .unset, .unset, .unset, .unset, .unset, .unset, .unset] [(.int (52 : Int32)), (.int vd)] _
        refine XS.icmpYes X0.here hx rfl (pc0 := 40) (pc' := 75) rfl (hb hby at_40) rfl (flt c15).2.1 (by decide) (by decide) ?_
        show oS p e below s₁ m 75 #[oj q0, .second, oi p1, oi vd, .unset, .unset, .unset, .unset, .unset, .unset, .unset, .unset] [] _
        refine XS.bipush X0.here hx rfl (hb hby at_75) ?_
        show oS p e below s₁ m 77 #[oj q0, .second, oi p1, oi vd, .unset, .unset, .unset, .unset, .unset, .unset, .unset, .unset] [(.int (95 : Int32))] _
        refine XS.istore X0.here hx rfl (hb hby at_77) rfl (l' := #[oj q0, .second, oi p1, oi vd, oi (95 : Int32), .unset, .unset, .unset, .unset, .unset, .unset, .unset]) rfl ?_
        show oS p e below s₁ m 79 #[oj q0, .second, oi p1, oi vd, oi (95 : Int32), .unset, .unset, .unset, .unset, .unset, .unset, .unset] [] _
        refine XS.bipush X0.here hx rfl (hb hby at_79) ?_
        show oS p e below s₁ m 81 #[oj q0, .second, oi p1, oi vd, oi (95 : Int32), .unset, .unset, .unset, .unset, .unset, .unset, .unset] [(.int (95 : Int32))] _
        refine XS.istore X0.here hx rfl (hb hby at_81) rfl (l' := #[oj q0, .second, oi p1, oi vd, oi (95 : Int32), oi (95 : Int32), .unset, .unset, .unset, .unset, .unset, .unset]) rfl ?_
        show oS p e below s₁ m 83 #[oj q0, .second, oi p1, oi vd, oi (95 : Int32), oi (95 : Int32), .unset, .unset, .unset, .unset, .unset, .unset] [] _
        refine XS.bipush X0.here hx rfl (hb hby at_83) ?_
        show oS p e below s₁ m 85 #[oj q0, .second, oi p1, oi vd, oi (95 : Int32), oi (95 : Int32), .unset, .unset, .unset, .unset, .unset, .unset] [(.int (127 : Int32))] _
        refine XS.istore X0.here hx rfl (hb hby at_85) rfl (l' := #[oj q0, .second, oi p1, oi vd, oi (95 : Int32), oi (95 : Int32), oi (127 : Int32), .unset, .unset, .unset, .unset, .unset]) rfl ?_
        show oS p e below s₁ m 87 #[oj q0, .second, oi p1, oi vd, oi (95 : Int32), oi (95 : Int32), oi (127 : Int32), .unset, .unset, .unset, .unset, .unset] [] _
        refine XS.lloadN X0.here hx rfl (hb hby at_87) rfl ?_
        show oS p e below s₁ m 88 #[oj q0, .second, oi p1, oi vd, oi (95 : Int32), oi (95 : Int32), oi (127 : Int32), .unset, .unset, .unset, .unset, .unset] [(.long q0)] _
        refine XS.iload X0.here hx rfl (hb hby at_88) rfl ?_
        show oS p e below s₁ m 90 #[oj q0, .second, oi p1, oi vd, oi (95 : Int32), oi (95 : Int32), oi (127 : Int32), .unset, .unset, .unset, .unset, .unset] [(.int (95 : Int32)), (.long q0)] _
        refine st26 _ ?_
        show oS p e below T26 m 93 #[oj q0, .second, oi p1, oi vd, oi (95 : Int32), oi (95 : Int32), oi (127 : Int32), .unset, .unset, .unset, .unset, .unset] [(.long (own_f1 q0 (95 : Int32)))] _
        refine XS.lstore X26.here hx rfl (hb hby at_93) rfl (l' := #[oj q0, .second, oi p1, oi vd, oi (95 : Int32), oi (95 : Int32), oi (127 : Int32), oj (own_f1 q0 (95 : Int32)), .second, .unset, .unset, .unset]) rfl ?_
        show oS p e below T26 m 95 #[oj q0, .second, oi p1, oi vd, oi (95 : Int32), oi (95 : Int32), oi (127 : Int32), oj (own_f1 q0 (95 : Int32)), .second, .unset, .unset, .unset] [] _
        refine XS.lloadN X26.here hx rfl (hb hby at_95) rfl ?_
        show oS p e below T26 m 96 #[oj q0, .second, oi p1, oi vd, oi (95 : Int32), oi (95 : Int32), oi (127 : Int32), oj (own_f1 q0 (95 : Int32)), .second, .unset, .unset, .unset] [(.long q0)] _
        refine X26.ldc2Long hx hown (mvT hZ (hw _ (List.mem_of_getElem? (i := 6) rfl))) (g := (mkF m 96 #[oj q0, .second, oi p1, oi vd, oi (95 : Int32), oi (95 : Int32), oi (127 : Int32), oj (own_f1 q0 (95 : Int32)), .second, .unset, .unset, .unset] [(.long q0)])) rfl (hb hby at_96) _ ?_
        show oS p e below T26 m 99 #[oj q0, .second, oi p1, oi vd, oi (95 : Int32), oi (95 : Int32), oi (127 : Int32), oj (own_f1 q0 (95 : Int32)), .second, .unset, .unset, .unset] [(.long (256 : Int64)), (.long q0)] _
        refine XS.lmul X26.here hx rfl (hb hby at_99) rfl ?_
        show oS p e below T26 m 100 #[oj q0, .second, oi p1, oi vd, oi (95 : Int32), oi (95 : Int32), oi (127 : Int32), oj (own_f1 q0 (95 : Int32)), .second, .unset, .unset, .unset] [(.long (q0 * (256 : Int64)))] _
        refine XS.iload X26.here hx rfl (hb hby at_100) rfl ?_
        show oS p e below T26 m 102 #[oj q0, .second, oi p1, oi vd, oi (95 : Int32), oi (95 : Int32), oi (127 : Int32), oj (own_f1 q0 (95 : Int32)), .second, .unset, .unset, .unset] [(.int (127 : Int32)), (.long (q0 * (256 : Int64)))] _
        refine XS.i2l X26.here hx rfl (hb hby at_102) rfl ?_
        show oS p e below T26 m 103 #[oj q0, .second, oi p1, oi vd, oi (95 : Int32), oi (95 : Int32), oi (127 : Int32), oj (own_f1 q0 (95 : Int32)), .second, .unset, .unset, .unset] [(.long ((127 : Int32).toInt64)), (.long (q0 * (256 : Int64)))] _
        refine XS.ladd X26.here hx rfl (hb hby at_103) rfl ?_
        show oS p e below T26 m 104 #[oj q0, .second, oi p1, oi vd, oi (95 : Int32), oi (95 : Int32), oi (127 : Int32), oj (own_f1 q0 (95 : Int32)), .second, .unset, .unset, .unset] [(.long ((q0 * (256 : Int64)) + ((127 : Int32).toInt64)))] _
        refine XS.lstore X26.here hx rfl (hb hby at_104) rfl (l' := #[oj q0, .second, oi p1, oi vd, oi (95 : Int32), oi (95 : Int32), oi (127 : Int32), oj (own_f1 q0 (95 : Int32)), .second, oj ((q0 * (256 : Int64)) + ((127 : Int32).toInt64)), .second, .unset]) rfl ?_
        show oS p e below T26 m 106 #[oj q0, .second, oi p1, oi vd, oi (95 : Int32), oi (95 : Int32), oi (127 : Int32), oj (own_f1 q0 (95 : Int32)), .second, oj ((q0 * (256 : Int64)) + ((127 : Int32).toInt64)), .second, .unset] [] _
        refine XS.lload X26.here hx rfl (hb hby at_106) rfl ?_
        show oS p e below T26 m 108 #[oj q0, .second, oi p1, oi vd, oi (95 : Int32), oi (95 : Int32), oi (127 : Int32), oj (own_f1 q0 (95 : Int32)), .second, oj ((q0 * (256 : Int64)) + ((127 : Int32).toInt64)), .second, .unset] [(.long (own_f1 q0 (95 : Int32)))] _
        refine XS.lload X26.here hx rfl (hb hby at_108) rfl ?_
        show oS p e below T26 m 110 #[oj q0, .second, oi p1, oi vd, oi (95 : Int32), oi (95 : Int32), oi (127 : Int32), oj (own_f1 q0 (95 : Int32)), .second, oj ((q0 * (256 : Int64)) + ((127 : Int32).toInt64)), .second, .unset] [(.long ((q0 * (256 : Int64)) + ((127 : Int32).toInt64))), (.long (own_f1 q0 (95 : Int32)))] _
        refine XS.lcmp X26.here hx rfl (hb hby at_110) rfl ?_
        show oS p e below T26 m 111 #[oj q0, .second, oi p1, oi vd, oi (95 : Int32), oi (95 : Int32), oi (127 : Int32), oj (own_f1 q0 (95 : Int32)), .second, oj ((q0 * (256 : Int64)) + ((127 : Int32).toInt64)), .second, .unset] [(.int (lcmpW (own_f1 q0 (95 : Int32)) ((q0 * (256 : Int64)) + ((127 : Int32).toInt64))))] _
        refine XS.ifNo X26.here hx rfl (hb hby at_111) rfl ((if0 _ _).trans (teq ((lw_eq (own_f1 q0 (95 : Int32)) ((q0 * (256 : Int64)) + ((127 : Int32).toInt64))).mpr b27)).2) ?_
        show oS p e below T26 m 114 #[oj q0, .second, oi p1, oi vd, oi (95 : Int32), oi (95 : Int32), oi (127 : Int32), oj (own_f1 q0 (95 : Int32)), .second, oj ((q0 * (256 : Int64)) + ((127 : Int32).toInt64)), .second, .unset] [] _
        refine XS.iconst X26.here hx rfl (hb hby at_114) ?_
        show oS p e below T26 m 115 #[oj q0, .second, oi p1, oi vd, oi (95 : Int32), oi (95 : Int32), oi (127 : Int32), oj (own_f1 q0 (95 : Int32)), .second, oj ((q0 * (256 : Int64)) + ((127 : Int32).toInt64)), .second, .unset] [(.int (1 : Int32))] _
        refine XS.goto X26.here hx rfl (pc0 := 115) (pc' := 119) rfl (hb hby at_115) (by decide) (by decide) ?_
        show oS p e below T26 m 119 #[oj q0, .second, oi p1, oi vd, oi (95 : Int32), oi (95 : Int32), oi (127 : Int32), oj (own_f1 q0 (95 : Int32)), .second, oj ((q0 * (256 : Int64)) + ((127 : Int32).toInt64)), .second, .unset] [(.int (1 : Int32))] _
        refine XS.istore X26.here hx rfl (hb hby at_119) rfl (l' := #[oj q0, .second, oi p1, oi vd, oi (95 : Int32), oi (95 : Int32), oi (127 : Int32), oj (own_f1 q0 (95 : Int32)), .second, oj ((q0 * (256 : Int64)) + ((127 : Int32).toInt64)), .second, oi (1 : Int32)]) rfl ?_
        show oS p e below T26 m 121 #[oj q0, .second, oi p1, oi vd, oi (95 : Int32), oi (95 : Int32), oi (127 : Int32), oj (own_f1 q0 (95 : Int32)), .second, oj ((q0 * (256 : Int64)) + ((127 : Int32).toInt64)), .second, oi (1 : Int32)] [] _
        refine XS.iload X26.here hx rfl (hb hby at_121) rfl ?_
        show oS p e below T26 m 123 #[oj q0, .second, oi p1, oi vd, oi (95 : Int32), oi (95 : Int32), oi (127 : Int32), oj (own_f1 q0 (95 : Int32)), .second, oj ((q0 * (256 : Int64)) + ((127 : Int32).toInt64)), .second, oi (1 : Int32)] [(.int (1 : Int32))] _
        refine XS.ifNo X26.here hx rfl (hb hby at_123) rfl ((if0 _ _).trans (feq b28).1) ?_
        show oS p e below T26 m 126 #[oj q0, .second, oi p1, oi vd, oi (95 : Int32), oi (95 : Int32), oi (127 : Int32), oj (own_f1 q0 (95 : Int32)), .second, oj ((q0 * (256 : Int64)) + ((127 : Int32).toInt64)), .second, oi (1 : Int32)] [] _
        refine XS.lload X26.here hx rfl (hb hby at_126) rfl ?_
        show oS p e below T26 m 128 #[oj q0, .second, oi p1, oi vd, oi (95 : Int32), oi (95 : Int32), oi (127 : Int32), oj (own_f1 q0 (95 : Int32)), .second, oj ((q0 * (256 : Int64)) + ((127 : Int32).toInt64)), .second, oi (1 : Int32)] [(.long (own_f1 q0 (95 : Int32)))] _
        refine XS.bipush X26.here hx rfl (hb hby at_128) ?_
        show oS p e below T26 m 130 #[oj q0, .second, oi p1, oi vd, oi (95 : Int32), oi (95 : Int32), oi (127 : Int32), oj (own_f1 q0 (95 : Int32)), .second, oj ((q0 * (256 : Int64)) + ((127 : Int32).toInt64)), .second, oi (1 : Int32)] [(.int (8 : Int32)), (.long (own_f1 q0 (95 : Int32)))] _
        refine XS.lushr X26.here hx rfl (hb hby at_130) rfl ?_
        show oS p e below T26 m 131 #[oj q0, .second, oi p1, oi vd, oi (95 : Int32), oi (95 : Int32), oi (127 : Int32), oj (own_f1 q0 (95 : Int32)), .second, oj ((q0 * (256 : Int64)) + ((127 : Int32).toInt64)), .second, oi (1 : Int32)] [(.long (((own_f1 q0 (95 : Int32)).toUInt64 >>> ((8 : Int32) &&& 0x3f).toInt64.toUInt64).toInt64))] _
        refine XS.lloadN X26.here hx rfl (hb hby at_131) rfl ?_
        show oS p e below T26 m 132 #[oj q0, .second, oi p1, oi vd, oi (95 : Int32), oi (95 : Int32), oi (127 : Int32), oj (own_f1 q0 (95 : Int32)), .second, oj ((q0 * (256 : Int64)) + ((127 : Int32).toInt64)), .second, oi (1 : Int32)] [(.long q0), (.long (((own_f1 q0 (95 : Int32)).toUInt64 >>> ((8 : Int32) &&& 0x3f).toInt64.toUInt64).toInt64))] _
        refine X26.ldc2Long hx hown (mvT hZ (hw _ (List.mem_of_getElem? (i := 7) rfl))) (g := (mkF m 132 #[oj q0, .second, oi p1, oi vd, oi (95 : Int32), oi (95 : Int32), oi (127 : Int32), oj (own_f1 q0 (95 : Int32)), .second, oj ((q0 * (256 : Int64)) + ((127 : Int32).toInt64)), .second, oi (1 : Int32)] [(.long q0), (.long (((own_f1 q0 (95 : Int32)).toUInt64 >>> ((8 : Int32) &&& 0x3f).toInt64.toUInt64).toInt64))])) rfl (hb hby at_132) _ ?_
        show oS p e below T26 m 135 #[oj q0, .second, oi p1, oi vd, oi (95 : Int32), oi (95 : Int32), oi (127 : Int32), oj (own_f1 q0 (95 : Int32)), .second, oj ((q0 * (256 : Int64)) + ((127 : Int32).toInt64)), .second, oi (1 : Int32)] [(.long (72057594037927935 : Int64)), (.long q0), (.long (((own_f1 q0 (95 : Int32)).toUInt64 >>> ((8 : Int32) &&& 0x3f).toInt64.toUInt64).toInt64))] _
        refine XS.land X26.here hx rfl (hb hby at_135) rfl ?_
        show oS p e below T26 m 136 #[oj q0, .second, oi p1, oi vd, oi (95 : Int32), oi (95 : Int32), oi (127 : Int32), oj (own_f1 q0 (95 : Int32)), .second, oj ((q0 * (256 : Int64)) + ((127 : Int32).toInt64)), .second, oi (1 : Int32)] [(.long (q0 &&& (72057594037927935 : Int64))), (.long (((own_f1 q0 (95 : Int32)).toUInt64 >>> ((8 : Int32) &&& 0x3f).toInt64.toUInt64).toInt64))] _
        refine XS.lcmp X26.here hx rfl (hb hby at_136) rfl ?_
        show oS p e below T26 m 137 #[oj q0, .second, oi p1, oi vd, oi (95 : Int32), oi (95 : Int32), oi (127 : Int32), oj (own_f1 q0 (95 : Int32)), .second, oj ((q0 * (256 : Int64)) + ((127 : Int32).toInt64)), .second, oi (1 : Int32)] [(.int (lcmpW (((own_f1 q0 (95 : Int32)).toUInt64 >>> ((8 : Int32) &&& 0x3f).toInt64.toUInt64).toInt64) (q0 &&& (72057594037927935 : Int64))))] _
        refine XS.ifNo X26.here hx rfl (hb hby at_137) rfl ((if0 _ _).trans (teq ((lw_eq (((own_f1 q0 (95 : Int32)).toUInt64 >>> ((8 : Int32) &&& 0x3f).toInt64.toUInt64).toInt64) (q0 &&& (72057594037927935 : Int64))).mpr b29)).2) ?_
        show oS p e below T26 m 140 #[oj q0, .second, oi p1, oi vd, oi (95 : Int32), oi (95 : Int32), oi (127 : Int32), oj (own_f1 q0 (95 : Int32)), .second, oj ((q0 * (256 : Int64)) + ((127 : Int32).toInt64)), .second, oi (1 : Int32)] [] _
        refine XS.iconst X26.here hx rfl (hb hby at_140) ?_
        show oS p e below T26 m 141 #[oj q0, .second, oi p1, oi vd, oi (95 : Int32), oi (95 : Int32), oi (127 : Int32), oj (own_f1 q0 (95 : Int32)), .second, oj ((q0 * (256 : Int64)) + ((127 : Int32).toInt64)), .second, oi (1 : Int32)] [(.int (1 : Int32))] _
        refine XS.goto X26.here hx rfl (pc0 := 141) (pc' := 145) rfl (hb hby at_141) (by decide) (by decide) ?_
        show oS p e below T26 m 145 #[oj q0, .second, oi p1, oi vd, oi (95 : Int32), oi (95 : Int32), oi (127 : Int32), oj (own_f1 q0 (95 : Int32)), .second, oj ((q0 * (256 : Int64)) + ((127 : Int32).toInt64)), .second, oi (1 : Int32)] [(.int (1 : Int32))] _
        refine XS.istore X26.here hx rfl (hb hby at_145) rfl (l' := #[oj q0, .second, oi p1, oi vd, oi (95 : Int32), oi (95 : Int32), oi (127 : Int32), oj (own_f1 q0 (95 : Int32)), .second, oj ((q0 * (256 : Int64)) + ((127 : Int32).toInt64)), .second, oi (1 : Int32)]) rfl ?_
        show oS p e below T26 m 147 #[oj q0, .second, oi p1, oi vd, oi (95 : Int32), oi (95 : Int32), oi (127 : Int32), oj (own_f1 q0 (95 : Int32)), .second, oj ((q0 * (256 : Int64)) + ((127 : Int32).toInt64)), .second, oi (1 : Int32)] [] _
        refine XS.iload X26.here hx rfl (hb hby at_147) rfl ?_
        show oS p e below T26 m 149 #[oj q0, .second, oi p1, oi vd, oi (95 : Int32), oi (95 : Int32), oi (127 : Int32), oj (own_f1 q0 (95 : Int32)), .second, oj ((q0 * (256 : Int64)) + ((127 : Int32).toInt64)), .second, oi (1 : Int32)] [(.int (1 : Int32))] _
        refine XS.ifNo X26.here hx rfl (hb hby at_149) rfl ((if0 _ _).trans (feq b30).1) ?_
        show oS p e below T26 m 152 #[oj q0, .second, oi p1, oi vd, oi (95 : Int32), oi (95 : Int32), oi (127 : Int32), oj (own_f1 q0 (95 : Int32)), .second, oj ((q0 * (256 : Int64)) + ((127 : Int32).toInt64)), .second, oi (1 : Int32)] [] _
        refine XS.lload X26.here hx rfl (hb hby at_152) rfl ?_
        show oS p e below T26 m 154 #[oj q0, .second, oi p1, oi vd, oi (95 : Int32), oi (95 : Int32), oi (127 : Int32), oj (own_f1 q0 (95 : Int32)), .second, oj ((q0 * (256 : Int64)) + ((127 : Int32).toInt64)), .second, oi (1 : Int32)] [(.long (own_f1 q0 (95 : Int32)))] _
        refine X26.ldc2Long hx hown (mvT hZ (hw _ (List.mem_of_getElem? (i := 8) rfl))) (g := (mkF m 154 #[oj q0, .second, oi p1, oi vd, oi (95 : Int32), oi (95 : Int32), oi (127 : Int32), oj (own_f1 q0 (95 : Int32)), .second, oj ((q0 * (256 : Int64)) + ((127 : Int32).toInt64)), .second, oi (1 : Int32)] [(.long (own_f1 q0 (95 : Int32)))])) rfl (hb hby at_154) _ ?_
        show oS p e below T26 m 157 #[oj q0, .second, oi p1, oi vd, oi (95 : Int32), oi (95 : Int32), oi (127 : Int32), oj (own_f1 q0 (95 : Int32)), .second, oj ((q0 * (256 : Int64)) + ((127 : Int32).toInt64)), .second, oi (1 : Int32)] [(.long (255 : Int64)), (.long (own_f1 q0 (95 : Int32)))] _
        refine XS.land X26.here hx rfl (hb hby at_157) rfl ?_
        show oS p e below T26 m 158 #[oj q0, .second, oi p1, oi vd, oi (95 : Int32), oi (95 : Int32), oi (127 : Int32), oj (own_f1 q0 (95 : Int32)), .second, oj ((q0 * (256 : Int64)) + ((127 : Int32).toInt64)), .second, oi (1 : Int32)] [(.long ((own_f1 q0 (95 : Int32)) &&& (255 : Int64)))] _
        refine XS.iload X26.here hx rfl (hb hby at_158) rfl ?_
        show oS p e below T26 m 160 #[oj q0, .second, oi p1, oi vd, oi (95 : Int32), oi (95 : Int32), oi (127 : Int32), oj (own_f1 q0 (95 : Int32)), .second, oj ((q0 * (256 : Int64)) + ((127 : Int32).toInt64)), .second, oi (1 : Int32)] [(.int (127 : Int32)), (.long ((own_f1 q0 (95 : Int32)) &&& (255 : Int64)))] _
        refine XS.i2l X26.here hx rfl (hb hby at_160) rfl ?_
        show oS p e below T26 m 161 #[oj q0, .second, oi p1, oi vd, oi (95 : Int32), oi (95 : Int32), oi (127 : Int32), oj (own_f1 q0 (95 : Int32)), .second, oj ((q0 * (256 : Int64)) + ((127 : Int32).toInt64)), .second, oi (1 : Int32)] [(.long ((127 : Int32).toInt64)), (.long ((own_f1 q0 (95 : Int32)) &&& (255 : Int64)))] _
        refine XS.lcmp X26.here hx rfl (hb hby at_161) rfl ?_
        show oS p e below T26 m 162 #[oj q0, .second, oi p1, oi vd, oi (95 : Int32), oi (95 : Int32), oi (127 : Int32), oj (own_f1 q0 (95 : Int32)), .second, oj ((q0 * (256 : Int64)) + ((127 : Int32).toInt64)), .second, oi (1 : Int32)] [(.int (lcmpW ((own_f1 q0 (95 : Int32)) &&& (255 : Int64)) ((127 : Int32).toInt64)))] _
        refine XS.ifNo X26.here hx rfl (hb hby at_162) rfl ((if0 _ _).trans (teq ((lw_eq ((own_f1 q0 (95 : Int32)) &&& (255 : Int64)) ((127 : Int32).toInt64)).mpr b31)).2) ?_
        show oS p e below T26 m 165 #[oj q0, .second, oi p1, oi vd, oi (95 : Int32), oi (95 : Int32), oi (127 : Int32), oj (own_f1 q0 (95 : Int32)), .second, oj ((q0 * (256 : Int64)) + ((127 : Int32).toInt64)), .second, oi (1 : Int32)] [] _
        refine XS.iconst X26.here hx rfl (hb hby at_165) ?_
        show oS p e below T26 m 166 #[oj q0, .second, oi p1, oi vd, oi (95 : Int32), oi (95 : Int32), oi (127 : Int32), oj (own_f1 q0 (95 : Int32)), .second, oj ((q0 * (256 : Int64)) + ((127 : Int32).toInt64)), .second, oi (1 : Int32)] [(.int (1 : Int32))] _
        refine XS.goto X26.here hx rfl (pc0 := 166) (pc' := 170) rfl (hb hby at_166) (by decide) (by decide) ?_
        show oS p e below T26 m 170 #[oj q0, .second, oi p1, oi vd, oi (95 : Int32), oi (95 : Int32), oi (127 : Int32), oj (own_f1 q0 (95 : Int32)), .second, oj ((q0 * (256 : Int64)) + ((127 : Int32).toInt64)), .second, oi (1 : Int32)] [(.int (1 : Int32))] _
        refine XS.istore X26.here hx rfl (hb hby at_170) rfl (l' := #[oj q0, .second, oi p1, oi vd, oi (95 : Int32), oi (95 : Int32), oi (127 : Int32), oj (own_f1 q0 (95 : Int32)), .second, oj ((q0 * (256 : Int64)) + ((127 : Int32).toInt64)), .second, oi (1 : Int32)]) rfl ?_
        show oS p e below T26 m 172 #[oj q0, .second, oi p1, oi vd, oi (95 : Int32), oi (95 : Int32), oi (127 : Int32), oj (own_f1 q0 (95 : Int32)), .second, oj ((q0 * (256 : Int64)) + ((127 : Int32).toInt64)), .second, oi (1 : Int32)] [] _
        refine XS.iloadN X26.here hx rfl (hb hby at_172) rfl ?_
        show oS p e below T26 m 173 #[oj q0, .second, oi p1, oi vd, oi (95 : Int32), oi (95 : Int32), oi (127 : Int32), oj (own_f1 q0 (95 : Int32)), .second, oj ((q0 * (256 : Int64)) + ((127 : Int32).toInt64)), .second, oi (1 : Int32)] [(.int vd)] _
        refine XS.bipush X26.here hx rfl (hb hby at_173) ?_
        show oS p e below T26 m 175 #[oj q0, .second, oi p1, oi vd, oi (95 : Int32), oi (95 : Int32), oi (127 : Int32), oj (own_f1 q0 (95 : Int32)), .second, oj ((q0 * (256 : Int64)) + ((127 : Int32).toInt64)), .second, oi (1 : Int32)] [(.int (52 : Int32)), (.int vd)] _
        refine XS.icmpYes X26.here hx rfl (pc0 := 175) (pc' := 202) rfl (hb hby at_175) rfl (flt b32).2.1 (by decide) (by decide) ?_
        show oS p e below T26 m 202 #[oj q0, .second, oi p1, oi vd, oi (95 : Int32), oi (95 : Int32), oi (127 : Int32), oj (own_f1 q0 (95 : Int32)), .second, oj ((q0 * (256 : Int64)) + ((127 : Int32).toInt64)), .second, oi (1 : Int32)] [] _
        refine XS.iload X26.here hx rfl (hb hby at_202) rfl ?_
        show oS p e below T26 m 204 #[oj q0, .second, oi p1, oi vd, oi (95 : Int32), oi (95 : Int32), oi (127 : Int32), oj (own_f1 q0 (95 : Int32)), .second, oj ((q0 * (256 : Int64)) + ((127 : Int32).toInt64)), .second, oi (1 : Int32)] [(.int (1 : Int32))] _
        exact retN X26 hx (t := .boolean) Bd.returns (by simp) (hb hby at_204) hr
      · show own_Q0 Z q0 p1 h0 n0 _ T26.heap _
        rw [eq26]
        exact ⟨rfl, N26⟩
set_option maxRecDepth 65536 in
set_option maxHeartbeats 40000000 in
theorem own_comes {Post : Tables → Env → Array Value → State → Outcome → State → Prop} (hpost : ∀ tb e args s v u, (limb_1_1.after args s (.returned v) u = true ∧ limb_1_2.after args s (.returned v) u = true ∧ True) → FrameEnd s (.returned v) u (Jvm.fieldLocs frame_1_writes args s ++ Jvm.arrayLocs frame_1_arrays args s ++ Jvm.staticLocs frame_1_statics s) 0 0 → Post tb e args s (.returned v) u) :
    ArmFor flags0 classFile x code maxLocals ret World_1 tables_1 room_1 Calls_1 rest_1 Pre_1 Post := by
  intro l hfl _ _ p e ha hc hk s m args below hf hA hF happ hP
  obtain ⟨hcalls, hrest, hpre⟩ := hP
  obtain ⟨-, -, -, hnamed, -, -, -, hat⟩ := (Spec.applies_iff hf).mp happ
  obtain ⟨hg, hn⟩ := and_e (Cond.before_iff.mp (show (Jvm.Cond.and given_1 narrow_1).before args s = true from hpre))
  obtain ⟨gv1, gv2⟩ := and_e hg
  obtain ⟨gv3, gv4⟩ := and_e gv2
  obtain ⟨w0, w1, rfl⟩ : ∃ w0 w1 : Value, args = #[w0, w1] := by
    have hs : args.size = 2 := by simpa [Cond.value, given_1] using gv1
    obtain ⟨L⟩ := args
    match L, hs with
    | [w0, w1], _ => exact ⟨w0, w1, rfl⟩
  have hw := fun d (hd : d ∈ tables_1) => atoms_spec (ws := Jvm.Cond.code x code maxLocals ret :: tables_1) hat d (List.mem_cons_of_mem _ hd)
  have hfit : Fit s := fun {y c} hc i hi => by
    obtain ⟨ha, rfl⟩ := Array.getElem?_eq_some_iff.mp hc
    have q := List.all_eq_true.mp ((Array.all_eq_true_iff_forall_mem.mp hF) _ (Array.getElem_mem ha)) i (List.mem_range.mpr hi)
    simpa [Array.getElem?_eq_getElem hi] using q
  obtain ⟨i0, ei0⟩ := isL_v gv3
  obtain rfl : w0 = (.long i0) := Option.some.inj ei0
  obtain ⟨i1, ei1⟩ := is_v gv4
  obtain rfl : w1 = (.int i1) := Option.some.inj ei1
  obtain ⟨n, o, h1, h2, h3, _, L, rfl, ⟨rfl, N⟩, hq⟩ := own_rm0 l s _ hw tables_1 i0 i1  s.heap s.heap.size (Nat.le_refl _)  p e ha hc hk s m _ below hf ((Spec.applies_iff_loose hf).mp happ).1 ⟨rfl, State.Warmed39.refl s, rfl⟩ trivial
  refine ⟨n, _, h1, h2, h3, hpost _ _ _ _ _ _ ⟨Cond.after_iff.mpr rfl, Cond.after_iff.mpr (eq_i res_at (Term.int_eval (1)) rfl), trivial⟩ ⟨hq.1, hq.2.1, (hq.2.2.sift fun y hy => Or.inr (N y hy)).mono (by decide) (by decide)⟩⟩
theorem main_1_1 : Claimed_1_1 := own_comes fun _ _ _ _ _ _ h hF => ⟨h.1, hF⟩
theorem main_1_2 : Claimed_1_2 := own_comes fun _ _ _ _ _ _ h hF => ⟨h.2.1, hF⟩
end Jvm.Pilot.@@N@@
namespace Jvm.Pilot.@@N@@
open Jvm Jvm.ClassFile Sem Op Lib Jvm.Free Jvm.Stand Jvm.Pilot.@@N@@.Jvm.D
/-! MADE BY PROGRAM (witnessworld.py) out of the Statement's table words and the real class files: 12 classes; the members and pool entries that the words name. The judged class is class 1, her method 1. -/
namespace start1
open Jvm.ClassFile
def u (s : String) : CpInfo := .utf8 (stringToUtf16 s)
/-- a pool by its gaps: so many unusable entries, then the entry; so many at the end -/
def gap : Nat → List CpInfo → List CpInfo
  | 0, r => r
  | n + 1, r => .unusable :: gap n r
def poolList (es : List (Nat × CpInfo)) (last : Nat) : List CpInfo := es.foldr (fun e r => gap e.1 (e.2 :: r)) (gap last [])
def pool (es : List (Nat × CpInfo)) (last : Nat) : Array CpInfo := ⟨poolList es last⟩
def fileOf (pool : Array CpInfo) (this : Nat) (attrs : Array Attribute := #[]) (ms : Array MethodInfo := #[]) (fl : Nat := 33) (sup : Nat := 0) (ifs : Array Nat := #[]) (fds : Array FieldInfo := #[]) : ClassFile where
  minorVersion := 0
  majorVersion := 65
  constantPool := pool
  accessFlags := fl
  thisClass := this
  superClass := sup
  interfaces := ifs
  fields := fds
  methods := ms
  attributes := attrs
def plain (name : String) (sup : Option ClassId) : Class where
  name := name
  kind := .ordinary
  loader := none
  accessFlags := 33
  super := sup
  interfaces := #[]
  cf := none
  fields := #[]
  methods := #[]
  instanceTypes := #[]
  staticTypes := #[]
  resolved := #[]
  callSites := []
  init := .initialized
  statics := none
  mirror := none

def pool0 : Array CpInfo := pool [(5, u "<init>"), (0, u "()V"), (1, .class_ 10), (1, u "java/lang/Object")] 113

def k0m0 : Method := { name := "<init>", desc := "()V", sig := { parameters := [], returnType := none }, accessFlags := 1, code := none }
/-- java/lang/Object -/
def k0 : Class := { plain "java/lang/Object" none with
  accessFlags := 33
  interfaces := #[]
  cf := some (fileOf pool0 8 #[] #[{ accessFlags := 1, nameIndex := 5, descriptorIndex := 6, attributes := #[] }] 33 0 #[] #[])
  fields := #[]
  methods := #[k0m0]
  instanceTypes := #[]
  staticTypes := #[]
  resolved := Array.replicate 124 none
  statics := none }

def pool1 : Array CpInfo := pool [(2, .class_ 4), (1, u "java/lang/Object"), (0, u "<init>"), (0, u "()V"), (0, .integer 2147483647), (0, .methodref 9 10), (0, .class_ 11), (0, .nameAndType 12 13), (0, u "com/example/typewright/typewright/declaration/Keyword"), (0, u "pack"), (0, u "(JC)J"), (0, .long 256), (1, .long 72057594037927935), (1, .long 255), (1, .class_ 21), (0, u "com/example/typewright/typewright/declaration/KeywordPackPinLaw"), (2, u "law"), (0, u "(JI)Z")] 3

def k1m0 : Method := { name := "<init>", desc := "()V", sig := { parameters := [], returnType := none }, accessFlags := 1, code := none }
def k1c1 : Code := { maxStack := 6, maxLocals := 12, code := code, exceptionTable := #[], attributes := #[] }
def k1m1 : Method := { name := "law", desc := "(JI)Z", sig := { parameters := [.long, .int], returnType := some .boolean }, accessFlags := 9, code := some k1c1 }
/-- com/example/typewright/typewright/declaration/KeywordPackPinLaw -/
def k1 : Class := { plain "com/example/typewright/typewright/declaration/KeywordPackPinLaw" (some 0) with
  accessFlags := 49
  interfaces := #[]
  cf := some (fileOf pool1 20 #[] #[{ accessFlags := 1, nameIndex := 5, descriptorIndex := 6, attributes := #[] }, { accessFlags := 9, nameIndex := 24, descriptorIndex := 25, attributes := #[] }] 49 2 #[] #[])
  fields := #[]
  methods := #[k1m0, k1m1]
  instanceTypes := #[]
  staticTypes := #[]
  resolved := Array.replicate 29 none
  statics := none }

def pool2 : Array CpInfo := pool [(1, .class_ 2), (0, u "java/lang/constant/Constable"), (0, .class_ 4), (0, u "java/lang/Object")] 6

/-- java/lang/constant/Constable -/
def k2 : Class := { plain "java/lang/constant/Constable" (some 0) with
  accessFlags := 1537
  interfaces := #[]
  cf := some (fileOf pool2 1 #[] #[] 1537 3 #[] #[])
  fields := #[]
  methods := #[]
  instanceTypes := #[]
  staticTypes := #[]
  resolved := Array.replicate 11 none
  statics := none }

def pool3 : Array CpInfo := pool [(1, .class_ 2), (0, u "java/lang/Comparable"), (0, .class_ 4), (0, u "java/lang/Object")] 7

/-- java/lang/Comparable -/
def k3 : Class := { plain "java/lang/Comparable" (some 0) with
  accessFlags := 1537
  interfaces := #[]
  cf := some (fileOf pool3 1 #[] #[] 1537 3 #[] #[])
  fields := #[]
  methods := #[]
  instanceTypes := #[]
  staticTypes := #[]
  resolved := Array.replicate 12 none
  statics := none }

def pool4 : Array CpInfo := pool [(1, .class_ 2), (0, u "java/io/Serializable"), (0, .class_ 4), (0, u "java/lang/Object")] 2

/-- java/io/Serializable -/
def k4 : Class := { plain "java/io/Serializable" (some 0) with
  accessFlags := 1537
  interfaces := #[]
  cf := some (fileOf pool4 1 #[] #[] 1537 3 #[] #[])
  fields := #[]
  methods := #[]
  instanceTypes := #[]
  staticTypes := #[]
  resolved := Array.replicate 7 none
  statics := none }

def pool5 : Array CpInfo := pool [(2, .class_ 4), (1, u "java/lang/Enum"), (0, u "name"), (0, u "Ljava/lang/String;"), (2, u "ordinal"), (0, u "I"), (1, .class_ 14), (1, u "java/lang/Object"), (4, u "hash"), (86, .class_ 108), (1, u "java/lang/Enum$EnumDesc"), (2, .class_ 112), (0, u "java/lang/constant/Constable"), (0, .class_ 114), (0, u "java/lang/Comparable"), (0, .class_ 116), (0, u "java/io/Serializable")] 87

/-- java/lang/Enum -/
def k5 : Class := { plain "java/lang/Enum" (some 0) with
  accessFlags := 1057
  interfaces := #[2, 3, 4]
  cf := some (fileOf pool5 2 #[.nestMembers #[106]] #[] 1057 12 #[111, 113, 115] #[{ accessFlags := 18, nameIndex := 5, descriptorIndex := 6, attributes := #[] }, { accessFlags := 18, nameIndex := 9, descriptorIndex := 10, attributes := #[] }, { accessFlags := 2, nameIndex := 19, descriptorIndex := 10, attributes := #[] }])
  fields := #[{ name := "name", type := (.object "java/lang/String"), accessFlags := 18, slot := 0, constantValue := 0 }, { name := "ordinal", type := .int, accessFlags := 18, slot := 1, constantValue := 0 }, { name := "hash", type := .int, accessFlags := 2, slot := 2, constantValue := 0 }]
  methods := #[]
  instanceTypes := #[(.object "java/lang/String"), .int, .int]
  staticTypes := #[]
  resolved := Array.replicate 204 none
  statics := none }

def pool6 : Array CpInfo := pool [(1, .class_ 2), (0, u "com/example/typewright/typewright/declaration/Keyword"), (2, u "ARRAY"), (0, u "Lcom/example/typewright/typewright/declaration/Keyword;"), (2, u "BIGINT"), (2, u "BINARY"), (2, u "BITMAP"), (2, u "BOOLEAN"), (2, u "BYTES"), (2, u "CHAR"), (2, u "DATE"), (2, u "DAY"), (2, u "DEC"), (2, u "DECIMAL"), (2, u "DESCRIPTOR"), (2, u "DOUBLE"), (2, u "FLOAT"), (2, u "HOUR"), (2, u "INT"), (2, u "INTEGER"), (2, u "INTERVAL"), (2, u "LEGACY"), (2, u "LOCAL"), (2, u "MAP"), (2, u "MINUTE"), (2, u "MONTH"), (2, u "MULTISET"), (2, u "NOT"), (2, u "NULL"), (2, u "NUMERIC"), (2, u "PRECISION"), (2, u "RAW"), (2, u "ROW"), (2, u "SECOND"), (2, u "SMALLINT"), (2, u "STRING"), (2, u "STRUCTURED"), (2, u "TIME"), (2, u "TIMESTAMP"), (2, u "TIMESTAMP_LTZ"), (2, u "TIME_WITHOUT_TIME_ZONE"), (2, u "TINYINT"), (2, u "TO"), (2, u "VARBINARY"), (2, u "VARCHAR"), (2, u "VARIANT"), (2, u "WITH"), (2, u "WITHOUT"), (2, u "YEAR"), (2, u "ZONE"), (2, u "$VALUES"), (0, u "[Lcom/example/typewright/typewright/declaration/Keyword;"), (6, .class_ 157), (1, u "java/lang/Enum"), (17, u "length"), (7, u "pack"), (0, u "(JC)J"), (2, u "tail"), (0, u "J"), (2, u "I"), (2, u "reserved"), (0, u "Z"), (2, .long 32), (7, u "BY_SLOT"), (67, u "SLOT_BITS")] 20

def k6c0 : Code := { maxStack := 4, maxLocals := 3, code := prog_20_method_7_code, exceptionTable := #[], attributes := #[] }
def k6m0 : Method := { name := "pack", desc := "(JC)J", sig := { parameters := [.long, .char], returnType := some .long }, accessFlags := 8, code := some k6c0 }
/-- com/example/typewright/typewright/declaration/Keyword -/
def k6 : Class := { plain "com/example/typewright/typewright/declaration/Keyword" (some 5) with
  accessFlags := 16432
  interfaces := #[]
  cf := some (fileOf pool6 1 #[] #[{ accessFlags := 8, nameIndex := 183, descriptorIndex := 184, attributes := #[] }] 16432 155 #[] #[{ accessFlags := 16409, nameIndex := 5, descriptorIndex := 6, attributes := #[] }, { accessFlags := 16409, nameIndex := 9, descriptorIndex := 6, attributes := #[] }, { accessFlags := 16409, nameIndex := 12, descriptorIndex := 6, attributes := #[] }, { accessFlags := 16409, nameIndex := 15, descriptorIndex := 6, attributes := #[] }, { accessFlags := 16409, nameIndex := 18, descriptorIndex := 6, attributes := #[] }, { accessFlags := 16409, nameIndex := 21, descriptorIndex := 6, attributes := #[] }, { accessFlags := 16409, nameIndex := 24, descriptorIndex := 6, attributes := #[] }, { accessFlags := 16409, nameIndex := 27, descriptorIndex := 6, attributes := #[] }, { accessFlags := 16409, nameIndex := 30, descriptorIndex := 6, attributes := #[] }, { accessFlags := 16409, nameIndex := 33, descriptorIndex := 6, attributes := #[] }, { accessFlags := 16409, nameIndex := 36, descriptorIndex := 6, attributes := #[] }, { accessFlags := 16409, nameIndex := 39, descriptorIndex := 6, attributes := #[] }, { accessFlags := 16409, nameIndex := 42, descriptorIndex := 6, attributes := #[] }, { accessFlags := 16409, nameIndex := 45, descriptorIndex := 6, attributes := #[] }, { accessFlags := 16409, nameIndex := 48, descriptorIndex := 6, attributes := #[] }, { accessFlags := 16409, nameIndex := 51, descriptorIndex := 6, attributes := #[] }, { accessFlags := 16409, nameIndex := 54, descriptorIndex := 6, attributes := #[] }, { accessFlags := 16409, nameIndex := 57, descriptorIndex := 6, attributes := #[] }, { accessFlags := 16409, nameIndex := 60, descriptorIndex := 6, attributes := #[] }, { accessFlags := 16409, nameIndex := 63, descriptorIndex := 6, attributes := #[] }, { accessFlags := 16409, nameIndex := 66, descriptorIndex := 6, attributes := #[] }, { accessFlags := 16409, nameIndex := 69, descriptorIndex := 6, attributes := #[] }, { accessFlags := 16409, nameIndex := 72, descriptorIndex := 6, attributes := #[] }, { accessFlags := 16409, nameIndex := 75, descriptorIndex := 6, attributes := #[] }, { accessFlags := 16409, nameIndex := 78, descriptorIndex := 6, attributes := #[] }, { accessFlags := 16409, nameIndex := 81, descriptorIndex := 6, attributes := #[] }, { accessFlags := 16409, nameIndex := 84, descriptorIndex := 6, attributes := #[] }, { accessFlags := 16409, nameIndex := 87, descriptorIndex := 6, attributes := #[] }, { accessFlags := 16409, nameIndex := 90, descriptorIndex := 6, attributes := #[] }, { accessFlags := 16409, nameIndex := 93, descriptorIndex := 6, attributes := #[] }, { accessFlags := 16409, nameIndex := 96, descriptorIndex := 6, attributes := #[] }, { accessFlags := 16409, nameIndex := 99, descriptorIndex := 6, attributes := #[] }, { accessFlags := 16409, nameIndex := 102, descriptorIndex := 6, attributes := #[] }, { accessFlags := 16409, nameIndex := 105, descriptorIndex := 6, attributes := #[] }, { accessFlags := 16409, nameIndex := 108, descriptorIndex := 6, attributes := #[] }, { accessFlags := 16409, nameIndex := 111, descriptorIndex := 6, attributes := #[] }, { accessFlags := 16409, nameIndex := 114, descriptorIndex := 6, attributes := #[] }, { accessFlags := 16409, nameIndex := 117, descriptorIndex := 6, attributes := #[] }, { accessFlags := 16409, nameIndex := 120, descriptorIndex := 6, attributes := #[] }, { accessFlags := 16409, nameIndex := 123, descriptorIndex := 6, attributes := #[] }, { accessFlags := 16409, nameIndex := 126, descriptorIndex := 6, attributes := #[] }, { accessFlags := 16409, nameIndex := 129, descriptorIndex := 6, attributes := #[] }, { accessFlags := 16409, nameIndex := 132, descriptorIndex := 6, attributes := #[] }, { accessFlags := 16409, nameIndex := 135, descriptorIndex := 6, attributes := #[] }, { accessFlags := 16409, nameIndex := 138, descriptorIndex := 6, attributes := #[] }, { accessFlags := 16409, nameIndex := 141, descriptorIndex := 6, attributes := #[] }, { accessFlags := 16409, nameIndex := 144, descriptorIndex := 6, attributes := #[] }, { accessFlags := 26, nameIndex := 274, descriptorIndex := 191, attributes := #[] }, { accessFlags := 26, nameIndex := 206, descriptorIndex := 148, attributes := #[] }, { accessFlags := 18, nameIndex := 187, descriptorIndex := 188, attributes := #[] }, { accessFlags := 18, nameIndex := 175, descriptorIndex := 191, attributes := #[] }, { accessFlags := 18, nameIndex := 194, descriptorIndex := 195, attributes := #[] }, { accessFlags := 4122, nameIndex := 147, descriptorIndex := 148, attributes := #[] }])
  fields := #[{ name := "ARRAY", type := (.object "com/example/typewright/typewright/declaration/Keyword"), accessFlags := 16409, slot := 0, constantValue := 0 }, { name := "BIGINT", type := (.object "com/example/typewright/typewright/declaration/Keyword"), accessFlags := 16409, slot := 1, constantValue := 0 }, { name := "BINARY", type := (.object "com/example/typewright/typewright/declaration/Keyword"), accessFlags := 16409, slot := 2, constantValue := 0 }, { name := "BITMAP", type := (.object "com/example/typewright/typewright/declaration/Keyword"), accessFlags := 16409, slot := 3, constantValue := 0 }, { name := "BOOLEAN", type := (.object "com/example/typewright/typewright/declaration/Keyword"), accessFlags := 16409, slot := 4, constantValue := 0 }, { name := "BYTES", type := (.object "com/example/typewright/typewright/declaration/Keyword"), accessFlags := 16409, slot := 5, constantValue := 0 }, { name := "CHAR", type := (.object "com/example/typewright/typewright/declaration/Keyword"), accessFlags := 16409, slot := 6, constantValue := 0 }, { name := "DATE", type := (.object "com/example/typewright/typewright/declaration/Keyword"), accessFlags := 16409, slot := 7, constantValue := 0 }, { name := "DAY", type := (.object "com/example/typewright/typewright/declaration/Keyword"), accessFlags := 16409, slot := 8, constantValue := 0 }, { name := "DEC", type := (.object "com/example/typewright/typewright/declaration/Keyword"), accessFlags := 16409, slot := 9, constantValue := 0 }, { name := "DECIMAL", type := (.object "com/example/typewright/typewright/declaration/Keyword"), accessFlags := 16409, slot := 10, constantValue := 0 }, { name := "DESCRIPTOR", type := (.object "com/example/typewright/typewright/declaration/Keyword"), accessFlags := 16409, slot := 11, constantValue := 0 }, { name := "DOUBLE", type := (.object "com/example/typewright/typewright/declaration/Keyword"), accessFlags := 16409, slot := 12, constantValue := 0 }, { name := "FLOAT", type := (.object "com/example/typewright/typewright/declaration/Keyword"), accessFlags := 16409, slot := 13, constantValue := 0 }, { name := "HOUR", type := (.object "com/example/typewright/typewright/declaration/Keyword"), accessFlags := 16409, slot := 14, constantValue := 0 }, { name := "INT", type := (.object "com/example/typewright/typewright/declaration/Keyword"), accessFlags := 16409, slot := 15, constantValue := 0 }, { name := "INTEGER", type := (.object "com/example/typewright/typewright/declaration/Keyword"), accessFlags := 16409, slot := 16, constantValue := 0 }, { name := "INTERVAL", type := (.object "com/example/typewright/typewright/declaration/Keyword"), accessFlags := 16409, slot := 17, constantValue := 0 }, { name := "LEGACY", type := (.object "com/example/typewright/typewright/declaration/Keyword"), accessFlags := 16409, slot := 18, constantValue := 0 }, { name := "LOCAL", type := (.object "com/example/typewright/typewright/declaration/Keyword"), accessFlags := 16409, slot := 19, constantValue := 0 }, { name := "MAP", type := (.object "com/example/typewright/typewright/declaration/Keyword"), accessFlags := 16409, slot := 20, constantValue := 0 }, { name := "MINUTE", type := (.object "com/example/typewright/typewright/declaration/Keyword"), accessFlags := 16409, slot := 21, constantValue := 0 }, { name := "MONTH", type := (.object "com/example/typewright/typewright/declaration/Keyword"), accessFlags := 16409, slot := 22, constantValue := 0 }, { name := "MULTISET", type := (.object "com/example/typewright/typewright/declaration/Keyword"), accessFlags := 16409, slot := 23, constantValue := 0 }, { name := "NOT", type := (.object "com/example/typewright/typewright/declaration/Keyword"), accessFlags := 16409, slot := 24, constantValue := 0 }, { name := "NULL", type := (.object "com/example/typewright/typewright/declaration/Keyword"), accessFlags := 16409, slot := 25, constantValue := 0 }, { name := "NUMERIC", type := (.object "com/example/typewright/typewright/declaration/Keyword"), accessFlags := 16409, slot := 26, constantValue := 0 }, { name := "PRECISION", type := (.object "com/example/typewright/typewright/declaration/Keyword"), accessFlags := 16409, slot := 27, constantValue := 0 }, { name := "RAW", type := (.object "com/example/typewright/typewright/declaration/Keyword"), accessFlags := 16409, slot := 28, constantValue := 0 }, { name := "ROW", type := (.object "com/example/typewright/typewright/declaration/Keyword"), accessFlags := 16409, slot := 29, constantValue := 0 }, { name := "SECOND", type := (.object "com/example/typewright/typewright/declaration/Keyword"), accessFlags := 16409, slot := 30, constantValue := 0 }, { name := "SMALLINT", type := (.object "com/example/typewright/typewright/declaration/Keyword"), accessFlags := 16409, slot := 31, constantValue := 0 }, { name := "STRING", type := (.object "com/example/typewright/typewright/declaration/Keyword"), accessFlags := 16409, slot := 32, constantValue := 0 }, { name := "STRUCTURED", type := (.object "com/example/typewright/typewright/declaration/Keyword"), accessFlags := 16409, slot := 33, constantValue := 0 }, { name := "TIME", type := (.object "com/example/typewright/typewright/declaration/Keyword"), accessFlags := 16409, slot := 34, constantValue := 0 }, { name := "TIMESTAMP", type := (.object "com/example/typewright/typewright/declaration/Keyword"), accessFlags := 16409, slot := 35, constantValue := 0 }, { name := "TIMESTAMP_LTZ", type := (.object "com/example/typewright/typewright/declaration/Keyword"), accessFlags := 16409, slot := 36, constantValue := 0 }, { name := "TIME_WITHOUT_TIME_ZONE", type := (.object "com/example/typewright/typewright/declaration/Keyword"), accessFlags := 16409, slot := 37, constantValue := 0 }, { name := "TINYINT", type := (.object "com/example/typewright/typewright/declaration/Keyword"), accessFlags := 16409, slot := 38, constantValue := 0 }, { name := "TO", type := (.object "com/example/typewright/typewright/declaration/Keyword"), accessFlags := 16409, slot := 39, constantValue := 0 }, { name := "VARBINARY", type := (.object "com/example/typewright/typewright/declaration/Keyword"), accessFlags := 16409, slot := 40, constantValue := 0 }, { name := "VARCHAR", type := (.object "com/example/typewright/typewright/declaration/Keyword"), accessFlags := 16409, slot := 41, constantValue := 0 }, { name := "VARIANT", type := (.object "com/example/typewright/typewright/declaration/Keyword"), accessFlags := 16409, slot := 42, constantValue := 0 }, { name := "WITH", type := (.object "com/example/typewright/typewright/declaration/Keyword"), accessFlags := 16409, slot := 43, constantValue := 0 }, { name := "WITHOUT", type := (.object "com/example/typewright/typewright/declaration/Keyword"), accessFlags := 16409, slot := 44, constantValue := 0 }, { name := "YEAR", type := (.object "com/example/typewright/typewright/declaration/Keyword"), accessFlags := 16409, slot := 45, constantValue := 0 }, { name := "ZONE", type := (.object "com/example/typewright/typewright/declaration/Keyword"), accessFlags := 16409, slot := 46, constantValue := 0 }, { name := "SLOT_BITS", type := .int, accessFlags := 26, slot := 47, constantValue := 0 }, { name := "BY_SLOT", type := (.array (.object "com/example/typewright/typewright/declaration/Keyword")), accessFlags := 26, slot := 48, constantValue := 0 }, { name := "tail", type := .long, accessFlags := 18, slot := 3, constantValue := 0 }, { name := "length", type := .int, accessFlags := 18, slot := 4, constantValue := 0 }, { name := "reserved", type := .boolean, accessFlags := 18, slot := 5, constantValue := 0 }, { name := "$VALUES", type := (.array (.object "com/example/typewright/typewright/declaration/Keyword")), accessFlags := 4122, slot := 49, constantValue := 0 }]
  methods := #[k6m0]
  instanceTypes := #[(.object "java/lang/String"), .int, .int, .long, .int, .boolean]
  staticTypes := #[(.object "com/example/typewright/typewright/declaration/Keyword"), (.object "com/example/typewright/typewright/declaration/Keyword"), (.object "com/example/typewright/typewright/declaration/Keyword"), (.object "com/example/typewright/typewright/declaration/Keyword"), (.object "com/example/typewright/typewright/declaration/Keyword"), (.object "com/example/typewright/typewright/declaration/Keyword"), (.object "com/example/typewright/typewright/declaration/Keyword"), (.object "com/example/typewright/typewright/declaration/Keyword"), (.object "com/example/typewright/typewright/declaration/Keyword"), (.object "com/example/typewright/typewright/declaration/Keyword"), (.object "com/example/typewright/typewright/declaration/Keyword"), (.object "com/example/typewright/typewright/declaration/Keyword"), (.object "com/example/typewright/typewright/declaration/Keyword"), (.object "com/example/typewright/typewright/declaration/Keyword"), (.object "com/example/typewright/typewright/declaration/Keyword"), (.object "com/example/typewright/typewright/declaration/Keyword"), (.object "com/example/typewright/typewright/declaration/Keyword"), (.object "com/example/typewright/typewright/declaration/Keyword"), (.object "com/example/typewright/typewright/declaration/Keyword"), (.object "com/example/typewright/typewright/declaration/Keyword"), (.object "com/example/typewright/typewright/declaration/Keyword"), (.object "com/example/typewright/typewright/declaration/Keyword"), (.object "com/example/typewright/typewright/declaration/Keyword"), (.object "com/example/typewright/typewright/declaration/Keyword"), (.object "com/example/typewright/typewright/declaration/Keyword"), (.object "com/example/typewright/typewright/declaration/Keyword"), (.object "com/example/typewright/typewright/declaration/Keyword"), (.object "com/example/typewright/typewright/declaration/Keyword"), (.object "com/example/typewright/typewright/declaration/Keyword"), (.object "com/example/typewright/typewright/declaration/Keyword"), (.object "com/example/typewright/typewright/declaration/Keyword"), (.object "com/example/typewright/typewright/declaration/Keyword"), (.object "com/example/typewright/typewright/declaration/Keyword"), (.object "com/example/typewright/typewright/declaration/Keyword"), (.object "com/example/typewright/typewright/declaration/Keyword"), (.object "com/example/typewright/typewright/declaration/Keyword"), (.object "com/example/typewright/typewright/declaration/Keyword"), (.object "com/example/typewright/typewright/declaration/Keyword"), (.object "com/example/typewright/typewright/declaration/Keyword"), (.object "com/example/typewright/typewright/declaration/Keyword"), (.object "com/example/typewright/typewright/declaration/Keyword"), (.object "com/example/typewright/typewright/declaration/Keyword"), (.object "com/example/typewright/typewright/declaration/Keyword"), (.object "com/example/typewright/typewright/declaration/Keyword"), (.object "com/example/typewright/typewright/declaration/Keyword"), (.object "com/example/typewright/typewright/declaration/Keyword"), (.object "com/example/typewright/typewright/declaration/Keyword"), .int, (.array (.object "com/example/typewright/typewright/declaration/Keyword")), (.array (.object "com/example/typewright/typewright/declaration/Keyword"))]
  resolved := Array.replicate 295 none
  statics := none }

def pool7 : Array CpInfo := pool [(1, u "java/lang/Cloneable"), (0, .class_ 1), (0, u "java/lang/Object"), (0, .class_ 3)] 3

/-- java/lang/Cloneable -/
def k7 : Class := { plain "java/lang/Cloneable" (some 0) with
  accessFlags := 1537
  interfaces := #[]
  cf := some (fileOf pool7 2 #[] #[] 1537 4 #[] #[])
  fields := #[]
  methods := #[]
  instanceTypes := #[]
  staticTypes := #[]
  resolved := Array.replicate 8 none
  statics := none }

/-- the primitive byte -/
def k8 : Class := { plain "byte" none with kind := .primitive 'B', accessFlags := 0x411 }
/-- [B -/
def k9 : Class := { plain "[B" (some 0) with kind := .array 8 .byte, interfaces := #[7, 4], accessFlags := 1041 }

/-- the primitive int -/
def k10 : Class := { plain "int" none with kind := .primitive 'I', accessFlags := 0x411 }
/-- [I -/
def k11 : Class := { plain "[I" (some 0) with kind := .array 10 .int, interfaces := #[7, 4], accessFlags := 1041 }

def heap : Heap := #[]
def classes : Array Class := #[k0, k1, k2, k3, k4, k5, k6, k7, k8, k9, k10, k11]
def interned : List (Array UInt16 × Addr) := []
def slotsUsed : Nat := 0
def theMethod : MethodId := ⟨1, 1⟩
def args0 : Array Value := #[.long 5, .int 7]
def aboutOver (below : List Frame) : State where
  vm := { classes := classes, interned := interned.toArray }
  heap := heap
  slotsUsed := slotsUsed
  threads := #[{ frames := .invoking theMethod args0 :: below }]
def below0 : List Frame := [.native { method := ⟨0, 0⟩, args := #[] }]
def about1 : State := aboutOver below0
def p0 : Program := .bare "" "" ""
def e0 : Env := launch0.env 0 0 0
theorem w_frames : about1.frames = Frame.invoking theMethod args0 :: below0 := rfl
set_option maxRecDepth 65536 in
theorem w_args : argsFit about1.vm theMethod args0 = true := by decide +kernel
set_option maxRecDepth 65536 in
theorem w_heap : heapFits about1 = true := by decide +kernel
set_option maxRecDepth 65536 in
theorem w_runnable : about1.curStatus? = some .runnable := by decide +kernel
set_option maxRecDepth 65536 in
theorem w_alone : about1.alone = true := by decide +kernel
set_option maxRecDepth 65536 in
theorem w_named : about1.methodNamed? x = some theMethod := by decide +kernel
set_option maxRecDepth 65536 in
theorem w_hears : about1.hears theMethod below0 = true := by decide +kernel
set_option maxRecDepth 65536 in
theorem w_ripe : about1.ripe theMethod args0 below0 = true := by decide +kernel
theorem w_running : about1.status = .running := rfl
set_option maxRecDepth 65536 in
theorem w_room : about1.hasRoom e0.platform room_1 = true :=
  launch0.hasRoom_least _ room_1 (by decide +kernel) (by decide +kernel) (by decide +kernel) (by decide +kernel) (by decide +kernel) (by decide +kernel)
theorem allAtoms_all (ts : List Jvm.Cond) (a : Array Jvm.Value) (st : Jvm.State) : (allAtoms ts).before a st = ts.all (fun c => c.before a st) := by
  induction ts with
  | nil => rfl
  | cons c t ih =>
    show (Jvm.Cond.and c (allAtoms t)).before a st = _
    rw [Jvm.Cond.before_and, ih, List.all_cons]
def words1 : List Jvm.Cond := Jvm.Cond.code x code maxLocals ret :: tables_1
/-- a 'code' word, met by the world's own term for the bytes: nothing is compared byte by byte -/
theorem code_word {y : MethodName} {bytes : ByteArray} {mx : Nat} {rt : Option FieldType} {a : Array Value} {s : State} {m : MethodId} {meth : Method} {c : Code} (h1 : s.methodNamed? y = some m) (h2 : s.vm.method? m = some meth) (h3 : meth.code = some c) (h4 : c.code = bytes)
    (h5 : (c.maxLocals == mx && c.exceptionTable.isEmpty && decide (c.maxStack ≤ mostOperands) && decide (meth.sig.returnType = rt) && !meth.locks && decide (parseMethodDescriptor y.desc = some meth.sig)) = true) : (Jvm.Cond.code y bytes mx rt).before a s = true := by
  simp only [Bool.and_eq_true, beq_iff_eq, Bool.not_eq_true', decide_eq_true_eq] at h5
  obtain ⟨⟨⟨⟨⟨g1, g2⟩, g3⟩, g4⟩, g5⟩, g6⟩ := h5
  simp [Cond.before, Cond.holds, Cond.value, h1, h2, h3, h4, g1, g2, g3, g4, g5, g6]
def isCode : Jvm.Cond → Bool
  | .code _ _ _ _ => true
  | _ => false
theorem all_split {L : List Jvm.Cond} {P : Jvm.Cond → Bool} (h1 : L.all (fun c => isCode c || P c) = true) (h2 : ∀ c ∈ L.filter isCode, P c = true) : L.all P = true := by
  refine List.all_eq_true.mpr fun c hc => ?_
  have h := List.all_eq_true.mp h1 c hc
  rcases Bool.eq_false_or_eq_true (isCode c) with hi | hi
  · exact h2 c (List.mem_filter.mpr ⟨hc, hi⟩)
  · simpa [hi] using h
set_option maxRecDepth 65536 in
theorem w_c0 : (Jvm.Cond.code x code maxLocals ret).before args0 about1 = true := code_word (m := ⟨1, 1⟩) (meth := k1m1) (c := k1c1) (by decide +kernel) rfl rfl rfl (by decide +kernel)
set_option maxRecDepth 65536 in
theorem w_c1 : (Jvm.Cond.code ({ cls := "com/example/typewright/typewright/declaration/Keyword", name := "pack", desc := "(JC)J" } : Jvm.MethodName) prog_20_method_7_code (3 : Nat) (Option.some Jvm.ClassFile.FieldType.long)).before args0 about1 = true := code_word (m := ⟨6, 0⟩) (meth := k6m0) (c := k6c0) (by decide +kernel) rfl rfl rfl (by decide +kernel)
def codes1 : List Jvm.Cond := [Jvm.Cond.code x code maxLocals ret, Jvm.Cond.code ({ cls := "com/example/typewright/typewright/declaration/Keyword", name := "pack", desc := "(JC)J" } : Jvm.MethodName) prog_20_method_7_code (3 : Nat) (Option.some Jvm.ClassFile.FieldType.long)]
set_option maxRecDepth 65536 in
theorem codes_eq : words1.filter isCode = codes1 := rfl
theorem w_codes : ∀ c ∈ words1.filter isCode, c.before args0 about1 = true := by
  rw [codes_eq]
  intro c hc
  simp only [codes1, List.mem_cons, List.not_mem_nil, or_false] at hc
  rcases hc with rfl | rfl
  · exact w_c0
  · exact w_c1
set_option maxRecDepth 65536 in
theorem w_t1 : words1.all (fun c => isCode c || c.before args0 about1) = true := by decide +kernel
theorem w_tables : (allAtoms (Jvm.Cond.code x code maxLocals ret :: tables_1)).before args0 about1 = true := by
  rw [allAtoms_all]
  show words1.all (fun c => c.before args0 about1) = true
  refine all_split ?_ w_codes
  rw [w_t1]
set_option maxRecDepth 65536 in
theorem w_case : (Jvm.Cond.and given_1 narrow_1).before args0 about1 = true := by decide +kernel
theorem w_applies : (headSpec (Jvm.Cond.code x code maxLocals ret :: tables_1) room_1).applies x e0.platform about1 = true :=
  (Spec.applies_iff w_frames).mpr ⟨w_running, w_runnable, w_alone, w_named, w_hears, w_ripe, w_room, w_tables⟩
theorem atStart : AtStart classFile x code maxLocals ret World_1 tables_1 room_1 Calls_1 rest_1 Pre_1 launch0 p0 e0 about1 theMethod args0 below0 :=
  ⟨lists_1, trivial, launch0.admits_env _ _ _, launch0.least_env, fairChoices_fair.cas, fairChoices_fair.clock, w_frames, w_args, w_heap, w_applies, trivial, trivial, w_case⟩
end start1
theorem witness_1 : WitnessClaimed_1 := ⟨start1.p0, start1.e0, start1.about1, start1.theMethod, start1.args0, start1.below0, start1.atStart⟩
end Jvm.Pilot.@@N@@
