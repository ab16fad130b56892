import JvmDerived
import JvmDerived.Pilot.@@N@@Statement
import JvmDerived.Pilot.@@N@@Code
set_option linter.unusedVariables false
set_option linter.unusedSimpArgs false
namespace Jvm.Pilot.@@N@@
open Jvm Jvm.ClassFile Sem Op Lib Jvm.Free Jvm.Stand Jvm.LawKit Jvm.RoadKit Bundle Jvm.Pilot.@@N@@.Jvm.D
section OwnKit
variable {p : Program} {l : Launch} {e : Env} {R : Room} {s : State} {m : MethodId} {args : Array Value} {below : List Frame} {meth : Method} {c : Code} {T : State} {locs : List Loc} {cells slots : Nat} {Z : State} {h : Heap} {a : Addr} {k : ClassId} {z : Int32} {vs : List Value} {dv : Value}
theorem oLen (X : Stand p l e R s m args below meth c T locs cells slots) (hx : p.tables.exec = Jvm.exec) (hZ : Z.Warmed39 s.vm) (eT : T.heap = h) {ty : FieldType} (F : Arv Z h a k ty z vs dv) {pc : Nat} {Ls : Array Slot} {rest : List Value} (hd : decode c.code pc = .ok (.arraylength, 1)) {target : State}
    (hr : Steps p.tables e below (T.setTop (mkF m (pc + 1) Ls (.int z :: rest))) target) : Steps p.tables e below (T.setTop (mkF m pc Ls (.ref a :: rest))) target := by
  obtain ⟨cl, A, -, S, M, -, -⟩ := F
  refine X.arraylength hx (by rw [eT]; exact A.1) (State.isArrayOf_alike hZ.alike A.2.1) (g := mkF m pc Ls (.ref a :: rest)) rfl rfl hd target ?_
  rw [len_of S M]
  exact hr
theorem oLdI (X : Stand p l e R s m args below meth c T locs cells slots) (hx : p.tables.exec = Jvm.exec) (hZ : Z.Warmed39 s.vm) (eT : T.heap = h) (F : Arv Z h a k .int z vs dv) {j : Int32} {v : Value} (hj : ¬ j < 0 ∧ j < z) (hv : vs.getD j.toNatClampNeg dv = v) {pc : Nat} {Ls : Array Slot} {rest : List Value} (hd : decode c.code pc = .ok (.iaload, 1)) {target : State}
    (hr : Steps p.tables e below (T.setTop (mkF m (pc + 1) Ls (v :: rest))) target) : Steps p.tables e below (T.setTop (mkF m pc Ls (.int j :: .ref a :: rest))) target := by
  obtain ⟨cl, A, -, S, -, H, -⟩ := F
  have hin := inb_of S hj
  exact X.iaload hx (by rw [eT]; exact A.1) (State.isArrayOf_alike hZ.alike A.2.1) A.2.2 hin (Has.at H hin hv) (g := mkF m pc Ls (.int j :: .ref a :: rest)) rfl rfl hd target hr
theorem oLdB (X : Stand p l e R s m args below meth c T locs cells slots) (hx : p.tables.exec = Jvm.exec) (hZ : Z.Warmed39 s.vm) (eT : T.heap = h) (F : Arv Z h a k .byte z vs dv) {j : Int32} {v : Value} (hj : ¬ j < 0 ∧ j < z) (hv : vs.getD j.toNatClampNeg dv = v) {pc : Nat} {Ls : Array Slot} {rest : List Value} (hd : decode c.code pc = .ok (.baload, 1)) {target : State}
    (hr : Steps p.tables e below (T.setTop (mkF m (pc + 1) Ls (v :: rest))) target) : Steps p.tables e below (T.setTop (mkF m pc Ls (.int j :: .ref a :: rest))) target := by
  obtain ⟨cl, A, -, S, -, H, -⟩ := F
  have hin := inb_of S hj
  exact X.baloadBytes hx (by rw [eT]; exact A.1) (State.isArrayOf_alike hZ.alike A.2.1) A.2.2 hin (Has.at H hin hv) (g := mkF m pc Ls (.int j :: .ref a :: rest)) rfl rfl hd target hr
theorem oLdJ (X : Stand p l e R s m args below meth c T locs cells slots) (hx : p.tables.exec = Jvm.exec) (hZ : Z.Warmed39 s.vm) (eT : T.heap = h) (F : Arv Z h a k .long z vs dv) {j : Int32} {v : Value} (hj : ¬ j < 0 ∧ j < z) (hv : vs.getD j.toNatClampNeg dv = v) {pc : Nat} {Ls : Array Slot} {rest : List Value} (hd : decode c.code pc = .ok (.laload, 1)) {target : State}
    (hr : Steps p.tables e below (T.setTop (mkF m (pc + 1) Ls (v :: rest))) target) : Steps p.tables e below (T.setTop (mkF m pc Ls (.int j :: .ref a :: rest))) target := by
  obtain ⟨cl, A, -, S, -, H, -⟩ := F
  have hin := inb_of S hj
  exact X.laload hx (by rw [eT]; exact A.1) (State.isArrayOf_alike hZ.alike A.2.1) A.2.2 hin (Has.at H hin hv) (g := mkF m pc Ls (.int j :: .ref a :: rest)) rfl rfl hd target hr
theorem oLdD (X : Stand p l e R s m args below meth c T locs cells slots) (hx : p.tables.exec = Jvm.exec) (hZ : Z.Warmed39 s.vm) (eT : T.heap = h) (F : Arv Z h a k .double z vs dv) {j : Int32} {v : Value} (hj : ¬ j < 0 ∧ j < z) (hv : vs.getD j.toNatClampNeg dv = v) {pc : Nat} {Ls : Array Slot} {rest : List Value} (hd : decode c.code pc = .ok (.daload, 1)) {target : State}
    (hr : Steps p.tables e below (T.setTop (mkF m (pc + 1) Ls (v :: rest))) target) : Steps p.tables e below (T.setTop (mkF m pc Ls (.int j :: .ref a :: rest))) target := by
  obtain ⟨cl, A, -, S, -, H, -⟩ := F
  have hin := inb_of S hj
  exact X.daload hx (by rw [eT]; exact A.1) (State.isArrayOf_alike hZ.alike A.2.1) A.2.2 hin (Has.at H hin hv) (g := mkF m pc Ls (.int j :: .ref a :: rest)) rfl rfl hd target hr
theorem oStI (X : Stand p l e R s m args below meth c T locs cells slots) (hx : p.tables.exec = Jvm.exec) (hZ : Z.Warmed39 s.vm) (eT : T.heap = h) (F : Arv Z h a k .int z vs dv) {j : Int32} {x : Int32} (hj : ¬ j < 0 ∧ j < z) (i : Nat) (hi : j.toNatClampNeg = i) (hl : i < vs.length) {g : JFrame} (hg : g.method = m) {rest : List Value} (hs : g.stack = .int x :: .int j :: .ref a :: rest) (hd : decode c.code g.pc = .ok (.iastore, 1)) :
    ∃ T' h', Stand p l e R s m args below meth c T' (locs ++ [⟨a, j.toNatClampNeg⟩]) cells slots ∧ T'.heap = h' ∧ Wr h h' a j.toNatClampNeg (.int x) ∧ Arv Z h' a k .int z (vs.set i (.int x)) dv ∧ ∀ target, Steps p.tables e below (T'.setTop { g with pc := g.pc + 1, stack := rest }) target → Steps p.tables e below (T.setTop g) target := by
  obtain ⟨cl, A, q1, S, M, H, G⟩ := F
  obtain ⟨T', h', X', e', W, st⟩ := stI X hx hZ eT A (j := j) (inb_of S hj) hg hs hd
  exact ⟨T', h', X', e', W, Arv.set A q1 S M H G rfl W i hi hl, st⟩
theorem oStB (X : Stand p l e R s m args below meth c T locs cells slots) (hx : p.tables.exec = Jvm.exec) (hZ : Z.Warmed39 s.vm) (eT : T.heap = h) (F : Arv Z h a k .byte z vs dv) {j : Int32} {x : Int32} (hj : ¬ j < 0 ∧ j < z) (i : Nat) (hi : j.toNatClampNeg = i) (hl : i < vs.length) {g : JFrame} (hg : g.method = m) {rest : List Value} (hs : g.stack = .int x :: .int j :: .ref a :: rest) (hd : decode c.code g.pc = .ok (.bastore, 1)) :
    ∃ T' h', Stand p l e R s m args below meth c T' (locs ++ [⟨a, j.toNatClampNeg⟩]) cells slots ∧ T'.heap = h' ∧ Wr h h' a j.toNatClampNeg (.int (nar .byte x)) ∧ Arv Z h' a k .byte z (vs.set i (.int (nar .byte x))) dv ∧ ∀ target, Steps p.tables e below (T'.setTop { g with pc := g.pc + 1, stack := rest }) target → Steps p.tables e below (T.setTop g) target := by
  obtain ⟨cl, A, q1, S, M, H, G⟩ := F
  obtain ⟨T', h', X', e', W, st⟩ := stB X hx hZ eT A (j := j) (inb_of S hj) hg hs hd
  exact ⟨T', h', X', e', W, Arv.set A q1 S M H G (fits_nar_byte x) W i hi hl, st⟩
theorem oStJ (X : Stand p l e R s m args below meth c T locs cells slots) (hx : p.tables.exec = Jvm.exec) (hZ : Z.Warmed39 s.vm) (eT : T.heap = h) (F : Arv Z h a k .long z vs dv) {j : Int32} {x : Int64} (hj : ¬ j < 0 ∧ j < z) (i : Nat) (hi : j.toNatClampNeg = i) (hl : i < vs.length) {g : JFrame} (hg : g.method = m) {rest : List Value} (hs : g.stack = .long x :: .int j :: .ref a :: rest) (hd : decode c.code g.pc = .ok (.lastore, 1)) :
    ∃ T' h', Stand p l e R s m args below meth c T' (locs ++ [⟨a, j.toNatClampNeg⟩]) cells slots ∧ T'.heap = h' ∧ Wr h h' a j.toNatClampNeg (.long x) ∧ Arv Z h' a k .long z (vs.set i (.long x)) dv ∧ ∀ target, Steps p.tables e below (T'.setTop { g with pc := g.pc + 1, stack := rest }) target → Steps p.tables e below (T.setTop g) target := by
  obtain ⟨cl, A, q1, S, M, H, G⟩ := F
  obtain ⟨T', h', X', e', W, st⟩ := stJ X hx hZ eT A (j := j) (inb_of S hj) hg hs hd
  exact ⟨T', h', X', e', W, Arv.set A q1 S M H G rfl W i hi hl, st⟩
theorem oStD (X : Stand p l e R s m args below meth c T locs cells slots) (hx : p.tables.exec = Jvm.exec) (hZ : Z.Warmed39 s.vm) (eT : T.heap = h) (F : Arv Z h a k .double z vs dv) {j : Int32} {x : UInt64} (hj : ¬ j < 0 ∧ j < z) (i : Nat) (hi : j.toNatClampNeg = i) (hl : i < vs.length) {g : JFrame} (hg : g.method = m) {rest : List Value} (hs : g.stack = .double x :: .int j :: .ref a :: rest) (hd : decode c.code g.pc = .ok (.dastore, 1)) :
    ∃ T' h', Stand p l e R s m args below meth c T' (locs ++ [⟨a, j.toNatClampNeg⟩]) cells slots ∧ T'.heap = h' ∧ Wr h h' a j.toNatClampNeg (.double x) ∧ Arv Z h' a k .double z (vs.set i (.double x)) dv ∧ ∀ target, Steps p.tables e below (T'.setTop { g with pc := g.pc + 1, stack := rest }) target → Steps p.tables e below (T.setTop g) target := by
  obtain ⟨cl, A, q1, S, M, H, G⟩ := F
  obtain ⟨T', h', X', e', W, st⟩ := stD X hx hZ eT A (j := j) (inb_of S hj) hg hs hd
  exact ⟨T', h', X', e', W, Arv.set A q1 S M H G rfl W i hi hl, st⟩
theorem oOpq {n0 : Nat} (X : Stand p l e R s m args below meth c T locs cells slots) (N : Fr n0 locs) : ∃ L, Stand p l e R s m args below meth c T L cells slots ∧ Fr n0 L := ⟨_, X, N⟩
end OwnKit
abbrev oi (x : Int32) : Slot := .val (.int x)
abbrev oj (x : Int64) : Slot := .val (.long x)
abbrev oa (x : Addr) : Slot := .val (.ref x)
abbrev od (x : UInt64) : Slot := .val (.double x)
abbrev oS (p : Program) (e : Env) (below : List Frame) (T : State) (m : MethodId) (pc : Nat) (L : Array Slot) (S : List Value) (t : State) : Prop := Steps p.tables e below (T.setTop (mkF m pc L S)) t
theorem own_ltp (x k : Int32) : (x < k) = (x.toInt < k.toInt) := propext Int32.lt_iff_toInt_lt
theorem own_eqp (x k : Int32) : (x = k) = (x.toInt = k.toInt) := propext Int32.toInt_inj.symm
theorem own_ltpL (x k : Int64) : (x < k) = (x.toInt < k.toInt) := propext Int64.lt_iff_toInt_lt
theorem own_eqpL (x k : Int64) : (x = k) = (x.toInt = k.toInt) := propext Int64.toInt_inj.symm
theorem own_of_range {P : Int32 → Prop} (n : Nat) (h : ∀ i : Fin n, P (Int32.ofNat i.1)) (x : Int32) (h0 : 0 ≤ x.toInt) (h1 : x.toInt < (n : Int)) : P x := by
  have e : Int32.ofNat x.toInt.toNat = x := by
    rw [← Int32.ofInt_eq_ofNat, Int.toNat_of_nonneg h0, Int32.ofInt_toInt]
  have q := h ⟨x.toInt.toNat, by omega⟩
  rwa [e] at q
theorem own_getD (ws : List Int32) (n : Nat) : (ws.map Value.int).getD n (.int (0 : Int32)) = .int (ws.getD n 0) := by
  simp only [List.getD_eq_getElem?_getD, List.getElem?_map]
  cases ws[n]? <;> rfl

theorem own_narb (x : Int32) : nar .byte (x.toInt8.toInt32) = x.toInt8.toInt32 := by
  show (x.toInt8.toInt32).toInt8.toInt32 = x.toInt8.toInt32
  simp

theorem own_pn0 : plainName "com/example/godwit/godwit/link/Utf8" = true := by first | (simp [plainName, overriddenIn]; done) | decide +kernel
theorem own_d1_0 : decode prog_21_method_3_code 0 = .ok (.iload_n 0, 1) := by decide +kernel
theorem own_d1_1 : decode prog_21_method_3_code 1 = .ok (.sipush 128, 3) := by decide +kernel
theorem own_d1_4 : decode prog_21_method_3_code 4 = .ok (.if_icmp .ge 10, 3) := by decide +kernel
theorem own_d1_7 : decode prog_21_method_3_code 7 = .ok (.aload_n 1, 1) := by decide +kernel
theorem own_d1_8 : decode prog_21_method_3_code 8 = .ok (.iconst 0, 1) := by decide +kernel
theorem own_d1_9 : decode prog_21_method_3_code 9 = .ok (.iload_n 0, 1) := by decide +kernel
theorem own_d1_10 : decode prog_21_method_3_code 10 = .ok (.i2b, 1) := by decide +kernel
theorem own_d1_11 : decode prog_21_method_3_code 11 = .ok (.bastore, 1) := by decide +kernel
theorem own_d1_12 : decode prog_21_method_3_code 12 = .ok (.iconst 1, 1) := by decide +kernel
theorem own_d1_13 : decode prog_21_method_3_code 13 = .ok (.ireturn, 1) := by decide +kernel
theorem own_ef1A (m : MethodId) (p0 : Int32) (a1 : Addr) : entryFrame m #[(.int p0), (.ref a1)] 2 = mkF m 0 #[oi p0, oa a1] [] := by first | (simp [entryFrame, mkF, argsToLocals, Value.category]; done) | rfl
def own_Q1A (Z : State) (p0 : Int32) (a1 : Addr) (k_a1 : ClassId) (f : Int32) (h0 : Heap) (n0 : Nat) (v : Option Value) (h : Heap) (L : List Loc) : Prop := v = some (.int (1 : Int32)) ∧ Fr n0 L ∧ Keep h0 h [a1] ∧ Arv Z h a1 k_a1 .byte (5 : Int32) [(.int (p0.toInt8.toInt32)), (.int f), (.int f), (.int f), (.int f)] (.int (0 : Int32))
set_option maxRecDepth 65536 in
set_option maxHeartbeats 40000000 in
theorem own_rm1A (l : Launch) (Z : State) (av : Array Value) (hw : ∀ d ∈ tables_1, d.before av Z = true) (ws : List Jvm.Cond) (p0 : Int32) (a1 : Addr) (k_a1 : ClassId) (f : Int32) (h0 : Heap) (n0 : Nat) (Z0 : n0 ≤ h0.size) (V_a1 : Arv Z h0 a1 k_a1 .byte (5 : Int32) [(.int f), (.int f), (.int f), (.int f), (.int f)] (.int (0 : Int32))) (g_a1 : n0 ≤ a1) (hA : p0 < (128 : Int32)) :
    MetFree l (⟨"com/example/godwit/godwit/link/Utf8", "encode", "(I[B)I"⟩ : MethodName) (head1 (Jvm.Cond.code (⟨"com/example/godwit/godwit/link/Utf8", "encode", "(I[B)I"⟩ : MethodName) prog_21_method_3_code 2 (some .int) :: ws) ({ frames := 0, cells := 0, slots := 0, locals := 0 } : Room)) (fun a U => a = #[(.int p0), (.ref a1)] ∧ Z.Warmed39 U.vm ∧ U.heap = h0) (fun _ _ _ _ _ => True) (fun _ U o U' => ∃ v L, o = .returned v ∧ own_Q1A Z p0 a1 k_a1 f h0 n0 v U'.heap L ∧ FrameEnd U o U' L ({ frames := 0, cells := 0, slots := 0, locals := 0 } : Room).cells ({ frames := 0, cells := 0, slots := 0, locals := 0 } : Room).slots) := by
  refine MetFree.of_bodySF (plainFor_of_name own_pn0) hisR ?_
  intro p e s m args below meth c s₁ Bd hml0 hP hK
  obtain ⟨rfl, hZ, hh⟩ := hP
  have hx := Bd.exec
  have hby := Bd.bytes
  have hml : c.maxLocals = 2 := hml0
  have hown : s.vm.findClass "com/example/godwit/godwit/link/Utf8" = some m.cls := findClass_of_methodNamed Bd.named
  have hnm := (name_of_methodNamed Bd.named Bd.method).1
  have X0 : Stand p l e ({ frames := 0, cells := 0, slots := 0, locals := 0 } : Room) s m #[(.int p0), (.ref a1)] below meth c s₁ [] 0 0 := Stand.of_body Bd
  have e0 : s₁.heap = h0 := by rw [← hh, Bd.state]; rfl
  have N0 := Fr.nil n0
  have pre0 : ∀ t, Steps p.tables e below (s₁.setTop (mkF m 0 #[oi p0, oa a1] [])) t → Steps p.tables e below (s₁.setTop (entryFrame m #[(.int p0), (.ref a1)] 2)) t := fun t k => castTop (own_ef1A m p0 a1) k
  have b1 : p0 < (128 : Int32) := hA
  obtain ⟨T2, h2, X2, e2, W2, V2, st2⟩ := oStB X0 hx hZ e0 V_a1 (j := (0 : Int32)) ⟨by decide, by decide⟩ 0 rfl (Nat.le_of_ble_eq_true rfl) (g := (mkF m 11 #[oi p0, oa a1] [(.int (p0.toInt8.toInt32)), (.int (0 : Int32)), (.ref a1)])) rfl rfl (hb hby own_d1_11)
  rw [own_narb] at V2
  obtain ⟨Lo2, X2, N2⟩ := oOpq X2 (Fr.snoc X2 N0 g_a1)
  have Z2 := Nat.le_trans Z0 (Keep.of_wr W2).1
  have V_3 : Arv Z h2 a1 k_a1 .byte (5 : Int32) [(.int (p0.toInt8.toInt32)), (.int f), (.int f), (.int f), (.int f)] (.int (0 : Int32)) := V2
  have K_4 : Keep h0 h2 [a1] := (Keep.refl h0 [a1]).wr W2 (Or.inl (List.mem_of_getElem? (i := 0) rfl))
  obtain ⟨fs, hr, hrun, hended, hW, hsame⟩ := X2.leave (v := (some (.int (1 : Int32)))) (fun h => by rw [Bd.returns] at h; cases h)
  refine ⟨_, _, pre0 _ ?_, hrun, hended, _, _, rfl, ?_, ⟨_, rfl⟩, hW, hsame.mono (by decide) (by decide)⟩
  · show oS p e below s₁ m 0 #[oi p0, oa a1] [] _
    refine XS.iloadN X0.here hx rfl (hb hby own_d1_0) rfl ?_
    show oS p e below s₁ m 1 #[oi p0, oa a1] [(.int p0)] _
    refine XS.sipush X0.here hx rfl (hb hby own_d1_1) ?_
    show oS p e below s₁ m 4 #[oi p0, oa a1] [(.int (128 : Int32)), (.int p0)] _
    refine XS.icmpNo X0.here hx rfl (hb hby own_d1_4) rfl (tlt b1).2.1 ?_
    show oS p e below s₁ m 7 #[oi p0, oa a1] [] _
    refine XS.aloadN X0.here hx rfl (hb hby own_d1_7) rfl rfl ?_
    show oS p e below s₁ m 8 #[oi p0, oa a1] [(.ref a1)] _
    refine XS.iconst X0.here hx rfl (hb hby own_d1_8) ?_
    show oS p e below s₁ m 9 #[oi p0, oa a1] [(.int (0 : Int32)), (.ref a1)] _
    refine XS.iloadN X0.here hx rfl (hb hby own_d1_9) rfl ?_
    show oS p e below s₁ m 10 #[oi p0, oa a1] [(.int p0), (.int (0 : Int32)), (.ref a1)] _
    refine XS.i2b X0.here hx rfl (hb hby own_d1_10) rfl ?_
    show oS p e below s₁ m 11 #[oi p0, oa a1] [(.int (p0.toInt8.toInt32)), (.int (0 : Int32)), (.ref a1)] _
    refine st2 _ ?_
    show oS p e below T2 m 12 #[oi p0, oa a1] [] _
    refine XS.iconst X2.here hx rfl (hb hby own_d1_12) ?_
    show oS p e below T2 m 13 #[oi p0, oa a1] [(.int (1 : Int32))] _
    exact retOut X2 hx Bd.returns rfl (Or.inl ⟨rfl, Or.inl rfl, _, rfl⟩) (hb hby own_d1_13) hr
  · show own_Q1A Z p0 a1 k_a1 f h0 n0 _ T2.heap _
    rw [e2]
    exact ⟨rfl, N2, K_4, V_3⟩
theorem own_d1_14 : decode prog_21_method_3_code 14 = .ok (.iload_n 0, 1) := by decide +kernel
theorem own_d1_15 : decode prog_21_method_3_code 15 = .ok (.sipush 2048, 3) := by decide +kernel
theorem own_d1_18 : decode prog_21_method_3_code 18 = .ok (.if_icmp .ge 29, 3) := by decide +kernel
theorem own_d1_21 : decode prog_21_method_3_code 21 = .ok (.aload_n 1, 1) := by decide +kernel
theorem own_d1_22 : decode prog_21_method_3_code 22 = .ok (.iconst 0, 1) := by decide +kernel
theorem own_d1_23 : decode prog_21_method_3_code 23 = .ok (.sipush 192, 3) := by decide +kernel
theorem own_d1_26 : decode prog_21_method_3_code 26 = .ok (.iload_n 0, 1) := by decide +kernel
theorem own_d1_27 : decode prog_21_method_3_code 27 = .ok (.bipush 6, 2) := by decide +kernel
theorem own_d1_29 : decode prog_21_method_3_code 29 = .ok (.ishr, 1) := by decide +kernel
theorem own_d1_30 : decode prog_21_method_3_code 30 = .ok (.ior, 1) := by decide +kernel
theorem own_d1_31 : decode prog_21_method_3_code 31 = .ok (.i2b, 1) := by decide +kernel
theorem own_d1_32 : decode prog_21_method_3_code 32 = .ok (.bastore, 1) := by decide +kernel
theorem own_d1_33 : decode prog_21_method_3_code 33 = .ok (.aload_n 1, 1) := by decide +kernel
theorem own_d1_34 : decode prog_21_method_3_code 34 = .ok (.iconst 1, 1) := by decide +kernel
theorem own_d1_35 : decode prog_21_method_3_code 35 = .ok (.sipush 128, 3) := by decide +kernel
theorem own_d1_38 : decode prog_21_method_3_code 38 = .ok (.iload_n 0, 1) := by decide +kernel
theorem own_d1_39 : decode prog_21_method_3_code 39 = .ok (.bipush 63, 2) := by decide +kernel
theorem own_d1_41 : decode prog_21_method_3_code 41 = .ok (.iand, 1) := by decide +kernel
theorem own_d1_42 : decode prog_21_method_3_code 42 = .ok (.ior, 1) := by decide +kernel
theorem own_d1_43 : decode prog_21_method_3_code 43 = .ok (.i2b, 1) := by decide +kernel
theorem own_d1_44 : decode prog_21_method_3_code 44 = .ok (.bastore, 1) := by decide +kernel
theorem own_d1_45 : decode prog_21_method_3_code 45 = .ok (.iconst 2, 1) := by decide +kernel
theorem own_d1_46 : decode prog_21_method_3_code 46 = .ok (.ireturn, 1) := by decide +kernel
theorem own_ef1B (m : MethodId) (p0 : Int32) (a1 : Addr) : entryFrame m #[(.int p0), (.ref a1)] 2 = mkF m 0 #[oi p0, oa a1] [] := by first | (simp [entryFrame, mkF, argsToLocals, Value.category]; done) | rfl
def own_Q1B (Z : State) (p0 : Int32) (a1 : Addr) (k_a1 : ClassId) (f : Int32) (h0 : Heap) (n0 : Nat) (v : Option Value) (h : Heap) (L : List Loc) : Prop := v = some (.int (2 : Int32)) ∧ Fr n0 L ∧ Keep h0 h [a1] ∧ Arv Z h a1 k_a1 .byte (5 : Int32) [(.int (((192 : Int32) ||| (p0 >>> ((6 : Int32) &&& 31))).toInt8.toInt32)), (.int (((128 : Int32) ||| (p0 &&& (63 : Int32))).toInt8.toInt32)), (.int f), (.int f), (.int f)] (.int (0 : Int32))
set_option maxRecDepth 65536 in
set_option maxHeartbeats 40000000 in
theorem own_rm1B (l : Launch) (Z : State) (av : Array Value) (hw : ∀ d ∈ tables_1, d.before av Z = true) (ws : List Jvm.Cond) (p0 : Int32) (a1 : Addr) (k_a1 : ClassId) (f : Int32) (h0 : Heap) (n0 : Nat) (Z0 : n0 ≤ h0.size) (V_a1 : Arv Z h0 a1 k_a1 .byte (5 : Int32) [(.int f), (.int f), (.int f), (.int f), (.int f)] (.int (0 : Int32))) (g_a1 : n0 ≤ a1) (hA : ¬ (p0 < (128 : Int32))) (hB : p0 < (2048 : Int32)) :
    MetFree l (⟨"com/example/godwit/godwit/link/Utf8", "encode", "(I[B)I"⟩ : MethodName) (head1 (Jvm.Cond.code (⟨"com/example/godwit/godwit/link/Utf8", "encode", "(I[B)I"⟩ : MethodName) prog_21_method_3_code 2 (some .int) :: ws) ({ frames := 0, cells := 0, slots := 0, locals := 0 } : Room)) (fun a U => a = #[(.int p0), (.ref a1)] ∧ Z.Warmed39 U.vm ∧ U.heap = h0) (fun _ _ _ _ _ => True) (fun _ U o U' => ∃ v L, o = .returned v ∧ own_Q1B Z p0 a1 k_a1 f h0 n0 v U'.heap L ∧ FrameEnd U o U' L ({ frames := 0, cells := 0, slots := 0, locals := 0 } : Room).cells ({ frames := 0, cells := 0, slots := 0, locals := 0 } : Room).slots) := by
  refine MetFree.of_bodySF (plainFor_of_name own_pn0) hisR ?_
  intro p e s m args below meth c s₁ Bd hml0 hP hK
  obtain ⟨rfl, hZ, hh⟩ := hP
  have hx := Bd.exec
  have hby := Bd.bytes
  have hml : c.maxLocals = 2 := hml0
  have hown : s.vm.findClass "com/example/godwit/godwit/link/Utf8" = some m.cls := findClass_of_methodNamed Bd.named
  have hnm := (name_of_methodNamed Bd.named Bd.method).1
  have X0 : Stand p l e ({ frames := 0, cells := 0, slots := 0, locals := 0 } : Room) s m #[(.int p0), (.ref a1)] below meth c s₁ [] 0 0 := Stand.of_body Bd
  have e0 : s₁.heap = h0 := by rw [← hh, Bd.state]; rfl
  have N0 := Fr.nil n0
  have pre0 : ∀ t, Steps p.tables e below (s₁.setTop (mkF m 0 #[oi p0, oa a1] [])) t → Steps p.tables e below (s₁.setTop (entryFrame m #[(.int p0), (.ref a1)] 2)) t := fun t k => castTop (own_ef1B m p0 a1) k
  have b1 : ¬ (p0 < (128 : Int32)) := hA
  have b2 : p0 < (2048 : Int32) := hB
  obtain ⟨T3, h3, X3, e3, W3, V3, st3⟩ := oStB X0 hx hZ e0 V_a1 (j := (0 : Int32)) ⟨by decide, by decide⟩ 0 rfl (Nat.le_of_ble_eq_true rfl) (g := (mkF m 32 #[oi p0, oa a1] [(.int (((192 : Int32) ||| (p0 >>> ((6 : Int32) &&& 31))).toInt8.toInt32)), (.int (0 : Int32)), (.ref a1)])) rfl rfl (hb hby own_d1_32)
  rw [own_narb] at V3
  obtain ⟨Lo3, X3, N3⟩ := oOpq X3 (Fr.snoc X3 N0 g_a1)
  have Z3 := Nat.le_trans Z0 (Keep.of_wr W3).1
  have V_4 : Arv Z h3 a1 k_a1 .byte (5 : Int32) [(.int (((192 : Int32) ||| (p0 >>> ((6 : Int32) &&& 31))).toInt8.toInt32)), (.int f), (.int f), (.int f), (.int f)] (.int (0 : Int32)) := V3
  have K_5 : Keep h0 h3 [a1] := (Keep.refl h0 [a1]).wr W3 (Or.inl (List.mem_of_getElem? (i := 0) rfl))
  obtain ⟨T6, h6, X6, e6, W6, V6, st6⟩ := oStB X3 hx hZ e3 V_4 (j := (1 : Int32)) ⟨by decide, by decide⟩ 1 rfl (Nat.le_of_ble_eq_true rfl) (g := (mkF m 44 #[oi p0, oa a1] [(.int (((128 : Int32) ||| (p0 &&& (63 : Int32))).toInt8.toInt32)), (.int (1 : Int32)), (.ref a1)])) rfl rfl (hb hby own_d1_44)
  rw [own_narb] at V6
  obtain ⟨Lo6, X6, N6⟩ := oOpq X6 (Fr.snoc X6 N3 g_a1)
  have Z6 := Nat.le_trans Z3 (Keep.of_wr W6).1
  have V_7 : Arv Z h6 a1 k_a1 .byte (5 : Int32) [(.int (((192 : Int32) ||| (p0 >>> ((6 : Int32) &&& 31))).toInt8.toInt32)), (.int (((128 : Int32) ||| (p0 &&& (63 : Int32))).toInt8.toInt32)), (.int f), (.int f), (.int f)] (.int (0 : Int32)) := V6
  have K_8 : Keep h0 h6 [a1] := K_5.wr W6 (Or.inl (List.mem_of_getElem? (i := 0) rfl))
  obtain ⟨fs, hr, hrun, hended, hW, hsame⟩ := X6.leave (v := (some (.int (2 : Int32)))) (fun h => by rw [Bd.returns] at h; cases h)
  refine ⟨_, _, pre0 _ ?_, hrun, hended, _, _, rfl, ?_, ⟨_, rfl⟩, hW, hsame.mono (by decide) (by decide)⟩
  · show oS p e below s₁ m 0 #[oi p0, oa a1] [] _
    refine XS.iloadN X0.here hx rfl (hb hby own_d1_0) rfl ?_
    show oS p e below s₁ m 1 #[oi p0, oa a1] [(.int p0)] _
    refine XS.sipush X0.here hx rfl (hb hby own_d1_1) ?_
    show oS p e below s₁ m 4 #[oi p0, oa a1] [(.int (128 : Int32)), (.int p0)] _
    refine XS.icmpYes X0.here hx rfl (pc0 := 4) (pc' := 14) rfl (hb hby own_d1_4) rfl (flt b1).2.1 (by decide) (by decide) ?_
    show oS p e below s₁ m 14 #[oi p0, oa a1] [] _
    refine XS.iloadN X0.here hx rfl (hb hby own_d1_14) rfl ?_
    show oS p e below s₁ m 15 #[oi p0, oa a1] [(.int p0)] _
    refine XS.sipush X0.here hx rfl (hb hby own_d1_15) ?_
    show oS p e below s₁ m 18 #[oi p0, oa a1] [(.int (2048 : Int32)), (.int p0)] _
    refine XS.icmpNo X0.here hx rfl (hb hby own_d1_18) rfl (tlt b2).2.1 ?_
    show oS p e below s₁ m 21 #[oi p0, oa a1] [] _
    refine XS.aloadN X0.here hx rfl (hb hby own_d1_21) rfl rfl ?_
    show oS p e below s₁ m 22 #[oi p0, oa a1] [(.ref a1)] _
    refine XS.iconst X0.here hx rfl (hb hby own_d1_22) ?_
    show oS p e below s₁ m 23 #[oi p0, oa a1] [(.int (0 : Int32)), (.ref a1)] _
    refine XS.sipush X0.here hx rfl (hb hby own_d1_23) ?_
    show oS p e below s₁ m 26 #[oi p0, oa a1] [(.int (192 : Int32)), (.int (0 : Int32)), (.ref a1)] _
    refine XS.iloadN X0.here hx rfl (hb hby own_d1_26) rfl ?_
    show oS p e below s₁ m 27 #[oi p0, oa a1] [(.int p0), (.int (192 : Int32)), (.int (0 : Int32)), (.ref a1)] _
    refine XS.bipush X0.here hx rfl (hb hby own_d1_27) ?_
    show oS p e below s₁ m 29 #[oi p0, oa a1] [(.int (6 : Int32)), (.int p0), (.int (192 : Int32)), (.int (0 : Int32)), (.ref a1)] _
    refine XS.ishr X0.here hx rfl (hb hby own_d1_29) rfl ?_
    show oS p e below s₁ m 30 #[oi p0, oa a1] [(.int (p0 >>> ((6 : Int32) &&& 31))), (.int (192 : Int32)), (.int (0 : Int32)), (.ref a1)] _
    refine XS.ior X0.here hx rfl (hb hby own_d1_30) rfl ?_
    show oS p e below s₁ m 31 #[oi p0, oa a1] [(.int ((192 : Int32) ||| (p0 >>> ((6 : Int32) &&& 31)))), (.int (0 : Int32)), (.ref a1)] _
    refine XS.i2b X0.here hx rfl (hb hby own_d1_31) rfl ?_
    show oS p e below s₁ m 32 #[oi p0, oa a1] [(.int (((192 : Int32) ||| (p0 >>> ((6 : Int32) &&& 31))).toInt8.toInt32)), (.int (0 : Int32)), (.ref a1)] _
    refine st3 _ ?_
    show oS p e below T3 m 33 #[oi p0, oa a1] [] _
    refine XS.aloadN X3.here hx rfl (hb hby own_d1_33) rfl rfl ?_
    show oS p e below T3 m 34 #[oi p0, oa a1] [(.ref a1)] _
    refine XS.iconst X3.here hx rfl (hb hby own_d1_34) ?_
    show oS p e below T3 m 35 #[oi p0, oa a1] [(.int (1 : Int32)), (.ref a1)] _
    refine XS.sipush X3.here hx rfl (hb hby own_d1_35) ?_
    show oS p e below T3 m 38 #[oi p0, oa a1] [(.int (128 : Int32)), (.int (1 : Int32)), (.ref a1)] _
    refine XS.iloadN X3.here hx rfl (hb hby own_d1_38) rfl ?_
    show oS p e below T3 m 39 #[oi p0, oa a1] [(.int p0), (.int (128 : Int32)), (.int (1 : Int32)), (.ref a1)] _
    refine XS.bipush X3.here hx rfl (hb hby own_d1_39) ?_
    show oS p e below T3 m 41 #[oi p0, oa a1] [(.int (63 : Int32)), (.int p0), (.int (128 : Int32)), (.int (1 : Int32)), (.ref a1)] _
    refine XS.iand X3.here hx rfl (hb hby own_d1_41) rfl ?_
    show oS p e below T3 m 42 #[oi p0, oa a1] [(.int (p0 &&& (63 : Int32))), (.int (128 : Int32)), (.int (1 : Int32)), (.ref a1)] _
    refine XS.ior X3.here hx rfl (hb hby own_d1_42) rfl ?_
    show oS p e below T3 m 43 #[oi p0, oa a1] [(.int ((128 : Int32) ||| (p0 &&& (63 : Int32)))), (.int (1 : Int32)), (.ref a1)] _
    refine XS.i2b X3.here hx rfl (hb hby own_d1_43) rfl ?_
    show oS p e below T3 m 44 #[oi p0, oa a1] [(.int (((128 : Int32) ||| (p0 &&& (63 : Int32))).toInt8.toInt32)), (.int (1 : Int32)), (.ref a1)] _
    refine st6 _ ?_
    show oS p e below T6 m 45 #[oi p0, oa a1] [] _
    refine XS.iconst X6.here hx rfl (hb hby own_d1_45) ?_
    show oS p e below T6 m 46 #[oi p0, oa a1] [(.int (2 : Int32))] _
    exact retOut X6 hx Bd.returns rfl (Or.inl ⟨rfl, Or.inl rfl, _, rfl⟩) (hb hby own_d1_46) hr
  · show own_Q1B Z p0 a1 k_a1 f h0 n0 _ T6.heap _
    rw [e6]
    exact ⟨rfl, N6, K_8, V_7⟩
theorem own_d1_47 : decode prog_21_method_3_code 47 = .ok (.iload_n 0, 1) := by decide +kernel
theorem own_d1_48 : decode prog_21_method_3_code 48 = .ok (.ldc 29, 2) := by decide +kernel
theorem own_d1_50 : decode prog_21_method_3_code 50 = .ok (.if_icmp .ge 44, 3) := by decide +kernel
theorem own_d1_53 : decode prog_21_method_3_code 53 = .ok (.aload_n 1, 1) := by decide +kernel
theorem own_d1_54 : decode prog_21_method_3_code 54 = .ok (.iconst 0, 1) := by decide +kernel
theorem own_d1_55 : decode prog_21_method_3_code 55 = .ok (.sipush 224, 3) := by decide +kernel
theorem own_d1_58 : decode prog_21_method_3_code 58 = .ok (.iload_n 0, 1) := by decide +kernel
theorem own_d1_59 : decode prog_21_method_3_code 59 = .ok (.bipush 12, 2) := by decide +kernel
theorem own_d1_61 : decode prog_21_method_3_code 61 = .ok (.ishr, 1) := by decide +kernel
theorem own_d1_62 : decode prog_21_method_3_code 62 = .ok (.ior, 1) := by decide +kernel
theorem own_d1_63 : decode prog_21_method_3_code 63 = .ok (.i2b, 1) := by decide +kernel
theorem own_d1_64 : decode prog_21_method_3_code 64 = .ok (.bastore, 1) := by decide +kernel
theorem own_d1_65 : decode prog_21_method_3_code 65 = .ok (.aload_n 1, 1) := by decide +kernel
theorem own_d1_66 : decode prog_21_method_3_code 66 = .ok (.iconst 1, 1) := by decide +kernel
theorem own_d1_67 : decode prog_21_method_3_code 67 = .ok (.sipush 128, 3) := by decide +kernel
theorem own_d1_70 : decode prog_21_method_3_code 70 = .ok (.iload_n 0, 1) := by decide +kernel
theorem own_d1_71 : decode prog_21_method_3_code 71 = .ok (.bipush 6, 2) := by decide +kernel
theorem own_d1_73 : decode prog_21_method_3_code 73 = .ok (.ishr, 1) := by decide +kernel
theorem own_d1_74 : decode prog_21_method_3_code 74 = .ok (.bipush 63, 2) := by decide +kernel
theorem own_d1_76 : decode prog_21_method_3_code 76 = .ok (.iand, 1) := by decide +kernel
theorem own_d1_77 : decode prog_21_method_3_code 77 = .ok (.ior, 1) := by decide +kernel
theorem own_d1_78 : decode prog_21_method_3_code 78 = .ok (.i2b, 1) := by decide +kernel
theorem own_d1_79 : decode prog_21_method_3_code 79 = .ok (.bastore, 1) := by decide +kernel
theorem own_d1_80 : decode prog_21_method_3_code 80 = .ok (.aload_n 1, 1) := by decide +kernel
theorem own_d1_81 : decode prog_21_method_3_code 81 = .ok (.iconst 2, 1) := by decide +kernel
theorem own_d1_82 : decode prog_21_method_3_code 82 = .ok (.sipush 128, 3) := by decide +kernel
theorem own_d1_85 : decode prog_21_method_3_code 85 = .ok (.iload_n 0, 1) := by decide +kernel
theorem own_d1_86 : decode prog_21_method_3_code 86 = .ok (.bipush 63, 2) := by decide +kernel
theorem own_d1_88 : decode prog_21_method_3_code 88 = .ok (.iand, 1) := by decide +kernel
theorem own_d1_89 : decode prog_21_method_3_code 89 = .ok (.ior, 1) := by decide +kernel
theorem own_d1_90 : decode prog_21_method_3_code 90 = .ok (.i2b, 1) := by decide +kernel
theorem own_d1_91 : decode prog_21_method_3_code 91 = .ok (.bastore, 1) := by decide +kernel
theorem own_d1_92 : decode prog_21_method_3_code 92 = .ok (.iconst 3, 1) := by decide +kernel
theorem own_d1_93 : decode prog_21_method_3_code 93 = .ok (.ireturn, 1) := by decide +kernel
theorem own_ef1C (m : MethodId) (p0 : Int32) (a1 : Addr) : entryFrame m #[(.int p0), (.ref a1)] 2 = mkF m 0 #[oi p0, oa a1] [] := by first | (simp [entryFrame, mkF, argsToLocals, Value.category]; done) | rfl
def own_Q1C (Z : State) (p0 : Int32) (a1 : Addr) (k_a1 : ClassId) (f : Int32) (h0 : Heap) (n0 : Nat) (v : Option Value) (h : Heap) (L : List Loc) : Prop := v = some (.int (3 : Int32)) ∧ Fr n0 L ∧ Keep h0 h [a1] ∧ Arv Z h a1 k_a1 .byte (5 : Int32) [(.int (((224 : Int32) ||| (p0 >>> ((12 : Int32) &&& 31))).toInt8.toInt32)), (.int (((128 : Int32) ||| ((p0 >>> ((6 : Int32) &&& 31)) &&& (63 : Int32))).toInt8.toInt32)), (.int (((128 : Int32) ||| (p0 &&& (63 : Int32))).toInt8.toInt32)), (.int f), (.int f)] (.int (0 : Int32))
set_option maxRecDepth 65536 in
set_option maxHeartbeats 40000000 in
theorem own_rm1C (l : Launch) (Z : State) (av : Array Value) (hw : ∀ d ∈ tables_1, d.before av Z = true) (ws : List Jvm.Cond) (p0 : Int32) (a1 : Addr) (k_a1 : ClassId) (f : Int32) (h0 : Heap) (n0 : Nat) (Z0 : n0 ≤ h0.size) (V_a1 : Arv Z h0 a1 k_a1 .byte (5 : Int32) [(.int f), (.int f), (.int f), (.int f), (.int f)] (.int (0 : Int32))) (g_a1 : n0 ≤ a1) (hA : ¬ (p0 < (128 : Int32))) (hB : ¬ (p0 < (2048 : Int32))) (hC : p0 < (65536 : Int32)) :
    MetFree l (⟨"com/example/godwit/godwit/link/Utf8", "encode", "(I[B)I"⟩ : MethodName) (head1 (Jvm.Cond.code (⟨"com/example/godwit/godwit/link/Utf8", "encode", "(I[B)I"⟩ : MethodName) prog_21_method_3_code 2 (some .int) :: ws) ({ frames := 0, cells := 0, slots := 0, locals := 0 } : Room)) (fun a U => a = #[(.int p0), (.ref a1)] ∧ Z.Warmed39 U.vm ∧ U.heap = h0) (fun _ _ _ _ _ => True) (fun _ U o U' => ∃ v L, o = .returned v ∧ own_Q1C Z p0 a1 k_a1 f h0 n0 v U'.heap L ∧ FrameEnd U o U' L ({ frames := 0, cells := 0, slots := 0, locals := 0 } : Room).cells ({ frames := 0, cells := 0, slots := 0, locals := 0 } : Room).slots) := by
  refine MetFree.of_bodySF (plainFor_of_name own_pn0) hisR ?_
  intro p e s m args below meth c s₁ Bd hml0 hP hK
  obtain ⟨rfl, hZ, hh⟩ := hP
  have hx := Bd.exec
  have hby := Bd.bytes
  have hml : c.maxLocals = 2 := hml0
  have hown : s.vm.findClass "com/example/godwit/godwit/link/Utf8" = some m.cls := findClass_of_methodNamed Bd.named
  have hnm := (name_of_methodNamed Bd.named Bd.method).1
  have X0 : Stand p l e ({ frames := 0, cells := 0, slots := 0, locals := 0 } : Room) s m #[(.int p0), (.ref a1)] below meth c s₁ [] 0 0 := Stand.of_body Bd
  have e0 : s₁.heap = h0 := by rw [← hh, Bd.state]; rfl
  have N0 := Fr.nil n0
  have pre0 : ∀ t, Steps p.tables e below (s₁.setTop (mkF m 0 #[oi p0, oa a1] [])) t → Steps p.tables e below (s₁.setTop (entryFrame m #[(.int p0), (.ref a1)] 2)) t := fun t k => castTop (own_ef1C m p0 a1) k
  have b1 : ¬ (p0 < (128 : Int32)) := hA
  have b2 : ¬ (p0 < (2048 : Int32)) := hB
  have b3 : p0 < (65536 : Int32) := hC
  obtain ⟨T4, h4, X4, e4, W4, V4, st4⟩ := oStB X0 hx hZ e0 V_a1 (j := (0 : Int32)) ⟨by decide, by decide⟩ 0 rfl (Nat.le_of_ble_eq_true rfl) (g := (mkF m 64 #[oi p0, oa a1] [(.int (((224 : Int32) ||| (p0 >>> ((12 : Int32) &&& 31))).toInt8.toInt32)), (.int (0 : Int32)), (.ref a1)])) rfl rfl (hb hby own_d1_64)
  rw [own_narb] at V4
  obtain ⟨Lo4, X4, N4⟩ := oOpq X4 (Fr.snoc X4 N0 g_a1)
  have Z4 := Nat.le_trans Z0 (Keep.of_wr W4).1
  have V_5 : Arv Z h4 a1 k_a1 .byte (5 : Int32) [(.int (((224 : Int32) ||| (p0 >>> ((12 : Int32) &&& 31))).toInt8.toInt32)), (.int f), (.int f), (.int f), (.int f)] (.int (0 : Int32)) := V4
  have K_6 : Keep h0 h4 [a1] := (Keep.refl h0 [a1]).wr W4 (Or.inl (List.mem_of_getElem? (i := 0) rfl))
  obtain ⟨T7, h7, X7, e7, W7, V7, st7⟩ := oStB X4 hx hZ e4 V_5 (j := (1 : Int32)) ⟨by decide, by decide⟩ 1 rfl (Nat.le_of_ble_eq_true rfl) (g := (mkF m 79 #[oi p0, oa a1] [(.int (((128 : Int32) ||| ((p0 >>> ((6 : Int32) &&& 31)) &&& (63 : Int32))).toInt8.toInt32)), (.int (1 : Int32)), (.ref a1)])) rfl rfl (hb hby own_d1_79)
  rw [own_narb] at V7
  obtain ⟨Lo7, X7, N7⟩ := oOpq X7 (Fr.snoc X7 N4 g_a1)
  have Z7 := Nat.le_trans Z4 (Keep.of_wr W7).1
  have V_8 : Arv Z h7 a1 k_a1 .byte (5 : Int32) [(.int (((224 : Int32) ||| (p0 >>> ((12 : Int32) &&& 31))).toInt8.toInt32)), (.int (((128 : Int32) ||| ((p0 >>> ((6 : Int32) &&& 31)) &&& (63 : Int32))).toInt8.toInt32)), (.int f), (.int f), (.int f)] (.int (0 : Int32)) := V7
  have K_9 : Keep h0 h7 [a1] := K_6.wr W7 (Or.inl (List.mem_of_getElem? (i := 0) rfl))
  obtain ⟨T10, h10, X10, e10, W10, V10, st10⟩ := oStB X7 hx hZ e7 V_8 (j := (2 : Int32)) ⟨by decide, by decide⟩ 2 rfl (Nat.le_of_ble_eq_true rfl) (g := (mkF m 91 #[oi p0, oa a1] [(.int (((128 : Int32) ||| (p0 &&& (63 : Int32))).toInt8.toInt32)), (.int (2 : Int32)), (.ref a1)])) rfl rfl (hb hby own_d1_91)
  rw [own_narb] at V10
  obtain ⟨Lo10, X10, N10⟩ := oOpq X10 (Fr.snoc X10 N7 g_a1)
  have Z10 := Nat.le_trans Z7 (Keep.of_wr W10).1
  have V_11 : Arv Z h10 a1 k_a1 .byte (5 : Int32) [(.int (((224 : Int32) ||| (p0 >>> ((12 : Int32) &&& 31))).toInt8.toInt32)), (.int (((128 : Int32) ||| ((p0 >>> ((6 : Int32) &&& 31)) &&& (63 : Int32))).toInt8.toInt32)), (.int (((128 : Int32) ||| (p0 &&& (63 : Int32))).toInt8.toInt32)), (.int f), (.int f)] (.int (0 : Int32)) := V10
  have K_12 : Keep h0 h10 [a1] := K_9.wr W10 (Or.inl (List.mem_of_getElem? (i := 0) rfl))
  obtain ⟨fs, hr, hrun, hended, hW, hsame⟩ := X10.leave (v := (some (.int (3 : Int32)))) (fun h => by rw [Bd.returns] at h; cases h)
  refine ⟨_, _, pre0 _ ?_, hrun, hended, _, _, rfl, ?_, ⟨_, rfl⟩, hW, hsame.mono (by decide) (by decide)⟩
  · show oS p e below s₁ m 0 #[oi p0, oa a1] [] _
    refine XS.iloadN X0.here hx rfl (hb hby own_d1_0) rfl ?_
    show oS p e below s₁ m 1 #[oi p0, oa a1] [(.int p0)] _
    refine XS.sipush X0.here hx rfl (hb hby own_d1_1) ?_
    show oS p e below s₁ m 4 #[oi p0, oa a1] [(.int (128 : Int32)), (.int p0)] _
    refine XS.icmpYes X0.here hx rfl (pc0 := 4) (pc' := 14) rfl (hb hby own_d1_4) rfl (flt b1).2.1 (by decide) (by decide) ?_
    show oS p e below s₁ m 14 #[oi p0, oa a1] [] _
    refine XS.iloadN X0.here hx rfl (hb hby own_d1_14) rfl ?_
    show oS p e below s₁ m 15 #[oi p0, oa a1] [(.int p0)] _
    refine XS.sipush X0.here hx rfl (hb hby own_d1_15) ?_
    show oS p e below s₁ m 18 #[oi p0, oa a1] [(.int (2048 : Int32)), (.int p0)] _
    refine XS.icmpYes X0.here hx rfl (pc0 := 18) (pc' := 47) rfl (hb hby own_d1_18) rfl (flt b2).2.1 (by decide) (by decide) ?_
    show oS p e below s₁ m 47 #[oi p0, oa a1] [] _
    refine XS.iloadN X0.here hx rfl (hb hby own_d1_47) rfl ?_
    show oS p e below s₁ m 48 #[oi p0, oa a1] [(.int p0)] _
    refine X0.ldcInt hx hown (mvT hZ (hw _ (List.mem_of_getElem? (i := 9) rfl))) (g := (mkF m 48 #[oi p0, oa a1] [(.int p0)])) rfl (hb hby own_d1_48) _ ?_
    show oS p e below s₁ m 50 #[oi p0, oa a1] [(.int (65536 : Int32)), (.int p0)] _
    refine XS.icmpNo X0.here hx rfl (hb hby own_d1_50) rfl (tlt b3).2.1 ?_
    show oS p e below s₁ m 53 #[oi p0, oa a1] [] _
    refine XS.aloadN X0.here hx rfl (hb hby own_d1_53) rfl rfl ?_
    show oS p e below s₁ m 54 #[oi p0, oa a1] [(.ref a1)] _
    refine XS.iconst X0.here hx rfl (hb hby own_d1_54) ?_
    show oS p e below s₁ m 55 #[oi p0, oa a1] [(.int (0 : Int32)), (.ref a1)] _
    refine XS.sipush X0.here hx rfl (hb hby own_d1_55) ?_
    show oS p e below s₁ m 58 #[oi p0, oa a1] [(.int (224 : Int32)), (.int (0 : Int32)), (.ref a1)] _
    refine XS.iloadN X0.here hx rfl (hb hby own_d1_58) rfl ?_
    show oS p e below s₁ m 59 #[oi p0, oa a1] [(.int p0), (.int (224 : Int32)), (.int (0 : Int32)), (.ref a1)] _
    refine XS.bipush X0.here hx rfl (hb hby own_d1_59) ?_
    show oS p e below s₁ m 61 #[oi p0, oa a1] [(.int (12 : Int32)), (.int p0), (.int (224 : Int32)), (.int (0 : Int32)), (.ref a1)] _
    refine XS.ishr X0.here hx rfl (hb hby own_d1_61) rfl ?_
    show oS p e below s₁ m 62 #[oi p0, oa a1] [(.int (p0 >>> ((12 : Int32) &&& 31))), (.int (224 : Int32)), (.int (0 : Int32)), (.ref a1)] _
    refine XS.ior X0.here hx rfl (hb hby own_d1_62) rfl ?_
    show oS p e below s₁ m 63 #[oi p0, oa a1] [(.int ((224 : Int32) ||| (p0 >>> ((12 : Int32) &&& 31)))), (.int (0 : Int32)), (.ref a1)] _
    refine XS.i2b X0.here hx rfl (hb hby own_d1_63) rfl ?_
    show oS p e below s₁ m 64 #[oi p0, oa a1] [(.int (((224 : Int32) ||| (p0 >>> ((12 : Int32) &&& 31))).toInt8.toInt32)), (.int (0 : Int32)), (.ref a1)] _
    refine st4 _ ?_
    show oS p e below T4 m 65 #[oi p0, oa a1] [] _
    refine XS.aloadN X4.here hx rfl (hb hby own_d1_65) rfl rfl ?_
    show oS p e below T4 m 66 #[oi p0, oa a1] [(.ref a1)] _
    refine XS.iconst X4.here hx rfl (hb hby own_d1_66) ?_
    show oS p e below T4 m 67 #[oi p0, oa a1] [(.int (1 : Int32)), (.ref a1)] _
    refine XS.sipush X4.here hx rfl (hb hby own_d1_67) ?_
    show oS p e below T4 m 70 #[oi p0, oa a1] [(.int (128 : Int32)), (.int (1 : Int32)), (.ref a1)] _
    refine XS.iloadN X4.here hx rfl (hb hby own_d1_70) rfl ?_
    show oS p e below T4 m 71 #[oi p0, oa a1] [(.int p0), (.int (128 : Int32)), (.int (1 : Int32)), (.ref a1)] _
    refine XS.bipush X4.here hx rfl (hb hby own_d1_71) ?_
    show oS p e below T4 m 73 #[oi p0, oa a1] [(.int (6 : Int32)), (.int p0), (.int (128 : Int32)), (.int (1 : Int32)), (.ref a1)] _
    refine XS.ishr X4.here hx rfl (hb hby own_d1_73) rfl ?_
    show oS p e below T4 m 74 #[oi p0, oa a1] [(.int (p0 >>> ((6 : Int32) &&& 31))), (.int (128 : Int32)), (.int (1 : Int32)), (.ref a1)] _
    refine XS.bipush X4.here hx rfl (hb hby own_d1_74) ?_
    show oS p e below T4 m 76 #[oi p0, oa a1] [(.int (63 : Int32)), (.int (p0 >>> ((6 : Int32) &&& 31))), (.int (128 : Int32)), (.int (1 : Int32)), (.ref a1)] _
    refine XS.iand X4.here hx rfl (hb hby own_d1_76) rfl ?_
    show oS p e below T4 m 77 #[oi p0, oa a1] [(.int ((p0 >>> ((6 : Int32) &&& 31)) &&& (63 : Int32))), (.int (128 : Int32)), (.int (1 : Int32)), (.ref a1)] _
    refine XS.ior X4.here hx rfl (hb hby own_d1_77) rfl ?_
    show oS p e below T4 m 78 #[oi p0, oa a1] [(.int ((128 : Int32) ||| ((p0 >>> ((6 : Int32) &&& 31)) &&& (63 : Int32)))), (.int (1 : Int32)), (.ref a1)] _
    refine XS.i2b X4.here hx rfl (hb hby own_d1_78) rfl ?_
    show oS p e below T4 m 79 #[oi p0, oa a1] [(.int (((128 : Int32) ||| ((p0 >>> ((6 : Int32) &&& 31)) &&& (63 : Int32))).toInt8.toInt32)), (.int (1 : Int32)), (.ref a1)] _
    refine st7 _ ?_
    show oS p e below T7 m 80 #[oi p0, oa a1] [] _
    refine XS.aloadN X7.here hx rfl (hb hby own_d1_80) rfl rfl ?_
    show oS p e below T7 m 81 #[oi p0, oa a1] [(.ref a1)] _
    refine XS.iconst X7.here hx rfl (hb hby own_d1_81) ?_
    show oS p e below T7 m 82 #[oi p0, oa a1] [(.int (2 : Int32)), (.ref a1)] _
    refine XS.sipush X7.here hx rfl (hb hby own_d1_82) ?_
    show oS p e below T7 m 85 #[oi p0, oa a1] [(.int (128 : Int32)), (.int (2 : Int32)), (.ref a1)] _
    refine XS.iloadN X7.here hx rfl (hb hby own_d1_85) rfl ?_
    show oS p e below T7 m 86 #[oi p0, oa a1] [(.int p0), (.int (128 : Int32)), (.int (2 : Int32)), (.ref a1)] _
    refine XS.bipush X7.here hx rfl (hb hby own_d1_86) ?_
    show oS p e below T7 m 88 #[oi p0, oa a1] [(.int (63 : Int32)), (.int p0), (.int (128 : Int32)), (.int (2 : Int32)), (.ref a1)] _
    refine XS.iand X7.here hx rfl (hb hby own_d1_88) rfl ?_
    show oS p e below T7 m 89 #[oi p0, oa a1] [(.int (p0 &&& (63 : Int32))), (.int (128 : Int32)), (.int (2 : Int32)), (.ref a1)] _
    refine XS.ior X7.here hx rfl (hb hby own_d1_89) rfl ?_
    show oS p e below T7 m 90 #[oi p0, oa a1] [(.int ((128 : Int32) ||| (p0 &&& (63 : Int32)))), (.int (2 : Int32)), (.ref a1)] _
    refine XS.i2b X7.here hx rfl (hb hby own_d1_90) rfl ?_
    show oS p e below T7 m 91 #[oi p0, oa a1] [(.int (((128 : Int32) ||| (p0 &&& (63 : Int32))).toInt8.toInt32)), (.int (2 : Int32)), (.ref a1)] _
    refine st10 _ ?_
    show oS p e below T10 m 92 #[oi p0, oa a1] [] _
    refine XS.iconst X10.here hx rfl (hb hby own_d1_92) ?_
    show oS p e below T10 m 93 #[oi p0, oa a1] [(.int (3 : Int32))] _
    exact retOut X10 hx Bd.returns rfl (Or.inl ⟨rfl, Or.inl rfl, _, rfl⟩) (hb hby own_d1_93) hr
  · show own_Q1C Z p0 a1 k_a1 f h0 n0 _ T10.heap _
    rw [e10]
    exact ⟨rfl, N10, K_12, V_11⟩
theorem own_d1_94 : decode prog_21_method_3_code 94 = .ok (.aload_n 1, 1) := by decide +kernel
theorem own_d1_95 : decode prog_21_method_3_code 95 = .ok (.iconst 0, 1) := by decide +kernel
theorem own_d1_96 : decode prog_21_method_3_code 96 = .ok (.sipush 240, 3) := by decide +kernel
theorem own_d1_99 : decode prog_21_method_3_code 99 = .ok (.iload_n 0, 1) := by decide +kernel
theorem own_d1_100 : decode prog_21_method_3_code 100 = .ok (.bipush 18, 2) := by decide +kernel
theorem own_d1_102 : decode prog_21_method_3_code 102 = .ok (.ishr, 1) := by decide +kernel
theorem own_d1_103 : decode prog_21_method_3_code 103 = .ok (.ior, 1) := by decide +kernel
theorem own_d1_104 : decode prog_21_method_3_code 104 = .ok (.i2b, 1) := by decide +kernel
theorem own_d1_105 : decode prog_21_method_3_code 105 = .ok (.bastore, 1) := by decide +kernel
theorem own_d1_106 : decode prog_21_method_3_code 106 = .ok (.aload_n 1, 1) := by decide +kernel
theorem own_d1_107 : decode prog_21_method_3_code 107 = .ok (.iconst 1, 1) := by decide +kernel
theorem own_d1_108 : decode prog_21_method_3_code 108 = .ok (.sipush 128, 3) := by decide +kernel
theorem own_d1_111 : decode prog_21_method_3_code 111 = .ok (.iload_n 0, 1) := by decide +kernel
theorem own_d1_112 : decode prog_21_method_3_code 112 = .ok (.bipush 12, 2) := by decide +kernel
theorem own_d1_114 : decode prog_21_method_3_code 114 = .ok (.ishr, 1) := by decide +kernel
theorem own_d1_115 : decode prog_21_method_3_code 115 = .ok (.bipush 63, 2) := by decide +kernel
theorem own_d1_117 : decode prog_21_method_3_code 117 = .ok (.iand, 1) := by decide +kernel
theorem own_d1_118 : decode prog_21_method_3_code 118 = .ok (.ior, 1) := by decide +kernel
theorem own_d1_119 : decode prog_21_method_3_code 119 = .ok (.i2b, 1) := by decide +kernel
theorem own_d1_120 : decode prog_21_method_3_code 120 = .ok (.bastore, 1) := by decide +kernel
theorem own_d1_121 : decode prog_21_method_3_code 121 = .ok (.aload_n 1, 1) := by decide +kernel
theorem own_d1_122 : decode prog_21_method_3_code 122 = .ok (.iconst 2, 1) := by decide +kernel
theorem own_d1_123 : decode prog_21_method_3_code 123 = .ok (.sipush 128, 3) := by decide +kernel
theorem own_d1_126 : decode prog_21_method_3_code 126 = .ok (.iload_n 0, 1) := by decide +kernel
theorem own_d1_127 : decode prog_21_method_3_code 127 = .ok (.bipush 6, 2) := by decide +kernel
theorem own_d1_129 : decode prog_21_method_3_code 129 = .ok (.ishr, 1) := by decide +kernel
theorem own_d1_130 : decode prog_21_method_3_code 130 = .ok (.bipush 63, 2) := by decide +kernel
theorem own_d1_132 : decode prog_21_method_3_code 132 = .ok (.iand, 1) := by decide +kernel
theorem own_d1_133 : decode prog_21_method_3_code 133 = .ok (.ior, 1) := by decide +kernel
theorem own_d1_134 : decode prog_21_method_3_code 134 = .ok (.i2b, 1) := by decide +kernel
theorem own_d1_135 : decode prog_21_method_3_code 135 = .ok (.bastore, 1) := by decide +kernel
theorem own_d1_136 : decode prog_21_method_3_code 136 = .ok (.aload_n 1, 1) := by decide +kernel
theorem own_d1_137 : decode prog_21_method_3_code 137 = .ok (.iconst 3, 1) := by decide +kernel
theorem own_d1_138 : decode prog_21_method_3_code 138 = .ok (.sipush 128, 3) := by decide +kernel
theorem own_d1_141 : decode prog_21_method_3_code 141 = .ok (.iload_n 0, 1) := by decide +kernel
theorem own_d1_142 : decode prog_21_method_3_code 142 = .ok (.bipush 63, 2) := by decide +kernel
theorem own_d1_144 : decode prog_21_method_3_code 144 = .ok (.iand, 1) := by decide +kernel
theorem own_d1_145 : decode prog_21_method_3_code 145 = .ok (.ior, 1) := by decide +kernel
theorem own_d1_146 : decode prog_21_method_3_code 146 = .ok (.i2b, 1) := by decide +kernel
theorem own_d1_147 : decode prog_21_method_3_code 147 = .ok (.bastore, 1) := by decide +kernel
theorem own_d1_148 : decode prog_21_method_3_code 148 = .ok (.iconst 4, 1) := by decide +kernel
theorem own_d1_149 : decode prog_21_method_3_code 149 = .ok (.ireturn, 1) := by decide +kernel
theorem own_ef1D (m : MethodId) (p0 : Int32) (a1 : Addr) : entryFrame m #[(.int p0), (.ref a1)] 2 = mkF m 0 #[oi p0, oa a1] [] := by first | (simp [entryFrame, mkF, argsToLocals, Value.category]; done) | rfl
def own_Q1D (Z : State) (p0 : Int32) (a1 : Addr) (k_a1 : ClassId) (f : Int32) (h0 : Heap) (n0 : Nat) (v : Option Value) (h : Heap) (L : List Loc) : Prop := v = some (.int (4 : Int32)) ∧ Fr n0 L ∧ Keep h0 h [a1] ∧ Arv Z h a1 k_a1 .byte (5 : Int32) [(.int (((240 : Int32) ||| (p0 >>> ((18 : Int32) &&& 31))).toInt8.toInt32)), (.int (((128 : Int32) ||| ((p0 >>> ((12 : Int32) &&& 31)) &&& (63 : Int32))).toInt8.toInt32)), (.int (((128 : Int32) ||| ((p0 >>> ((6 : Int32) &&& 31)) &&& (63 : Int32))).toInt8.toInt32)), (.int (((128 : Int32) ||| (p0 &&& (63 : Int32))).toInt8.toInt32)), (.int f)] (.int (0 : Int32))
set_option maxRecDepth 65536 in
set_option maxHeartbeats 40000000 in
theorem own_rm1D (l : Launch) (Z : State) (av : Array Value) (hw : ∀ d ∈ tables_1, d.before av Z = true) (ws : List Jvm.Cond) (p0 : Int32) (a1 : Addr) (k_a1 : ClassId) (f : Int32) (h0 : Heap) (n0 : Nat) (Z0 : n0 ≤ h0.size) (V_a1 : Arv Z h0 a1 k_a1 .byte (5 : Int32) [(.int f), (.int f), (.int f), (.int f), (.int f)] (.int (0 : Int32))) (g_a1 : n0 ≤ a1) (hA : ¬ (p0 < (128 : Int32))) (hB : ¬ (p0 < (2048 : Int32))) (hC : ¬ (p0 < (65536 : Int32))) :
    MetFree l (⟨"com/example/godwit/godwit/link/Utf8", "encode", "(I[B)I"⟩ : MethodName) (head1 (Jvm.Cond.code (⟨"com/example/godwit/godwit/link/Utf8", "encode", "(I[B)I"⟩ : MethodName) prog_21_method_3_code 2 (some .int) :: ws) ({ frames := 0, cells := 0, slots := 0, locals := 0 } : Room)) (fun a U => a = #[(.int p0), (.ref a1)] ∧ Z.Warmed39 U.vm ∧ U.heap = h0) (fun _ _ _ _ _ => True) (fun _ U o U' => ∃ v L, o = .returned v ∧ own_Q1D Z p0 a1 k_a1 f h0 n0 v U'.heap L ∧ FrameEnd U o U' L ({ frames := 0, cells := 0, slots := 0, locals := 0 } : Room).cells ({ frames := 0, cells := 0, slots := 0, locals := 0 } : Room).slots) := by
  refine MetFree.of_bodySF (plainFor_of_name own_pn0) hisR ?_
  intro p e s m args below meth c s₁ Bd hml0 hP hK
  obtain ⟨rfl, hZ, hh⟩ := hP
  have hx := Bd.exec
  have hby := Bd.bytes
  have hml : c.maxLocals = 2 := hml0
  have hown : s.vm.findClass "com/example/godwit/godwit/link/Utf8" = some m.cls := findClass_of_methodNamed Bd.named
  have hnm := (name_of_methodNamed Bd.named Bd.method).1
  have X0 : Stand p l e ({ frames := 0, cells := 0, slots := 0, locals := 0 } : Room) s m #[(.int p0), (.ref a1)] below meth c s₁ [] 0 0 := Stand.of_body Bd
  have e0 : s₁.heap = h0 := by rw [← hh, Bd.state]; rfl
  have N0 := Fr.nil n0
  have pre0 : ∀ t, Steps p.tables e below (s₁.setTop (mkF m 0 #[oi p0, oa a1] [])) t → Steps p.tables e below (s₁.setTop (entryFrame m #[(.int p0), (.ref a1)] 2)) t := fun t k => castTop (own_ef1D m p0 a1) k
  have b1 : ¬ (p0 < (128 : Int32)) := hA
  have b2 : ¬ (p0 < (2048 : Int32)) := hB
  have b3 : ¬ (p0 < (65536 : Int32)) := hC
  obtain ⟨T4, h4, X4, e4, W4, V4, st4⟩ := oStB X0 hx hZ e0 V_a1 (j := (0 : Int32)) ⟨by decide, by decide⟩ 0 rfl (Nat.le_of_ble_eq_true rfl) (g := (mkF m 105 #[oi p0, oa a1] [(.int (((240 : Int32) ||| (p0 >>> ((18 : Int32) &&& 31))).toInt8.toInt32)), (.int (0 : Int32)), (.ref a1)])) rfl rfl (hb hby own_d1_105)
  rw [own_narb] at V4
  obtain ⟨Lo4, X4, N4⟩ := oOpq X4 (Fr.snoc X4 N0 g_a1)
  have Z4 := Nat.le_trans Z0 (Keep.of_wr W4).1
  have V_5 : Arv Z h4 a1 k_a1 .byte (5 : Int32) [(.int (((240 : Int32) ||| (p0 >>> ((18 : Int32) &&& 31))).toInt8.toInt32)), (.int f), (.int f), (.int f), (.int f)] (.int (0 : Int32)) := V4
  have K_6 : Keep h0 h4 [a1] := (Keep.refl h0 [a1]).wr W4 (Or.inl (List.mem_of_getElem? (i := 0) rfl))
  obtain ⟨T7, h7, X7, e7, W7, V7, st7⟩ := oStB X4 hx hZ e4 V_5 (j := (1 : Int32)) ⟨by decide, by decide⟩ 1 rfl (Nat.le_of_ble_eq_true rfl) (g := (mkF m 120 #[oi p0, oa a1] [(.int (((128 : Int32) ||| ((p0 >>> ((12 : Int32) &&& 31)) &&& (63 : Int32))).toInt8.toInt32)), (.int (1 : Int32)), (.ref a1)])) rfl rfl (hb hby own_d1_120)
  rw [own_narb] at V7
  obtain ⟨Lo7, X7, N7⟩ := oOpq X7 (Fr.snoc X7 N4 g_a1)
  have Z7 := Nat.le_trans Z4 (Keep.of_wr W7).1
  have V_8 : Arv Z h7 a1 k_a1 .byte (5 : Int32) [(.int (((240 : Int32) ||| (p0 >>> ((18 : Int32) &&& 31))).toInt8.toInt32)), (.int (((128 : Int32) ||| ((p0 >>> ((12 : Int32) &&& 31)) &&& (63 : Int32))).toInt8.toInt32)), (.int f), (.int f), (.int f)] (.int (0 : Int32)) := V7
  have K_9 : Keep h0 h7 [a1] := K_6.wr W7 (Or.inl (List.mem_of_getElem? (i := 0) rfl))
  obtain ⟨T10, h10, X10, e10, W10, V10, st10⟩ := oStB X7 hx hZ e7 V_8 (j := (2 : Int32)) ⟨by decide, by decide⟩ 2 rfl (Nat.le_of_ble_eq_true rfl) (g := (mkF m 135 #[oi p0, oa a1] [(.int (((128 : Int32) ||| ((p0 >>> ((6 : Int32) &&& 31)) &&& (63 : Int32))).toInt8.toInt32)), (.int (2 : Int32)), (.ref a1)])) rfl rfl (hb hby own_d1_135)
  rw [own_narb] at V10
  obtain ⟨Lo10, X10, N10⟩ := oOpq X10 (Fr.snoc X10 N7 g_a1)
  have Z10 := Nat.le_trans Z7 (Keep.of_wr W10).1
  have V_11 : Arv Z h10 a1 k_a1 .byte (5 : Int32) [(.int (((240 : Int32) ||| (p0 >>> ((18 : Int32) &&& 31))).toInt8.toInt32)), (.int (((128 : Int32) ||| ((p0 >>> ((12 : Int32) &&& 31)) &&& (63 : Int32))).toInt8.toInt32)), (.int (((128 : Int32) ||| ((p0 >>> ((6 : Int32) &&& 31)) &&& (63 : Int32))).toInt8.toInt32)), (.int f), (.int f)] (.int (0 : Int32)) := V10
  have K_12 : Keep h0 h10 [a1] := K_9.wr W10 (Or.inl (List.mem_of_getElem? (i := 0) rfl))
  obtain ⟨T13, h13, X13, e13, W13, V13, st13⟩ := oStB X10 hx hZ e10 V_11 (j := (3 : Int32)) ⟨by decide, by decide⟩ 3 rfl (Nat.le_of_ble_eq_true rfl) (g := (mkF m 147 #[oi p0, oa a1] [(.int (((128 : Int32) ||| (p0 &&& (63 : Int32))).toInt8.toInt32)), (.int (3 : Int32)), (.ref a1)])) rfl rfl (hb hby own_d1_147)
  rw [own_narb] at V13
  obtain ⟨Lo13, X13, N13⟩ := oOpq X13 (Fr.snoc X13 N10 g_a1)
  have Z13 := Nat.le_trans Z10 (Keep.of_wr W13).1
  have V_14 : Arv Z h13 a1 k_a1 .byte (5 : Int32) [(.int (((240 : Int32) ||| (p0 >>> ((18 : Int32) &&& 31))).toInt8.toInt32)), (.int (((128 : Int32) ||| ((p0 >>> ((12 : Int32) &&& 31)) &&& (63 : Int32))).toInt8.toInt32)), (.int (((128 : Int32) ||| ((p0 >>> ((6 : Int32) &&& 31)) &&& (63 : Int32))).toInt8.toInt32)), (.int (((128 : Int32) ||| (p0 &&& (63 : Int32))).toInt8.toInt32)), (.int f)] (.int (0 : Int32)) := V13
  have K_15 : Keep h0 h13 [a1] := K_12.wr W13 (Or.inl (List.mem_of_getElem? (i := 0) rfl))
  obtain ⟨fs, hr, hrun, hended, hW, hsame⟩ := X13.leave (v := (some (.int (4 : Int32)))) (fun h => by rw [Bd.returns] at h; cases h)
  refine ⟨_, _, pre0 _ ?_, hrun, hended, _, _, rfl, ?_, ⟨_, rfl⟩, hW, hsame.mono (by decide) (by decide)⟩
  · show oS p e below s₁ m 0 #[oi p0, oa a1] [] _
    refine XS.iloadN X0.here hx rfl (hb hby own_d1_0) rfl ?_
    show oS p e below s₁ m 1 #[oi p0, oa a1] [(.int p0)] _
    refine XS.sipush X0.here hx rfl (hb hby own_d1_1) ?_
    show oS p e below s₁ m 4 #[oi p0, oa a1] [(.int (128 : Int32)), (.int p0)] _
    refine XS.icmpYes X0.here hx rfl (pc0 := 4) (pc' := 14) rfl (hb hby own_d1_4) rfl (flt b1).2.1 (by decide) (by decide) ?_
    show oS p e below s₁ m 14 #[oi p0, oa a1] [] _
    refine XS.iloadN X0.here hx rfl (hb hby own_d1_14) rfl ?_
    show oS p e below s₁ m 15 #[oi p0, oa a1] [(.int p0)] _
    refine XS.sipush X0.here hx rfl (hb hby own_d1_15) ?_
    show oS p e below s₁ m 18 #[oi p0, oa a1] [(.int (2048 : Int32)), (.int p0)] _
    refine XS.icmpYes X0.here hx rfl (pc0 := 18) (pc' := 47) rfl (hb hby own_d1_18) rfl (flt b2).2.1 (by decide) (by decide) ?_
    show oS p e below s₁ m 47 #[oi p0, oa a1] [] _
    refine XS.iloadN X0.here hx rfl (hb hby own_d1_47) rfl ?_
    show oS p e below s₁ m 48 #[oi p0, oa a1] [(.int p0)] _
    refine X0.ldcInt hx hown (mvT hZ (hw _ (List.mem_of_getElem? (i := 9) rfl))) (g := (mkF m 48 #[oi p0, oa a1] [(.int p0)])) rfl (hb hby own_d1_48) _ ?_
    show oS p e below s₁ m 50 #[oi p0, oa a1] [(.int (65536 : Int32)), (.int p0)] _
    refine XS.icmpYes X0.here hx rfl (pc0 := 50) (pc' := 94) rfl (hb hby own_d1_50) rfl (flt b3).2.1 (by decide) (by decide) ?_
    show oS p e below s₁ m 94 #[oi p0, oa a1] [] _
    refine XS.aloadN X0.here hx rfl (hb hby own_d1_94) rfl rfl ?_
    show oS p e below s₁ m 95 #[oi p0, oa a1] [(.ref a1)] _
    refine XS.iconst X0.here hx rfl (hb hby own_d1_95) ?_
    show oS p e below s₁ m 96 #[oi p0, oa a1] [(.int (0 : Int32)), (.ref a1)] _
    refine XS.sipush X0.here hx rfl (hb hby own_d1_96) ?_
    show oS p e below s₁ m 99 #[oi p0, oa a1] [(.int (240 : Int32)), (.int (0 : Int32)), (.ref a1)] _
    refine XS.iloadN X0.here hx rfl (hb hby own_d1_99) rfl ?_
    show oS p e below s₁ m 100 #[oi p0, oa a1] [(.int p0), (.int (240 : Int32)), (.int (0 : Int32)), (.ref a1)] _
    refine XS.bipush X0.here hx rfl (hb hby own_d1_100) ?_
    show oS p e below s₁ m 102 #[oi p0, oa a1] [(.int (18 : Int32)), (.int p0), (.int (240 : Int32)), (.int (0 : Int32)), (.ref a1)] _
    refine XS.ishr X0.here hx rfl (hb hby own_d1_102) rfl ?_
    show oS p e below s₁ m 103 #[oi p0, oa a1] [(.int (p0 >>> ((18 : Int32) &&& 31))), (.int (240 : Int32)), (.int (0 : Int32)), (.ref a1)] _
    refine XS.ior X0.here hx rfl (hb hby own_d1_103) rfl ?_
    show oS p e below s₁ m 104 #[oi p0, oa a1] [(.int ((240 : Int32) ||| (p0 >>> ((18 : Int32) &&& 31)))), (.int (0 : Int32)), (.ref a1)] _
    refine XS.i2b X0.here hx rfl (hb hby own_d1_104) rfl ?_
    show oS p e below s₁ m 105 #[oi p0, oa a1] [(.int (((240 : Int32) ||| (p0 >>> ((18 : Int32) &&& 31))).toInt8.toInt32)), (.int (0 : Int32)), (.ref a1)] _
    refine st4 _ ?_
    show oS p e below T4 m 106 #[oi p0, oa a1] [] _
    refine XS.aloadN X4.here hx rfl (hb hby own_d1_106) rfl rfl ?_
    show oS p e below T4 m 107 #[oi p0, oa a1] [(.ref a1)] _
    refine XS.iconst X4.here hx rfl (hb hby own_d1_107) ?_
    show oS p e below T4 m 108 #[oi p0, oa a1] [(.int (1 : Int32)), (.ref a1)] _
    refine XS.sipush X4.here hx rfl (hb hby own_d1_108) ?_
    show oS p e below T4 m 111 #[oi p0, oa a1] [(.int (128 : Int32)), (.int (1 : Int32)), (.ref a1)] _
    refine XS.iloadN X4.here hx rfl (hb hby own_d1_111) rfl ?_
    show oS p e below T4 m 112 #[oi p0, oa a1] [(.int p0), (.int (128 : Int32)), (.int (1 : Int32)), (.ref a1)] _
    refine XS.bipush X4.here hx rfl (hb hby own_d1_112) ?_
    show oS p e below T4 m 114 #[oi p0, oa a1] [(.int (12 : Int32)), (.int p0), (.int (128 : Int32)), (.int (1 : Int32)), (.ref a1)] _
    refine XS.ishr X4.here hx rfl (hb hby own_d1_114) rfl ?_
    show oS p e below T4 m 115 #[oi p0, oa a1] [(.int (p0 >>> ((12 : Int32) &&& 31))), (.int (128 : Int32)), (.int (1 : Int32)), (.ref a1)] _
    refine XS.bipush X4.here hx rfl (hb hby own_d1_115) ?_
    show oS p e below T4 m 117 #[oi p0, oa a1] [(.int (63 : Int32)), (.int (p0 >>> ((12 : Int32) &&& 31))), (.int (128 : Int32)), (.int (1 : Int32)), (.ref a1)] _
    refine XS.iand X4.here hx rfl (hb hby own_d1_117) rfl ?_
    show oS p e below T4 m 118 #[oi p0, oa a1] [(.int ((p0 >>> ((12 : Int32) &&& 31)) &&& (63 : Int32))), (.int (128 : Int32)), (.int (1 : Int32)), (.ref a1)] _
    refine XS.ior X4.here hx rfl (hb hby own_d1_118) rfl ?_
    show oS p e below T4 m 119 #[oi p0, oa a1] [(.int ((128 : Int32) ||| ((p0 >>> ((12 : Int32) &&& 31)) &&& (63 : Int32)))), (.int (1 : Int32)), (.ref a1)] _
    refine XS.i2b X4.here hx rfl (hb hby own_d1_119) rfl ?_
    show oS p e below T4 m 120 #[oi p0, oa a1] [(.int (((128 : Int32) ||| ((p0 >>> ((12 : Int32) &&& 31)) &&& (63 : Int32))).toInt8.toInt32)), (.int (1 : Int32)), (.ref a1)] _
    refine st7 _ ?_
    show oS p e below T7 m 121 #[oi p0, oa a1] [] _
    refine XS.aloadN X7.here hx rfl (hb hby own_d1_121) rfl rfl ?_
    show oS p e below T7 m 122 #[oi p0, oa a1] [(.ref a1)] _
    refine XS.iconst X7.here hx rfl (hb hby own_d1_122) ?_
    show oS p e below T7 m 123 #[oi p0, oa a1] [(.int (2 : Int32)), (.ref a1)] _
    refine XS.sipush X7.here hx rfl (hb hby own_d1_123) ?_
    show oS p e below T7 m 126 #[oi p0, oa a1] [(.int (128 : Int32)), (.int (2 : Int32)), (.ref a1)] _
    refine XS.iloadN X7.here hx rfl (hb hby own_d1_126) rfl ?_
    show oS p e below T7 m 127 #[oi p0, oa a1] [(.int p0), (.int (128 : Int32)), (.int (2 : Int32)), (.ref a1)] _
    refine XS.bipush X7.here hx rfl (hb hby own_d1_127) ?_
    show oS p e below T7 m 129 #[oi p0, oa a1] [(.int (6 : Int32)), (.int p0), (.int (128 : Int32)), (.int (2 : Int32)), (.ref a1)] _
    refine XS.ishr X7.here hx rfl (hb hby own_d1_129) rfl ?_
    show oS p e below T7 m 130 #[oi p0, oa a1] [(.int (p0 >>> ((6 : Int32) &&& 31))), (.int (128 : Int32)), (.int (2 : Int32)), (.ref a1)] _
    refine XS.bipush X7.here hx rfl (hb hby own_d1_130) ?_
    show oS p e below T7 m 132 #[oi p0, oa a1] [(.int (63 : Int32)), (.int (p0 >>> ((6 : Int32) &&& 31))), (.int (128 : Int32)), (.int (2 : Int32)), (.ref a1)] _
    refine XS.iand X7.here hx rfl (hb hby own_d1_132) rfl ?_
    show oS p e below T7 m 133 #[oi p0, oa a1] [(.int ((p0 >>> ((6 : Int32) &&& 31)) &&& (63 : Int32))), (.int (128 : Int32)), (.int (2 : Int32)), (.ref a1)] _
    refine XS.ior X7.here hx rfl (hb hby own_d1_133) rfl ?_
    show oS p e below T7 m 134 #[oi p0, oa a1] [(.int ((128 : Int32) ||| ((p0 >>> ((6 : Int32) &&& 31)) &&& (63 : Int32)))), (.int (2 : Int32)), (.ref a1)] _
    refine XS.i2b X7.here hx rfl (hb hby own_d1_134) rfl ?_
    show oS p e below T7 m 135 #[oi p0, oa a1] [(.int (((128 : Int32) ||| ((p0 >>> ((6 : Int32) &&& 31)) &&& (63 : Int32))).toInt8.toInt32)), (.int (2 : Int32)), (.ref a1)] _
    refine st10 _ ?_
    show oS p e below T10 m 136 #[oi p0, oa a1] [] _
    refine XS.aloadN X10.here hx rfl (hb hby own_d1_136) rfl rfl ?_
    show oS p e below T10 m 137 #[oi p0, oa a1] [(.ref a1)] _
    refine XS.iconst X10.here hx rfl (hb hby own_d1_137) ?_
    show oS p e below T10 m 138 #[oi p0, oa a1] [(.int (3 : Int32)), (.ref a1)] _
    refine XS.sipush X10.here hx rfl (hb hby own_d1_138) ?_
    show oS p e below T10 m 141 #[oi p0, oa a1] [(.int (128 : Int32)), (.int (3 : Int32)), (.ref a1)] _
    refine XS.iloadN X10.here hx rfl (hb hby own_d1_141) rfl ?_
    show oS p e below T10 m 142 #[oi p0, oa a1] [(.int p0), (.int (128 : Int32)), (.int (3 : Int32)), (.ref a1)] _
    refine XS.bipush X10.here hx rfl (hb hby own_d1_142) ?_
    show oS p e below T10 m 144 #[oi p0, oa a1] [(.int (63 : Int32)), (.int p0), (.int (128 : Int32)), (.int (3 : Int32)), (.ref a1)] _
    refine XS.iand X10.here hx rfl (hb hby own_d1_144) rfl ?_
    show oS p e below T10 m 145 #[oi p0, oa a1] [(.int (p0 &&& (63 : Int32))), (.int (128 : Int32)), (.int (3 : Int32)), (.ref a1)] _
    refine XS.ior X10.here hx rfl (hb hby own_d1_145) rfl ?_
    show oS p e below T10 m 146 #[oi p0, oa a1] [(.int ((128 : Int32) ||| (p0 &&& (63 : Int32)))), (.int (3 : Int32)), (.ref a1)] _
    refine XS.i2b X10.here hx rfl (hb hby own_d1_146) rfl ?_
    show oS p e below T10 m 147 #[oi p0, oa a1] [(.int (((128 : Int32) ||| (p0 &&& (63 : Int32))).toInt8.toInt32)), (.int (3 : Int32)), (.ref a1)] _
    refine st13 _ ?_
    show oS p e below T13 m 148 #[oi p0, oa a1] [] _
    refine XS.iconst X13.here hx rfl (hb hby own_d1_148) ?_
    show oS p e below T13 m 149 #[oi p0, oa a1] [(.int (4 : Int32))] _
    exact retOut X13 hx Bd.returns rfl (Or.inl ⟨rfl, Or.inl rfl, _, rfl⟩) (hb hby own_d1_149) hr
  · show own_Q1D Z p0 a1 k_a1 f h0 n0 _ T13.heap _
    rw [e13]
    exact ⟨rfl, N13, K_15, V_14⟩
theorem own_pn1 : plainName "com/example/godwit/godwit/link/Utf8EncodePinLaw" = true := by first | (simp [plainName, overriddenIn]; done) | decide +kernel
theorem own_d2_0 : decode method_2_code 0 = .ok (.iload_n 0, 1) := by decide +kernel
theorem own_d2_1 : decode method_2_code 1 = .ok (.sipush 192, 3) := by decide +kernel
theorem own_d2_4 : decode method_2_code 4 = .ok (.iand, 1) := by decide +kernel
theorem own_d2_5 : decode method_2_code 5 = .ok (.sipush 128, 3) := by decide +kernel
theorem own_d2_8 : decode method_2_code 8 = .ok (.if_icmp .ne 7, 3) := by decide +kernel
theorem own_d2_11 : decode method_2_code 11 = .ok (.iconst 1, 1) := by decide +kernel
theorem own_d2_12 : decode method_2_code 12 = .ok (.goto 4, 3) := by decide +kernel
theorem own_d2_15 : decode method_2_code 15 = .ok (.iconst 0, 1) := by decide +kernel
theorem own_d2_16 : decode method_2_code 16 = .ok (.ireturn, 1) := by decide +kernel
theorem own_ef2 (m : MethodId) (p0 : Int32) : entryFrame m #[(.int p0)] 1 = mkF m 0 #[oi p0] [] := by first | (simp [entryFrame, mkF, argsToLocals, Value.category]; done) | rfl
def own_f2 (p0 : Int32) : Int32 := (if (p0 &&& (192 : Int32)) = (128 : Int32) then (1 : Int32) else (0 : Int32))
def own_Q2 (Z : State) (p0 : Int32) (h0 : Heap) (n0 : Nat) (v : Option Value) (h : Heap) (L : List Loc) : Prop := v = some (Value.int (own_f2 p0)) ∧ Fr n0 L ∧ h = h0
set_option maxRecDepth 65536 in
set_option maxHeartbeats 40000000 in
theorem own_rm2 (l : Launch) (Z : State) (av : Array Value) (hw : ∀ d ∈ tables_1, d.before av Z = true) (ws : List Jvm.Cond) (p0 : Int32) (h0 : Heap) (n0 : Nat) (Z0 : n0 ≤ h0.size) :
    MetFree l (⟨"com/example/godwit/godwit/link/Utf8EncodePinLaw", "cont", "(I)Z"⟩ : MethodName) (head1 (Jvm.Cond.code (⟨"com/example/godwit/godwit/link/Utf8EncodePinLaw", "cont", "(I)Z"⟩ : MethodName) method_2_code 1 (some .boolean) :: ws) ({ frames := 0, cells := 0, slots := 0, locals := 0 } : Room)) (fun a U => a = #[(.int p0)] ∧ Z.Warmed39 U.vm ∧ U.heap = h0) (fun _ _ _ _ _ => True) (fun _ U o U' => ∃ v L, o = .returned v ∧ own_Q2 Z p0 h0 n0 v U'.heap L ∧ FrameEnd U o U' L ({ frames := 0, cells := 0, slots := 0, locals := 0 } : Room).cells ({ frames := 0, cells := 0, slots := 0, locals := 0 } : Room).slots) := by
  refine MetFree.of_bodySF (plainFor_of_name own_pn1) hisR ?_
  intro p e s m args below meth c s₁ Bd hml0 hP hK
  obtain ⟨rfl, hZ, hh⟩ := hP
  have hx := Bd.exec
  have hby := Bd.bytes
  have hml : c.maxLocals = 1 := hml0
  have hown : s.vm.findClass "com/example/godwit/godwit/link/Utf8EncodePinLaw" = some m.cls := findClass_of_methodNamed Bd.named
  have hnm := (name_of_methodNamed Bd.named Bd.method).1
  have X0 : Stand p l e ({ frames := 0, cells := 0, slots := 0, locals := 0 } : Room) s m #[(.int p0)] below meth c s₁ [] 0 0 := Stand.of_body Bd
  have e0 : s₁.heap = h0 := by rw [← hh, Bd.state]; rfl
  have N0 := Fr.nil n0
  have pre0 : ∀ t, Steps p.tables e below (s₁.setTop (mkF m 0 #[oi p0] [])) t → Steps p.tables e below (s₁.setTop (entryFrame m #[(.int p0)] 1)) t := fun t k => castTop (own_ef2 m p0) k
  have pre1 : ∀ t, Steps p.tables e below (s₁.setTop (mkF m 8 #[oi p0] [(.int (128 : Int32)), (.int (p0 &&& (192 : Int32)))])) t → Steps p.tables e below (s₁.setTop (entryFrame m #[(.int p0)] 1)) t := by
    intro t k
    refine pre0 t ?_
    show oS p e below s₁ m 0 #[oi p0] [] _
    refine XS.iloadN X0.here hx rfl (hb hby own_d2_0) rfl ?_
    show oS p e below s₁ m 1 #[oi p0] [(.int p0)] _
    refine XS.sipush X0.here hx rfl (hb hby own_d2_1) ?_
    show oS p e below s₁ m 4 #[oi p0] [(.int (192 : Int32)), (.int p0)] _
    refine XS.iand X0.here hx rfl (hb hby own_d2_4) rfl ?_
    show oS p e below s₁ m 5 #[oi p0] [(.int (p0 &&& (192 : Int32)))] _
    refine XS.sipush X0.here hx rfl (hb hby own_d2_5) ?_
    exact k
  by_cases c2 : (p0 &&& (192 : Int32)) = (128 : Int32)
  · skip
    obtain ⟨fs, hr, hrun, hended, hW, hsame⟩ := X0.leave (v := (some (.int (1 : Int32)))) (fun h => by rw [Bd.returns] at h; cases h)
    refine ⟨_, _, pre1 _ ?_, hrun, hended, _, _, rfl, ?_, ⟨_, rfl⟩, hW, hsame.mono (by decide) (by decide)⟩
    · show oS p e below s₁ m 8 #[oi p0] [(.int (128 : Int32)), (.int (p0 &&& (192 : Int32)))] _
      refine XS.icmpNo X0.here hx rfl (hb hby own_d2_8) rfl (teq c2).2 ?_
      show oS p e below s₁ m 11 #[oi p0] [] _
      refine XS.iconst X0.here hx rfl (hb hby own_d2_11) ?_
      show oS p e below s₁ m 12 #[oi p0] [(.int (1 : Int32))] _
      refine XS.goto X0.here hx rfl (pc0 := 12) (pc' := 16) rfl (hb hby own_d2_12) (by decide) (by decide) ?_
      show oS p e below s₁ m 16 #[oi p0] [(.int (1 : Int32))] _
      exact retN X0 hx (t := .boolean) Bd.returns (by simp) (hb hby own_d2_16) hr
    · show own_Q2 Z p0 h0 n0 _ s₁.heap _
      rw [e0]
      exact ⟨congrArg (fun z => some (Value.int z)) (by rw [own_f2, if_pos c2]), N0, rfl⟩
  · skip
    obtain ⟨fs, hr, hrun, hended, hW, hsame⟩ := X0.leave (v := (some (.int (0 : Int32)))) (fun h => by rw [Bd.returns] at h; cases h)
    refine ⟨_, _, pre1 _ ?_, hrun, hended, _, _, rfl, ?_, ⟨_, rfl⟩, hW, hsame.mono (by decide) (by decide)⟩
    · show oS p e below s₁ m 8 #[oi p0] [(.int (128 : Int32)), (.int (p0 &&& (192 : Int32)))] _
      refine XS.icmpYes X0.here hx rfl (pc0 := 8) (pc' := 15) rfl (hb hby own_d2_8) rfl (feq c2).2 (by decide) (by decide) ?_
      show oS p e below s₁ m 15 #[oi p0] [] _
      refine XS.iconst X0.here hx rfl (hb hby own_d2_15) ?_
      show oS p e below s₁ m 16 #[oi p0] [(.int (0 : Int32))] _
      exact retN X0 hx (t := .boolean) Bd.returns (by simp) (hb hby own_d2_16) hr
    · show own_Q2 Z p0 h0 n0 _ s₁.heap _
      rw [e0]
      exact ⟨congrArg (fun z => some (Value.int z)) (by rw [own_f2, if_neg c2]), N0, rfl⟩
theorem own_cp (x : Int32) : 0 ≤ ((x &&& (2147483647 : Int32)) % (1114112 : Int32)).toInt ∧ ((x &&& (2147483647 : Int32)) % (1114112 : Int32)).toInt < 1114112 := by
  have h : (x &&& (2147483647 : Int32)).toInt = x.toInt % 2147483648 := c_mask x 2147483647 31 (by decide) (by decide)
  have h2 := (c_irem (x &&& 2147483647) 1114112 1114112 (by decide)).1 (by omega)
  rw [h2]; omega
theorem own_by (x : Int32) : ((x.toInt8.toInt32) &&& (255 : Int32)).toInt = x.toInt % 256 := by
  have h : ((x.toInt8.toInt32) &&& (255 : Int32)).toInt = (x.toInt8.toInt32).toInt % 256 := c_mask _ 255 8 (by decide) (by decide)
  have h2 := c_i2b x
  rw [h]; omega
theorem own_m63 (x : Int32) : (x &&& (63 : Int32)).toInt = x.toInt % 64 := c_mask x 63 6 (by decide) (by decide)
theorem own_m31 (x : Int32) : (x &&& (31 : Int32)).toInt = x.toInt % 32 := c_mask x 31 5 (by decide) (by decide)
theorem own_m15 (x : Int32) : (x &&& (15 : Int32)).toInt = x.toInt % 16 := c_mask x 15 4 (by decide) (by decide)
theorem own_m7 (x : Int32) : (x &&& (7 : Int32)).toInt = x.toInt % 8 := c_mask x 7 3 (by decide) (by decide)
theorem own_s6 (x : Int32) : (x >>> ((6 : Int32) &&& 31)).toInt = x.toInt / 64 := c_ishr x 6 6 (by decide)
theorem own_s12 (x : Int32) : (x >>> ((12 : Int32) &&& 31)).toInt = x.toInt / 4096 := c_ishr x 12 12 (by decide)
theorem own_s18 (x : Int32) : (x >>> ((18 : Int32) &&& 31)).toInt = x.toInt / 262144 := c_ishr x 18 18 (by decide)
theorem own_or6 (a b : Int32) (ha : a.toInt % 64 = 0) (ha0 : 0 ≤ a.toInt) (ha1 : a.toInt < 1073741824) (hb : 0 ≤ b.toInt) (hb' : b.toInt < 64) : (a ||| b).toInt = a.toInt + b.toInt := by
  have h := c_or a b 6 (by decide) 64 (by decide) ha hb hb'
  have r := rng32 (a ||| b)
  omega
theorem own_or12 (a b : Int32) (ha : a.toInt % 4096 = 0) (ha0 : 0 ≤ a.toInt) (ha1 : a.toInt < 1073741824) (hb : 0 ≤ b.toInt) (hb' : b.toInt < 4096) : (a ||| b).toInt = a.toInt + b.toInt := by
  have h := c_or a b 12 (by decide) 4096 (by decide) ha hb hb'
  have r := rng32 (a ||| b)
  omega
theorem own_or18 (a b : Int32) (ha : a.toInt % 262144 = 0) (ha0 : 0 ≤ a.toInt) (ha1 : a.toInt < 1073741824) (hb : 0 ≤ b.toInt) (hb' : b.toInt < 262144) : (a ||| b).toInt = a.toInt + b.toInt := by
  have h := c_or a b 18 (by decide) 262144 (by decide) ha hb hb'
  have r := rng32 (a ||| b)
  omega
theorem own_l6 (x : Int32) (h0 : 0 ≤ x.toInt) (h1 : x.toInt < 4096) : (x <<< ((6 : Int32) &&& 31)).toInt = x.toInt * 64 := by
  have h : ((x <<< ((6 : Int32) &&& 31)).toInt - x.toInt * 64) % 4294967296 = 0 := c_ishl x 6 6 (by decide)
  have r := rng32 (x <<< ((6 : Int32) &&& 31))
  omega
theorem own_l12 (x : Int32) (h0 : 0 ≤ x.toInt) (h1 : x.toInt < 4096) : (x <<< ((12 : Int32) &&& 31)).toInt = x.toInt * 4096 := by
  have h : ((x <<< ((12 : Int32) &&& 31)).toInt - x.toInt * 4096) % 4294967296 = 0 := c_ishl x 12 12 (by decide)
  have r := rng32 (x <<< ((12 : Int32) &&& 31))
  omega
theorem own_l18 (x : Int32) (h0 : 0 ≤ x.toInt) (h1 : x.toInt < 64) : (x <<< ((18 : Int32) &&& 31)).toInt = x.toInt * 262144 := by
  have h : ((x <<< ((18 : Int32) &&& 31)).toInt - x.toInt * 262144) % 4294967296 = 0 := c_ishl x 18 18 (by decide)
  have r := rng32 (x <<< ((18 : Int32) &&& 31))
  omega
theorem own_lead (k : Int32) (x : Int32) (hk : k = 192 ∨ k = 224 ∨ k = 240) (h0 : 0 ≤ x.toInt) (h1 : x.toInt < (if k = (192 : Int32) then 32 else if k = (224 : Int32) then 16 else 8)) : (((k ||| x).toInt8.toInt32) &&& (255 : Int32)).toInt = k.toInt + x.toInt := by
  rw [own_by]
  rcases hk with rfl | rfl | rfl
  · simp only [if_true] at h1
    have h := c_or (192 : Int32) x 6 (by decide) 64 (by decide) (by decide) h0 (by omega)
    have r := rng32 ((192 : Int32) ||| x)
    simp only [Int32.reduceToInt] at h ⊢
    omega
  · simp only [show ((224 : Int32) = 192) = False by decide, if_false, if_true] at h1
    have h := c_or (224 : Int32) x 5 (by decide) 32 (by decide) (by decide) h0 (by omega)
    have r := rng32 ((224 : Int32) ||| x)
    simp only [Int32.reduceToInt] at h ⊢
    omega
  · simp only [show ((240 : Int32) = 192) = False by decide, show ((240 : Int32) = 224) = False by decide, if_false] at h1
    have h := c_or (240 : Int32) x 4 (by decide) 16 (by decide) (by decide) h0 (by omega)
    have r := rng32 ((240 : Int32) ||| x)
    simp only [Int32.reduceToInt] at h ⊢
    omega
theorem own_cb (x : Int32) : ((((128 : Int32) ||| (x &&& (63 : Int32))).toInt8.toInt32) &&& (255 : Int32)).toInt = 128 + x.toInt % 64 := by
  rw [own_by]
  have e := own_m63 x
  have h := own_or6 (128 : Int32) (x &&& 63) (by decide) (by decide) (by decide) (by omega) (by omega)
  simp only [Int32.reduceToInt] at h
  omega
theorem own_tc : ∀ i : Fin 256, 128 ≤ i.1 → i.1 < 192 → own_f2 (Int32.ofNat i.1) = 1 := by decide +kernel
theorem own_te : ∀ i : Fin 256, (192 ≤ i.1 → i.1 < 224 → Int32.ofNat i.1 &&& (224 : Int32) = 192) ∧ (224 ≤ i.1 → i.1 < 240 → Int32.ofNat i.1 &&& (240 : Int32) = 224) ∧ (240 ≤ i.1 → i.1 < 248 → Int32.ofNat i.1 &&& (248 : Int32) = 240) := by decide +kernel
theorem own_nat {v : Int32} (h0 : 0 ≤ v.toInt) : Int32.ofNat v.toInt.toNat = v := by
  rw [← Int32.ofInt_eq_ofNat, Int.toNat_of_nonneg h0, Int32.ofInt_toInt]
theorem own_cont {b : Int32} (h0 : 128 ≤ b.toInt) (h1 : b.toInt < 192) : ¬ own_f2 b = (0 : Int32) := by
  have q := own_tc ⟨b.toInt.toNat, by omega⟩ (by show 128 ≤ b.toInt.toNat; omega) (by show b.toInt.toNat < 192; omega)
  rw [own_nat (by omega)] at q
  rw [q]; decide
theorem own_h2 {b : Int32} (h0 : 192 ≤ b.toInt) (h1 : b.toInt < 224) : b &&& (224 : Int32) = (192 : Int32) := by
  have q := (own_te ⟨b.toInt.toNat, by omega⟩).1 (by show 192 ≤ b.toInt.toNat; omega) (by show b.toInt.toNat < 224; omega)
  rw [own_nat (by omega)] at q; exact q
theorem own_h3 {b : Int32} (h0 : 224 ≤ b.toInt) (h1 : b.toInt < 240) : b &&& (240 : Int32) = (224 : Int32) := by
  have q := (own_te ⟨b.toInt.toNat, by omega⟩).2.1 (by show 224 ≤ b.toInt.toNat; omega) (by show b.toInt.toNat < 240; omega)
  rw [own_nat (by omega)] at q; exact q
theorem own_h4 {b : Int32} (h0 : 240 ≤ b.toInt) (h1 : b.toInt < 248) : b &&& (248 : Int32) = (240 : Int32) := by
  have q := (own_te ⟨b.toInt.toNat, by omega⟩).2.2 (by show 240 ≤ b.toInt.toNat; omega) (by show b.toInt.toNat < 248; omega)
  rw [own_nat (by omega)] at q; exact q
theorem own_v2 {b0 b1 v : Int32} (h0 : b0.toInt = 192 + v.toInt / 64) (h1 : b1.toInt = 128 + v.toInt % 64) (hv : 0 ≤ v.toInt) (hv' : v.toInt < 2048) : (((b0 &&& (31 : Int32)) <<< ((6 : Int32) &&& 31)) ||| (b1 &&& (63 : Int32))) = v := by
  have e0 := own_m31 b0
  have e1 := own_m63 b1
  have l0 := own_l6 (b0 &&& 31) (by omega) (by omega)
  have o := own_or6 ((b0 &&& 31) <<< ((6 : Int32) &&& 31)) (b1 &&& 63) (by omega) (by omega) (by omega) (by omega) (by omega)
  refine Int32.toInt_inj.mp ?_
  omega
theorem own_v3 {b0 b1 b2 v : Int32} (h0 : b0.toInt = 224 + v.toInt / 4096) (h1 : b1.toInt = 128 + v.toInt / 64 % 64) (h2 : b2.toInt = 128 + v.toInt % 64) (hv : 0 ≤ v.toInt) (hv' : v.toInt < 65536) : ((((b0 &&& (15 : Int32)) <<< ((12 : Int32) &&& 31)) ||| ((b1 &&& (63 : Int32)) <<< ((6 : Int32) &&& 31))) ||| (b2 &&& (63 : Int32))) = v := by
  have e0 := own_m15 b0
  have e1 := own_m63 b1
  have e2 := own_m63 b2
  have l0 := own_l12 (b0 &&& 15) (by omega) (by omega)
  have l1 := own_l6 (b1 &&& 63) (by omega) (by omega)
  have o1 := own_or12 ((b0 &&& 15) <<< ((12 : Int32) &&& 31)) ((b1 &&& 63) <<< ((6 : Int32) &&& 31)) (by omega) (by omega) (by omega) (by omega) (by omega)
  have o2 := own_or6 (((b0 &&& 15) <<< ((12 : Int32) &&& 31)) ||| ((b1 &&& 63) <<< ((6 : Int32) &&& 31))) (b2 &&& 63) (by omega) (by omega) (by omega) (by omega) (by omega)
  refine Int32.toInt_inj.mp ?_
  omega
theorem own_v4 {b0 b1 b2 b3 v : Int32} (h0 : b0.toInt = 240 + v.toInt / 262144) (h1 : b1.toInt = 128 + v.toInt / 4096 % 64) (h2 : b2.toInt = 128 + v.toInt / 64 % 64) (h3 : b3.toInt = 128 + v.toInt % 64) (hv : 0 ≤ v.toInt) (hv' : v.toInt < 1114112) : (((((b0 &&& (7 : Int32)) <<< ((18 : Int32) &&& 31)) ||| ((b1 &&& (63 : Int32)) <<< ((12 : Int32) &&& 31))) ||| ((b2 &&& (63 : Int32)) <<< ((6 : Int32) &&& 31))) ||| (b3 &&& (63 : Int32))) = v := by
  have e0 := own_m7 b0
  have e1 := own_m63 b1
  have e2 := own_m63 b2
  have e3 := own_m63 b3
  have l0 := own_l18 (b0 &&& 7) (by omega) (by omega)
  have l1 := own_l12 (b1 &&& 63) (by omega) (by omega)
  have l2 := own_l6 (b2 &&& 63) (by omega) (by omega)
  have o1 := own_or18 ((b0 &&& 7) <<< ((18 : Int32) &&& 31)) ((b1 &&& 63) <<< ((12 : Int32) &&& 31)) (by omega) (by omega) (by omega) (by omega) (by omega)
  have o2 := own_or12 (((b0 &&& 7) <<< ((18 : Int32) &&& 31)) ||| ((b1 &&& 63) <<< ((12 : Int32) &&& 31))) ((b2 &&& 63) <<< ((6 : Int32) &&& 31)) (by omega) (by omega) (by omega) (by omega) (by omega)
  have o3 := own_or6 ((((b0 &&& 7) <<< ((18 : Int32) &&& 31)) ||| ((b1 &&& 63) <<< ((12 : Int32) &&& 31))) ||| ((b2 &&& 63) <<< ((6 : Int32) &&& 31))) (b3 &&& 63) (by omega) (by omega) (by omega) (by omega) (by omega)
  refine Int32.toInt_inj.mp ?_
  omega
theorem own_pd0 : parseMethodDescriptor "(I[B)I" = some ⟨[.int, (.array .byte)], some .int⟩ := by decide +kernel
theorem own_pd1 : parseMethodDescriptor "(I)Z" = some ⟨[.int], some .boolean⟩ := by decide +kernel
theorem own_ef0 (m : MethodId) (p0 : Int32) (p1 : Int32) : entryFrame m #[(.int p0), (.int p1)] maxLocals = mkF m 0 #[oi p0, oi p1, .unset, .unset, .unset, .unset, .unset, .unset, .unset, .unset, .unset, .unset, .unset] [] := by first | (simp [entryFrame, mkF, argsToLocals, Value.category, maxLocals]; done) | rfl
def own_Q0 (Z : State) (p0 : Int32) (p1 : Int32) (h0 : Heap) (n0 : Nat) (v : Option Value) (h : Heap) (L : List Loc) : Prop := v = some (Value.int (1 : Int32)) ∧ Fr n0 L
set_option maxRecDepth 65536 in
set_option maxHeartbeats 40000000 in
theorem own_rm0 (l : Launch) (Z : State) (av : Array Value) (hw : ∀ d ∈ tables_1, d.before av Z = true) (ws : List Jvm.Cond) (p0 : Int32) (p1 : Int32) (h0 : Heap) (n0 : Nat) (Z0 : n0 ≤ h0.size) :
    MetFree l x (head1 (Jvm.Cond.code x code maxLocals ret :: ws) room_1) (fun a U => a = #[(.int p0), (.int p1)] ∧ Z.Warmed39 U.vm ∧ U.heap = h0) (fun _ _ _ _ _ => True) (fun _ U o U' => ∃ v L, o = .returned v ∧ own_Q0 Z p0 p1 h0 n0 v U'.heap L ∧ FrameEnd U o U' L room_1.cells room_1.slots) := by
  refine MetFree.of_bodySF (plainFor_of_name own_pn1) hisR ?_
  intro p e s m args below meth c s₁ Bd hml0 hP hK
  obtain ⟨rfl, hZ, hh⟩ := hP
  have hx := Bd.exec
  have hby := Bd.bytes
  have hml : c.maxLocals = 13 := hml0
  have hown : s.vm.findClass "com/example/godwit/godwit/link/Utf8EncodePinLaw" = some m.cls := findClass_of_methodNamed Bd.named
  have hnm := (name_of_methodNamed Bd.named Bd.method).1
  have X0 : Stand p l e room_1 s m #[(.int p0), (.int p1)] below meth c s₁ [] 0 0 := Stand.of_body Bd
  have e0 : s₁.heap = h0 := by rw [← hh, Bd.state]; rfl
  have N0 := Fr.nil n0
  have pre0 : ∀ t, Steps p.tables e below (s₁.setTop (mkF m 0 #[oi p0, oi p1, .unset, .unset, .unset, .unset, .unset, .unset, .unset, .unset, .unset, .unset, .unset] [])) t → Steps p.tables e below (s₁.setTop (entryFrame m #[(.int p0), (.int p1)] maxLocals)) t := fun t k => castTop (own_ef0 m p0 p1) k
  have pre1 : ∀ t, Steps p.tables e below (s₁.setTop (mkF m 7 #[oi p0, oi p1, .unset, .unset, .unset, .unset, .unset, .unset, .unset, .unset, .unset, .unset, .unset] [(.int ((p0 &&& (2147483647 : Int32)) % (1114112 : Int32)))])) t → Steps p.tables e below (s₁.setTop (entryFrame m #[(.int p0), (.int p1)] maxLocals)) t := by
    intro t k
    refine pre0 t ?_
    show oS p e below s₁ m 0 #[oi p0, oi p1, .unset, .unset, .unset, .unset, .unset, .unset, .unset, .unset, .unset, .unset, .unset] [] _
    refine XS.iloadN X0.here hx rfl (hb hby at_0) rfl ?_
    show oS p e below s₁ m 1 #[oi p0, oi p1, .unset, .unset, .unset, .unset, .unset, .unset, .unset, .unset, .unset, .unset, .unset] [(.int p0)] _
    refine X0.ldcInt hx hown (mvT hZ (hw _ (List.mem_of_getElem? (i := 0) rfl))) (g := (mkF m 1 #[oi p0, oi p1, .unset, .unset, .unset, .unset, .unset, .unset, .unset, .unset, .unset, .unset, .unset] [(.int p0)])) rfl (hb hby at_1) _ ?_
    show oS p e below s₁ m 3 #[oi p0, oi p1, .unset, .unset, .unset, .unset, .unset, .unset, .unset, .unset, .unset, .unset, .unset] [(.int (2147483647 : Int32)), (.int p0)] _
    refine XS.iand X0.here hx rfl (hb hby at_3) rfl ?_
    show oS p e below s₁ m 4 #[oi p0, oi p1, .unset, .unset, .unset, .unset, .unset, .unset, .unset, .unset, .unset, .unset, .unset] [(.int (p0 &&& (2147483647 : Int32)))] _
    refine X0.ldcInt hx hown (mvT hZ (hw _ (List.mem_of_getElem? (i := 1) rfl))) (g := (mkF m 4 #[oi p0, oi p1, .unset, .unset, .unset, .unset, .unset, .unset, .unset, .unset, .unset, .unset, .unset] [(.int (p0 &&& (2147483647 : Int32)))])) rfl (hb hby at_4) _ ?_
    show oS p e below s₁ m 6 #[oi p0, oi p1, .unset, .unset, .unset, .unset, .unset, .unset, .unset, .unset, .unset, .unset, .unset] [(.int (1114112 : Int32)), (.int (p0 &&& (2147483647 : Int32)))] _
    refine Jvm.RoadKit.iremM X0 hx rfl (hb hby at_6) rfl (by decide) ?_
    exact k
  obtain ⟨cp, hcp⟩ : ∃ z : Int32, z = ((p0 &&& (2147483647 : Int32)) % (1114112 : Int32)) := ⟨_, rfl⟩
  rw [← hcp] at pre1
  have rc : 0 ≤ cp.toInt ∧ cp.toInt < 1114112 := by rw [hcp]; exact own_cp _
  have pre2 : ∀ t, Steps p.tables e below (s₁.setTop (mkF m 11 #[oi p0, oi p1, oi cp, .unset, .unset, .unset, .unset, .unset, .unset, .unset, .unset, .unset, .unset] [(.int (55296 : Int32)), (.int cp)])) t → Steps p.tables e below (s₁.setTop (entryFrame m #[(.int p0), (.int p1)] maxLocals)) t := by
    intro t k
    refine pre1 t ?_
    show oS p e below s₁ m 7 #[oi p0, oi p1, .unset, .unset, .unset, .unset, .unset, .unset, .unset, .unset, .unset, .unset, .unset] [(.int cp)] _
    refine XS.istoreN X0.here hx rfl (hb hby at_7) rfl (l' := #[oi p0, oi p1, oi cp, .unset, .unset, .unset, .unset, .unset, .unset, .unset, .unset, .unset, .unset]) rfl ?_
    show oS p e below s₁ m 8 #[oi p0, oi p1, oi cp, .unset, .unset, .unset, .unset, .unset, .unset, .unset, .unset, .unset, .unset] [] _
    refine XS.iloadN X0.here hx rfl (hb hby at_8) rfl ?_
    show oS p e below s₁ m 9 #[oi p0, oi p1, oi cp, .unset, .unset, .unset, .unset, .unset, .unset, .unset, .unset, .unset, .unset] [(.int cp)] _
    refine X0.ldcInt hx hown (mvT hZ (hw _ (List.mem_of_getElem? (i := 2) rfl))) (g := (mkF m 9 #[oi p0, oi p1, oi cp, .unset, .unset, .unset, .unset, .unset, .unset, .unset, .unset, .unset, .unset] [(.int cp)])) rfl (hb hby at_9) _ ?_
    exact k
  by_cases c3 : cp < (55296 : Int32)
  · skip
    obtain ⟨T4, h4, k4, X4, e4, E4, A4, st4⟩ := newP X0 hx hZ (hw _ (List.mem_of_getElem? (i := 3) rfl)) e0 (g := (mkF m 26 #[oi p0, oi p1, oi cp, oi (p1.toInt8.toInt32), .unset, .unset, .unset, .unset, .unset, .unset, .unset, .unset, .unset] [(.int (5 : Int32))])) rfl (hb hby at_26) rfl (by decide) (cap := 5) (by decide) (by decide) (by decide) (by decide)
    obtain ⟨b4, g4⟩ : ∃ z, z = h0.size := ⟨_, rfl⟩
    rw [← g4] at A4 st4
    have g_b4 : n0 ≤ b4 := Nat.le_trans Z0 (Nat.le_of_eq g4.symm)
    have Z4 : n0 ≤ h4.size := Nat.le_trans Z0 E4.1
    have V_5 : Arv Z h4 b4 k4 .byte (5 : Int32) [(.int (0 : Int32)), (.int (0 : Int32)), (.int (0 : Int32)), (.int (0 : Int32)), (.int (0 : Int32))] (.int (0 : Int32)) := (Arv.new A4 (by decide)).pad (pad_rep [] (.int (0 : Int32)) 5)
    obtain ⟨T6, h6, X6, e6, W6, V6, st6⟩ := oStB X4 hx hZ e4 V_5 (j := (0 : Int32)) ⟨by decide, by decide⟩ 0 rfl (Nat.le_of_ble_eq_true rfl) (g := (mkF m 34 #[oi p0, oi p1, oi cp, oi (p1.toInt8.toInt32), oa b4, .unset, .unset, .unset, .unset, .unset, .unset, .unset, .unset] [(.int (p1.toInt8.toInt32)), (.int (0 : Int32)), (.ref b4)])) rfl rfl (hb hby at_34)
    rw [own_narb] at V6
    obtain ⟨Lo6, X6, N6⟩ := oOpq X6 (Fr.snoc X6 N0 g_b4)
    have Z6 := Nat.le_trans Z4 (Keep.of_wr W6).1
    have V_7 : Arv Z h6 b4 k4 .byte (5 : Int32) [(.int (p1.toInt8.toInt32)), (.int (0 : Int32)), (.int (0 : Int32)), (.int (0 : Int32)), (.int (0 : Int32))] (.int (0 : Int32)) := V6
    obtain ⟨T8, h8, X8, e8, W8, V8, st8⟩ := oStB X6 hx hZ e6 V_7 (j := (1 : Int32)) ⟨by decide, by decide⟩ 1 rfl (Nat.le_of_ble_eq_true rfl) (g := (mkF m 39 #[oi p0, oi p1, oi cp, oi (p1.toInt8.toInt32), oa b4, .unset, .unset, .unset, .unset, .unset, .unset, .unset, .unset] [(.int (p1.toInt8.toInt32)), (.int (1 : Int32)), (.ref b4)])) rfl rfl (hb hby at_39)
    rw [own_narb] at V8
    obtain ⟨Lo8, X8, N8⟩ := oOpq X8 (Fr.snoc X8 N6 g_b4)
    have Z8 := Nat.le_trans Z6 (Keep.of_wr W8).1
    have V_9 : Arv Z h8 b4 k4 .byte (5 : Int32) [(.int (p1.toInt8.toInt32)), (.int (p1.toInt8.toInt32)), (.int (0 : Int32)), (.int (0 : Int32)), (.int (0 : Int32))] (.int (0 : Int32)) := V8
    obtain ⟨T10, h10, X10, e10, W10, V10, st10⟩ := oStB X8 hx hZ e8 V_9 (j := (2 : Int32)) ⟨by decide, by decide⟩ 2 rfl (Nat.le_of_ble_eq_true rfl) (g := (mkF m 44 #[oi p0, oi p1, oi cp, oi (p1.toInt8.toInt32), oa b4, .unset, .unset, .unset, .unset, .unset, .unset, .unset, .unset] [(.int (p1.toInt8.toInt32)), (.int (2 : Int32)), (.ref b4)])) rfl rfl (hb hby at_44)
    rw [own_narb] at V10
    obtain ⟨Lo10, X10, N10⟩ := oOpq X10 (Fr.snoc X10 N8 g_b4)
    have Z10 := Nat.le_trans Z8 (Keep.of_wr W10).1
    have V_11 : Arv Z h10 b4 k4 .byte (5 : Int32) [(.int (p1.toInt8.toInt32)), (.int (p1.toInt8.toInt32)), (.int (p1.toInt8.toInt32)), (.int (0 : Int32)), (.int (0 : Int32))] (.int (0 : Int32)) := V10
    obtain ⟨T12, h12, X12, e12, W12, V12, st12⟩ := oStB X10 hx hZ e10 V_11 (j := (3 : Int32)) ⟨by decide, by decide⟩ 3 rfl (Nat.le_of_ble_eq_true rfl) (g := (mkF m 49 #[oi p0, oi p1, oi cp, oi (p1.toInt8.toInt32), oa b4, .unset, .unset, .unset, .unset, .unset, .unset, .unset, .unset] [(.int (p1.toInt8.toInt32)), (.int (3 : Int32)), (.ref b4)])) rfl rfl (hb hby at_49)
    rw [own_narb] at V12
    obtain ⟨Lo12, X12, N12⟩ := oOpq X12 (Fr.snoc X12 N10 g_b4)
    have Z12 := Nat.le_trans Z10 (Keep.of_wr W12).1
    have V_13 : Arv Z h12 b4 k4 .byte (5 : Int32) [(.int (p1.toInt8.toInt32)), (.int (p1.toInt8.toInt32)), (.int (p1.toInt8.toInt32)), (.int (p1.toInt8.toInt32)), (.int (0 : Int32))] (.int (0 : Int32)) := V12
    obtain ⟨T14, h14, X14, e14, W14, V14, st14⟩ := oStB X12 hx hZ e12 V_13 (j := (4 : Int32)) ⟨by decide, by decide⟩ 4 rfl (Nat.le_of_ble_eq_true rfl) (g := (mkF m 54 #[oi p0, oi p1, oi cp, oi (p1.toInt8.toInt32), oa b4, .unset, .unset, .unset, .unset, .unset, .unset, .unset, .unset] [(.int (p1.toInt8.toInt32)), (.int (4 : Int32)), (.ref b4)])) rfl rfl (hb hby at_54)
    rw [own_narb] at V14
    obtain ⟨Lo14, X14, N14⟩ := oOpq X14 (Fr.snoc X14 N12 g_b4)
    have Z14 := Nat.le_trans Z12 (Keep.of_wr W14).1
    have V_15 : Arv Z h14 b4 k4 .byte (5 : Int32) [(.int (p1.toInt8.toInt32)), (.int (p1.toInt8.toInt32)), (.int (p1.toInt8.toInt32)), (.int (p1.toInt8.toInt32)), (.int (p1.toInt8.toInt32))] (.int (0 : Int32)) := V14
    have pre16 : ∀ t, Steps p.tables e below (T14.setTop (mkF m 58 #[oi p0, oi p1, oi cp, oi (p1.toInt8.toInt32), oa b4, .unset, .unset, .unset, .unset, .unset, .unset, .unset, .unset] [(.ref b4), (.int cp)])) t → Steps p.tables e below (s₁.setTop (entryFrame m #[(.int p0), (.int p1)] maxLocals)) t := by
      intro t k
      refine pre2 t ?_
      show oS p e below s₁ m 11 #[oi p0, oi p1, oi cp, .unset, .unset, .unset, .unset, .unset, .unset, .unset, .unset, .unset, .unset] [(.int (55296 : Int32)), (.int cp)] _
      refine XS.icmpYes X0.here hx rfl (pc0 := 11) (pc' := 22) rfl (hb hby at_11) rfl (tlt c3).1 (by decide) (by decide) ?_
      show oS p e below s₁ m 22 #[oi p0, oi p1, oi cp, .unset, .unset, .unset, .unset, .unset, .unset, .unset, .unset, .unset, .unset] [] _
      refine XS.iloadN X0.here hx rfl (hb hby at_22) rfl ?_
      show oS p e below s₁ m 23 #[oi p0, oi p1, oi cp, .unset, .unset, .unset, .unset, .unset, .unset, .unset, .unset, .unset, .unset] [(.int p1)] _
      refine XS.i2b X0.here hx rfl (hb hby at_23) rfl ?_
      show oS p e below s₁ m 24 #[oi p0, oi p1, oi cp, .unset, .unset, .unset, .unset, .unset, .unset, .unset, .unset, .unset, .unset] [(.int (p1.toInt8.toInt32))] _
      refine XS.istoreN X0.here hx rfl (hb hby at_24) rfl (l' := #[oi p0, oi p1, oi cp, oi (p1.toInt8.toInt32), .unset, .unset, .unset, .unset, .unset, .unset, .unset, .unset, .unset]) rfl ?_
      show oS p e below s₁ m 25 #[oi p0, oi p1, oi cp, oi (p1.toInt8.toInt32), .unset, .unset, .unset, .unset, .unset, .unset, .unset, .unset, .unset] [] _
      refine XS.iconst X0.here hx rfl (hb hby at_25) ?_
      show oS p e below s₁ m 26 #[oi p0, oi p1, oi cp, oi (p1.toInt8.toInt32), .unset, .unset, .unset, .unset, .unset, .unset, .unset, .unset, .unset] [(.int (5 : Int32))] _
      refine st4 _ ?_
      show oS p e below T4 m 28 #[oi p0, oi p1, oi cp, oi (p1.toInt8.toInt32), .unset, .unset, .unset, .unset, .unset, .unset, .unset, .unset, .unset] [(.ref b4)] _
      refine XS.astore X4.here hx rfl (hb hby at_28) rfl rfl (l' := #[oi p0, oi p1, oi cp, oi (p1.toInt8.toInt32), oa b4, .unset, .unset, .unset, .unset, .unset, .unset, .unset, .unset]) rfl ?_
      show oS p e below T4 m 30 #[oi p0, oi p1, oi cp, oi (p1.toInt8.toInt32), oa b4, .unset, .unset, .unset, .unset, .unset, .unset, .unset, .unset] [] _
      refine XS.aload X4.here hx rfl (hb hby at_30) rfl rfl ?_
      show oS p e below T4 m 32 #[oi p0, oi p1, oi cp, oi (p1.toInt8.toInt32), oa b4, .unset, .unset, .unset, .unset, .unset, .unset, .unset, .unset] [(.ref b4)] _
      refine XS.iconst X4.here hx rfl (hb hby at_32) ?_
      show oS p e below T4 m 33 #[oi p0, oi p1, oi cp, oi (p1.toInt8.toInt32), oa b4, .unset, .unset, .unset, .unset, .unset, .unset, .unset, .unset] [(.int (0 : Int32)), (.ref b4)] _
      refine XS.iloadN X4.here hx rfl (hb hby at_33) rfl ?_
      show oS p e below T4 m 34 #[oi p0, oi p1, oi cp, oi (p1.toInt8.toInt32), oa b4, .unset, .unset, .unset, .unset, .unset, .unset, .unset, .unset] [(.int (p1.toInt8.toInt32)), (.int (0 : Int32)), (.ref b4)] _
      refine st6 _ ?_
      show oS p e below T6 m 35 #[oi p0, oi p1, oi cp, oi (p1.toInt8.toInt32), oa b4, .unset, .unset, .unset, .unset, .unset, .unset, .unset, .unset] [] _
      refine XS.aload X6.here hx rfl (hb hby at_35) rfl rfl ?_
      show oS p e below T6 m 37 #[oi p0, oi p1, oi cp, oi (p1.toInt8.toInt32), oa b4, .unset, .unset, .unset, .unset, .unset, .unset, .unset, .unset] [(.ref b4)] _
      refine XS.iconst X6.here hx rfl (hb hby at_37) ?_
      show oS p e below T6 m 38 #[oi p0, oi p1, oi cp, oi (p1.toInt8.toInt32), oa b4, .unset, .unset, .unset, .unset, .unset, .unset, .unset, .unset] [(.int (1 : Int32)), (.ref b4)] _
      refine XS.iloadN X6.here hx rfl (hb hby at_38) rfl ?_
      show oS p e below T6 m 39 #[oi p0, oi p1, oi cp, oi (p1.toInt8.toInt32), oa b4, .unset, .unset, .unset, .unset, .unset, .unset, .unset, .unset] [(.int (p1.toInt8.toInt32)), (.int (1 : Int32)), (.ref b4)] _
      refine st8 _ ?_
      show oS p e below T8 m 40 #[oi p0, oi p1, oi cp, oi (p1.toInt8.toInt32), oa b4, .unset, .unset, .unset, .unset, .unset, .unset, .unset, .unset] [] _
      refine XS.aload X8.here hx rfl (hb hby at_40) rfl rfl ?_
      show oS p e below T8 m 42 #[oi p0, oi p1, oi cp, oi (p1.toInt8.toInt32), oa b4, .unset, .unset, .unset, .unset, .unset, .unset, .unset, .unset] [(.ref b4)] _
      refine XS.iconst X8.here hx rfl (hb hby at_42) ?_
      show oS p e below T8 m 43 #[oi p0, oi p1, oi cp, oi (p1.toInt8.toInt32), oa b4, .unset, .unset, .unset, .unset, .unset, .unset, .unset, .unset] [(.int (2 : Int32)), (.ref b4)] _
      refine XS.iloadN X8.here hx rfl (hb hby at_43) rfl ?_
      show oS p e below T8 m 44 #[oi p0, oi p1, oi cp, oi (p1.toInt8.toInt32), oa b4, .unset, .unset, .unset, .unset, .unset, .unset, .unset, .unset] [(.int (p1.toInt8.toInt32)), (.int (2 : Int32)), (.ref b4)] _
      refine st10 _ ?_
      show oS p e below T10 m 45 #[oi p0, oi p1, oi cp, oi (p1.toInt8.toInt32), oa b4, .unset, .unset, .unset, .unset, .unset, .unset, .unset, .unset] [] _
      refine XS.aload X10.here hx rfl (hb hby at_45) rfl rfl ?_
      show oS p e below T10 m 47 #[oi p0, oi p1, oi cp, oi (p1.toInt8.toInt32), oa b4, .unset, .unset, .unset, .unset, .unset, .unset, .unset, .unset] [(.ref b4)] _
      refine XS.iconst X10.here hx rfl (hb hby at_47) ?_
      show oS p e below T10 m 48 #[oi p0, oi p1, oi cp, oi (p1.toInt8.toInt32), oa b4, .unset, .unset, .unset, .unset, .unset, .unset, .unset, .unset] [(.int (3 : Int32)), (.ref b4)] _
      refine XS.iloadN X10.here hx rfl (hb hby at_48) rfl ?_
      show oS p e below T10 m 49 #[oi p0, oi p1, oi cp, oi (p1.toInt8.toInt32), oa b4, .unset, .unset, .unset, .unset, .unset, .unset, .unset, .unset] [(.int (p1.toInt8.toInt32)), (.int (3 : Int32)), (.ref b4)] _
      refine st12 _ ?_
      show oS p e below T12 m 50 #[oi p0, oi p1, oi cp, oi (p1.toInt8.toInt32), oa b4, .unset, .unset, .unset, .unset, .unset, .unset, .unset, .unset] [] _
      refine XS.aload X12.here hx rfl (hb hby at_50) rfl rfl ?_
      show oS p e below T12 m 52 #[oi p0, oi p1, oi cp, oi (p1.toInt8.toInt32), oa b4, .unset, .unset, .unset, .unset, .unset, .unset, .unset, .unset] [(.ref b4)] _
      refine XS.iconst X12.here hx rfl (hb hby at_52) ?_
      show oS p e below T12 m 53 #[oi p0, oi p1, oi cp, oi (p1.toInt8.toInt32), oa b4, .unset, .unset, .unset, .unset, .unset, .unset, .unset, .unset] [(.int (4 : Int32)), (.ref b4)] _
      refine XS.iloadN X12.here hx rfl (hb hby at_53) rfl ?_
      show oS p e below T12 m 54 #[oi p0, oi p1, oi cp, oi (p1.toInt8.toInt32), oa b4, .unset, .unset, .unset, .unset, .unset, .unset, .unset, .unset] [(.int (p1.toInt8.toInt32)), (.int (4 : Int32)), (.ref b4)] _
      refine st14 _ ?_
      show oS p e below T14 m 55 #[oi p0, oi p1, oi cp, oi (p1.toInt8.toInt32), oa b4, .unset, .unset, .unset, .unset, .unset, .unset, .unset, .unset] [] _
      refine XS.iloadN X14.here hx rfl (hb hby at_55) rfl ?_
      show oS p e below T14 m 56 #[oi p0, oi p1, oi cp, oi (p1.toInt8.toInt32), oa b4, .unset, .unset, .unset, .unset, .unset, .unset, .unset, .unset] [(.int cp)] _
      refine XS.aload X14.here hx rfl (hb hby at_56) rfl rfl ?_
      exact k
    by_cases hA : cp < (128 : Int32)
    · skip
      have mhA := hA
      simp only [own_ltp, Int32.reduceToInt] at mhA
      obtain ⟨_, _, ⟨T17, L17, k17, n17⟩, -, X17, ⟨Lc17, hQ17, l17, y17, z17⟩, st17⟩ := Jvm.LawKit.callS X14 hx (y := (⟨"com/example/godwit/godwit/link/Utf8", "encode", "(I[B)I"⟩ : MethodName)) hown (mvT hZ (hw _ (List.mem_of_getElem? (i := 4) rfl))) (mvT hZ (hw _ (List.mem_of_getElem? (i := 5) rfl))) (mvT hZ (hw _ (List.mem_of_getElem? (i := 6) rfl))) (mvT hZ (hw _ (List.mem_of_getElem? (i := 7) rfl))) (by decide) (backOf (W := 0) (own_rm1A l Z av hw [] cp b4 k4 (p1.toInt8.toInt32) h14 n0 Z14 V_15 g_b4 (hA)) hZ (hw _ (List.mem_of_getElem? (i := 7) rfl)) (hw _ (List.mem_of_getElem? (i := 6) rfl)) (by decide) (by decide)) (g := (mkF m 58 #[oi p0, oi p1, oi cp, oi (p1.toInt8.toInt32), oa b4, .unset, .unset, .unset, .unset, .unset, .unset, .unset, .unset] [(.ref b4), (.int cp)])) rfl (by rw [hml]; rfl) (argsL := [(.int cp), (.ref b4)]) (rest := []) (lenOf own_pd0 rfl) rfl (by show 2 * 0 + _ ≤ _; exact Nat.le_of_eq rfl) (hb hby at_58) (fun _ _ => ⟨rfl, e14, (by decide : 1 + 0 ≤ _), (by decide : 5 + 0 ≤ _)⟩)
      dsimp only [Pt.U, Pt.locs, Pt.cells, Pt.slots] at X17 l17 y17 z17 st17 hQ17
      have yq17 : k17 = 1 := y17
      have zq17 : n17 = 5 := z17
      subst yq17 zq17
      obtain ⟨rfl, Nq17, Kq17, Oq17_0⟩ := hQ17
      have N17 : Fr n0 L17 := by rw [l17]; exact Fr.app N14 Nq17
      have Z17 : n0 ≤ T17.heap.size := Nat.le_trans Z14 Kq17.1
      have b18 : cp < (128 : Int32) := hA
      have b19 : (1 : Int32) = (1 : Int32) := (by decide)
      have pre20 : ∀ t, Steps p.tables e below (T17.setTop (mkF m 115 #[oi p0, oi p1, oi cp, oi (p1.toInt8.toInt32), oa b4, oi (1 : Int32), oi (1 : Int32), .unset, .unset, .unset, .unset, .unset, .unset] [(.int ((cp.toInt8.toInt32) &&& (255 : Int32)))])) t → Steps p.tables e below (s₁.setTop (entryFrame m #[(.int p0), (.int p1)] maxLocals)) t := by
        intro t k
        refine pre16 t ?_
        show oS p e below T14 m 58 #[oi p0, oi p1, oi cp, oi (p1.toInt8.toInt32), oa b4, .unset, .unset, .unset, .unset, .unset, .unset, .unset, .unset] [(.ref b4), (.int cp)] _
        refine st17 _ ?_
        show oS p e below T17 m 61 #[oi p0, oi p1, oi cp, oi (p1.toInt8.toInt32), oa b4, .unset, .unset, .unset, .unset, .unset, .unset, .unset, .unset] [(.int (1 : Int32))] _
        refine XS.istore X17.here hx rfl (hb hby at_61) rfl (l' := #[oi p0, oi p1, oi cp, oi (p1.toInt8.toInt32), oa b4, oi (1 : Int32), .unset, .unset, .unset, .unset, .unset, .unset, .unset]) rfl ?_
        show oS p e below T17 m 63 #[oi p0, oi p1, oi cp, oi (p1.toInt8.toInt32), oa b4, oi (1 : Int32), .unset, .unset, .unset, .unset, .unset, .unset, .unset] [] _
        refine XS.iloadN X17.here hx rfl (hb hby at_63) rfl ?_
        show oS p e below T17 m 64 #[oi p0, oi p1, oi cp, oi (p1.toInt8.toInt32), oa b4, oi (1 : Int32), .unset, .unset, .unset, .unset, .unset, .unset, .unset] [(.int cp)] _
        refine XS.sipush X17.here hx rfl (hb hby at_64) ?_
        show oS p e below T17 m 67 #[oi p0, oi p1, oi cp, oi (p1.toInt8.toInt32), oa b4, oi (1 : Int32), .unset, .unset, .unset, .unset, .unset, .unset, .unset] [(.int (128 : Int32)), (.int cp)] _
        refine XS.icmpNo X17.here hx rfl (hb hby at_67) rfl (tlt b18).2.1 ?_
        show oS p e below T17 m 70 #[oi p0, oi p1, oi cp, oi (p1.toInt8.toInt32), oa b4, oi (1 : Int32), .unset, .unset, .unset, .unset, .unset, .unset, .unset] [] _
        refine XS.iconst X17.here hx rfl (hb hby at_70) ?_
        show oS p e below T17 m 71 #[oi p0, oi p1, oi cp, oi (p1.toInt8.toInt32), oa b4, oi (1 : Int32), .unset, .unset, .unset, .unset, .unset, .unset, .unset] [(.int (1 : Int32))] _
        refine XS.goto X17.here hx rfl (pc0 := 71) (pc' := 96) rfl (hb hby at_71) (by decide) (by decide) ?_
        show oS p e below T17 m 96 #[oi p0, oi p1, oi cp, oi (p1.toInt8.toInt32), oa b4, oi (1 : Int32), .unset, .unset, .unset, .unset, .unset, .unset, .unset] [(.int (1 : Int32))] _
        refine XS.istore X17.here hx rfl (hb hby at_96) rfl (l' := #[oi p0, oi p1, oi cp, oi (p1.toInt8.toInt32), oa b4, oi (1 : Int32), oi (1 : Int32), .unset, .unset, .unset, .unset, .unset, .unset]) rfl ?_
        show oS p e below T17 m 98 #[oi p0, oi p1, oi cp, oi (p1.toInt8.toInt32), oa b4, oi (1 : Int32), oi (1 : Int32), .unset, .unset, .unset, .unset, .unset, .unset] [] _
        refine XS.iload X17.here hx rfl (hb hby at_98) rfl ?_
        show oS p e below T17 m 100 #[oi p0, oi p1, oi cp, oi (p1.toInt8.toInt32), oa b4, oi (1 : Int32), oi (1 : Int32), .unset, .unset, .unset, .unset, .unset, .unset] [(.int (1 : Int32))] _
        refine XS.iload X17.here hx rfl (hb hby at_100) rfl ?_
        show oS p e below T17 m 102 #[oi p0, oi p1, oi cp, oi (p1.toInt8.toInt32), oa b4, oi (1 : Int32), oi (1 : Int32), .unset, .unset, .unset, .unset, .unset, .unset] [(.int (1 : Int32)), (.int (1 : Int32))] _
        refine XS.icmpYes X17.here hx rfl (pc0 := 102) (pc' := 107) rfl (hb hby at_102) rfl (teq b19).1 (by decide) (by decide) ?_
        show oS p e below T17 m 107 #[oi p0, oi p1, oi cp, oi (p1.toInt8.toInt32), oa b4, oi (1 : Int32), oi (1 : Int32), .unset, .unset, .unset, .unset, .unset, .unset] [] _
        refine XS.aload X17.here hx rfl (hb hby at_107) rfl rfl ?_
        show oS p e below T17 m 109 #[oi p0, oi p1, oi cp, oi (p1.toInt8.toInt32), oa b4, oi (1 : Int32), oi (1 : Int32), .unset, .unset, .unset, .unset, .unset, .unset] [(.ref b4)] _
        refine XS.iconst X17.here hx rfl (hb hby at_109) ?_
        show oS p e below T17 m 110 #[oi p0, oi p1, oi cp, oi (p1.toInt8.toInt32), oa b4, oi (1 : Int32), oi (1 : Int32), .unset, .unset, .unset, .unset, .unset, .unset] [(.int (0 : Int32)), (.ref b4)] _
        refine oLdB X17 hx hZ rfl Oq17_0 (v := (.int (cp.toInt8.toInt32))) ⟨by decide, by decide⟩ rfl (hb hby at_110) ?_
        show oS p e below T17 m 111 #[oi p0, oi p1, oi cp, oi (p1.toInt8.toInt32), oa b4, oi (1 : Int32), oi (1 : Int32), .unset, .unset, .unset, .unset, .unset, .unset] [(.int (cp.toInt8.toInt32))] _
        refine XS.sipush X17.here hx rfl (hb hby at_111) ?_
        show oS p e below T17 m 114 #[oi p0, oi p1, oi cp, oi (p1.toInt8.toInt32), oa b4, oi (1 : Int32), oi (1 : Int32), .unset, .unset, .unset, .unset, .unset, .unset] [(.int (255 : Int32)), (.int (cp.toInt8.toInt32))] _
        refine XS.iand X17.here hx rfl (hb hby at_114) rfl ?_
        exact k
      obtain ⟨b0, hb0⟩ : ∃ z : Int32, z = ((cp.toInt8.toInt32) &&& (255 : Int32)) := ⟨_, rfl⟩
      rw [← hb0] at pre20
      have e0 : b0.toInt = cp.toInt := by rw [hb0, own_by]; omega
      have pre21 : ∀ t, Steps p.tables e below (T17.setTop (mkF m 125 #[oi p0, oi p1, oi cp, oi (p1.toInt8.toInt32), oa b4, oi (1 : Int32), oi (1 : Int32), oi b0, .unset, .unset, .unset, .unset, .unset] [(.int ((p1.toInt8.toInt32) &&& (255 : Int32)))])) t → Steps p.tables e below (s₁.setTop (entryFrame m #[(.int p0), (.int p1)] maxLocals)) t := by
        intro t k
        refine pre20 t ?_
        show oS p e below T17 m 115 #[oi p0, oi p1, oi cp, oi (p1.toInt8.toInt32), oa b4, oi (1 : Int32), oi (1 : Int32), .unset, .unset, .unset, .unset, .unset, .unset] [(.int b0)] _
        refine XS.istore X17.here hx rfl (hb hby at_115) rfl (l' := #[oi p0, oi p1, oi cp, oi (p1.toInt8.toInt32), oa b4, oi (1 : Int32), oi (1 : Int32), oi b0, .unset, .unset, .unset, .unset, .unset]) rfl ?_
        show oS p e below T17 m 117 #[oi p0, oi p1, oi cp, oi (p1.toInt8.toInt32), oa b4, oi (1 : Int32), oi (1 : Int32), oi b0, .unset, .unset, .unset, .unset, .unset] [] _
        refine XS.aload X17.here hx rfl (hb hby at_117) rfl rfl ?_
        show oS p e below T17 m 119 #[oi p0, oi p1, oi cp, oi (p1.toInt8.toInt32), oa b4, oi (1 : Int32), oi (1 : Int32), oi b0, .unset, .unset, .unset, .unset, .unset] [(.ref b4)] _
        refine XS.iconst X17.here hx rfl (hb hby at_119) ?_
        show oS p e below T17 m 120 #[oi p0, oi p1, oi cp, oi (p1.toInt8.toInt32), oa b4, oi (1 : Int32), oi (1 : Int32), oi b0, .unset, .unset, .unset, .unset, .unset] [(.int (1 : Int32)), (.ref b4)] _
        refine oLdB X17 hx hZ rfl Oq17_0 (v := (.int (p1.toInt8.toInt32))) ⟨by decide, by decide⟩ rfl (hb hby at_120) ?_
        show oS p e below T17 m 121 #[oi p0, oi p1, oi cp, oi (p1.toInt8.toInt32), oa b4, oi (1 : Int32), oi (1 : Int32), oi b0, .unset, .unset, .unset, .unset, .unset] [(.int (p1.toInt8.toInt32))] _
        refine XS.sipush X17.here hx rfl (hb hby at_121) ?_
        show oS p e below T17 m 124 #[oi p0, oi p1, oi cp, oi (p1.toInt8.toInt32), oa b4, oi (1 : Int32), oi (1 : Int32), oi b0, .unset, .unset, .unset, .unset, .unset] [(.int (255 : Int32)), (.int (p1.toInt8.toInt32))] _
        refine XS.iand X17.here hx rfl (hb hby at_124) rfl ?_
        exact k
      obtain ⟨b1, hb1⟩ : ∃ z : Int32, z = ((p1.toInt8.toInt32) &&& (255 : Int32)) := ⟨_, rfl⟩
      rw [← hb1] at pre21
      have pre22 : ∀ t, Steps p.tables e below (T17.setTop (mkF m 135 #[oi p0, oi p1, oi cp, oi (p1.toInt8.toInt32), oa b4, oi (1 : Int32), oi (1 : Int32), oi b0, oi b1, .unset, .unset, .unset, .unset] [(.int ((p1.toInt8.toInt32) &&& (255 : Int32)))])) t → Steps p.tables e below (s₁.setTop (entryFrame m #[(.int p0), (.int p1)] maxLocals)) t := by
        intro t k
        refine pre21 t ?_
        show oS p e below T17 m 125 #[oi p0, oi p1, oi cp, oi (p1.toInt8.toInt32), oa b4, oi (1 : Int32), oi (1 : Int32), oi b0, .unset, .unset, .unset, .unset, .unset] [(.int b1)] _
        refine XS.istore X17.here hx rfl (hb hby at_125) rfl (l' := #[oi p0, oi p1, oi cp, oi (p1.toInt8.toInt32), oa b4, oi (1 : Int32), oi (1 : Int32), oi b0, oi b1, .unset, .unset, .unset, .unset]) rfl ?_
        show oS p e below T17 m 127 #[oi p0, oi p1, oi cp, oi (p1.toInt8.toInt32), oa b4, oi (1 : Int32), oi (1 : Int32), oi b0, oi b1, .unset, .unset, .unset, .unset] [] _
        refine XS.aload X17.here hx rfl (hb hby at_127) rfl rfl ?_
        show oS p e below T17 m 129 #[oi p0, oi p1, oi cp, oi (p1.toInt8.toInt32), oa b4, oi (1 : Int32), oi (1 : Int32), oi b0, oi b1, .unset, .unset, .unset, .unset] [(.ref b4)] _
        refine XS.iconst X17.here hx rfl (hb hby at_129) ?_
        show oS p e below T17 m 130 #[oi p0, oi p1, oi cp, oi (p1.toInt8.toInt32), oa b4, oi (1 : Int32), oi (1 : Int32), oi b0, oi b1, .unset, .unset, .unset, .unset] [(.int (2 : Int32)), (.ref b4)] _
        refine oLdB X17 hx hZ rfl Oq17_0 (v := (.int (p1.toInt8.toInt32))) ⟨by decide, by decide⟩ rfl (hb hby at_130) ?_
        show oS p e below T17 m 131 #[oi p0, oi p1, oi cp, oi (p1.toInt8.toInt32), oa b4, oi (1 : Int32), oi (1 : Int32), oi b0, oi b1, .unset, .unset, .unset, .unset] [(.int (p1.toInt8.toInt32))] _
        refine XS.sipush X17.here hx rfl (hb hby at_131) ?_
        show oS p e below T17 m 134 #[oi p0, oi p1, oi cp, oi (p1.toInt8.toInt32), oa b4, oi (1 : Int32), oi (1 : Int32), oi b0, oi b1, .unset, .unset, .unset, .unset] [(.int (255 : Int32)), (.int (p1.toInt8.toInt32))] _
        refine XS.iand X17.here hx rfl (hb hby at_134) rfl ?_
        exact k
      obtain ⟨b2, hb2⟩ : ∃ z : Int32, z = ((p1.toInt8.toInt32) &&& (255 : Int32)) := ⟨_, rfl⟩
      rw [← hb2] at pre22
      have pre23 : ∀ t, Steps p.tables e below (T17.setTop (mkF m 145 #[oi p0, oi p1, oi cp, oi (p1.toInt8.toInt32), oa b4, oi (1 : Int32), oi (1 : Int32), oi b0, oi b1, oi b2, .unset, .unset, .unset] [(.int ((p1.toInt8.toInt32) &&& (255 : Int32)))])) t → Steps p.tables e below (s₁.setTop (entryFrame m #[(.int p0), (.int p1)] maxLocals)) t := by
        intro t k
        refine pre22 t ?_
        show oS p e below T17 m 135 #[oi p0, oi p1, oi cp, oi (p1.toInt8.toInt32), oa b4, oi (1 : Int32), oi (1 : Int32), oi b0, oi b1, .unset, .unset, .unset, .unset] [(.int b2)] _
        refine XS.istore X17.here hx rfl (hb hby at_135) rfl (l' := #[oi p0, oi p1, oi cp, oi (p1.toInt8.toInt32), oa b4, oi (1 : Int32), oi (1 : Int32), oi b0, oi b1, oi b2, .unset, .unset, .unset]) rfl ?_
        show oS p e below T17 m 137 #[oi p0, oi p1, oi cp, oi (p1.toInt8.toInt32), oa b4, oi (1 : Int32), oi (1 : Int32), oi b0, oi b1, oi b2, .unset, .unset, .unset] [] _
        refine XS.aload X17.here hx rfl (hb hby at_137) rfl rfl ?_
        show oS p e below T17 m 139 #[oi p0, oi p1, oi cp, oi (p1.toInt8.toInt32), oa b4, oi (1 : Int32), oi (1 : Int32), oi b0, oi b1, oi b2, .unset, .unset, .unset] [(.ref b4)] _
        refine XS.iconst X17.here hx rfl (hb hby at_139) ?_
        show oS p e below T17 m 140 #[oi p0, oi p1, oi cp, oi (p1.toInt8.toInt32), oa b4, oi (1 : Int32), oi (1 : Int32), oi b0, oi b1, oi b2, .unset, .unset, .unset] [(.int (3 : Int32)), (.ref b4)] _
        refine oLdB X17 hx hZ rfl Oq17_0 (v := (.int (p1.toInt8.toInt32))) ⟨by decide, by decide⟩ rfl (hb hby at_140) ?_
        show oS p e below T17 m 141 #[oi p0, oi p1, oi cp, oi (p1.toInt8.toInt32), oa b4, oi (1 : Int32), oi (1 : Int32), oi b0, oi b1, oi b2, .unset, .unset, .unset] [(.int (p1.toInt8.toInt32))] _
        refine XS.sipush X17.here hx rfl (hb hby at_141) ?_
        show oS p e below T17 m 144 #[oi p0, oi p1, oi cp, oi (p1.toInt8.toInt32), oa b4, oi (1 : Int32), oi (1 : Int32), oi b0, oi b1, oi b2, .unset, .unset, .unset] [(.int (255 : Int32)), (.int (p1.toInt8.toInt32))] _
        refine XS.iand X17.here hx rfl (hb hby at_144) rfl ?_
        exact k
      obtain ⟨b3, hb3⟩ : ∃ z : Int32, z = ((p1.toInt8.toInt32) &&& (255 : Int32)) := ⟨_, rfl⟩
      rw [← hb3] at pre23
      have b24 : (1 : Int32) = (1 : Int32) := (by decide)
      have b25 : b0 < (128 : Int32) := by simp only [own_ltp, Int32.reduceToInt]; omega
      have b26 : b0 = cp := Int32.toInt_inj.mp e0
      have b27 : ¬ ((1 : Int32) < (1 : Int32)) := (by decide)
      have b28 : (p1.toInt8.toInt32) = (p1.toInt8.toInt32) := rfl
      have b29 : ¬ ((2 : Int32) < (1 : Int32)) := (by decide)
      have b30 : (p1.toInt8.toInt32) = (p1.toInt8.toInt32) := rfl
      have b31 : ¬ ((3 : Int32) < (1 : Int32)) := (by decide)
      have b32 : (p1.toInt8.toInt32) = (p1.toInt8.toInt32) := rfl
      have b33 : (p1.toInt8.toInt32) = (p1.toInt8.toInt32) := rfl
      obtain ⟨fs, hr, hrun, hended, hW, hsame⟩ := X17.leave (v := (some (.int (1 : Int32)))) (fun h => by rw [Bd.returns] at h; cases h)
      refine ⟨_, _, pre23 _ ?_, hrun, hended, _, _, rfl, ?_, ⟨_, rfl⟩, hW, hsame.mono (by decide) (by decide)⟩
      · show oS p e below T17 m 145 #[oi p0, oi p1, oi cp, oi (p1.toInt8.toInt32), oa b4, oi (1 : Int32), oi (1 : Int32), oi b0, oi b1, oi b2, .unset, .unset, .unset] [(.int b3)] _
        refine XS.istore X17.here hx rfl (hb hby at_145) rfl (l' := #[oi p0, oi p1, oi cp, oi (p1.toInt8.toInt32), oa b4, oi (1 : Int32), oi (1 : Int32), oi b0, oi b1, oi b2, oi b3, .unset, .unset]) rfl ?_
        show oS p e below T17 m 147 #[oi p0, oi p1, oi cp, oi (p1.toInt8.toInt32), oa b4, oi (1 : Int32), oi (1 : Int32), oi b0, oi b1, oi b2, oi b3, .unset, .unset] [] _
        refine XS.iload X17.here hx rfl (hb hby at_147) rfl ?_
        show oS p e below T17 m 149 #[oi p0, oi p1, oi cp, oi (p1.toInt8.toInt32), oa b4, oi (1 : Int32), oi (1 : Int32), oi b0, oi b1, oi b2, oi b3, .unset, .unset] [(.int (1 : Int32))] _
        refine XS.iconst X17.here hx rfl (hb hby at_149) ?_
        show oS p e below T17 m 150 #[oi p0, oi p1, oi cp, oi (p1.toInt8.toInt32), oa b4, oi (1 : Int32), oi (1 : Int32), oi b0, oi b1, oi b2, oi b3, .unset, .unset] [(.int (1 : Int32)), (.int (1 : Int32))] _
        refine XS.icmpNo X17.here hx rfl (hb hby at_150) rfl (teq b24).2 ?_
        show oS p e below T17 m 153 #[oi p0, oi p1, oi cp, oi (p1.toInt8.toInt32), oa b4, oi (1 : Int32), oi (1 : Int32), oi b0, oi b1, oi b2, oi b3, .unset, .unset] [] _
        refine XS.iload X17.here hx rfl (hb hby at_153) rfl ?_
        show oS p e below T17 m 155 #[oi p0, oi p1, oi cp, oi (p1.toInt8.toInt32), oa b4, oi (1 : Int32), oi (1 : Int32), oi b0, oi b1, oi b2, oi b3, .unset, .unset] [(.int b0)] _
        refine XS.sipush X17.here hx rfl (hb hby at_155) ?_
        show oS p e below T17 m 158 #[oi p0, oi p1, oi cp, oi (p1.toInt8.toInt32), oa b4, oi (1 : Int32), oi (1 : Int32), oi b0, oi b1, oi b2, oi b3, .unset, .unset] [(.int (128 : Int32)), (.int b0)] _
        refine XS.icmpYes X17.here hx rfl (pc0 := 158) (pc' := 163) rfl (hb hby at_158) rfl (tlt b25).1 (by decide) (by decide) ?_
        show oS p e below T17 m 163 #[oi p0, oi p1, oi cp, oi (p1.toInt8.toInt32), oa b4, oi (1 : Int32), oi (1 : Int32), oi b0, oi b1, oi b2, oi b3, .unset, .unset] [] _
        refine XS.iload X17.here hx rfl (hb hby at_163) rfl ?_
        show oS p e below T17 m 165 #[oi p0, oi p1, oi cp, oi (p1.toInt8.toInt32), oa b4, oi (1 : Int32), oi (1 : Int32), oi b0, oi b1, oi b2, oi b3, .unset, .unset] [(.int b0)] _
        refine XS.istore X17.here hx rfl (hb hby at_165) rfl (l' := #[oi p0, oi p1, oi cp, oi (p1.toInt8.toInt32), oa b4, oi (1 : Int32), oi (1 : Int32), oi b0, oi b1, oi b2, oi b3, oi b0, .unset]) rfl ?_
        show oS p e below T17 m 167 #[oi p0, oi p1, oi cp, oi (p1.toInt8.toInt32), oa b4, oi (1 : Int32), oi (1 : Int32), oi b0, oi b1, oi b2, oi b3, oi b0, .unset] [] _
        refine XS.goto X17.here hx rfl (pc0 := 167) (pc' := 353) rfl (hb hby at_167) (by decide) (by decide) ?_
        show oS p e below T17 m 353 #[oi p0, oi p1, oi cp, oi (p1.toInt8.toInt32), oa b4, oi (1 : Int32), oi (1 : Int32), oi b0, oi b1, oi b2, oi b3, oi b0, .unset] [] _
        refine XS.iload X17.here hx rfl (hb hby at_353) rfl ?_
        show oS p e below T17 m 355 #[oi p0, oi p1, oi cp, oi (p1.toInt8.toInt32), oa b4, oi (1 : Int32), oi (1 : Int32), oi b0, oi b1, oi b2, oi b3, oi b0, .unset] [(.int b0)] _
        refine XS.iloadN X17.here hx rfl (hb hby at_355) rfl ?_
        show oS p e below T17 m 356 #[oi p0, oi p1, oi cp, oi (p1.toInt8.toInt32), oa b4, oi (1 : Int32), oi (1 : Int32), oi b0, oi b1, oi b2, oi b3, oi b0, .unset] [(.int cp), (.int b0)] _
        refine XS.icmpYes X17.here hx rfl (pc0 := 356) (pc' := 361) rfl (hb hby at_356) rfl (teq b26).1 (by decide) (by decide) ?_
        show oS p e below T17 m 361 #[oi p0, oi p1, oi cp, oi (p1.toInt8.toInt32), oa b4, oi (1 : Int32), oi (1 : Int32), oi b0, oi b1, oi b2, oi b3, oi b0, .unset] [] _
        refine XS.iload X17.here hx rfl (hb hby at_361) rfl ?_
        show oS p e below T17 m 363 #[oi p0, oi p1, oi cp, oi (p1.toInt8.toInt32), oa b4, oi (1 : Int32), oi (1 : Int32), oi b0, oi b1, oi b2, oi b3, oi b0, .unset] [(.int (1 : Int32))] _
        refine XS.iconst X17.here hx rfl (hb hby at_363) ?_
        show oS p e below T17 m 364 #[oi p0, oi p1, oi cp, oi (p1.toInt8.toInt32), oa b4, oi (1 : Int32), oi (1 : Int32), oi b0, oi b1, oi b2, oi b3, oi b0, .unset] [(.int (1 : Int32)), (.int (1 : Int32))] _
        refine XS.icmpNo X17.here hx rfl (hb hby at_364) rfl (flt b27).2.2.1 ?_
        show oS p e below T17 m 367 #[oi p0, oi p1, oi cp, oi (p1.toInt8.toInt32), oa b4, oi (1 : Int32), oi (1 : Int32), oi b0, oi b1, oi b2, oi b3, oi b0, .unset] [] _
        refine XS.aload X17.here hx rfl (hb hby at_367) rfl rfl ?_
        show oS p e below T17 m 369 #[oi p0, oi p1, oi cp, oi (p1.toInt8.toInt32), oa b4, oi (1 : Int32), oi (1 : Int32), oi b0, oi b1, oi b2, oi b3, oi b0, .unset] [(.ref b4)] _
        refine XS.iconst X17.here hx rfl (hb hby at_369) ?_
        show oS p e below T17 m 370 #[oi p0, oi p1, oi cp, oi (p1.toInt8.toInt32), oa b4, oi (1 : Int32), oi (1 : Int32), oi b0, oi b1, oi b2, oi b3, oi b0, .unset] [(.int (1 : Int32)), (.ref b4)] _
        refine oLdB X17 hx hZ rfl Oq17_0 (v := (.int (p1.toInt8.toInt32))) ⟨by decide, by decide⟩ rfl (hb hby at_370) ?_
        show oS p e below T17 m 371 #[oi p0, oi p1, oi cp, oi (p1.toInt8.toInt32), oa b4, oi (1 : Int32), oi (1 : Int32), oi b0, oi b1, oi b2, oi b3, oi b0, .unset] [(.int (p1.toInt8.toInt32))] _
        refine XS.iloadN X17.here hx rfl (hb hby at_371) rfl ?_
        show oS p e below T17 m 372 #[oi p0, oi p1, oi cp, oi (p1.toInt8.toInt32), oa b4, oi (1 : Int32), oi (1 : Int32), oi b0, oi b1, oi b2, oi b3, oi b0, .unset] [(.int (p1.toInt8.toInt32)), (.int (p1.toInt8.toInt32))] _
        refine XS.icmpNo X17.here hx rfl (hb hby at_372) rfl (teq b28).2 ?_
        show oS p e below T17 m 375 #[oi p0, oi p1, oi cp, oi (p1.toInt8.toInt32), oa b4, oi (1 : Int32), oi (1 : Int32), oi b0, oi b1, oi b2, oi b3, oi b0, .unset] [] _
        refine XS.iload X17.here hx rfl (hb hby at_375) rfl ?_
        show oS p e below T17 m 377 #[oi p0, oi p1, oi cp, oi (p1.toInt8.toInt32), oa b4, oi (1 : Int32), oi (1 : Int32), oi b0, oi b1, oi b2, oi b3, oi b0, .unset] [(.int (1 : Int32))] _
        refine XS.iconst X17.here hx rfl (hb hby at_377) ?_
        show oS p e below T17 m 378 #[oi p0, oi p1, oi cp, oi (p1.toInt8.toInt32), oa b4, oi (1 : Int32), oi (1 : Int32), oi b0, oi b1, oi b2, oi b3, oi b0, .unset] [(.int (2 : Int32)), (.int (1 : Int32))] _
        refine XS.icmpNo X17.here hx rfl (hb hby at_378) rfl (flt b29).2.2.1 ?_
        show oS p e below T17 m 381 #[oi p0, oi p1, oi cp, oi (p1.toInt8.toInt32), oa b4, oi (1 : Int32), oi (1 : Int32), oi b0, oi b1, oi b2, oi b3, oi b0, .unset] [] _
        refine XS.aload X17.here hx rfl (hb hby at_381) rfl rfl ?_
        show oS p e below T17 m 383 #[oi p0, oi p1, oi cp, oi (p1.toInt8.toInt32), oa b4, oi (1 : Int32), oi (1 : Int32), oi b0, oi b1, oi b2, oi b3, oi b0, .unset] [(.ref b4)] _
        refine XS.iconst X17.here hx rfl (hb hby at_383) ?_
        show oS p e below T17 m 384 #[oi p0, oi p1, oi cp, oi (p1.toInt8.toInt32), oa b4, oi (1 : Int32), oi (1 : Int32), oi b0, oi b1, oi b2, oi b3, oi b0, .unset] [(.int (2 : Int32)), (.ref b4)] _
        refine oLdB X17 hx hZ rfl Oq17_0 (v := (.int (p1.toInt8.toInt32))) ⟨by decide, by decide⟩ rfl (hb hby at_384) ?_
        show oS p e below T17 m 385 #[oi p0, oi p1, oi cp, oi (p1.toInt8.toInt32), oa b4, oi (1 : Int32), oi (1 : Int32), oi b0, oi b1, oi b2, oi b3, oi b0, .unset] [(.int (p1.toInt8.toInt32))] _
        refine XS.iloadN X17.here hx rfl (hb hby at_385) rfl ?_
        show oS p e below T17 m 386 #[oi p0, oi p1, oi cp, oi (p1.toInt8.toInt32), oa b4, oi (1 : Int32), oi (1 : Int32), oi b0, oi b1, oi b2, oi b3, oi b0, .unset] [(.int (p1.toInt8.toInt32)), (.int (p1.toInt8.toInt32))] _
        refine XS.icmpNo X17.here hx rfl (hb hby at_386) rfl (teq b30).2 ?_
        show oS p e below T17 m 389 #[oi p0, oi p1, oi cp, oi (p1.toInt8.toInt32), oa b4, oi (1 : Int32), oi (1 : Int32), oi b0, oi b1, oi b2, oi b3, oi b0, .unset] [] _
        refine XS.iload X17.here hx rfl (hb hby at_389) rfl ?_
        show oS p e below T17 m 391 #[oi p0, oi p1, oi cp, oi (p1.toInt8.toInt32), oa b4, oi (1 : Int32), oi (1 : Int32), oi b0, oi b1, oi b2, oi b3, oi b0, .unset] [(.int (1 : Int32))] _
        refine XS.iconst X17.here hx rfl (hb hby at_391) ?_
        show oS p e below T17 m 392 #[oi p0, oi p1, oi cp, oi (p1.toInt8.toInt32), oa b4, oi (1 : Int32), oi (1 : Int32), oi b0, oi b1, oi b2, oi b3, oi b0, .unset] [(.int (3 : Int32)), (.int (1 : Int32))] _
        refine XS.icmpNo X17.here hx rfl (hb hby at_392) rfl (flt b31).2.2.1 ?_
        show oS p e below T17 m 395 #[oi p0, oi p1, oi cp, oi (p1.toInt8.toInt32), oa b4, oi (1 : Int32), oi (1 : Int32), oi b0, oi b1, oi b2, oi b3, oi b0, .unset] [] _
        refine XS.aload X17.here hx rfl (hb hby at_395) rfl rfl ?_
        show oS p e below T17 m 397 #[oi p0, oi p1, oi cp, oi (p1.toInt8.toInt32), oa b4, oi (1 : Int32), oi (1 : Int32), oi b0, oi b1, oi b2, oi b3, oi b0, .unset] [(.ref b4)] _
        refine XS.iconst X17.here hx rfl (hb hby at_397) ?_
        show oS p e below T17 m 398 #[oi p0, oi p1, oi cp, oi (p1.toInt8.toInt32), oa b4, oi (1 : Int32), oi (1 : Int32), oi b0, oi b1, oi b2, oi b3, oi b0, .unset] [(.int (3 : Int32)), (.ref b4)] _
        refine oLdB X17 hx hZ rfl Oq17_0 (v := (.int (p1.toInt8.toInt32))) ⟨by decide, by decide⟩ rfl (hb hby at_398) ?_
        show oS p e below T17 m 399 #[oi p0, oi p1, oi cp, oi (p1.toInt8.toInt32), oa b4, oi (1 : Int32), oi (1 : Int32), oi b0, oi b1, oi b2, oi b3, oi b0, .unset] [(.int (p1.toInt8.toInt32))] _
        refine XS.iloadN X17.here hx rfl (hb hby at_399) rfl ?_
        show oS p e below T17 m 400 #[oi p0, oi p1, oi cp, oi (p1.toInt8.toInt32), oa b4, oi (1 : Int32), oi (1 : Int32), oi b0, oi b1, oi b2, oi b3, oi b0, .unset] [(.int (p1.toInt8.toInt32)), (.int (p1.toInt8.toInt32))] _
        refine XS.icmpNo X17.here hx rfl (hb hby at_400) rfl (teq b32).2 ?_
        show oS p e below T17 m 403 #[oi p0, oi p1, oi cp, oi (p1.toInt8.toInt32), oa b4, oi (1 : Int32), oi (1 : Int32), oi b0, oi b1, oi b2, oi b3, oi b0, .unset] [] _
        refine XS.aload X17.here hx rfl (hb hby at_403) rfl rfl ?_
        show oS p e below T17 m 405 #[oi p0, oi p1, oi cp, oi (p1.toInt8.toInt32), oa b4, oi (1 : Int32), oi (1 : Int32), oi b0, oi b1, oi b2, oi b3, oi b0, .unset] [(.ref b4)] _
        refine XS.iconst X17.here hx rfl (hb hby at_405) ?_
        show oS p e below T17 m 406 #[oi p0, oi p1, oi cp, oi (p1.toInt8.toInt32), oa b4, oi (1 : Int32), oi (1 : Int32), oi b0, oi b1, oi b2, oi b3, oi b0, .unset] [(.int (4 : Int32)), (.ref b4)] _
        refine oLdB X17 hx hZ rfl Oq17_0 (v := (.int (p1.toInt8.toInt32))) ⟨by decide, by decide⟩ rfl (hb hby at_406) ?_
        show oS p e below T17 m 407 #[oi p0, oi p1, oi cp, oi (p1.toInt8.toInt32), oa b4, oi (1 : Int32), oi (1 : Int32), oi b0, oi b1, oi b2, oi b3, oi b0, .unset] [(.int (p1.toInt8.toInt32))] _
        refine XS.iloadN X17.here hx rfl (hb hby at_407) rfl ?_
        show oS p e below T17 m 408 #[oi p0, oi p1, oi cp, oi (p1.toInt8.toInt32), oa b4, oi (1 : Int32), oi (1 : Int32), oi b0, oi b1, oi b2, oi b3, oi b0, .unset] [(.int (p1.toInt8.toInt32)), (.int (p1.toInt8.toInt32))] _
        refine XS.icmpNo X17.here hx rfl (hb hby at_408) rfl (teq b33).2 ?_
        show oS p e below T17 m 411 #[oi p0, oi p1, oi cp, oi (p1.toInt8.toInt32), oa b4, oi (1 : Int32), oi (1 : Int32), oi b0, oi b1, oi b2, oi b3, oi b0, .unset] [] _
        refine XS.iconst X17.here hx rfl (hb hby at_411) ?_
        show oS p e below T17 m 412 #[oi p0, oi p1, oi cp, oi (p1.toInt8.toInt32), oa b4, oi (1 : Int32), oi (1 : Int32), oi b0, oi b1, oi b2, oi b3, oi b0, .unset] [(.int (1 : Int32))] _
        refine XS.goto X17.here hx rfl (pc0 := 412) (pc' := 416) rfl (hb hby at_412) (by decide) (by decide) ?_
        show oS p e below T17 m 416 #[oi p0, oi p1, oi cp, oi (p1.toInt8.toInt32), oa b4, oi (1 : Int32), oi (1 : Int32), oi b0, oi b1, oi b2, oi b3, oi b0, .unset] [(.int (1 : Int32))] _
        refine XS.istore X17.here hx rfl (hb hby at_416) rfl (l' := #[oi p0, oi p1, oi cp, oi (p1.toInt8.toInt32), oa b4, oi (1 : Int32), oi (1 : Int32), oi b0, oi b1, oi b2, oi b3, oi b0, oi (1 : Int32)]) rfl ?_
        show oS p e below T17 m 418 #[oi p0, oi p1, oi cp, oi (p1.toInt8.toInt32), oa b4, oi (1 : Int32), oi (1 : Int32), oi b0, oi b1, oi b2, oi b3, oi b0, oi (1 : Int32)] [] _
        refine XS.iload X17.here hx rfl (hb hby at_418) rfl ?_
        show oS p e below T17 m 420 #[oi p0, oi p1, oi cp, oi (p1.toInt8.toInt32), oa b4, oi (1 : Int32), oi (1 : Int32), oi b0, oi b1, oi b2, oi b3, oi b0, oi (1 : Int32)] [(.int (1 : Int32))] _
        exact retN X17 hx (t := .boolean) Bd.returns (by simp) (hb hby at_420) hr
      · show own_Q0 Z p0 p1 h0 n0 _ T17.heap _
        exact ⟨rfl, N17⟩
    · skip
      by_cases hB : cp < (2048 : Int32)
      · skip
        have mhA := hA
        have mhB := hB
        simp only [own_ltp, Int32.reduceToInt] at mhA mhB
        obtain ⟨_, _, ⟨T34, L34, k34, n34⟩, -, X34, ⟨Lc34, hQ34, l34, y34, z34⟩, st34⟩ := Jvm.LawKit.callS X14 hx (y := (⟨"com/example/godwit/godwit/link/Utf8", "encode", "(I[B)I"⟩ : MethodName)) hown (mvT hZ (hw _ (List.mem_of_getElem? (i := 4) rfl))) (mvT hZ (hw _ (List.mem_of_getElem? (i := 5) rfl))) (mvT hZ (hw _ (List.mem_of_getElem? (i := 6) rfl))) (mvT hZ (hw _ (List.mem_of_getElem? (i := 7) rfl))) (by decide) (backOf (W := 0) (own_rm1B l Z av hw [] cp b4 k4 (p1.toInt8.toInt32) h14 n0 Z14 V_15 g_b4 (hA) (hB)) hZ (hw _ (List.mem_of_getElem? (i := 7) rfl)) (hw _ (List.mem_of_getElem? (i := 6) rfl)) (by decide) (by decide)) (g := (mkF m 58 #[oi p0, oi p1, oi cp, oi (p1.toInt8.toInt32), oa b4, .unset, .unset, .unset, .unset, .unset, .unset, .unset, .unset] [(.ref b4), (.int cp)])) rfl (by rw [hml]; rfl) (argsL := [(.int cp), (.ref b4)]) (rest := []) (lenOf own_pd0 rfl) rfl (by show 2 * 0 + _ ≤ _; exact Nat.le_of_eq rfl) (hb hby at_58) (fun _ _ => ⟨rfl, e14, (by decide : 1 + 0 ≤ _), (by decide : 5 + 0 ≤ _)⟩)
        dsimp only [Pt.U, Pt.locs, Pt.cells, Pt.slots] at X34 l34 y34 z34 st34 hQ34
        have yq34 : k34 = 1 := y34
        have zq34 : n34 = 5 := z34
        subst yq34 zq34
        obtain ⟨rfl, Nq34, Kq34, Oq34_0⟩ := hQ34
        have N34 : Fr n0 L34 := by rw [l34]; exact Fr.app N14 Nq34
        have Z34 : n0 ≤ T34.heap.size := Nat.le_trans Z14 Kq34.1
        have b35 : ¬ (cp < (128 : Int32)) := hA
        have b36 : cp < (2048 : Int32) := hB
        have b37 : (2 : Int32) = (2 : Int32) := (by decide)
        have pre38 : ∀ t, Steps p.tables e below (T34.setTop (mkF m 115 #[oi p0, oi p1, oi cp, oi (p1.toInt8.toInt32), oa b4, oi (2 : Int32), oi (2 : Int32), .unset, .unset, .unset, .unset, .unset, .unset] [(.int ((((192 : Int32) ||| (cp >>> ((6 : Int32) &&& 31))).toInt8.toInt32) &&& (255 : Int32)))])) t → Steps p.tables e below (s₁.setTop (entryFrame m #[(.int p0), (.int p1)] maxLocals)) t := by
          intro t k
          refine pre16 t ?_
          show oS p e below T14 m 58 #[oi p0, oi p1, oi cp, oi (p1.toInt8.toInt32), oa b4, .unset, .unset, .unset, .unset, .unset, .unset, .unset, .unset] [(.ref b4), (.int cp)] _
          refine st34 _ ?_
          show oS p e below T34 m 61 #[oi p0, oi p1, oi cp, oi (p1.toInt8.toInt32), oa b4, .unset, .unset, .unset, .unset, .unset, .unset, .unset, .unset] [(.int (2 : Int32))] _
          refine XS.istore X34.here hx rfl (hb hby at_61) rfl (l' := #[oi p0, oi p1, oi cp, oi (p1.toInt8.toInt32), oa b4, oi (2 : Int32), .unset, .unset, .unset, .unset, .unset, .unset, .unset]) rfl ?_
          show oS p e below T34 m 63 #[oi p0, oi p1, oi cp, oi (p1.toInt8.toInt32), oa b4, oi (2 : Int32), .unset, .unset, .unset, .unset, .unset, .unset, .unset] [] _
          refine XS.iloadN X34.here hx rfl (hb hby at_63) rfl ?_
          show oS p e below T34 m 64 #[oi p0, oi p1, oi cp, oi (p1.toInt8.toInt32), oa b4, oi (2 : Int32), .unset, .unset, .unset, .unset, .unset, .unset, .unset] [(.int cp)] _
          refine XS.sipush X34.here hx rfl (hb hby at_64) ?_
          show oS p e below T34 m 67 #[oi p0, oi p1, oi cp, oi (p1.toInt8.toInt32), oa b4, oi (2 : Int32), .unset, .unset, .unset, .unset, .unset, .unset, .unset] [(.int (128 : Int32)), (.int cp)] _
          refine XS.icmpYes X34.here hx rfl (pc0 := 67) (pc' := 74) rfl (hb hby at_67) rfl (flt b35).2.1 (by decide) (by decide) ?_
          show oS p e below T34 m 74 #[oi p0, oi p1, oi cp, oi (p1.toInt8.toInt32), oa b4, oi (2 : Int32), .unset, .unset, .unset, .unset, .unset, .unset, .unset] [] _
          refine XS.iloadN X34.here hx rfl (hb hby at_74) rfl ?_
          show oS p e below T34 m 75 #[oi p0, oi p1, oi cp, oi (p1.toInt8.toInt32), oa b4, oi (2 : Int32), .unset, .unset, .unset, .unset, .unset, .unset, .unset] [(.int cp)] _
          refine XS.sipush X34.here hx rfl (hb hby at_75) ?_
          show oS p e below T34 m 78 #[oi p0, oi p1, oi cp, oi (p1.toInt8.toInt32), oa b4, oi (2 : Int32), .unset, .unset, .unset, .unset, .unset, .unset, .unset] [(.int (2048 : Int32)), (.int cp)] _
          refine XS.icmpNo X34.here hx rfl (hb hby at_78) rfl (tlt b36).2.1 ?_
          show oS p e below T34 m 81 #[oi p0, oi p1, oi cp, oi (p1.toInt8.toInt32), oa b4, oi (2 : Int32), .unset, .unset, .unset, .unset, .unset, .unset, .unset] [] _
          refine XS.iconst X34.here hx rfl (hb hby at_81) ?_
          show oS p e below T34 m 82 #[oi p0, oi p1, oi cp, oi (p1.toInt8.toInt32), oa b4, oi (2 : Int32), .unset, .unset, .unset, .unset, .unset, .unset, .unset] [(.int (2 : Int32))] _
          refine XS.goto X34.here hx rfl (pc0 := 82) (pc' := 96) rfl (hb hby at_82) (by decide) (by decide) ?_
          show oS p e below T34 m 96 #[oi p0, oi p1, oi cp, oi (p1.toInt8.toInt32), oa b4, oi (2 : Int32), .unset, .unset, .unset, .unset, .unset, .unset, .unset] [(.int (2 : Int32))] _
          refine XS.istore X34.here hx rfl (hb hby at_96) rfl (l' := #[oi p0, oi p1, oi cp, oi (p1.toInt8.toInt32), oa b4, oi (2 : Int32), oi (2 : Int32), .unset, .unset, .unset, .unset, .unset, .unset]) rfl ?_
          show oS p e below T34 m 98 #[oi p0, oi p1, oi cp, oi (p1.toInt8.toInt32), oa b4, oi (2 : Int32), oi (2 : Int32), .unset, .unset, .unset, .unset, .unset, .unset] [] _
          refine XS.iload X34.here hx rfl (hb hby at_98) rfl ?_
          show oS p e below T34 m 100 #[oi p0, oi p1, oi cp, oi (p1.toInt8.toInt32), oa b4, oi (2 : Int32), oi (2 : Int32), .unset, .unset, .unset, .unset, .unset, .unset] [(.int (2 : Int32))] _
          refine XS.iload X34.here hx rfl (hb hby at_100) rfl ?_
          show oS p e below T34 m 102 #[oi p0, oi p1, oi cp, oi (p1.toInt8.toInt32), oa b4, oi (2 : Int32), oi (2 : Int32), .unset, .unset, .unset, .unset, .unset, .unset] [(.int (2 : Int32)), (.int (2 : Int32))] _
          refine XS.icmpYes X34.here hx rfl (pc0 := 102) (pc' := 107) rfl (hb hby at_102) rfl (teq b37).1 (by decide) (by decide) ?_
          show oS p e below T34 m 107 #[oi p0, oi p1, oi cp, oi (p1.toInt8.toInt32), oa b4, oi (2 : Int32), oi (2 : Int32), .unset, .unset, .unset, .unset, .unset, .unset] [] _
          refine XS.aload X34.here hx rfl (hb hby at_107) rfl rfl ?_
          show oS p e below T34 m 109 #[oi p0, oi p1, oi cp, oi (p1.toInt8.toInt32), oa b4, oi (2 : Int32), oi (2 : Int32), .unset, .unset, .unset, .unset, .unset, .unset] [(.ref b4)] _
          refine XS.iconst X34.here hx rfl (hb hby at_109) ?_
          show oS p e below T34 m 110 #[oi p0, oi p1, oi cp, oi (p1.toInt8.toInt32), oa b4, oi (2 : Int32), oi (2 : Int32), .unset, .unset, .unset, .unset, .unset, .unset] [(.int (0 : Int32)), (.ref b4)] _
          refine oLdB X34 hx hZ rfl Oq34_0 (v := (.int (((192 : Int32) ||| (cp >>> ((6 : Int32) &&& 31))).toInt8.toInt32))) ⟨by decide, by decide⟩ rfl (hb hby at_110) ?_
          show oS p e below T34 m 111 #[oi p0, oi p1, oi cp, oi (p1.toInt8.toInt32), oa b4, oi (2 : Int32), oi (2 : Int32), .unset, .unset, .unset, .unset, .unset, .unset] [(.int (((192 : Int32) ||| (cp >>> ((6 : Int32) &&& 31))).toInt8.toInt32))] _
          refine XS.sipush X34.here hx rfl (hb hby at_111) ?_
          show oS p e below T34 m 114 #[oi p0, oi p1, oi cp, oi (p1.toInt8.toInt32), oa b4, oi (2 : Int32), oi (2 : Int32), .unset, .unset, .unset, .unset, .unset, .unset] [(.int (255 : Int32)), (.int (((192 : Int32) ||| (cp >>> ((6 : Int32) &&& 31))).toInt8.toInt32))] _
          refine XS.iand X34.here hx rfl (hb hby at_114) rfl ?_
          exact k
        obtain ⟨b0, hb0⟩ : ∃ z : Int32, z = ((((192 : Int32) ||| (cp >>> ((6 : Int32) &&& 31))).toInt8.toInt32) &&& (255 : Int32)) := ⟨_, rfl⟩
        rw [← hb0] at pre38
        have e0 : b0.toInt = 192 + cp.toInt / 64 := by rw [hb0, own_lead _ _ (by decide) (by rw [own_s6]; omega) (by rw [own_s6, if_pos rfl]; omega), own_s6]; rfl
        have pre39 : ∀ t, Steps p.tables e below (T34.setTop (mkF m 125 #[oi p0, oi p1, oi cp, oi (p1.toInt8.toInt32), oa b4, oi (2 : Int32), oi (2 : Int32), oi b0, .unset, .unset, .unset, .unset, .unset] [(.int ((((128 : Int32) ||| (cp &&& (63 : Int32))).toInt8.toInt32) &&& (255 : Int32)))])) t → Steps p.tables e below (s₁.setTop (entryFrame m #[(.int p0), (.int p1)] maxLocals)) t := by
          intro t k
          refine pre38 t ?_
          show oS p e below T34 m 115 #[oi p0, oi p1, oi cp, oi (p1.toInt8.toInt32), oa b4, oi (2 : Int32), oi (2 : Int32), .unset, .unset, .unset, .unset, .unset, .unset] [(.int b0)] _
          refine XS.istore X34.here hx rfl (hb hby at_115) rfl (l' := #[oi p0, oi p1, oi cp, oi (p1.toInt8.toInt32), oa b4, oi (2 : Int32), oi (2 : Int32), oi b0, .unset, .unset, .unset, .unset, .unset]) rfl ?_
          show oS p e below T34 m 117 #[oi p0, oi p1, oi cp, oi (p1.toInt8.toInt32), oa b4, oi (2 : Int32), oi (2 : Int32), oi b0, .unset, .unset, .unset, .unset, .unset] [] _
          refine XS.aload X34.here hx rfl (hb hby at_117) rfl rfl ?_
          show oS p e below T34 m 119 #[oi p0, oi p1, oi cp, oi (p1.toInt8.toInt32), oa b4, oi (2 : Int32), oi (2 : Int32), oi b0, .unset, .unset, .unset, .unset, .unset] [(.ref b4)] _
          refine XS.iconst X34.here hx rfl (hb hby at_119) ?_
          show oS p e below T34 m 120 #[oi p0, oi p1, oi cp, oi (p1.toInt8.toInt32), oa b4, oi (2 : Int32), oi (2 : Int32), oi b0, .unset, .unset, .unset, .unset, .unset] [(.int (1 : Int32)), (.ref b4)] _
          refine oLdB X34 hx hZ rfl Oq34_0 (v := (.int (((128 : Int32) ||| (cp &&& (63 : Int32))).toInt8.toInt32))) ⟨by decide, by decide⟩ rfl (hb hby at_120) ?_
          show oS p e below T34 m 121 #[oi p0, oi p1, oi cp, oi (p1.toInt8.toInt32), oa b4, oi (2 : Int32), oi (2 : Int32), oi b0, .unset, .unset, .unset, .unset, .unset] [(.int (((128 : Int32) ||| (cp &&& (63 : Int32))).toInt8.toInt32))] _
          refine XS.sipush X34.here hx rfl (hb hby at_121) ?_
          show oS p e below T34 m 124 #[oi p0, oi p1, oi cp, oi (p1.toInt8.toInt32), oa b4, oi (2 : Int32), oi (2 : Int32), oi b0, .unset, .unset, .unset, .unset, .unset] [(.int (255 : Int32)), (.int (((128 : Int32) ||| (cp &&& (63 : Int32))).toInt8.toInt32))] _
          refine XS.iand X34.here hx rfl (hb hby at_124) rfl ?_
          exact k
        obtain ⟨b1, hb1⟩ : ∃ z : Int32, z = ((((128 : Int32) ||| (cp &&& (63 : Int32))).toInt8.toInt32) &&& (255 : Int32)) := ⟨_, rfl⟩
        rw [← hb1] at pre39
        have e1 : b1.toInt = 128 + cp.toInt % 64 := by rw [hb1, own_cb]
        have pre40 : ∀ t, Steps p.tables e below (T34.setTop (mkF m 135 #[oi p0, oi p1, oi cp, oi (p1.toInt8.toInt32), oa b4, oi (2 : Int32), oi (2 : Int32), oi b0, oi b1, .unset, .unset, .unset, .unset] [(.int ((p1.toInt8.toInt32) &&& (255 : Int32)))])) t → Steps p.tables e below (s₁.setTop (entryFrame m #[(.int p0), (.int p1)] maxLocals)) t := by
          intro t k
          refine pre39 t ?_
          show oS p e below T34 m 125 #[oi p0, oi p1, oi cp, oi (p1.toInt8.toInt32), oa b4, oi (2 : Int32), oi (2 : Int32), oi b0, .unset, .unset, .unset, .unset, .unset] [(.int b1)] _
          refine XS.istore X34.here hx rfl (hb hby at_125) rfl (l' := #[oi p0, oi p1, oi cp, oi (p1.toInt8.toInt32), oa b4, oi (2 : Int32), oi (2 : Int32), oi b0, oi b1, .unset, .unset, .unset, .unset]) rfl ?_
          show oS p e below T34 m 127 #[oi p0, oi p1, oi cp, oi (p1.toInt8.toInt32), oa b4, oi (2 : Int32), oi (2 : Int32), oi b0, oi b1, .unset, .unset, .unset, .unset] [] _
          refine XS.aload X34.here hx rfl (hb hby at_127) rfl rfl ?_
          show oS p e below T34 m 129 #[oi p0, oi p1, oi cp, oi (p1.toInt8.toInt32), oa b4, oi (2 : Int32), oi (2 : Int32), oi b0, oi b1, .unset, .unset, .unset, .unset] [(.ref b4)] _
          refine XS.iconst X34.here hx rfl (hb hby at_129) ?_
          show oS p e below T34 m 130 #[oi p0, oi p1, oi cp, oi (p1.toInt8.toInt32), oa b4, oi (2 : Int32), oi (2 : Int32), oi b0, oi b1, .unset, .unset, .unset, .unset] [(.int (2 : Int32)), (.ref b4)] _
          refine oLdB X34 hx hZ rfl Oq34_0 (v := (.int (p1.toInt8.toInt32))) ⟨by decide, by decide⟩ rfl (hb hby at_130) ?_
          show oS p e below T34 m 131 #[oi p0, oi p1, oi cp, oi (p1.toInt8.toInt32), oa b4, oi (2 : Int32), oi (2 : Int32), oi b0, oi b1, .unset, .unset, .unset, .unset] [(.int (p1.toInt8.toInt32))] _
          refine XS.sipush X34.here hx rfl (hb hby at_131) ?_
          show oS p e below T34 m 134 #[oi p0, oi p1, oi cp, oi (p1.toInt8.toInt32), oa b4, oi (2 : Int32), oi (2 : Int32), oi b0, oi b1, .unset, .unset, .unset, .unset] [(.int (255 : Int32)), (.int (p1.toInt8.toInt32))] _
          refine XS.iand X34.here hx rfl (hb hby at_134) rfl ?_
          exact k
        obtain ⟨b2, hb2⟩ : ∃ z : Int32, z = ((p1.toInt8.toInt32) &&& (255 : Int32)) := ⟨_, rfl⟩
        rw [← hb2] at pre40
        have pre41 : ∀ t, Steps p.tables e below (T34.setTop (mkF m 145 #[oi p0, oi p1, oi cp, oi (p1.toInt8.toInt32), oa b4, oi (2 : Int32), oi (2 : Int32), oi b0, oi b1, oi b2, .unset, .unset, .unset] [(.int ((p1.toInt8.toInt32) &&& (255 : Int32)))])) t → Steps p.tables e below (s₁.setTop (entryFrame m #[(.int p0), (.int p1)] maxLocals)) t := by
          intro t k
          refine pre40 t ?_
          show oS p e below T34 m 135 #[oi p0, oi p1, oi cp, oi (p1.toInt8.toInt32), oa b4, oi (2 : Int32), oi (2 : Int32), oi b0, oi b1, .unset, .unset, .unset, .unset] [(.int b2)] _
          refine XS.istore X34.here hx rfl (hb hby at_135) rfl (l' := #[oi p0, oi p1, oi cp, oi (p1.toInt8.toInt32), oa b4, oi (2 : Int32), oi (2 : Int32), oi b0, oi b1, oi b2, .unset, .unset, .unset]) rfl ?_
          show oS p e below T34 m 137 #[oi p0, oi p1, oi cp, oi (p1.toInt8.toInt32), oa b4, oi (2 : Int32), oi (2 : Int32), oi b0, oi b1, oi b2, .unset, .unset, .unset] [] _
          refine XS.aload X34.here hx rfl (hb hby at_137) rfl rfl ?_
          show oS p e below T34 m 139 #[oi p0, oi p1, oi cp, oi (p1.toInt8.toInt32), oa b4, oi (2 : Int32), oi (2 : Int32), oi b0, oi b1, oi b2, .unset, .unset, .unset] [(.ref b4)] _
          refine XS.iconst X34.here hx rfl (hb hby at_139) ?_
          show oS p e below T34 m 140 #[oi p0, oi p1, oi cp, oi (p1.toInt8.toInt32), oa b4, oi (2 : Int32), oi (2 : Int32), oi b0, oi b1, oi b2, .unset, .unset, .unset] [(.int (3 : Int32)), (.ref b4)] _
          refine oLdB X34 hx hZ rfl Oq34_0 (v := (.int (p1.toInt8.toInt32))) ⟨by decide, by decide⟩ rfl (hb hby at_140) ?_
          show oS p e below T34 m 141 #[oi p0, oi p1, oi cp, oi (p1.toInt8.toInt32), oa b4, oi (2 : Int32), oi (2 : Int32), oi b0, oi b1, oi b2, .unset, .unset, .unset] [(.int (p1.toInt8.toInt32))] _
          refine XS.sipush X34.here hx rfl (hb hby at_141) ?_
          show oS p e below T34 m 144 #[oi p0, oi p1, oi cp, oi (p1.toInt8.toInt32), oa b4, oi (2 : Int32), oi (2 : Int32), oi b0, oi b1, oi b2, .unset, .unset, .unset] [(.int (255 : Int32)), (.int (p1.toInt8.toInt32))] _
          refine XS.iand X34.here hx rfl (hb hby at_144) rfl ?_
          exact k
        obtain ⟨b3, hb3⟩ : ∃ z : Int32, z = ((p1.toInt8.toInt32) &&& (255 : Int32)) := ⟨_, rfl⟩
        rw [← hb3] at pre41
        have b42 : ¬ ((2 : Int32) = (1 : Int32)) := (by decide)
        have b43 : (2 : Int32) = (2 : Int32) := (by decide)
        have b44 : (b0 &&& (224 : Int32)) = (192 : Int32) := own_h2 (by omega) (by omega)
        obtain ⟨_, _, ⟨T45, L45, k45, n45⟩, -, X45, ⟨Lc45, hQ45, l45, y45, z45⟩, st45⟩ := Jvm.LawKit.callS X34 hx (y := (⟨"com/example/godwit/godwit/link/Utf8EncodePinLaw", "cont", "(I)Z"⟩ : MethodName)) hown (mvT hZ (hw _ (List.mem_of_getElem? (i := 11) rfl))) (mvT hZ (hw _ (List.mem_of_getElem? (i := 12) rfl))) (mvT hZ (hw _ (List.mem_of_getElem? (i := 13) rfl))) (mvT hZ (hw _ (List.mem_of_getElem? (i := 14) rfl))) (by decide) (backOf (W := 0) (own_rm2 l Z av hw [] b1 T34.heap n0 Z34 ) hZ (hw _ (List.mem_of_getElem? (i := 14) rfl)) (hw _ (List.mem_of_getElem? (i := 13) rfl)) (by decide) (by decide)) (g := (mkF m 190 #[oi p0, oi p1, oi cp, oi (p1.toInt8.toInt32), oa b4, oi (2 : Int32), oi (2 : Int32), oi b0, oi b1, oi b2, oi b3, .unset, .unset] [(.int b1)])) rfl (by rw [hml]; rfl) (argsL := [(.int b1)]) (rest := []) (lenOf own_pd1 rfl) rfl (by show 2 * 0 + _ ≤ _; exact Nat.le_of_eq rfl) (hb hby at_190) (fun _ _ => ⟨rfl, rfl, (by decide : 1 + 0 ≤ _), (by decide : 5 + 0 ≤ _)⟩)
        dsimp only [Pt.U, Pt.locs, Pt.cells, Pt.slots] at X45 l45 y45 z45 st45 hQ45
        have yq45 : k45 = 1 := y45
        have zq45 : n45 = 5 := z45
        subst yq45 zq45
        obtain ⟨rfl, Nq45, eq45⟩ := hQ45
        have N45 : Fr n0 L45 := by rw [l45]; exact Fr.app N34 Nq45
        have b46 : ¬ ((own_f2 b1) = (0 : Int32)) := own_cont (by omega) (by omega)
        have b47 : (((b0 &&& (31 : Int32)) <<< ((6 : Int32) &&& 31)) ||| (b1 &&& (63 : Int32))) = cp := own_v2 e0 e1 rc.1 (by omega)
        have b48 : (1 : Int32) < (2 : Int32) := (by decide)
        have b49 : ¬ ((2 : Int32) < (2 : Int32)) := (by decide)
        have b50 : (p1.toInt8.toInt32) = (p1.toInt8.toInt32) := rfl
        have b51 : ¬ ((3 : Int32) < (2 : Int32)) := (by decide)
        have b52 : (p1.toInt8.toInt32) = (p1.toInt8.toInt32) := rfl
        have b53 : (p1.toInt8.toInt32) = (p1.toInt8.toInt32) := rfl
        obtain ⟨fs, hr, hrun, hended, hW, hsame⟩ := X45.leave (v := (some (.int (1 : Int32)))) (fun h => by rw [Bd.returns] at h; cases h)
        refine ⟨_, _, pre41 _ ?_, hrun, hended, _, _, rfl, ?_, ⟨_, rfl⟩, hW, hsame.mono (by decide) (by decide)⟩
        · show oS p e below T34 m 145 #[oi p0, oi p1, oi cp, oi (p1.toInt8.toInt32), oa b4, oi (2 : Int32), oi (2 : Int32), oi b0, oi b1, oi b2, .unset, .unset, .unset] [(.int b3)] _
          refine XS.istore X34.here hx rfl (hb hby at_145) rfl (l' := #[oi p0, oi p1, oi cp, oi (p1.toInt8.toInt32), oa b4, oi (2 : Int32), oi (2 : Int32), oi b0, oi b1, oi b2, oi b3, .unset, .unset]) rfl ?_
          show oS p e below T34 m 147 #[oi p0, oi p1, oi cp, oi (p1.toInt8.toInt32), oa b4, oi (2 : Int32), oi (2 : Int32), oi b0, oi b1, oi b2, oi b3, .unset, .unset] [] _
          refine XS.iload X34.here hx rfl (hb hby at_147) rfl ?_
          show oS p e below T34 m 149 #[oi p0, oi p1, oi cp, oi (p1.toInt8.toInt32), oa b4, oi (2 : Int32), oi (2 : Int32), oi b0, oi b1, oi b2, oi b3, .unset, .unset] [(.int (2 : Int32))] _
          refine XS.iconst X34.here hx rfl (hb hby at_149) ?_
          show oS p e below T34 m 150 #[oi p0, oi p1, oi cp, oi (p1.toInt8.toInt32), oa b4, oi (2 : Int32), oi (2 : Int32), oi b0, oi b1, oi b2, oi b3, .unset, .unset] [(.int (1 : Int32)), (.int (2 : Int32))] _
          refine XS.icmpYes X34.here hx rfl (pc0 := 150) (pc' := 170) rfl (hb hby at_150) rfl (feq b42).2 (by decide) (by decide) ?_
          show oS p e below T34 m 170 #[oi p0, oi p1, oi cp, oi (p1.toInt8.toInt32), oa b4, oi (2 : Int32), oi (2 : Int32), oi b0, oi b1, oi b2, oi b3, .unset, .unset] [] _
          refine XS.iload X34.here hx rfl (hb hby at_170) rfl ?_
          show oS p e below T34 m 172 #[oi p0, oi p1, oi cp, oi (p1.toInt8.toInt32), oa b4, oi (2 : Int32), oi (2 : Int32), oi b0, oi b1, oi b2, oi b3, .unset, .unset] [(.int (2 : Int32))] _
          refine XS.iconst X34.here hx rfl (hb hby at_172) ?_
          show oS p e below T34 m 173 #[oi p0, oi p1, oi cp, oi (p1.toInt8.toInt32), oa b4, oi (2 : Int32), oi (2 : Int32), oi b0, oi b1, oi b2, oi b3, .unset, .unset] [(.int (2 : Int32)), (.int (2 : Int32))] _
          refine XS.icmpNo X34.here hx rfl (hb hby at_173) rfl (teq b43).2 ?_
          show oS p e below T34 m 176 #[oi p0, oi p1, oi cp, oi (p1.toInt8.toInt32), oa b4, oi (2 : Int32), oi (2 : Int32), oi b0, oi b1, oi b2, oi b3, .unset, .unset] [] _
          refine XS.iload X34.here hx rfl (hb hby at_176) rfl ?_
          show oS p e below T34 m 178 #[oi p0, oi p1, oi cp, oi (p1.toInt8.toInt32), oa b4, oi (2 : Int32), oi (2 : Int32), oi b0, oi b1, oi b2, oi b3, .unset, .unset] [(.int b0)] _
          refine XS.sipush X34.here hx rfl (hb hby at_178) ?_
          show oS p e below T34 m 181 #[oi p0, oi p1, oi cp, oi (p1.toInt8.toInt32), oa b4, oi (2 : Int32), oi (2 : Int32), oi b0, oi b1, oi b2, oi b3, .unset, .unset] [(.int (224 : Int32)), (.int b0)] _
          refine XS.iand X34.here hx rfl (hb hby at_181) rfl ?_
          show oS p e below T34 m 182 #[oi p0, oi p1, oi cp, oi (p1.toInt8.toInt32), oa b4, oi (2 : Int32), oi (2 : Int32), oi b0, oi b1, oi b2, oi b3, .unset, .unset] [(.int (b0 &&& (224 : Int32)))] _
          refine XS.sipush X34.here hx rfl (hb hby at_182) ?_
          show oS p e below T34 m 185 #[oi p0, oi p1, oi cp, oi (p1.toInt8.toInt32), oa b4, oi (2 : Int32), oi (2 : Int32), oi b0, oi b1, oi b2, oi b3, .unset, .unset] [(.int (192 : Int32)), (.int (b0 &&& (224 : Int32)))] _
          refine XS.icmpNo X34.here hx rfl (hb hby at_185) rfl (teq b44).2 ?_
          show oS p e below T34 m 188 #[oi p0, oi p1, oi cp, oi (p1.toInt8.toInt32), oa b4, oi (2 : Int32), oi (2 : Int32), oi b0, oi b1, oi b2, oi b3, .unset, .unset] [] _
          refine XS.iload X34.here hx rfl (hb hby at_188) rfl ?_
          show oS p e below T34 m 190 #[oi p0, oi p1, oi cp, oi (p1.toInt8.toInt32), oa b4, oi (2 : Int32), oi (2 : Int32), oi b0, oi b1, oi b2, oi b3, .unset, .unset] [(.int b1)] _
          refine st45 _ ?_
          show oS p e below T45 m 193 #[oi p0, oi p1, oi cp, oi (p1.toInt8.toInt32), oa b4, oi (2 : Int32), oi (2 : Int32), oi b0, oi b1, oi b2, oi b3, .unset, .unset] [(.int (own_f2 b1))] _
          refine XS.ifYes X45.here hx rfl (pc0 := 193) (pc' := 198) rfl (hb hby at_193) rfl ((if0 _ _).trans (feq b46).2) (by decide) (by decide) ?_
          show oS p e below T45 m 198 #[oi p0, oi p1, oi cp, oi (p1.toInt8.toInt32), oa b4, oi (2 : Int32), oi (2 : Int32), oi b0, oi b1, oi b2, oi b3, .unset, .unset] [] _
          refine XS.iload X45.here hx rfl (hb hby at_198) rfl ?_
          show oS p e below T45 m 200 #[oi p0, oi p1, oi cp, oi (p1.toInt8.toInt32), oa b4, oi (2 : Int32), oi (2 : Int32), oi b0, oi b1, oi b2, oi b3, .unset, .unset] [(.int b0)] _
          refine XS.bipush X45.here hx rfl (hb hby at_200) ?_
          show oS p e below T45 m 202 #[oi p0, oi p1, oi cp, oi (p1.toInt8.toInt32), oa b4, oi (2 : Int32), oi (2 : Int32), oi b0, oi b1, oi b2, oi b3, .unset, .unset] [(.int (31 : Int32)), (.int b0)] _
          refine XS.iand X45.here hx rfl (hb hby at_202) rfl ?_
          show oS p e below T45 m 203 #[oi p0, oi p1, oi cp, oi (p1.toInt8.toInt32), oa b4, oi (2 : Int32), oi (2 : Int32), oi b0, oi b1, oi b2, oi b3, .unset, .unset] [(.int (b0 &&& (31 : Int32)))] _
          refine XS.bipush X45.here hx rfl (hb hby at_203) ?_
          show oS p e below T45 m 205 #[oi p0, oi p1, oi cp, oi (p1.toInt8.toInt32), oa b4, oi (2 : Int32), oi (2 : Int32), oi b0, oi b1, oi b2, oi b3, .unset, .unset] [(.int (6 : Int32)), (.int (b0 &&& (31 : Int32)))] _
          refine XS.ishl X45.here hx rfl (hb hby at_205) rfl ?_
          show oS p e below T45 m 206 #[oi p0, oi p1, oi cp, oi (p1.toInt8.toInt32), oa b4, oi (2 : Int32), oi (2 : Int32), oi b0, oi b1, oi b2, oi b3, .unset, .unset] [(.int ((b0 &&& (31 : Int32)) <<< ((6 : Int32) &&& 31)))] _
          refine XS.iload X45.here hx rfl (hb hby at_206) rfl ?_
          show oS p e below T45 m 208 #[oi p0, oi p1, oi cp, oi (p1.toInt8.toInt32), oa b4, oi (2 : Int32), oi (2 : Int32), oi b0, oi b1, oi b2, oi b3, .unset, .unset] [(.int b1), (.int ((b0 &&& (31 : Int32)) <<< ((6 : Int32) &&& 31)))] _
          refine XS.bipush X45.here hx rfl (hb hby at_208) ?_
          show oS p e below T45 m 210 #[oi p0, oi p1, oi cp, oi (p1.toInt8.toInt32), oa b4, oi (2 : Int32), oi (2 : Int32), oi b0, oi b1, oi b2, oi b3, .unset, .unset] [(.int (63 : Int32)), (.int b1), (.int ((b0 &&& (31 : Int32)) <<< ((6 : Int32) &&& 31)))] _
          refine XS.iand X45.here hx rfl (hb hby at_210) rfl ?_
          show oS p e below T45 m 211 #[oi p0, oi p1, oi cp, oi (p1.toInt8.toInt32), oa b4, oi (2 : Int32), oi (2 : Int32), oi b0, oi b1, oi b2, oi b3, .unset, .unset] [(.int (b1 &&& (63 : Int32))), (.int ((b0 &&& (31 : Int32)) <<< ((6 : Int32) &&& 31)))] _
          refine XS.ior X45.here hx rfl (hb hby at_211) rfl ?_
          show oS p e below T45 m 212 #[oi p0, oi p1, oi cp, oi (p1.toInt8.toInt32), oa b4, oi (2 : Int32), oi (2 : Int32), oi b0, oi b1, oi b2, oi b3, .unset, .unset] [(.int (((b0 &&& (31 : Int32)) <<< ((6 : Int32) &&& 31)) ||| (b1 &&& (63 : Int32))))] _
          refine XS.istore X45.here hx rfl (hb hby at_212) rfl (l' := #[oi p0, oi p1, oi cp, oi (p1.toInt8.toInt32), oa b4, oi (2 : Int32), oi (2 : Int32), oi b0, oi b1, oi b2, oi b3, oi (((b0 &&& (31 : Int32)) <<< ((6 : Int32) &&& 31)) ||| (b1 &&& (63 : Int32))), .unset]) rfl ?_
          show oS p e below T45 m 214 #[oi p0, oi p1, oi cp, oi (p1.toInt8.toInt32), oa b4, oi (2 : Int32), oi (2 : Int32), oi b0, oi b1, oi b2, oi b3, oi (((b0 &&& (31 : Int32)) <<< ((6 : Int32) &&& 31)) ||| (b1 &&& (63 : Int32))), .unset] [] _
          refine XS.goto X45.here hx rfl (pc0 := 214) (pc' := 353) rfl (hb hby at_214) (by decide) (by decide) ?_
          show oS p e below T45 m 353 #[oi p0, oi p1, oi cp, oi (p1.toInt8.toInt32), oa b4, oi (2 : Int32), oi (2 : Int32), oi b0, oi b1, oi b2, oi b3, oi (((b0 &&& (31 : Int32)) <<< ((6 : Int32) &&& 31)) ||| (b1 &&& (63 : Int32))), .unset] [] _
          refine XS.iload X45.here hx rfl (hb hby at_353) rfl ?_
          show oS p e below T45 m 355 #[oi p0, oi p1, oi cp, oi (p1.toInt8.toInt32), oa b4, oi (2 : Int32), oi (2 : Int32), oi b0, oi b1, oi b2, oi b3, oi (((b0 &&& (31 : Int32)) <<< ((6 : Int32) &&& 31)) ||| (b1 &&& (63 : Int32))), .unset] [(.int (((b0 &&& (31 : Int32)) <<< ((6 : Int32) &&& 31)) ||| (b1 &&& (63 : Int32))))] _
          refine XS.iloadN X45.here hx rfl (hb hby at_355) rfl ?_
          show oS p e below T45 m 356 #[oi p0, oi p1, oi cp, oi (p1.toInt8.toInt32), oa b4, oi (2 : Int32), oi (2 : Int32), oi b0, oi b1, oi b2, oi b3, oi (((b0 &&& (31 : Int32)) <<< ((6 : Int32) &&& 31)) ||| (b1 &&& (63 : Int32))), .unset] [(.int cp), (.int (((b0 &&& (31 : Int32)) <<< ((6 : Int32) &&& 31)) ||| (b1 &&& (63 : Int32))))] _
          refine XS.icmpYes X45.here hx rfl (pc0 := 356) (pc' := 361) rfl (hb hby at_356) rfl (teq b47).1 (by decide) (by decide) ?_
          show oS p e below T45 m 361 #[oi p0, oi p1, oi cp, oi (p1.toInt8.toInt32), oa b4, oi (2 : Int32), oi (2 : Int32), oi b0, oi b1, oi b2, oi b3, oi (((b0 &&& (31 : Int32)) <<< ((6 : Int32) &&& 31)) ||| (b1 &&& (63 : Int32))), .unset] [] _
          refine XS.iload X45.here hx rfl (hb hby at_361) rfl ?_
          show oS p e below T45 m 363 #[oi p0, oi p1, oi cp, oi (p1.toInt8.toInt32), oa b4, oi (2 : Int32), oi (2 : Int32), oi b0, oi b1, oi b2, oi b3, oi (((b0 &&& (31 : Int32)) <<< ((6 : Int32) &&& 31)) ||| (b1 &&& (63 : Int32))), .unset] [(.int (2 : Int32))] _
          refine XS.iconst X45.here hx rfl (hb hby at_363) ?_
          show oS p e below T45 m 364 #[oi p0, oi p1, oi cp, oi (p1.toInt8.toInt32), oa b4, oi (2 : Int32), oi (2 : Int32), oi b0, oi b1, oi b2, oi b3, oi (((b0 &&& (31 : Int32)) <<< ((6 : Int32) &&& 31)) ||| (b1 &&& (63 : Int32))), .unset] [(.int (1 : Int32)), (.int (2 : Int32))] _
          refine XS.icmpYes X45.here hx rfl (pc0 := 364) (pc' := 375) rfl (hb hby at_364) rfl (tlt b48).2.2.1 (by decide) (by decide) ?_
          show oS p e below T45 m 375 #[oi p0, oi p1, oi cp, oi (p1.toInt8.toInt32), oa b4, oi (2 : Int32), oi (2 : Int32), oi b0, oi b1, oi b2, oi b3, oi (((b0 &&& (31 : Int32)) <<< ((6 : Int32) &&& 31)) ||| (b1 &&& (63 : Int32))), .unset] [] _
          refine XS.iload X45.here hx rfl (hb hby at_375) rfl ?_
          show oS p e below T45 m 377 #[oi p0, oi p1, oi cp, oi (p1.toInt8.toInt32), oa b4, oi (2 : Int32), oi (2 : Int32), oi b0, oi b1, oi b2, oi b3, oi (((b0 &&& (31 : Int32)) <<< ((6 : Int32) &&& 31)) ||| (b1 &&& (63 : Int32))), .unset] [(.int (2 : Int32))] _
          refine XS.iconst X45.here hx rfl (hb hby at_377) ?_
          show oS p e below T45 m 378 #[oi p0, oi p1, oi cp, oi (p1.toInt8.toInt32), oa b4, oi (2 : Int32), oi (2 : Int32), oi b0, oi b1, oi b2, oi b3, oi (((b0 &&& (31 : Int32)) <<< ((6 : Int32) &&& 31)) ||| (b1 &&& (63 : Int32))), .unset] [(.int (2 : Int32)), (.int (2 : Int32))] _
          refine XS.icmpNo X45.here hx rfl (hb hby at_378) rfl (flt b49).2.2.1 ?_
          show oS p e below T45 m 381 #[oi p0, oi p1, oi cp, oi (p1.toInt8.toInt32), oa b4, oi (2 : Int32), oi (2 : Int32), oi b0, oi b1, oi b2, oi b3, oi (((b0 &&& (31 : Int32)) <<< ((6 : Int32) &&& 31)) ||| (b1 &&& (63 : Int32))), .unset] [] _
          refine XS.aload X45.here hx rfl (hb hby at_381) rfl rfl ?_
          show oS p e below T45 m 383 #[oi p0, oi p1, oi cp, oi (p1.toInt8.toInt32), oa b4, oi (2 : Int32), oi (2 : Int32), oi b0, oi b1, oi b2, oi b3, oi (((b0 &&& (31 : Int32)) <<< ((6 : Int32) &&& 31)) ||| (b1 &&& (63 : Int32))), .unset] [(.ref b4)] _
          refine XS.iconst X45.here hx rfl (hb hby at_383) ?_
          show oS p e below T45 m 384 #[oi p0, oi p1, oi cp, oi (p1.toInt8.toInt32), oa b4, oi (2 : Int32), oi (2 : Int32), oi b0, oi b1, oi b2, oi b3, oi (((b0 &&& (31 : Int32)) <<< ((6 : Int32) &&& 31)) ||| (b1 &&& (63 : Int32))), .unset] [(.int (2 : Int32)), (.ref b4)] _
          refine oLdB X45 hx hZ eq45 Oq34_0 (v := (.int (p1.toInt8.toInt32))) ⟨by decide, by decide⟩ rfl (hb hby at_384) ?_
          show oS p e below T45 m 385 #[oi p0, oi p1, oi cp, oi (p1.toInt8.toInt32), oa b4, oi (2 : Int32), oi (2 : Int32), oi b0, oi b1, oi b2, oi b3, oi (((b0 &&& (31 : Int32)) <<< ((6 : Int32) &&& 31)) ||| (b1 &&& (63 : Int32))), .unset] [(.int (p1.toInt8.toInt32))] _
          refine XS.iloadN X45.here hx rfl (hb hby at_385) rfl ?_
          show oS p e below T45 m 386 #[oi p0, oi p1, oi cp, oi (p1.toInt8.toInt32), oa b4, oi (2 : Int32), oi (2 : Int32), oi b0, oi b1, oi b2, oi b3, oi (((b0 &&& (31 : Int32)) <<< ((6 : Int32) &&& 31)) ||| (b1 &&& (63 : Int32))), .unset] [(.int (p1.toInt8.toInt32)), (.int (p1.toInt8.toInt32))] _
          refine XS.icmpNo X45.here hx rfl (hb hby at_386) rfl (teq b50).2 ?_
          show oS p e below T45 m 389 #[oi p0, oi p1, oi cp, oi (p1.toInt8.toInt32), oa b4, oi (2 : Int32), oi (2 : Int32), oi b0, oi b1, oi b2, oi b3, oi (((b0 &&& (31 : Int32)) <<< ((6 : Int32) &&& 31)) ||| (b1 &&& (63 : Int32))), .unset] [] _
          refine XS.iload X45.here hx rfl (hb hby at_389) rfl ?_
          show oS p e below T45 m 391 #[oi p0, oi p1, oi cp, oi (p1.toInt8.toInt32), oa b4, oi (2 : Int32), oi (2 : Int32), oi b0, oi b1, oi b2, oi b3, oi (((b0 &&& (31 : Int32)) <<< ((6 : Int32) &&& 31)) ||| (b1 &&& (63 : Int32))), .unset] [(.int (2 : Int32))] _
          refine XS.iconst X45.here hx rfl (hb hby at_391) ?_
          show oS p e below T45 m 392 #[oi p0, oi p1, oi cp, oi (p1.toInt8.toInt32), oa b4, oi (2 : Int32), oi (2 : Int32), oi b0, oi b1, oi b2, oi b3, oi (((b0 &&& (31 : Int32)) <<< ((6 : Int32) &&& 31)) ||| (b1 &&& (63 : Int32))), .unset] [(.int (3 : Int32)), (.int (2 : Int32))] _
          refine XS.icmpNo X45.here hx rfl (hb hby at_392) rfl (flt b51).2.2.1 ?_
          show oS p e below T45 m 395 #[oi p0, oi p1, oi cp, oi (p1.toInt8.toInt32), oa b4, oi (2 : Int32), oi (2 : Int32), oi b0, oi b1, oi b2, oi b3, oi (((b0 &&& (31 : Int32)) <<< ((6 : Int32) &&& 31)) ||| (b1 &&& (63 : Int32))), .unset] [] _
          refine XS.aload X45.here hx rfl (hb hby at_395) rfl rfl ?_
          show oS p e below T45 m 397 #[oi p0, oi p1, oi cp, oi (p1.toInt8.toInt32), oa b4, oi (2 : Int32), oi (2 : Int32), oi b0, oi b1, oi b2, oi b3, oi (((b0 &&& (31 : Int32)) <<< ((6 : Int32) &&& 31)) ||| (b1 &&& (63 : Int32))), .unset] [(.ref b4)] _
          refine XS.iconst X45.here hx rfl (hb hby at_397) ?_
          show oS p e below T45 m 398 #[oi p0, oi p1, oi cp, oi (p1.toInt8.toInt32), oa b4, oi (2 : Int32), oi (2 : Int32), oi b0, oi b1, oi b2, oi b3, oi (((b0 &&& (31 : Int32)) <<< ((6 : Int32) &&& 31)) ||| (b1 &&& (63 : Int32))), .unset] [(.int (3 : Int32)), (.ref b4)] _
          refine oLdB X45 hx hZ eq45 Oq34_0 (v := (.int (p1.toInt8.toInt32))) ⟨by decide, by decide⟩ rfl (hb hby at_398) ?_
          show oS p e below T45 m 399 #[oi p0, oi p1, oi cp, oi (p1.toInt8.toInt32), oa b4, oi (2 : Int32), oi (2 : Int32), oi b0, oi b1, oi b2, oi b3, oi (((b0 &&& (31 : Int32)) <<< ((6 : Int32) &&& 31)) ||| (b1 &&& (63 : Int32))), .unset] [(.int (p1.toInt8.toInt32))] _
          refine XS.iloadN X45.here hx rfl (hb hby at_399) rfl ?_
          show oS p e below T45 m 400 #[oi p0, oi p1, oi cp, oi (p1.toInt8.toInt32), oa b4, oi (2 : Int32), oi (2 : Int32), oi b0, oi b1, oi b2, oi b3, oi (((b0 &&& (31 : Int32)) <<< ((6 : Int32) &&& 31)) ||| (b1 &&& (63 : Int32))), .unset] [(.int (p1.toInt8.toInt32)), (.int (p1.toInt8.toInt32))] _
          refine XS.icmpNo X45.here hx rfl (hb hby at_400) rfl (teq b52).2 ?_
          show oS p e below T45 m 403 #[oi p0, oi p1, oi cp, oi (p1.toInt8.toInt32), oa b4, oi (2 : Int32), oi (2 : Int32), oi b0, oi b1, oi b2, oi b3, oi (((b0 &&& (31 : Int32)) <<< ((6 : Int32) &&& 31)) ||| (b1 &&& (63 : Int32))), .unset] [] _
          refine XS.aload X45.here hx rfl (hb hby at_403) rfl rfl ?_
          show oS p e below T45 m 405 #[oi p0, oi p1, oi cp, oi (p1.toInt8.toInt32), oa b4, oi (2 : Int32), oi (2 : Int32), oi b0, oi b1, oi b2, oi b3, oi (((b0 &&& (31 : Int32)) <<< ((6 : Int32) &&& 31)) ||| (b1 &&& (63 : Int32))), .unset] [(.ref b4)] _
          refine XS.iconst X45.here hx rfl (hb hby at_405) ?_
          show oS p e below T45 m 406 #[oi p0, oi p1, oi cp, oi (p1.toInt8.toInt32), oa b4, oi (2 : Int32), oi (2 : Int32), oi b0, oi b1, oi b2, oi b3, oi (((b0 &&& (31 : Int32)) <<< ((6 : Int32) &&& 31)) ||| (b1 &&& (63 : Int32))), .unset] [(.int (4 : Int32)), (.ref b4)] _
          refine oLdB X45 hx hZ eq45 Oq34_0 (v := (.int (p1.toInt8.toInt32))) ⟨by decide, by decide⟩ rfl (hb hby at_406) ?_
          show oS p e below T45 m 407 #[oi p0, oi p1, oi cp, oi (p1.toInt8.toInt32), oa b4, oi (2 : Int32), oi (2 : Int32), oi b0, oi b1, oi b2, oi b3, oi (((b0 &&& (31 : Int32)) <<< ((6 : Int32) &&& 31)) ||| (b1 &&& (63 : Int32))), .unset] [(.int (p1.toInt8.toInt32))] _
          refine XS.iloadN X45.here hx rfl (hb hby at_407) rfl ?_
          show oS p e below T45 m 408 #[oi p0, oi p1, oi cp, oi (p1.toInt8.toInt32), oa b4, oi (2 : Int32), oi (2 : Int32), oi b0, oi b1, oi b2, oi b3, oi (((b0 &&& (31 : Int32)) <<< ((6 : Int32) &&& 31)) ||| (b1 &&& (63 : Int32))), .unset] [(.int (p1.toInt8.toInt32)), (.int (p1.toInt8.toInt32))] _
          refine XS.icmpNo X45.here hx rfl (hb hby at_408) rfl (teq b53).2 ?_
          show oS p e below T45 m 411 #[oi p0, oi p1, oi cp, oi (p1.toInt8.toInt32), oa b4, oi (2 : Int32), oi (2 : Int32), oi b0, oi b1, oi b2, oi b3, oi (((b0 &&& (31 : Int32)) <<< ((6 : Int32) &&& 31)) ||| (b1 &&& (63 : Int32))), .unset] [] _
          refine XS.iconst X45.here hx rfl (hb hby at_411) ?_
          show oS p e below T45 m 412 #[oi p0, oi p1, oi cp, oi (p1.toInt8.toInt32), oa b4, oi (2 : Int32), oi (2 : Int32), oi b0, oi b1, oi b2, oi b3, oi (((b0 &&& (31 : Int32)) <<< ((6 : Int32) &&& 31)) ||| (b1 &&& (63 : Int32))), .unset] [(.int (1 : Int32))] _
          refine XS.goto X45.here hx rfl (pc0 := 412) (pc' := 416) rfl (hb hby at_412) (by decide) (by decide) ?_
          show oS p e below T45 m 416 #[oi p0, oi p1, oi cp, oi (p1.toInt8.toInt32), oa b4, oi (2 : Int32), oi (2 : Int32), oi b0, oi b1, oi b2, oi b3, oi (((b0 &&& (31 : Int32)) <<< ((6 : Int32) &&& 31)) ||| (b1 &&& (63 : Int32))), .unset] [(.int (1 : Int32))] _
          refine XS.istore X45.here hx rfl (hb hby at_416) rfl (l' := #[oi p0, oi p1, oi cp, oi (p1.toInt8.toInt32), oa b4, oi (2 : Int32), oi (2 : Int32), oi b0, oi b1, oi b2, oi b3, oi (((b0 &&& (31 : Int32)) <<< ((6 : Int32) &&& 31)) ||| (b1 &&& (63 : Int32))), oi (1 : Int32)]) rfl ?_
          show oS p e below T45 m 418 #[oi p0, oi p1, oi cp, oi (p1.toInt8.toInt32), oa b4, oi (2 : Int32), oi (2 : Int32), oi b0, oi b1, oi b2, oi b3, oi (((b0 &&& (31 : Int32)) <<< ((6 : Int32) &&& 31)) ||| (b1 &&& (63 : Int32))), oi (1 : Int32)] [] _
          refine XS.iload X45.here hx rfl (hb hby at_418) rfl ?_
          show oS p e below T45 m 420 #[oi p0, oi p1, oi cp, oi (p1.toInt8.toInt32), oa b4, oi (2 : Int32), oi (2 : Int32), oi b0, oi b1, oi b2, oi b3, oi (((b0 &&& (31 : Int32)) <<< ((6 : Int32) &&& 31)) ||| (b1 &&& (63 : Int32))), oi (1 : Int32)] [(.int (1 : Int32))] _
          exact retN X45 hx (t := .boolean) Bd.returns (by simp) (hb hby at_420) hr
        · show own_Q0 Z p0 p1 h0 n0 _ T45.heap _
          rw [eq45]
          exact ⟨rfl, N45⟩
      · skip
        by_cases hC : cp < (65536 : Int32)
        · skip
          have mhA := hA
          have mhB := hB
          have mhC := hC
          simp only [own_ltp, Int32.reduceToInt] at mhA mhB mhC
          obtain ⟨_, _, ⟨T54, L54, k54, n54⟩, -, X54, ⟨Lc54, hQ54, l54, y54, z54⟩, st54⟩ := Jvm.LawKit.callS X14 hx (y := (⟨"com/example/godwit/godwit/link/Utf8", "encode", "(I[B)I"⟩ : MethodName)) hown (mvT hZ (hw _ (List.mem_of_getElem? (i := 4) rfl))) (mvT hZ (hw _ (List.mem_of_getElem? (i := 5) rfl))) (mvT hZ (hw _ (List.mem_of_getElem? (i := 6) rfl))) (mvT hZ (hw _ (List.mem_of_getElem? (i := 7) rfl))) (by decide) (backOf (W := 0) (own_rm1C l Z av hw [] cp b4 k4 (p1.toInt8.toInt32) h14 n0 Z14 V_15 g_b4 (hA) (hB) (hC)) hZ (hw _ (List.mem_of_getElem? (i := 7) rfl)) (hw _ (List.mem_of_getElem? (i := 6) rfl)) (by decide) (by decide)) (g := (mkF m 58 #[oi p0, oi p1, oi cp, oi (p1.toInt8.toInt32), oa b4, .unset, .unset, .unset, .unset, .unset, .unset, .unset, .unset] [(.ref b4), (.int cp)])) rfl (by rw [hml]; rfl) (argsL := [(.int cp), (.ref b4)]) (rest := []) (lenOf own_pd0 rfl) rfl (by show 2 * 0 + _ ≤ _; exact Nat.le_of_eq rfl) (hb hby at_58) (fun _ _ => ⟨rfl, e14, (by decide : 1 + 0 ≤ _), (by decide : 5 + 0 ≤ _)⟩)
          dsimp only [Pt.U, Pt.locs, Pt.cells, Pt.slots] at X54 l54 y54 z54 st54 hQ54
          have yq54 : k54 = 1 := y54
          have zq54 : n54 = 5 := z54
          subst yq54 zq54
          obtain ⟨rfl, Nq54, Kq54, Oq54_0⟩ := hQ54
          have N54 : Fr n0 L54 := by rw [l54]; exact Fr.app N14 Nq54
          have Z54 : n0 ≤ T54.heap.size := Nat.le_trans Z14 Kq54.1
          have b55 : ¬ (cp < (128 : Int32)) := hA
          have b56 : ¬ (cp < (2048 : Int32)) := hB
          have b57 : cp < (65536 : Int32) := hC
          have b58 : (3 : Int32) = (3 : Int32) := (by decide)
          have pre59 : ∀ t, Steps p.tables e below (T54.setTop (mkF m 115 #[oi p0, oi p1, oi cp, oi (p1.toInt8.toInt32), oa b4, oi (3 : Int32), oi (3 : Int32), .unset, .unset, .unset, .unset, .unset, .unset] [(.int ((((224 : Int32) ||| (cp >>> ((12 : Int32) &&& 31))).toInt8.toInt32) &&& (255 : Int32)))])) t → Steps p.tables e below (s₁.setTop (entryFrame m #[(.int p0), (.int p1)] maxLocals)) t := by
            intro t k
            refine pre16 t ?_
            show oS p e below T14 m 58 #[oi p0, oi p1, oi cp, oi (p1.toInt8.toInt32), oa b4, .unset, .unset, .unset, .unset, .unset, .unset, .unset, .unset] [(.ref b4), (.int cp)] _
            refine st54 _ ?_
            show oS p e below T54 m 61 #[oi p0, oi p1, oi cp, oi (p1.toInt8.toInt32), oa b4, .unset, .unset, .unset, .unset, .unset, .unset, .unset, .unset] [(.int (3 : Int32))] _
            refine XS.istore X54.here hx rfl (hb hby at_61) rfl (l' := #[oi p0, oi p1, oi cp, oi (p1.toInt8.toInt32), oa b4, oi (3 : Int32), .unset, .unset, .unset, .unset, .unset, .unset, .unset]) rfl ?_
            show oS p e below T54 m 63 #[oi p0, oi p1, oi cp, oi (p1.toInt8.toInt32), oa b4, oi (3 : Int32), .unset, .unset, .unset, .unset, .unset, .unset, .unset] [] _
            refine XS.iloadN X54.here hx rfl (hb hby at_63) rfl ?_
            show oS p e below T54 m 64 #[oi p0, oi p1, oi cp, oi (p1.toInt8.toInt32), oa b4, oi (3 : Int32), .unset, .unset, .unset, .unset, .unset, .unset, .unset] [(.int cp)] _
            refine XS.sipush X54.here hx rfl (hb hby at_64) ?_
            show oS p e below T54 m 67 #[oi p0, oi p1, oi cp, oi (p1.toInt8.toInt32), oa b4, oi (3 : Int32), .unset, .unset, .unset, .unset, .unset, .unset, .unset] [(.int (128 : Int32)), (.int cp)] _
            refine XS.icmpYes X54.here hx rfl (pc0 := 67) (pc' := 74) rfl (hb hby at_67) rfl (flt b55).2.1 (by decide) (by decide) ?_
            show oS p e below T54 m 74 #[oi p0, oi p1, oi cp, oi (p1.toInt8.toInt32), oa b4, oi (3 : Int32), .unset, .unset, .unset, .unset, .unset, .unset, .unset] [] _
            refine XS.iloadN X54.here hx rfl (hb hby at_74) rfl ?_
            show oS p e below T54 m 75 #[oi p0, oi p1, oi cp, oi (p1.toInt8.toInt32), oa b4, oi (3 : Int32), .unset, .unset, .unset, .unset, .unset, .unset, .unset] [(.int cp)] _
            refine XS.sipush X54.here hx rfl (hb hby at_75) ?_
            show oS p e below T54 m 78 #[oi p0, oi p1, oi cp, oi (p1.toInt8.toInt32), oa b4, oi (3 : Int32), .unset, .unset, .unset, .unset, .unset, .unset, .unset] [(.int (2048 : Int32)), (.int cp)] _
            refine XS.icmpYes X54.here hx rfl (pc0 := 78) (pc' := 85) rfl (hb hby at_78) rfl (flt b56).2.1 (by decide) (by decide) ?_
            show oS p e below T54 m 85 #[oi p0, oi p1, oi cp, oi (p1.toInt8.toInt32), oa b4, oi (3 : Int32), .unset, .unset, .unset, .unset, .unset, .unset, .unset] [] _
            refine XS.iloadN X54.here hx rfl (hb hby at_85) rfl ?_
            show oS p e below T54 m 86 #[oi p0, oi p1, oi cp, oi (p1.toInt8.toInt32), oa b4, oi (3 : Int32), .unset, .unset, .unset, .unset, .unset, .unset, .unset] [(.int cp)] _
            refine X54.ldcInt hx hown (mvT hZ (hw _ (List.mem_of_getElem? (i := 10) rfl))) (g := (mkF m 86 #[oi p0, oi p1, oi cp, oi (p1.toInt8.toInt32), oa b4, oi (3 : Int32), .unset, .unset, .unset, .unset, .unset, .unset, .unset] [(.int cp)])) rfl (hb hby at_86) _ ?_
            show oS p e below T54 m 88 #[oi p0, oi p1, oi cp, oi (p1.toInt8.toInt32), oa b4, oi (3 : Int32), .unset, .unset, .unset, .unset, .unset, .unset, .unset] [(.int (65536 : Int32)), (.int cp)] _
            refine XS.icmpNo X54.here hx rfl (hb hby at_88) rfl (tlt b57).2.1 ?_
            show oS p e below T54 m 91 #[oi p0, oi p1, oi cp, oi (p1.toInt8.toInt32), oa b4, oi (3 : Int32), .unset, .unset, .unset, .unset, .unset, .unset, .unset] [] _
            refine XS.iconst X54.here hx rfl (hb hby at_91) ?_
            show oS p e below T54 m 92 #[oi p0, oi p1, oi cp, oi (p1.toInt8.toInt32), oa b4, oi (3 : Int32), .unset, .unset, .unset, .unset, .unset, .unset, .unset] [(.int (3 : Int32))] _
            refine XS.goto X54.here hx rfl (pc0 := 92) (pc' := 96) rfl (hb hby at_92) (by decide) (by decide) ?_
            show oS p e below T54 m 96 #[oi p0, oi p1, oi cp, oi (p1.toInt8.toInt32), oa b4, oi (3 : Int32), .unset, .unset, .unset, .unset, .unset, .unset, .unset] [(.int (3 : Int32))] _
            refine XS.istore X54.here hx rfl (hb hby at_96) rfl (l' := #[oi p0, oi p1, oi cp, oi (p1.toInt8.toInt32), oa b4, oi (3 : Int32), oi (3 : Int32), .unset, .unset, .unset, .unset, .unset, .unset]) rfl ?_
            show oS p e below T54 m 98 #[oi p0, oi p1, oi cp, oi (p1.toInt8.toInt32), oa b4, oi (3 : Int32), oi (3 : Int32), .unset, .unset, .unset, .unset, .unset, .unset] [] _
            refine XS.iload X54.here hx rfl (hb hby at_98) rfl ?_
            show oS p e below T54 m 100 #[oi p0, oi p1, oi cp, oi (p1.toInt8.toInt32), oa b4, oi (3 : Int32), oi (3 : Int32), .unset, .unset, .unset, .unset, .unset, .unset] [(.int (3 : Int32))] _
            refine XS.iload X54.here hx rfl (hb hby at_100) rfl ?_
            show oS p e below T54 m 102 #[oi p0, oi p1, oi cp, oi (p1.toInt8.toInt32), oa b4, oi (3 : Int32), oi (3 : Int32), .unset, .unset, .unset, .unset, .unset, .unset] [(.int (3 : Int32)), (.int (3 : Int32))] _
            refine XS.icmpYes X54.here hx rfl (pc0 := 102) (pc' := 107) rfl (hb hby at_102) rfl (teq b58).1 (by decide) (by decide) ?_
            show oS p e below T54 m 107 #[oi p0, oi p1, oi cp, oi (p1.toInt8.toInt32), oa b4, oi (3 : Int32), oi (3 : Int32), .unset, .unset, .unset, .unset, .unset, .unset] [] _
            refine XS.aload X54.here hx rfl (hb hby at_107) rfl rfl ?_
            show oS p e below T54 m 109 #[oi p0, oi p1, oi cp, oi (p1.toInt8.toInt32), oa b4, oi (3 : Int32), oi (3 : Int32), .unset, .unset, .unset, .unset, .unset, .unset] [(.ref b4)] _
            refine XS.iconst X54.here hx rfl (hb hby at_109) ?_
            show oS p e below T54 m 110 #[oi p0, oi p1, oi cp, oi (p1.toInt8.toInt32), oa b4, oi (3 : Int32), oi (3 : Int32), .unset, .unset, .unset, .unset, .unset, .unset] [(.int (0 : Int32)), (.ref b4)] _
            refine oLdB X54 hx hZ rfl Oq54_0 (v := (.int (((224 : Int32) ||| (cp >>> ((12 : Int32) &&& 31))).toInt8.toInt32))) ⟨by decide, by decide⟩ rfl (hb hby at_110) ?_
            show oS p e below T54 m 111 #[oi p0, oi p1, oi cp, oi (p1.toInt8.toInt32), oa b4, oi (3 : Int32), oi (3 : Int32), .unset, .unset, .unset, .unset, .unset, .unset] [(.int (((224 : Int32) ||| (cp >>> ((12 : Int32) &&& 31))).toInt8.toInt32))] _
            refine XS.sipush X54.here hx rfl (hb hby at_111) ?_
            show oS p e below T54 m 114 #[oi p0, oi p1, oi cp, oi (p1.toInt8.toInt32), oa b4, oi (3 : Int32), oi (3 : Int32), .unset, .unset, .unset, .unset, .unset, .unset] [(.int (255 : Int32)), (.int (((224 : Int32) ||| (cp >>> ((12 : Int32) &&& 31))).toInt8.toInt32))] _
            refine XS.iand X54.here hx rfl (hb hby at_114) rfl ?_
            exact k
          obtain ⟨b0, hb0⟩ : ∃ z : Int32, z = ((((224 : Int32) ||| (cp >>> ((12 : Int32) &&& 31))).toInt8.toInt32) &&& (255 : Int32)) := ⟨_, rfl⟩
          rw [← hb0] at pre59
          have e0 : b0.toInt = 224 + cp.toInt / 4096 := by rw [hb0, own_lead _ _ (by decide) (by rw [own_s12]; omega) (by rw [own_s12, if_neg (by decide), if_pos rfl]; omega), own_s12]; rfl
          have pre60 : ∀ t, Steps p.tables e below (T54.setTop (mkF m 125 #[oi p0, oi p1, oi cp, oi (p1.toInt8.toInt32), oa b4, oi (3 : Int32), oi (3 : Int32), oi b0, .unset, .unset, .unset, .unset, .unset] [(.int ((((128 : Int32) ||| ((cp >>> ((6 : Int32) &&& 31)) &&& (63 : Int32))).toInt8.toInt32) &&& (255 : Int32)))])) t → Steps p.tables e below (s₁.setTop (entryFrame m #[(.int p0), (.int p1)] maxLocals)) t := by
            intro t k
            refine pre59 t ?_
            show oS p e below T54 m 115 #[oi p0, oi p1, oi cp, oi (p1.toInt8.toInt32), oa b4, oi (3 : Int32), oi (3 : Int32), .unset, .unset, .unset, .unset, .unset, .unset] [(.int b0)] _
            refine XS.istore X54.here hx rfl (hb hby at_115) rfl (l' := #[oi p0, oi p1, oi cp, oi (p1.toInt8.toInt32), oa b4, oi (3 : Int32), oi (3 : Int32), oi b0, .unset, .unset, .unset, .unset, .unset]) rfl ?_
            show oS p e below T54 m 117 #[oi p0, oi p1, oi cp, oi (p1.toInt8.toInt32), oa b4, oi (3 : Int32), oi (3 : Int32), oi b0, .unset, .unset, .unset, .unset, .unset] [] _
            refine XS.aload X54.here hx rfl (hb hby at_117) rfl rfl ?_
            show oS p e below T54 m 119 #[oi p0, oi p1, oi cp, oi (p1.toInt8.toInt32), oa b4, oi (3 : Int32), oi (3 : Int32), oi b0, .unset, .unset, .unset, .unset, .unset] [(.ref b4)] _
            refine XS.iconst X54.here hx rfl (hb hby at_119) ?_
            show oS p e below T54 m 120 #[oi p0, oi p1, oi cp, oi (p1.toInt8.toInt32), oa b4, oi (3 : Int32), oi (3 : Int32), oi b0, .unset, .unset, .unset, .unset, .unset] [(.int (1 : Int32)), (.ref b4)] _
            refine oLdB X54 hx hZ rfl Oq54_0 (v := (.int (((128 : Int32) ||| ((cp >>> ((6 : Int32) &&& 31)) &&& (63 : Int32))).toInt8.toInt32))) ⟨by decide, by decide⟩ rfl (hb hby at_120) ?_
            show oS p e below T54 m 121 #[oi p0, oi p1, oi cp, oi (p1.toInt8.toInt32), oa b4, oi (3 : Int32), oi (3 : Int32), oi b0, .unset, .unset, .unset, .unset, .unset] [(.int (((128 : Int32) ||| ((cp >>> ((6 : Int32) &&& 31)) &&& (63 : Int32))).toInt8.toInt32))] _
            refine XS.sipush X54.here hx rfl (hb hby at_121) ?_
            show oS p e below T54 m 124 #[oi p0, oi p1, oi cp, oi (p1.toInt8.toInt32), oa b4, oi (3 : Int32), oi (3 : Int32), oi b0, .unset, .unset, .unset, .unset, .unset] [(.int (255 : Int32)), (.int (((128 : Int32) ||| ((cp >>> ((6 : Int32) &&& 31)) &&& (63 : Int32))).toInt8.toInt32))] _
            refine XS.iand X54.here hx rfl (hb hby at_124) rfl ?_
            exact k
          obtain ⟨b1, hb1⟩ : ∃ z : Int32, z = ((((128 : Int32) ||| ((cp >>> ((6 : Int32) &&& 31)) &&& (63 : Int32))).toInt8.toInt32) &&& (255 : Int32)) := ⟨_, rfl⟩
          rw [← hb1] at pre60
          have e1 : b1.toInt = 128 + cp.toInt / 64 % 64 := by rw [hb1, own_cb, own_s6]
          have pre61 : ∀ t, Steps p.tables e below (T54.setTop (mkF m 135 #[oi p0, oi p1, oi cp, oi (p1.toInt8.toInt32), oa b4, oi (3 : Int32), oi (3 : Int32), oi b0, oi b1, .unset, .unset, .unset, .unset] [(.int ((((128 : Int32) ||| (cp &&& (63 : Int32))).toInt8.toInt32) &&& (255 : Int32)))])) t → Steps p.tables e below (s₁.setTop (entryFrame m #[(.int p0), (.int p1)] maxLocals)) t := by
            intro t k
            refine pre60 t ?_
            show oS p e below T54 m 125 #[oi p0, oi p1, oi cp, oi (p1.toInt8.toInt32), oa b4, oi (3 : Int32), oi (3 : Int32), oi b0, .unset, .unset, .unset, .unset, .unset] [(.int b1)] _
            refine XS.istore X54.here hx rfl (hb hby at_125) rfl (l' := #[oi p0, oi p1, oi cp, oi (p1.toInt8.toInt32), oa b4, oi (3 : Int32), oi (3 : Int32), oi b0, oi b1, .unset, .unset, .unset, .unset]) rfl ?_
            show oS p e below T54 m 127 #[oi p0, oi p1, oi cp, oi (p1.toInt8.toInt32), oa b4, oi (3 : Int32), oi (3 : Int32), oi b0, oi b1, .unset, .unset, .unset, .unset] [] _
            refine XS.aload X54.here hx rfl (hb hby at_127) rfl rfl ?_
            show oS p e below T54 m 129 #[oi p0, oi p1, oi cp, oi (p1.toInt8.toInt32), oa b4, oi (3 : Int32), oi (3 : Int32), oi b0, oi b1, .unset, .unset, .unset, .unset] [(.ref b4)] _
            refine XS.iconst X54.here hx rfl (hb hby at_129) ?_
            show oS p e below T54 m 130 #[oi p0, oi p1, oi cp, oi (p1.toInt8.toInt32), oa b4, oi (3 : Int32), oi (3 : Int32), oi b0, oi b1, .unset, .unset, .unset, .unset] [(.int (2 : Int32)), (.ref b4)] _
            refine oLdB X54 hx hZ rfl Oq54_0 (v := (.int (((128 : Int32) ||| (cp &&& (63 : Int32))).toInt8.toInt32))) ⟨by decide, by decide⟩ rfl (hb hby at_130) ?_
            show oS p e below T54 m 131 #[oi p0, oi p1, oi cp, oi (p1.toInt8.toInt32), oa b4, oi (3 : Int32), oi (3 : Int32), oi b0, oi b1, .unset, .unset, .unset, .unset] [(.int (((128 : Int32) ||| (cp &&& (63 : Int32))).toInt8.toInt32))] _
            refine XS.sipush X54.here hx rfl (hb hby at_131) ?_
            show oS p e below T54 m 134 #[oi p0, oi p1, oi cp, oi (p1.toInt8.toInt32), oa b4, oi (3 : Int32), oi (3 : Int32), oi b0, oi b1, .unset, .unset, .unset, .unset] [(.int (255 : Int32)), (.int (((128 : Int32) ||| (cp &&& (63 : Int32))).toInt8.toInt32))] _
            refine XS.iand X54.here hx rfl (hb hby at_134) rfl ?_
            exact k
          obtain ⟨b2, hb2⟩ : ∃ z : Int32, z = ((((128 : Int32) ||| (cp &&& (63 : Int32))).toInt8.toInt32) &&& (255 : Int32)) := ⟨_, rfl⟩
          rw [← hb2] at pre61
          have e2 : b2.toInt = 128 + cp.toInt % 64 := by rw [hb2, own_cb]
          have pre62 : ∀ t, Steps p.tables e below (T54.setTop (mkF m 145 #[oi p0, oi p1, oi cp, oi (p1.toInt8.toInt32), oa b4, oi (3 : Int32), oi (3 : Int32), oi b0, oi b1, oi b2, .unset, .unset, .unset] [(.int ((p1.toInt8.toInt32) &&& (255 : Int32)))])) t → Steps p.tables e below (s₁.setTop (entryFrame m #[(.int p0), (.int p1)] maxLocals)) t := by
            intro t k
            refine pre61 t ?_
            show oS p e below T54 m 135 #[oi p0, oi p1, oi cp, oi (p1.toInt8.toInt32), oa b4, oi (3 : Int32), oi (3 : Int32), oi b0, oi b1, .unset, .unset, .unset, .unset] [(.int b2)] _
            refine XS.istore X54.here hx rfl (hb hby at_135) rfl (l' := #[oi p0, oi p1, oi cp, oi (p1.toInt8.toInt32), oa b4, oi (3 : Int32), oi (3 : Int32), oi b0, oi b1, oi b2, .unset, .unset, .unset]) rfl ?_
            show oS p e below T54 m 137 #[oi p0, oi p1, oi cp, oi (p1.toInt8.toInt32), oa b4, oi (3 : Int32), oi (3 : Int32), oi b0, oi b1, oi b2, .unset, .unset, .unset] [] _
            refine XS.aload X54.here hx rfl (hb hby at_137) rfl rfl ?_
            show oS p e below T54 m 139 #[oi p0, oi p1, oi cp, oi (p1.toInt8.toInt32), oa b4, oi (3 : Int32), oi (3 : Int32), oi b0, oi b1, oi b2, .unset, .unset, .unset] [(.ref b4)] _
            refine XS.iconst X54.here hx rfl (hb hby at_139) ?_
            show oS p e below T54 m 140 #[oi p0, oi p1, oi cp, oi (p1.toInt8.toInt32), oa b4, oi (3 : Int32), oi (3 : Int32), oi b0, oi b1, oi b2, .unset, .unset, .unset] [(.int (3 : Int32)), (.ref b4)] _
            refine oLdB X54 hx hZ rfl Oq54_0 (v := (.int (p1.toInt8.toInt32))) ⟨by decide, by decide⟩ rfl (hb hby at_140) ?_
            show oS p e below T54 m 141 #[oi p0, oi p1, oi cp, oi (p1.toInt8.toInt32), oa b4, oi (3 : Int32), oi (3 : Int32), oi b0, oi b1, oi b2, .unset, .unset, .unset] [(.int (p1.toInt8.toInt32))] _
            refine XS.sipush X54.here hx rfl (hb hby at_141) ?_
            show oS p e below T54 m 144 #[oi p0, oi p1, oi cp, oi (p1.toInt8.toInt32), oa b4, oi (3 : Int32), oi (3 : Int32), oi b0, oi b1, oi b2, .unset, .unset, .unset] [(.int (255 : Int32)), (.int (p1.toInt8.toInt32))] _
            refine XS.iand X54.here hx rfl (hb hby at_144) rfl ?_
            exact k
          obtain ⟨b3, hb3⟩ : ∃ z : Int32, z = ((p1.toInt8.toInt32) &&& (255 : Int32)) := ⟨_, rfl⟩
          rw [← hb3] at pre62
          have b63 : ¬ ((3 : Int32) = (1 : Int32)) := (by decide)
          have b64 : ¬ ((3 : Int32) = (2 : Int32)) := (by decide)
          have b65 : (3 : Int32) = (3 : Int32) := (by decide)
          have b66 : (b0 &&& (240 : Int32)) = (224 : Int32) := own_h3 (by omega) (by omega)
          obtain ⟨_, _, ⟨T67, L67, k67, n67⟩, -, X67, ⟨Lc67, hQ67, l67, y67, z67⟩, st67⟩ := Jvm.LawKit.callS X54 hx (y := (⟨"com/example/godwit/godwit/link/Utf8EncodePinLaw", "cont", "(I)Z"⟩ : MethodName)) hown (mvT hZ (hw _ (List.mem_of_getElem? (i := 11) rfl))) (mvT hZ (hw _ (List.mem_of_getElem? (i := 12) rfl))) (mvT hZ (hw _ (List.mem_of_getElem? (i := 13) rfl))) (mvT hZ (hw _ (List.mem_of_getElem? (i := 14) rfl))) (by decide) (backOf (W := 0) (own_rm2 l Z av hw [] b1 T54.heap n0 Z54 ) hZ (hw _ (List.mem_of_getElem? (i := 14) rfl)) (hw _ (List.mem_of_getElem? (i := 13) rfl)) (by decide) (by decide)) (g := (mkF m 237 #[oi p0, oi p1, oi cp, oi (p1.toInt8.toInt32), oa b4, oi (3 : Int32), oi (3 : Int32), oi b0, oi b1, oi b2, oi b3, .unset, .unset] [(.int b1)])) rfl (by rw [hml]; rfl) (argsL := [(.int b1)]) (rest := []) (lenOf own_pd1 rfl) rfl (by show 2 * 0 + _ ≤ _; exact Nat.le_of_eq rfl) (hb hby at_237) (fun _ _ => ⟨rfl, rfl, (by decide : 1 + 0 ≤ _), (by decide : 5 + 0 ≤ _)⟩)
          dsimp only [Pt.U, Pt.locs, Pt.cells, Pt.slots] at X67 l67 y67 z67 st67 hQ67
          have yq67 : k67 = 1 := y67
          have zq67 : n67 = 5 := z67
          subst yq67 zq67
          obtain ⟨rfl, Nq67, eq67⟩ := hQ67
          have N67 : Fr n0 L67 := by rw [l67]; exact Fr.app N54 Nq67
          have b68 : ¬ ((own_f2 b1) = (0 : Int32)) := own_cont (by omega) (by omega)
          obtain ⟨_, _, ⟨T69, L69, k69, n69⟩, -, X69, ⟨Lc69, hQ69, l69, y69, z69⟩, st69⟩ := Jvm.LawKit.callS X67 hx (y := (⟨"com/example/godwit/godwit/link/Utf8EncodePinLaw", "cont", "(I)Z"⟩ : MethodName)) hown (mvT hZ (hw _ (List.mem_of_getElem? (i := 11) rfl))) (mvT hZ (hw _ (List.mem_of_getElem? (i := 12) rfl))) (mvT hZ (hw _ (List.mem_of_getElem? (i := 13) rfl))) (mvT hZ (hw _ (List.mem_of_getElem? (i := 14) rfl))) (by decide) (backOf (W := 0) (own_rm2 l Z av hw [] b2 T54.heap n0 Z54 ) hZ (hw _ (List.mem_of_getElem? (i := 14) rfl)) (hw _ (List.mem_of_getElem? (i := 13) rfl)) (by decide) (by decide)) (g := (mkF m 245 #[oi p0, oi p1, oi cp, oi (p1.toInt8.toInt32), oa b4, oi (3 : Int32), oi (3 : Int32), oi b0, oi b1, oi b2, oi b3, .unset, .unset] [(.int b2)])) rfl (by rw [hml]; rfl) (argsL := [(.int b2)]) (rest := []) (lenOf own_pd1 rfl) rfl (by show 2 * 0 + _ ≤ _; exact Nat.le_of_eq rfl) (hb hby at_245) (fun _ _ => ⟨rfl, eq67, (by decide : 1 + 0 ≤ _), (by decide : 5 + 0 ≤ _)⟩)
          dsimp only [Pt.U, Pt.locs, Pt.cells, Pt.slots] at X69 l69 y69 z69 st69 hQ69
          have yq69 : k69 = 1 := y69
          have zq69 : n69 = 5 := z69
          subst yq69 zq69
          obtain ⟨rfl, Nq69, eq69⟩ := hQ69
          have N69 : Fr n0 L69 := by rw [l69]; exact Fr.app N67 Nq69
          have b70 : ¬ ((own_f2 b2) = (0 : Int32)) := own_cont (by omega) (by omega)
          have b71 : ((((b0 &&& (15 : Int32)) <<< ((12 : Int32) &&& 31)) ||| ((b1 &&& (63 : Int32)) <<< ((6 : Int32) &&& 31))) ||| (b2 &&& (63 : Int32))) = cp := own_v3 e0 e1 e2 rc.1 (by omega)
          have b72 : (1 : Int32) < (3 : Int32) := (by decide)
          have b73 : (2 : Int32) < (3 : Int32) := (by decide)
          have b74 : ¬ ((3 : Int32) < (3 : Int32)) := (by decide)
          have b75 : (p1.toInt8.toInt32) = (p1.toInt8.toInt32) := rfl
          have b76 : (p1.toInt8.toInt32) = (p1.toInt8.toInt32) := rfl
          obtain ⟨fs, hr, hrun, hended, hW, hsame⟩ := X69.leave (v := (some (.int (1 : Int32)))) (fun h => by rw [Bd.returns] at h; cases h)
          refine ⟨_, _, pre62 _ ?_, hrun, hended, _, _, rfl, ?_, ⟨_, rfl⟩, hW, hsame.mono (by decide) (by decide)⟩
          · show oS p e below T54 m 145 #[oi p0, oi p1, oi cp, oi (p1.toInt8.toInt32), oa b4, oi (3 : Int32), oi (3 : Int32), oi b0, oi b1, oi b2, .unset, .unset, .unset] [(.int b3)] _
            refine XS.istore X54.here hx rfl (hb hby at_145) rfl (l' := #[oi p0, oi p1, oi cp, oi (p1.toInt8.toInt32), oa b4, oi (3 : Int32), oi (3 : Int32), oi b0, oi b1, oi b2, oi b3, .unset, .unset]) rfl ?_
            show oS p e below T54 m 147 #[oi p0, oi p1, oi cp, oi (p1.toInt8.toInt32), oa b4, oi (3 : Int32), oi (3 : Int32), oi b0, oi b1, oi b2, oi b3, .unset, .unset] [] _
            refine XS.iload X54.here hx rfl (hb hby at_147) rfl ?_
            show oS p e below T54 m 149 #[oi p0, oi p1, oi cp, oi (p1.toInt8.toInt32), oa b4, oi (3 : Int32), oi (3 : Int32), oi b0, oi b1, oi b2, oi b3, .unset, .unset] [(.int (3 : Int32))] _
            refine XS.iconst X54.here hx rfl (hb hby at_149) ?_
            show oS p e below T54 m 150 #[oi p0, oi p1, oi cp, oi (p1.toInt8.toInt32), oa b4, oi (3 : Int32), oi (3 : Int32), oi b0, oi b1, oi b2, oi b3, .unset, .unset] [(.int (1 : Int32)), (.int (3 : Int32))] _
            refine XS.icmpYes X54.here hx rfl (pc0 := 150) (pc' := 170) rfl (hb hby at_150) rfl (feq b63).2 (by decide) (by decide) ?_
            show oS p e below T54 m 170 #[oi p0, oi p1, oi cp, oi (p1.toInt8.toInt32), oa b4, oi (3 : Int32), oi (3 : Int32), oi b0, oi b1, oi b2, oi b3, .unset, .unset] [] _
            refine XS.iload X54.here hx rfl (hb hby at_170) rfl ?_
            show oS p e below T54 m 172 #[oi p0, oi p1, oi cp, oi (p1.toInt8.toInt32), oa b4, oi (3 : Int32), oi (3 : Int32), oi b0, oi b1, oi b2, oi b3, .unset, .unset] [(.int (3 : Int32))] _
            refine XS.iconst X54.here hx rfl (hb hby at_172) ?_
            show oS p e below T54 m 173 #[oi p0, oi p1, oi cp, oi (p1.toInt8.toInt32), oa b4, oi (3 : Int32), oi (3 : Int32), oi b0, oi b1, oi b2, oi b3, .unset, .unset] [(.int (2 : Int32)), (.int (3 : Int32))] _
            refine XS.icmpYes X54.here hx rfl (pc0 := 173) (pc' := 217) rfl (hb hby at_173) rfl (feq b64).2 (by decide) (by decide) ?_
            show oS p e below T54 m 217 #[oi p0, oi p1, oi cp, oi (p1.toInt8.toInt32), oa b4, oi (3 : Int32), oi (3 : Int32), oi b0, oi b1, oi b2, oi b3, .unset, .unset] [] _
            refine XS.iload X54.here hx rfl (hb hby at_217) rfl ?_
            show oS p e below T54 m 219 #[oi p0, oi p1, oi cp, oi (p1.toInt8.toInt32), oa b4, oi (3 : Int32), oi (3 : Int32), oi b0, oi b1, oi b2, oi b3, .unset, .unset] [(.int (3 : Int32))] _
            refine XS.iconst X54.here hx rfl (hb hby at_219) ?_
            show oS p e below T54 m 220 #[oi p0, oi p1, oi cp, oi (p1.toInt8.toInt32), oa b4, oi (3 : Int32), oi (3 : Int32), oi b0, oi b1, oi b2, oi b3, .unset, .unset] [(.int (3 : Int32)), (.int (3 : Int32))] _
            refine XS.icmpNo X54.here hx rfl (hb hby at_220) rfl (teq b65).2 ?_
            show oS p e below T54 m 223 #[oi p0, oi p1, oi cp, oi (p1.toInt8.toInt32), oa b4, oi (3 : Int32), oi (3 : Int32), oi b0, oi b1, oi b2, oi b3, .unset, .unset] [] _
            refine XS.iload X54.here hx rfl (hb hby at_223) rfl ?_
            show oS p e below T54 m 225 #[oi p0, oi p1, oi cp, oi (p1.toInt8.toInt32), oa b4, oi (3 : Int32), oi (3 : Int32), oi b0, oi b1, oi b2, oi b3, .unset, .unset] [(.int b0)] _
            refine XS.sipush X54.here hx rfl (hb hby at_225) ?_
            show oS p e below T54 m 228 #[oi p0, oi p1, oi cp, oi (p1.toInt8.toInt32), oa b4, oi (3 : Int32), oi (3 : Int32), oi b0, oi b1, oi b2, oi b3, .unset, .unset] [(.int (240 : Int32)), (.int b0)] _
            refine XS.iand X54.here hx rfl (hb hby at_228) rfl ?_
            show oS p e below T54 m 229 #[oi p0, oi p1, oi cp, oi (p1.toInt8.toInt32), oa b4, oi (3 : Int32), oi (3 : Int32), oi b0, oi b1, oi b2, oi b3, .unset, .unset] [(.int (b0 &&& (240 : Int32)))] _
            refine XS.sipush X54.here hx rfl (hb hby at_229) ?_
            show oS p e below T54 m 232 #[oi p0, oi p1, oi cp, oi (p1.toInt8.toInt32), oa b4, oi (3 : Int32), oi (3 : Int32), oi b0, oi b1, oi b2, oi b3, .unset, .unset] [(.int (224 : Int32)), (.int (b0 &&& (240 : Int32)))] _
            refine XS.icmpNo X54.here hx rfl (hb hby at_232) rfl (teq b66).2 ?_
            show oS p e below T54 m 235 #[oi p0, oi p1, oi cp, oi (p1.toInt8.toInt32), oa b4, oi (3 : Int32), oi (3 : Int32), oi b0, oi b1, oi b2, oi b3, .unset, .unset] [] _
            refine XS.iload X54.here hx rfl (hb hby at_235) rfl ?_
            show oS p e below T54 m 237 #[oi p0, oi p1, oi cp, oi (p1.toInt8.toInt32), oa b4, oi (3 : Int32), oi (3 : Int32), oi b0, oi b1, oi b2, oi b3, .unset, .unset] [(.int b1)] _
            refine st67 _ ?_
            show oS p e below T67 m 240 #[oi p0, oi p1, oi cp, oi (p1.toInt8.toInt32), oa b4, oi (3 : Int32), oi (3 : Int32), oi b0, oi b1, oi b2, oi b3, .unset, .unset] [(.int (own_f2 b1))] _
            refine XS.ifNo X67.here hx rfl (hb hby at_240) rfl ((if0 _ _).trans (feq b68).1) ?_
            show oS p e below T67 m 243 #[oi p0, oi p1, oi cp, oi (p1.toInt8.toInt32), oa b4, oi (3 : Int32), oi (3 : Int32), oi b0, oi b1, oi b2, oi b3, .unset, .unset] [] _
            refine XS.iload X67.here hx rfl (hb hby at_243) rfl ?_
            show oS p e below T67 m 245 #[oi p0, oi p1, oi cp, oi (p1.toInt8.toInt32), oa b4, oi (3 : Int32), oi (3 : Int32), oi b0, oi b1, oi b2, oi b3, .unset, .unset] [(.int b2)] _
            refine st69 _ ?_
            show oS p e below T69 m 248 #[oi p0, oi p1, oi cp, oi (p1.toInt8.toInt32), oa b4, oi (3 : Int32), oi (3 : Int32), oi b0, oi b1, oi b2, oi b3, .unset, .unset] [(.int (own_f2 b2))] _
            refine XS.ifYes X69.here hx rfl (pc0 := 248) (pc' := 253) rfl (hb hby at_248) rfl ((if0 _ _).trans (feq b70).2) (by decide) (by decide) ?_
            show oS p e below T69 m 253 #[oi p0, oi p1, oi cp, oi (p1.toInt8.toInt32), oa b4, oi (3 : Int32), oi (3 : Int32), oi b0, oi b1, oi b2, oi b3, .unset, .unset] [] _
            refine XS.iload X69.here hx rfl (hb hby at_253) rfl ?_
            show oS p e below T69 m 255 #[oi p0, oi p1, oi cp, oi (p1.toInt8.toInt32), oa b4, oi (3 : Int32), oi (3 : Int32), oi b0, oi b1, oi b2, oi b3, .unset, .unset] [(.int b0)] _
            refine XS.bipush X69.here hx rfl (hb hby at_255) ?_
            show oS p e below T69 m 257 #[oi p0, oi p1, oi cp, oi (p1.toInt8.toInt32), oa b4, oi (3 : Int32), oi (3 : Int32), oi b0, oi b1, oi b2, oi b3, .unset, .unset] [(.int (15 : Int32)), (.int b0)] _
            refine XS.iand X69.here hx rfl (hb hby at_257) rfl ?_
            show oS p e below T69 m 258 #[oi p0, oi p1, oi cp, oi (p1.toInt8.toInt32), oa b4, oi (3 : Int32), oi (3 : Int32), oi b0, oi b1, oi b2, oi b3, .unset, .unset] [(.int (b0 &&& (15 : Int32)))] _
            refine XS.bipush X69.here hx rfl (hb hby at_258) ?_
            show oS p e below T69 m 260 #[oi p0, oi p1, oi cp, oi (p1.toInt8.toInt32), oa b4, oi (3 : Int32), oi (3 : Int32), oi b0, oi b1, oi b2, oi b3, .unset, .unset] [(.int (12 : Int32)), (.int (b0 &&& (15 : Int32)))] _
            refine XS.ishl X69.here hx rfl (hb hby at_260) rfl ?_
            show oS p e below T69 m 261 #[oi p0, oi p1, oi cp, oi (p1.toInt8.toInt32), oa b4, oi (3 : Int32), oi (3 : Int32), oi b0, oi b1, oi b2, oi b3, .unset, .unset] [(.int ((b0 &&& (15 : Int32)) <<< ((12 : Int32) &&& 31)))] _
            refine XS.iload X69.here hx rfl (hb hby at_261) rfl ?_
            show oS p e below T69 m 263 #[oi p0, oi p1, oi cp, oi (p1.toInt8.toInt32), oa b4, oi (3 : Int32), oi (3 : Int32), oi b0, oi b1, oi b2, oi b3, .unset, .unset] [(.int b1), (.int ((b0 &&& (15 : Int32)) <<< ((12 : Int32) &&& 31)))] _
            refine XS.bipush X69.here hx rfl (hb hby at_263) ?_
            show oS p e below T69 m 265 #[oi p0, oi p1, oi cp, oi (p1.toInt8.toInt32), oa b4, oi (3 : Int32), oi (3 : Int32), oi b0, oi b1, oi b2, oi b3, .unset, .unset] [(.int (63 : Int32)), (.int b1), (.int ((b0 &&& (15 : Int32)) <<< ((12 : Int32) &&& 31)))] _
            refine XS.iand X69.here hx rfl (hb hby at_265) rfl ?_
            show oS p e below T69 m 266 #[oi p0, oi p1, oi cp, oi (p1.toInt8.toInt32), oa b4, oi (3 : Int32), oi (3 : Int32), oi b0, oi b1, oi b2, oi b3, .unset, .unset] [(.int (b1 &&& (63 : Int32))), (.int ((b0 &&& (15 : Int32)) <<< ((12 : Int32) &&& 31)))] _
            refine XS.bipush X69.here hx rfl (hb hby at_266) ?_
            show oS p e below T69 m 268 #[oi p0, oi p1, oi cp, oi (p1.toInt8.toInt32), oa b4, oi (3 : Int32), oi (3 : Int32), oi b0, oi b1, oi b2, oi b3, .unset, .unset] [(.int (6 : Int32)), (.int (b1 &&& (63 : Int32))), (.int ((b0 &&& (15 : Int32)) <<< ((12 : Int32) &&& 31)))] _
            refine XS.ishl X69.here hx rfl (hb hby at_268) rfl ?_
            show oS p e below T69 m 269 #[oi p0, oi p1, oi cp, oi (p1.toInt8.toInt32), oa b4, oi (3 : Int32), oi (3 : Int32), oi b0, oi b1, oi b2, oi b3, .unset, .unset] [(.int ((b1 &&& (63 : Int32)) <<< ((6 : Int32) &&& 31))), (.int ((b0 &&& (15 : Int32)) <<< ((12 : Int32) &&& 31)))] _
            refine XS.ior X69.here hx rfl (hb hby at_269) rfl ?_
            show oS p e below T69 m 270 #[oi p0, oi p1, oi cp, oi (p1.toInt8.toInt32), oa b4, oi (3 : Int32), oi (3 : Int32), oi b0, oi b1, oi b2, oi b3, .unset, .unset] [(.int (((b0 &&& (15 : Int32)) <<< ((12 : Int32) &&& 31)) ||| ((b1 &&& (63 : Int32)) <<< ((6 : Int32) &&& 31))))] _
            refine XS.iload X69.here hx rfl (hb hby at_270) rfl ?_
            show oS p e below T69 m 272 #[oi p0, oi p1, oi cp, oi (p1.toInt8.toInt32), oa b4, oi (3 : Int32), oi (3 : Int32), oi b0, oi b1, oi b2, oi b3, .unset, .unset] [(.int b2), (.int (((b0 &&& (15 : Int32)) <<< ((12 : Int32) &&& 31)) ||| ((b1 &&& (63 : Int32)) <<< ((6 : Int32) &&& 31))))] _
            refine XS.bipush X69.here hx rfl (hb hby at_272) ?_
            show oS p e below T69 m 274 #[oi p0, oi p1, oi cp, oi (p1.toInt8.toInt32), oa b4, oi (3 : Int32), oi (3 : Int32), oi b0, oi b1, oi b2, oi b3, .unset, .unset] [(.int (63 : Int32)), (.int b2), (.int (((b0 &&& (15 : Int32)) <<< ((12 : Int32) &&& 31)) ||| ((b1 &&& (63 : Int32)) <<< ((6 : Int32) &&& 31))))] _
            refine XS.iand X69.here hx rfl (hb hby at_274) rfl ?_
            show oS p e below T69 m 275 #[oi p0, oi p1, oi cp, oi (p1.toInt8.toInt32), oa b4, oi (3 : Int32), oi (3 : Int32), oi b0, oi b1, oi b2, oi b3, .unset, .unset] [(.int (b2 &&& (63 : Int32))), (.int (((b0 &&& (15 : Int32)) <<< ((12 : Int32) &&& 31)) ||| ((b1 &&& (63 : Int32)) <<< ((6 : Int32) &&& 31))))] _
            refine XS.ior X69.here hx rfl (hb hby at_275) rfl ?_
            show oS p e below T69 m 276 #[oi p0, oi p1, oi cp, oi (p1.toInt8.toInt32), oa b4, oi (3 : Int32), oi (3 : Int32), oi b0, oi b1, oi b2, oi b3, .unset, .unset] [(.int ((((b0 &&& (15 : Int32)) <<< ((12 : Int32) &&& 31)) ||| ((b1 &&& (63 : Int32)) <<< ((6 : Int32) &&& 31))) ||| (b2 &&& (63 : Int32))))] _
            refine XS.istore X69.here hx rfl (hb hby at_276) rfl (l' := #[oi p0, oi p1, oi cp, oi (p1.toInt8.toInt32), oa b4, oi (3 : Int32), oi (3 : Int32), oi b0, oi b1, oi b2, oi b3, oi ((((b0 &&& (15 : Int32)) <<< ((12 : Int32) &&& 31)) ||| ((b1 &&& (63 : Int32)) <<< ((6 : Int32) &&& 31))) ||| (b2 &&& (63 : Int32))), .unset]) rfl ?_
            show oS p e below T69 m 278 #[oi p0, oi p1, oi cp, oi (p1.toInt8.toInt32), oa b4, oi (3 : Int32), oi (3 : Int32), oi b0, oi b1, oi b2, oi b3, oi ((((b0 &&& (15 : Int32)) <<< ((12 : Int32) &&& 31)) ||| ((b1 &&& (63 : Int32)) <<< ((6 : Int32) &&& 31))) ||| (b2 &&& (63 : Int32))), .unset] [] _
            refine XS.goto X69.here hx rfl (pc0 := 278) (pc' := 353) rfl (hb hby at_278) (by decide) (by decide) ?_
            show oS p e below T69 m 353 #[oi p0, oi p1, oi cp, oi (p1.toInt8.toInt32), oa b4, oi (3 : Int32), oi (3 : Int32), oi b0, oi b1, oi b2, oi b3, oi ((((b0 &&& (15 : Int32)) <<< ((12 : Int32) &&& 31)) ||| ((b1 &&& (63 : Int32)) <<< ((6 : Int32) &&& 31))) ||| (b2 &&& (63 : Int32))), .unset] [] _
            refine XS.iload X69.here hx rfl (hb hby at_353) rfl ?_
            show oS p e below T69 m 355 #[oi p0, oi p1, oi cp, oi (p1.toInt8.toInt32), oa b4, oi (3 : Int32), oi (3 : Int32), oi b0, oi b1, oi b2, oi b3, oi ((((b0 &&& (15 : Int32)) <<< ((12 : Int32) &&& 31)) ||| ((b1 &&& (63 : Int32)) <<< ((6 : Int32) &&& 31))) ||| (b2 &&& (63 : Int32))), .unset] [(.int ((((b0 &&& (15 : Int32)) <<< ((12 : Int32) &&& 31)) ||| ((b1 &&& (63 : Int32)) <<< ((6 : Int32) &&& 31))) ||| (b2 &&& (63 : Int32))))] _
            refine XS.iloadN X69.here hx rfl (hb hby at_355) rfl ?_
            show oS p e below T69 m 356 #[oi p0, oi p1, oi cp, oi (p1.toInt8.toInt32), oa b4, oi (3 : Int32), oi (3 : Int32), oi b0, oi b1, oi b2, oi b3, oi ((((b0 &&& (15 : Int32)) <<< ((12 : Int32) &&& 31)) ||| ((b1 &&& (63 : Int32)) <<< ((6 : Int32) &&& 31))) ||| (b2 &&& (63 : Int32))), .unset] [(.int cp), (.int ((((b0 &&& (15 : Int32)) <<< ((12 : Int32) &&& 31)) ||| ((b1 &&& (63 : Int32)) <<< ((6 : Int32) &&& 31))) ||| (b2 &&& (63 : Int32))))] _
            refine XS.icmpYes X69.here hx rfl (pc0 := 356) (pc' := 361) rfl (hb hby at_356) rfl (teq b71).1 (by decide) (by decide) ?_
            show oS p e below T69 m 361 #[oi p0, oi p1, oi cp, oi (p1.toInt8.toInt32), oa b4, oi (3 : Int32), oi (3 : Int32), oi b0, oi b1, oi b2, oi b3, oi ((((b0 &&& (15 : Int32)) <<< ((12 : Int32) &&& 31)) ||| ((b1 &&& (63 : Int32)) <<< ((6 : Int32) &&& 31))) ||| (b2 &&& (63 : Int32))), .unset] [] _
            refine XS.iload X69.here hx rfl (hb hby at_361) rfl ?_
            show oS p e below T69 m 363 #[oi p0, oi p1, oi cp, oi (p1.toInt8.toInt32), oa b4, oi (3 : Int32), oi (3 : Int32), oi b0, oi b1, oi b2, oi b3, oi ((((b0 &&& (15 : Int32)) <<< ((12 : Int32) &&& 31)) ||| ((b1 &&& (63 : Int32)) <<< ((6 : Int32) &&& 31))) ||| (b2 &&& (63 : Int32))), .unset] [(.int (3 : Int32))] _
            refine XS.iconst X69.here hx rfl (hb hby at_363) ?_
            show oS p e below T69 m 364 #[oi p0, oi p1, oi cp, oi (p1.toInt8.toInt32), oa b4, oi (3 : Int32), oi (3 : Int32), oi b0, oi b1, oi b2, oi b3, oi ((((b0 &&& (15 : Int32)) <<< ((12 : Int32) &&& 31)) ||| ((b1 &&& (63 : Int32)) <<< ((6 : Int32) &&& 31))) ||| (b2 &&& (63 : Int32))), .unset] [(.int (1 : Int32)), (.int (3 : Int32))] _
            refine XS.icmpYes X69.here hx rfl (pc0 := 364) (pc' := 375) rfl (hb hby at_364) rfl (tlt b72).2.2.1 (by decide) (by decide) ?_
            show oS p e below T69 m 375 #[oi p0, oi p1, oi cp, oi (p1.toInt8.toInt32), oa b4, oi (3 : Int32), oi (3 : Int32), oi b0, oi b1, oi b2, oi b3, oi ((((b0 &&& (15 : Int32)) <<< ((12 : Int32) &&& 31)) ||| ((b1 &&& (63 : Int32)) <<< ((6 : Int32) &&& 31))) ||| (b2 &&& (63 : Int32))), .unset] [] _
            refine XS.iload X69.here hx rfl (hb hby at_375) rfl ?_
            show oS p e below T69 m 377 #[oi p0, oi p1, oi cp, oi (p1.toInt8.toInt32), oa b4, oi (3 : Int32), oi (3 : Int32), oi b0, oi b1, oi b2, oi b3, oi ((((b0 &&& (15 : Int32)) <<< ((12 : Int32) &&& 31)) ||| ((b1 &&& (63 : Int32)) <<< ((6 : Int32) &&& 31))) ||| (b2 &&& (63 : Int32))), .unset] [(.int (3 : Int32))] _
            refine XS.iconst X69.here hx rfl (hb hby at_377) ?_
            show oS p e below T69 m 378 #[oi p0, oi p1, oi cp, oi (p1.toInt8.toInt32), oa b4, oi (3 : Int32), oi (3 : Int32), oi b0, oi b1, oi b2, oi b3, oi ((((b0 &&& (15 : Int32)) <<< ((12 : Int32) &&& 31)) ||| ((b1 &&& (63 : Int32)) <<< ((6 : Int32) &&& 31))) ||| (b2 &&& (63 : Int32))), .unset] [(.int (2 : Int32)), (.int (3 : Int32))] _
            refine XS.icmpYes X69.here hx rfl (pc0 := 378) (pc' := 389) rfl (hb hby at_378) rfl (tlt b73).2.2.1 (by decide) (by decide) ?_
            show oS p e below T69 m 389 #[oi p0, oi p1, oi cp, oi (p1.toInt8.toInt32), oa b4, oi (3 : Int32), oi (3 : Int32), oi b0, oi b1, oi b2, oi b3, oi ((((b0 &&& (15 : Int32)) <<< ((12 : Int32) &&& 31)) ||| ((b1 &&& (63 : Int32)) <<< ((6 : Int32) &&& 31))) ||| (b2 &&& (63 : Int32))), .unset] [] _
            refine XS.iload X69.here hx rfl (hb hby at_389) rfl ?_
            show oS p e below T69 m 391 #[oi p0, oi p1, oi cp, oi (p1.toInt8.toInt32), oa b4, oi (3 : Int32), oi (3 : Int32), oi b0, oi b1, oi b2, oi b3, oi ((((b0 &&& (15 : Int32)) <<< ((12 : Int32) &&& 31)) ||| ((b1 &&& (63 : Int32)) <<< ((6 : Int32) &&& 31))) ||| (b2 &&& (63 : Int32))), .unset] [(.int (3 : Int32))] _
            refine XS.iconst X69.here hx rfl (hb hby at_391) ?_
            show oS p e below T69 m 392 #[oi p0, oi p1, oi cp, oi (p1.toInt8.toInt32), oa b4, oi (3 : Int32), oi (3 : Int32), oi b0, oi b1, oi b2, oi b3, oi ((((b0 &&& (15 : Int32)) <<< ((12 : Int32) &&& 31)) ||| ((b1 &&& (63 : Int32)) <<< ((6 : Int32) &&& 31))) ||| (b2 &&& (63 : Int32))), .unset] [(.int (3 : Int32)), (.int (3 : Int32))] _
            refine XS.icmpNo X69.here hx rfl (hb hby at_392) rfl (flt b74).2.2.1 ?_
            show oS p e below T69 m 395 #[oi p0, oi p1, oi cp, oi (p1.toInt8.toInt32), oa b4, oi (3 : Int32), oi (3 : Int32), oi b0, oi b1, oi b2, oi b3, oi ((((b0 &&& (15 : Int32)) <<< ((12 : Int32) &&& 31)) ||| ((b1 &&& (63 : Int32)) <<< ((6 : Int32) &&& 31))) ||| (b2 &&& (63 : Int32))), .unset] [] _
            refine XS.aload X69.here hx rfl (hb hby at_395) rfl rfl ?_
            show oS p e below T69 m 397 #[oi p0, oi p1, oi cp, oi (p1.toInt8.toInt32), oa b4, oi (3 : Int32), oi (3 : Int32), oi b0, oi b1, oi b2, oi b3, oi ((((b0 &&& (15 : Int32)) <<< ((12 : Int32) &&& 31)) ||| ((b1 &&& (63 : Int32)) <<< ((6 : Int32) &&& 31))) ||| (b2 &&& (63 : Int32))), .unset] [(.ref b4)] _
            refine XS.iconst X69.here hx rfl (hb hby at_397) ?_
            show oS p e below T69 m 398 #[oi p0, oi p1, oi cp, oi (p1.toInt8.toInt32), oa b4, oi (3 : Int32), oi (3 : Int32), oi b0, oi b1, oi b2, oi b3, oi ((((b0 &&& (15 : Int32)) <<< ((12 : Int32) &&& 31)) ||| ((b1 &&& (63 : Int32)) <<< ((6 : Int32) &&& 31))) ||| (b2 &&& (63 : Int32))), .unset] [(.int (3 : Int32)), (.ref b4)] _
            refine oLdB X69 hx hZ eq69 Oq54_0 (v := (.int (p1.toInt8.toInt32))) ⟨by decide, by decide⟩ rfl (hb hby at_398) ?_
            show oS p e below T69 m 399 #[oi p0, oi p1, oi cp, oi (p1.toInt8.toInt32), oa b4, oi (3 : Int32), oi (3 : Int32), oi b0, oi b1, oi b2, oi b3, oi ((((b0 &&& (15 : Int32)) <<< ((12 : Int32) &&& 31)) ||| ((b1 &&& (63 : Int32)) <<< ((6 : Int32) &&& 31))) ||| (b2 &&& (63 : Int32))), .unset] [(.int (p1.toInt8.toInt32))] _
            refine XS.iloadN X69.here hx rfl (hb hby at_399) rfl ?_
            show oS p e below T69 m 400 #[oi p0, oi p1, oi cp, oi (p1.toInt8.toInt32), oa b4, oi (3 : Int32), oi (3 : Int32), oi b0, oi b1, oi b2, oi b3, oi ((((b0 &&& (15 : Int32)) <<< ((12 : Int32) &&& 31)) ||| ((b1 &&& (63 : Int32)) <<< ((6 : Int32) &&& 31))) ||| (b2 &&& (63 : Int32))), .unset] [(.int (p1.toInt8.toInt32)), (.int (p1.toInt8.toInt32))] _
            refine XS.icmpNo X69.here hx rfl (hb hby at_400) rfl (teq b75).2 ?_
            show oS p e below T69 m 403 #[oi p0, oi p1, oi cp, oi (p1.toInt8.toInt32), oa b4, oi (3 : Int32), oi (3 : Int32), oi b0, oi b1, oi b2, oi b3, oi ((((b0 &&& (15 : Int32)) <<< ((12 : Int32) &&& 31)) ||| ((b1 &&& (63 : Int32)) <<< ((6 : Int32) &&& 31))) ||| (b2 &&& (63 : Int32))), .unset] [] _
            refine XS.aload X69.here hx rfl (hb hby at_403) rfl rfl ?_
            show oS p e below T69 m 405 #[oi p0, oi p1, oi cp, oi (p1.toInt8.toInt32), oa b4, oi (3 : Int32), oi (3 : Int32), oi b0, oi b1, oi b2, oi b3, oi ((((b0 &&& (15 : Int32)) <<< ((12 : Int32) &&& 31)) ||| ((b1 &&& (63 : Int32)) <<< ((6 : Int32) &&& 31))) ||| (b2 &&& (63 : Int32))), .unset] [(.ref b4)] _
            refine XS.iconst X69.here hx rfl (hb hby at_405) ?_
            show oS p e below T69 m 406 #[oi p0, oi p1, oi cp, oi (p1.toInt8.toInt32), oa b4, oi (3 : Int32), oi (3 : Int32), oi b0, oi b1, oi b2, oi b3, oi ((((b0 &&& (15 : Int32)) <<< ((12 : Int32) &&& 31)) ||| ((b1 &&& (63 : Int32)) <<< ((6 : Int32) &&& 31))) ||| (b2 &&& (63 : Int32))), .unset] [(.int (4 : Int32)), (.ref b4)] _
            refine oLdB X69 hx hZ eq69 Oq54_0 (v := (.int (p1.toInt8.toInt32))) ⟨by decide, by decide⟩ rfl (hb hby at_406) ?_
            show oS p e below T69 m 407 #[oi p0, oi p1, oi cp, oi (p1.toInt8.toInt32), oa b4, oi (3 : Int32), oi (3 : Int32), oi b0, oi b1, oi b2, oi b3, oi ((((b0 &&& (15 : Int32)) <<< ((12 : Int32) &&& 31)) ||| ((b1 &&& (63 : Int32)) <<< ((6 : Int32) &&& 31))) ||| (b2 &&& (63 : Int32))), .unset] [(.int (p1.toInt8.toInt32))] _
            refine XS.iloadN X69.here hx rfl (hb hby at_407) rfl ?_
            show oS p e below T69 m 408 #[oi p0, oi p1, oi cp, oi (p1.toInt8.toInt32), oa b4, oi (3 : Int32), oi (3 : Int32), oi b0, oi b1, oi b2, oi b3, oi ((((b0 &&& (15 : Int32)) <<< ((12 : Int32) &&& 31)) ||| ((b1 &&& (63 : Int32)) <<< ((6 : Int32) &&& 31))) ||| (b2 &&& (63 : Int32))), .unset] [(.int (p1.toInt8.toInt32)), (.int (p1.toInt8.toInt32))] _
            refine XS.icmpNo X69.here hx rfl (hb hby at_408) rfl (teq b76).2 ?_
            show oS p e below T69 m 411 #[oi p0, oi p1, oi cp, oi (p1.toInt8.toInt32), oa b4, oi (3 : Int32), oi (3 : Int32), oi b0, oi b1, oi b2, oi b3, oi ((((b0 &&& (15 : Int32)) <<< ((12 : Int32) &&& 31)) ||| ((b1 &&& (63 : Int32)) <<< ((6 : Int32) &&& 31))) ||| (b2 &&& (63 : Int32))), .unset] [] _
            refine XS.iconst X69.here hx rfl (hb hby at_411) ?_
            show oS p e below T69 m 412 #[oi p0, oi p1, oi cp, oi (p1.toInt8.toInt32), oa b4, oi (3 : Int32), oi (3 : Int32), oi b0, oi b1, oi b2, oi b3, oi ((((b0 &&& (15 : Int32)) <<< ((12 : Int32) &&& 31)) ||| ((b1 &&& (63 : Int32)) <<< ((6 : Int32) &&& 31))) ||| (b2 &&& (63 : Int32))), .unset] [(.int (1 : Int32))] _
            refine XS.goto X69.here hx rfl (pc0 := 412) (pc' := 416) rfl (hb hby at_412) (by decide) (by decide) ?_
            show oS p e below T69 m 416 #[oi p0, oi p1, oi cp, oi (p1.toInt8.toInt32), oa b4, oi (3 : Int32), oi (3 : Int32), oi b0, oi b1, oi b2, oi b3, oi ((((b0 &&& (15 : Int32)) <<< ((12 : Int32) &&& 31)) ||| ((b1 &&& (63 : Int32)) <<< ((6 : Int32) &&& 31))) ||| (b2 &&& (63 : Int32))), .unset] [(.int (1 : Int32))] _
            refine XS.istore X69.here hx rfl (hb hby at_416) rfl (l' := #[oi p0, oi p1, oi cp, oi (p1.toInt8.toInt32), oa b4, oi (3 : Int32), oi (3 : Int32), oi b0, oi b1, oi b2, oi b3, oi ((((b0 &&& (15 : Int32)) <<< ((12 : Int32) &&& 31)) ||| ((b1 &&& (63 : Int32)) <<< ((6 : Int32) &&& 31))) ||| (b2 &&& (63 : Int32))), oi (1 : Int32)]) rfl ?_
            show oS p e below T69 m 418 #[oi p0, oi p1, oi cp, oi (p1.toInt8.toInt32), oa b4, oi (3 : Int32), oi (3 : Int32), oi b0, oi b1, oi b2, oi b3, oi ((((b0 &&& (15 : Int32)) <<< ((12 : Int32) &&& 31)) ||| ((b1 &&& (63 : Int32)) <<< ((6 : Int32) &&& 31))) ||| (b2 &&& (63 : Int32))), oi (1 : Int32)] [] _
            refine XS.iload X69.here hx rfl (hb hby at_418) rfl ?_
            show oS p e below T69 m 420 #[oi p0, oi p1, oi cp, oi (p1.toInt8.toInt32), oa b4, oi (3 : Int32), oi (3 : Int32), oi b0, oi b1, oi b2, oi b3, oi ((((b0 &&& (15 : Int32)) <<< ((12 : Int32) &&& 31)) ||| ((b1 &&& (63 : Int32)) <<< ((6 : Int32) &&& 31))) ||| (b2 &&& (63 : Int32))), oi (1 : Int32)] [(.int (1 : Int32))] _
            exact retN X69 hx (t := .boolean) Bd.returns (by simp) (hb hby at_420) hr
          · show own_Q0 Z p0 p1 h0 n0 _ T69.heap _
            rw [eq69]
            exact ⟨rfl, N69⟩
        · skip
          have mhA := hA
          have mhB := hB
          have mhC := hC
          simp only [own_ltp, Int32.reduceToInt] at mhA mhB mhC
          obtain ⟨_, _, ⟨T77, L77, k77, n77⟩, -, X77, ⟨Lc77, hQ77, l77, y77, z77⟩, st77⟩ := Jvm.LawKit.callS X14 hx (y := (⟨"com/example/godwit/godwit/link/Utf8", "encode", "(I[B)I"⟩ : MethodName)) hown (mvT hZ (hw _ (List.mem_of_getElem? (i := 4) rfl))) (mvT hZ (hw _ (List.mem_of_getElem? (i := 5) rfl))) (mvT hZ (hw _ (List.mem_of_getElem? (i := 6) rfl))) (mvT hZ (hw _ (List.mem_of_getElem? (i := 7) rfl))) (by decide) (backOf (W := 0) (own_rm1D l Z av hw [] cp b4 k4 (p1.toInt8.toInt32) h14 n0 Z14 V_15 g_b4 (hA) (hB) (hC)) hZ (hw _ (List.mem_of_getElem? (i := 7) rfl)) (hw _ (List.mem_of_getElem? (i := 6) rfl)) (by decide) (by decide)) (g := (mkF m 58 #[oi p0, oi p1, oi cp, oi (p1.toInt8.toInt32), oa b4, .unset, .unset, .unset, .unset, .unset, .unset, .unset, .unset] [(.ref b4), (.int cp)])) rfl (by rw [hml]; rfl) (argsL := [(.int cp), (.ref b4)]) (rest := []) (lenOf own_pd0 rfl) rfl (by show 2 * 0 + _ ≤ _; exact Nat.le_of_eq rfl) (hb hby at_58) (fun _ _ => ⟨rfl, e14, (by decide : 1 + 0 ≤ _), (by decide : 5 + 0 ≤ _)⟩)
          dsimp only [Pt.U, Pt.locs, Pt.cells, Pt.slots] at X77 l77 y77 z77 st77 hQ77
          have yq77 : k77 = 1 := y77
          have zq77 : n77 = 5 := z77
          subst yq77 zq77
          obtain ⟨rfl, Nq77, Kq77, Oq77_0⟩ := hQ77
          have N77 : Fr n0 L77 := by rw [l77]; exact Fr.app N14 Nq77
          have Z77 : n0 ≤ T77.heap.size := Nat.le_trans Z14 Kq77.1
          have b78 : ¬ (cp < (128 : Int32)) := hA
          have b79 : ¬ (cp < (2048 : Int32)) := hB
          have b80 : ¬ (cp < (65536 : Int32)) := hC
          have b81 : (4 : Int32) = (4 : Int32) := (by decide)
          have pre82 : ∀ t, Steps p.tables e below (T77.setTop (mkF m 115 #[oi p0, oi p1, oi cp, oi (p1.toInt8.toInt32), oa b4, oi (4 : Int32), oi (4 : Int32), .unset, .unset, .unset, .unset, .unset, .unset] [(.int ((((240 : Int32) ||| (cp >>> ((18 : Int32) &&& 31))).toInt8.toInt32) &&& (255 : Int32)))])) t → Steps p.tables e below (s₁.setTop (entryFrame m #[(.int p0), (.int p1)] maxLocals)) t := by
            intro t k
            refine pre16 t ?_
            show oS p e below T14 m 58 #[oi p0, oi p1, oi cp, oi (p1.toInt8.toInt32), oa b4, .unset, .unset, .unset, .unset, .unset, .unset, .unset, .unset] [(.ref b4), (.int cp)] _
            refine st77 _ ?_
            show oS p e below T77 m 61 #[oi p0, oi p1, oi cp, oi (p1.toInt8.toInt32), oa b4, .unset, .unset, .unset, .unset, .unset, .unset, .unset, .unset] [(.int (4 : Int32))] _
            refine XS.istore X77.here hx rfl (hb hby at_61) rfl (l' := #[oi p0, oi p1, oi cp, oi (p1.toInt8.toInt32), oa b4, oi (4 : Int32), .unset, .unset, .unset, .unset, .unset, .unset, .unset]) rfl ?_
            show oS p e below T77 m 63 #[oi p0, oi p1, oi cp, oi (p1.toInt8.toInt32), oa b4, oi (4 : Int32), .unset, .unset, .unset, .unset, .unset, .unset, .unset] [] _
            refine XS.iloadN X77.here hx rfl (hb hby at_63) rfl ?_
            show oS p e below T77 m 64 #[oi p0, oi p1, oi cp, oi (p1.toInt8.toInt32), oa b4, oi (4 : Int32), .unset, .unset, .unset, .unset, .unset, .unset, .unset] [(.int cp)] _
            refine XS.sipush X77.here hx rfl (hb hby at_64) ?_
            show oS p e below T77 m 67 #[oi p0, oi p1, oi cp, oi (p1.toInt8.toInt32), oa b4, oi (4 : Int32), .unset, .unset, .unset, .unset, .unset, .unset, .unset] [(.int (128 : Int32)), (.int cp)] _
            refine XS.icmpYes X77.here hx rfl (pc0 := 67) (pc' := 74) rfl (hb hby at_67) rfl (flt b78).2.1 (by decide) (by decide) ?_
            show oS p e below T77 m 74 #[oi p0, oi p1, oi cp, oi (p1.toInt8.toInt32), oa b4, oi (4 : Int32), .unset, .unset, .unset, .unset, .unset, .unset, .unset] [] _
            refine XS.iloadN X77.here hx rfl (hb hby at_74) rfl ?_
            show oS p e below T77 m 75 #[oi p0, oi p1, oi cp, oi (p1.toInt8.toInt32), oa b4, oi (4 : Int32), .unset, .unset, .unset, .unset, .unset, .unset, .unset] [(.int cp)] _
            refine XS.sipush X77.here hx rfl (hb hby at_75) ?_
            show oS p e below T77 m 78 #[oi p0, oi p1, oi cp, oi (p1.toInt8.toInt32), oa b4, oi (4 : Int32), .unset, .unset, .unset, .unset, .unset, .unset, .unset] [(.int (2048 : Int32)), (.int cp)] _
            refine XS.icmpYes X77.here hx rfl (pc0 := 78) (pc' := 85) rfl (hb hby at_78) rfl (flt b79).2.1 (by decide) (by decide) ?_
            show oS p e below T77 m 85 #[oi p0, oi p1, oi cp, oi (p1.toInt8.toInt32), oa b4, oi (4 : Int32), .unset, .unset, .unset, .unset, .unset, .unset, .unset] [] _
            refine XS.iloadN X77.here hx rfl (hb hby at_85) rfl ?_
            show oS p e below T77 m 86 #[oi p0, oi p1, oi cp, oi (p1.toInt8.toInt32), oa b4, oi (4 : Int32), .unset, .unset, .unset, .unset, .unset, .unset, .unset] [(.int cp)] _
            refine X77.ldcInt hx hown (mvT hZ (hw _ (List.mem_of_getElem? (i := 10) rfl))) (g := (mkF m 86 #[oi p0, oi p1, oi cp, oi (p1.toInt8.toInt32), oa b4, oi (4 : Int32), .unset, .unset, .unset, .unset, .unset, .unset, .unset] [(.int cp)])) rfl (hb hby at_86) _ ?_
            show oS p e below T77 m 88 #[oi p0, oi p1, oi cp, oi (p1.toInt8.toInt32), oa b4, oi (4 : Int32), .unset, .unset, .unset, .unset, .unset, .unset, .unset] [(.int (65536 : Int32)), (.int cp)] _
            refine XS.icmpYes X77.here hx rfl (pc0 := 88) (pc' := 95) rfl (hb hby at_88) rfl (flt b80).2.1 (by decide) (by decide) ?_
            show oS p e below T77 m 95 #[oi p0, oi p1, oi cp, oi (p1.toInt8.toInt32), oa b4, oi (4 : Int32), .unset, .unset, .unset, .unset, .unset, .unset, .unset] [] _
            refine XS.iconst X77.here hx rfl (hb hby at_95) ?_
            show oS p e below T77 m 96 #[oi p0, oi p1, oi cp, oi (p1.toInt8.toInt32), oa b4, oi (4 : Int32), .unset, .unset, .unset, .unset, .unset, .unset, .unset] [(.int (4 : Int32))] _
            refine XS.istore X77.here hx rfl (hb hby at_96) rfl (l' := #[oi p0, oi p1, oi cp, oi (p1.toInt8.toInt32), oa b4, oi (4 : Int32), oi (4 : Int32), .unset, .unset, .unset, .unset, .unset, .unset]) rfl ?_
            show oS p e below T77 m 98 #[oi p0, oi p1, oi cp, oi (p1.toInt8.toInt32), oa b4, oi (4 : Int32), oi (4 : Int32), .unset, .unset, .unset, .unset, .unset, .unset] [] _
            refine XS.iload X77.here hx rfl (hb hby at_98) rfl ?_
            show oS p e below T77 m 100 #[oi p0, oi p1, oi cp, oi (p1.toInt8.toInt32), oa b4, oi (4 : Int32), oi (4 : Int32), .unset, .unset, .unset, .unset, .unset, .unset] [(.int (4 : Int32))] _
            refine XS.iload X77.here hx rfl (hb hby at_100) rfl ?_
            show oS p e below T77 m 102 #[oi p0, oi p1, oi cp, oi (p1.toInt8.toInt32), oa b4, oi (4 : Int32), oi (4 : Int32), .unset, .unset, .unset, .unset, .unset, .unset] [(.int (4 : Int32)), (.int (4 : Int32))] _
            refine XS.icmpYes X77.here hx rfl (pc0 := 102) (pc' := 107) rfl (hb hby at_102) rfl (teq b81).1 (by decide) (by decide) ?_
            show oS p e below T77 m 107 #[oi p0, oi p1, oi cp, oi (p1.toInt8.toInt32), oa b4, oi (4 : Int32), oi (4 : Int32), .unset, .unset, .unset, .unset, .unset, .unset] [] _
            refine XS.aload X77.here hx rfl (hb hby at_107) rfl rfl ?_
            show oS p e below T77 m 109 #[oi p0, oi p1, oi cp, oi (p1.toInt8.toInt32), oa b4, oi (4 : Int32), oi (4 : Int32), .unset, .unset, .unset, .unset, .unset, .unset] [(.ref b4)] _
            refine XS.iconst X77.here hx rfl (hb hby at_109) ?_
            show oS p e below T77 m 110 #[oi p0, oi p1, oi cp, oi (p1.toInt8.toInt32), oa b4, oi (4 : Int32), oi (4 : Int32), .unset, .unset, .unset, .unset, .unset, .unset] [(.int (0 : Int32)), (.ref b4)] _
            refine oLdB X77 hx hZ rfl Oq77_0 (v := (.int (((240 : Int32) ||| (cp >>> ((18 : Int32) &&& 31))).toInt8.toInt32))) ⟨by decide, by decide⟩ rfl (hb hby at_110) ?_
            show oS p e below T77 m 111 #[oi p0, oi p1, oi cp, oi (p1.toInt8.toInt32), oa b4, oi (4 : Int32), oi (4 : Int32), .unset, .unset, .unset, .unset, .unset, .unset] [(.int (((240 : Int32) ||| (cp >>> ((18 : Int32) &&& 31))).toInt8.toInt32))] _
            refine XS.sipush X77.here hx rfl (hb hby at_111) ?_
            show oS p e below T77 m 114 #[oi p0, oi p1, oi cp, oi (p1.toInt8.toInt32), oa b4, oi (4 : Int32), oi (4 : Int32), .unset, .unset, .unset, .unset, .unset, .unset] [(.int (255 : Int32)), (.int (((240 : Int32) ||| (cp >>> ((18 : Int32) &&& 31))).toInt8.toInt32))] _
            refine XS.iand X77.here hx rfl (hb hby at_114) rfl ?_
            exact k
          obtain ⟨b0, hb0⟩ : ∃ z : Int32, z = ((((240 : Int32) ||| (cp >>> ((18 : Int32) &&& 31))).toInt8.toInt32) &&& (255 : Int32)) := ⟨_, rfl⟩
          rw [← hb0] at pre82
          have e0 : b0.toInt = 240 + cp.toInt / 262144 := by rw [hb0, own_lead _ _ (by decide) (by rw [own_s18]; omega) (by rw [own_s18, if_neg (by decide), if_neg (by decide)]; omega), own_s18]; rfl
          have pre83 : ∀ t, Steps p.tables e below (T77.setTop (mkF m 125 #[oi p0, oi p1, oi cp, oi (p1.toInt8.toInt32), oa b4, oi (4 : Int32), oi (4 : Int32), oi b0, .unset, .unset, .unset, .unset, .unset] [(.int ((((128 : Int32) ||| ((cp >>> ((12 : Int32) &&& 31)) &&& (63 : Int32))).toInt8.toInt32) &&& (255 : Int32)))])) t → Steps p.tables e below (s₁.setTop (entryFrame m #[(.int p0), (.int p1)] maxLocals)) t := by
            intro t k
            refine pre82 t ?_
            show oS p e below T77 m 115 #[oi p0, oi p1, oi cp, oi (p1.toInt8.toInt32), oa b4, oi (4 : Int32), oi (4 : Int32), .unset, .unset, .unset, .unset, .unset, .unset] [(.int b0)] _
            refine XS.istore X77.here hx rfl (hb hby at_115) rfl (l' := #[oi p0, oi p1, oi cp, oi (p1.toInt8.toInt32), oa b4, oi (4 : Int32), oi (4 : Int32), oi b0, .unset, .unset, .unset, .unset, .unset]) rfl ?_
            show oS p e below T77 m 117 #[oi p0, oi p1, oi cp, oi (p1.toInt8.toInt32), oa b4, oi (4 : Int32), oi (4 : Int32), oi b0, .unset, .unset, .unset, .unset, .unset] [] _
            refine XS.aload X77.here hx rfl (hb hby at_117) rfl rfl ?_
            show oS p e below T77 m 119 #[oi p0, oi p1, oi cp, oi (p1.toInt8.toInt32), oa b4, oi (4 : Int32), oi (4 : Int32), oi b0, .unset, .unset, .unset, .unset, .unset] [(.ref b4)] _
            refine XS.iconst X77.here hx rfl (hb hby at_119) ?_
            show oS p e below T77 m 120 #[oi p0, oi p1, oi cp, oi (p1.toInt8.toInt32), oa b4, oi (4 : Int32), oi (4 : Int32), oi b0, .unset, .unset, .unset, .unset, .unset] [(.int (1 : Int32)), (.ref b4)] _
            refine oLdB X77 hx hZ rfl Oq77_0 (v := (.int (((128 : Int32) ||| ((cp >>> ((12 : Int32) &&& 31)) &&& (63 : Int32))).toInt8.toInt32))) ⟨by decide, by decide⟩ rfl (hb hby at_120) ?_
            show oS p e below T77 m 121 #[oi p0, oi p1, oi cp, oi (p1.toInt8.toInt32), oa b4, oi (4 : Int32), oi (4 : Int32), oi b0, .unset, .unset, .unset, .unset, .unset] [(.int (((128 : Int32) ||| ((cp >>> ((12 : Int32) &&& 31)) &&& (63 : Int32))).toInt8.toInt32))] _
            refine XS.sipush X77.here hx rfl (hb hby at_121) ?_
            show oS p e below T77 m 124 #[oi p0, oi p1, oi cp, oi (p1.toInt8.toInt32), oa b4, oi (4 : Int32), oi (4 : Int32), oi b0, .unset, .unset, .unset, .unset, .unset] [(.int (255 : Int32)), (.int (((128 : Int32) ||| ((cp >>> ((12 : Int32) &&& 31)) &&& (63 : Int32))).toInt8.toInt32))] _
            refine XS.iand X77.here hx rfl (hb hby at_124) rfl ?_
            exact k
          obtain ⟨b1, hb1⟩ : ∃ z : Int32, z = ((((128 : Int32) ||| ((cp >>> ((12 : Int32) &&& 31)) &&& (63 : Int32))).toInt8.toInt32) &&& (255 : Int32)) := ⟨_, rfl⟩
          rw [← hb1] at pre83
          have e1 : b1.toInt = 128 + cp.toInt / 4096 % 64 := by rw [hb1, own_cb, own_s12]
          have pre84 : ∀ t, Steps p.tables e below (T77.setTop (mkF m 135 #[oi p0, oi p1, oi cp, oi (p1.toInt8.toInt32), oa b4, oi (4 : Int32), oi (4 : Int32), oi b0, oi b1, .unset, .unset, .unset, .unset] [(.int ((((128 : Int32) ||| ((cp >>> ((6 : Int32) &&& 31)) &&& (63 : Int32))).toInt8.toInt32) &&& (255 : Int32)))])) t → Steps p.tables e below (s₁.setTop (entryFrame m #[(.int p0), (.int p1)] maxLocals)) t := by
            intro t k
            refine pre83 t ?_
            show oS p e below T77 m 125 #[oi p0, oi p1, oi cp, oi (p1.toInt8.toInt32), oa b4, oi (4 : Int32), oi (4 : Int32), oi b0, .unset, .unset, .unset, .unset, .unset] [(.int b1)] _
            refine XS.istore X77.here hx rfl (hb hby at_125) rfl (l' := #[oi p0, oi p1, oi cp, oi (p1.toInt8.toInt32), oa b4, oi (4 : Int32), oi (4 : Int32), oi b0, oi b1, .unset, .unset, .unset, .unset]) rfl ?_
            show oS p e below T77 m 127 #[oi p0, oi p1, oi cp, oi (p1.toInt8.toInt32), oa b4, oi (4 : Int32), oi (4 : Int32), oi b0, oi b1, .unset, .unset, .unset, .unset] [] _
            refine XS.aload X77.here hx rfl (hb hby at_127) rfl rfl ?_
            show oS p e below T77 m 129 #[oi p0, oi p1, oi cp, oi (p1.toInt8.toInt32), oa b4, oi (4 : Int32), oi (4 : Int32), oi b0, oi b1, .unset, .unset, .unset, .unset] [(.ref b4)] _
            refine XS.iconst X77.here hx rfl (hb hby at_129) ?_
            show oS p e below T77 m 130 #[oi p0, oi p1, oi cp, oi (p1.toInt8.toInt32), oa b4, oi (4 : Int32), oi (4 : Int32), oi b0, oi b1, .unset, .unset, .unset, .unset] [(.int (2 : Int32)), (.ref b4)] _
            refine oLdB X77 hx hZ rfl Oq77_0 (v := (.int (((128 : Int32) ||| ((cp >>> ((6 : Int32) &&& 31)) &&& (63 : Int32))).toInt8.toInt32))) ⟨by decide, by decide⟩ rfl (hb hby at_130) ?_
            show oS p e below T77 m 131 #[oi p0, oi p1, oi cp, oi (p1.toInt8.toInt32), oa b4, oi (4 : Int32), oi (4 : Int32), oi b0, oi b1, .unset, .unset, .unset, .unset] [(.int (((128 : Int32) ||| ((cp >>> ((6 : Int32) &&& 31)) &&& (63 : Int32))).toInt8.toInt32))] _
            refine XS.sipush X77.here hx rfl (hb hby at_131) ?_
            show oS p e below T77 m 134 #[oi p0, oi p1, oi cp, oi (p1.toInt8.toInt32), oa b4, oi (4 : Int32), oi (4 : Int32), oi b0, oi b1, .unset, .unset, .unset, .unset] [(.int (255 : Int32)), (.int (((128 : Int32) ||| ((cp >>> ((6 : Int32) &&& 31)) &&& (63 : Int32))).toInt8.toInt32))] _
            refine XS.iand X77.here hx rfl (hb hby at_134) rfl ?_
            exact k
          obtain ⟨b2, hb2⟩ : ∃ z : Int32, z = ((((128 : Int32) ||| ((cp >>> ((6 : Int32) &&& 31)) &&& (63 : Int32))).toInt8.toInt32) &&& (255 : Int32)) := ⟨_, rfl⟩
          rw [← hb2] at pre84
          have e2 : b2.toInt = 128 + cp.toInt / 64 % 64 := by rw [hb2, own_cb, own_s6]
          have pre85 : ∀ t, Steps p.tables e below (T77.setTop (mkF m 145 #[oi p0, oi p1, oi cp, oi (p1.toInt8.toInt32), oa b4, oi (4 : Int32), oi (4 : Int32), oi b0, oi b1, oi b2, .unset, .unset, .unset] [(.int ((((128 : Int32) ||| (cp &&& (63 : Int32))).toInt8.toInt32) &&& (255 : Int32)))])) t → Steps p.tables e below (s₁.setTop (entryFrame m #[(.int p0), (.int p1)] maxLocals)) t := by
            intro t k
            refine pre84 t ?_
            show oS p e below T77 m 135 #[oi p0, oi p1, oi cp, oi (p1.toInt8.toInt32), oa b4, oi (4 : Int32), oi (4 : Int32), oi b0, oi b1, .unset, .unset, .unset, .unset] [(.int b2)] _
            refine XS.istore X77.here hx rfl (hb hby at_135) rfl (l' := #[oi p0, oi p1, oi cp, oi (p1.toInt8.toInt32), oa b4, oi (4 : Int32), oi (4 : Int32), oi b0, oi b1, oi b2, .unset, .unset, .unset]) rfl ?_
            show oS p e below T77 m 137 #[oi p0, oi p1, oi cp, oi (p1.toInt8.toInt32), oa b4, oi (4 : Int32), oi (4 : Int32), oi b0, oi b1, oi b2, .unset, .unset, .unset] [] _
            refine XS.aload X77.here hx rfl (hb hby at_137) rfl rfl ?_
            show oS p e below T77 m 139 #[oi p0, oi p1, oi cp, oi (p1.toInt8.toInt32), oa b4, oi (4 : Int32), oi (4 : Int32), oi b0, oi b1, oi b2, .unset, .unset, .unset] [(.ref b4)] _
            refine XS.iconst X77.here hx rfl (hb hby at_139) ?_
            show oS p e below T77 m 140 #[oi p0, oi p1, oi cp, oi (p1.toInt8.toInt32), oa b4, oi (4 : Int32), oi (4 : Int32), oi b0, oi b1, oi b2, .unset, .unset, .unset] [(.int (3 : Int32)), (.ref b4)] _
            refine oLdB X77 hx hZ rfl Oq77_0 (v := (.int (((128 : Int32) ||| (cp &&& (63 : Int32))).toInt8.toInt32))) ⟨by decide, by decide⟩ rfl (hb hby at_140) ?_
            show oS p e below T77 m 141 #[oi p0, oi p1, oi cp, oi (p1.toInt8.toInt32), oa b4, oi (4 : Int32), oi (4 : Int32), oi b0, oi b1, oi b2, .unset, .unset, .unset] [(.int (((128 : Int32) ||| (cp &&& (63 : Int32))).toInt8.toInt32))] _
            refine XS.sipush X77.here hx rfl (hb hby at_141) ?_
            show oS p e below T77 m 144 #[oi p0, oi p1, oi cp, oi (p1.toInt8.toInt32), oa b4, oi (4 : Int32), oi (4 : Int32), oi b0, oi b1, oi b2, .unset, .unset, .unset] [(.int (255 : Int32)), (.int (((128 : Int32) ||| (cp &&& (63 : Int32))).toInt8.toInt32))] _
            refine XS.iand X77.here hx rfl (hb hby at_144) rfl ?_
            exact k
          obtain ⟨b3, hb3⟩ : ∃ z : Int32, z = ((((128 : Int32) ||| (cp &&& (63 : Int32))).toInt8.toInt32) &&& (255 : Int32)) := ⟨_, rfl⟩
          rw [← hb3] at pre85
          have e3 : b3.toInt = 128 + cp.toInt % 64 := by rw [hb3, own_cb]
          have b86 : ¬ ((4 : Int32) = (1 : Int32)) := (by decide)
          have b87 : ¬ ((4 : Int32) = (2 : Int32)) := (by decide)
          have b88 : ¬ ((4 : Int32) = (3 : Int32)) := (by decide)
          have b89 : (b0 &&& (248 : Int32)) = (240 : Int32) := own_h4 (by omega) (by omega)
          obtain ⟨_, _, ⟨T90, L90, k90, n90⟩, -, X90, ⟨Lc90, hQ90, l90, y90, z90⟩, st90⟩ := Jvm.LawKit.callS X77 hx (y := (⟨"com/example/godwit/godwit/link/Utf8EncodePinLaw", "cont", "(I)Z"⟩ : MethodName)) hown (mvT hZ (hw _ (List.mem_of_getElem? (i := 11) rfl))) (mvT hZ (hw _ (List.mem_of_getElem? (i := 12) rfl))) (mvT hZ (hw _ (List.mem_of_getElem? (i := 13) rfl))) (mvT hZ (hw _ (List.mem_of_getElem? (i := 14) rfl))) (by decide) (backOf (W := 0) (own_rm2 l Z av hw [] b1 T77.heap n0 Z77 ) hZ (hw _ (List.mem_of_getElem? (i := 14) rfl)) (hw _ (List.mem_of_getElem? (i := 13) rfl)) (by decide) (by decide)) (g := (mkF m 295 #[oi p0, oi p1, oi cp, oi (p1.toInt8.toInt32), oa b4, oi (4 : Int32), oi (4 : Int32), oi b0, oi b1, oi b2, oi b3, .unset, .unset] [(.int b1)])) rfl (by rw [hml]; rfl) (argsL := [(.int b1)]) (rest := []) (lenOf own_pd1 rfl) rfl (by show 2 * 0 + _ ≤ _; exact Nat.le_of_eq rfl) (hb hby at_295) (fun _ _ => ⟨rfl, rfl, (by decide : 1 + 0 ≤ _), (by decide : 5 + 0 ≤ _)⟩)
          dsimp only [Pt.U, Pt.locs, Pt.cells, Pt.slots] at X90 l90 y90 z90 st90 hQ90
          have yq90 : k90 = 1 := y90
          have zq90 : n90 = 5 := z90
          subst yq90 zq90
          obtain ⟨rfl, Nq90, eq90⟩ := hQ90
          have N90 : Fr n0 L90 := by rw [l90]; exact Fr.app N77 Nq90
          have b91 : ¬ ((own_f2 b1) = (0 : Int32)) := own_cont (by omega) (by omega)
          obtain ⟨_, _, ⟨T92, L92, k92, n92⟩, -, X92, ⟨Lc92, hQ92, l92, y92, z92⟩, st92⟩ := Jvm.LawKit.callS X90 hx (y := (⟨"com/example/godwit/godwit/link/Utf8EncodePinLaw", "cont", "(I)Z"⟩ : MethodName)) hown (mvT hZ (hw _ (List.mem_of_getElem? (i := 11) rfl))) (mvT hZ (hw _ (List.mem_of_getElem? (i := 12) rfl))) (mvT hZ (hw _ (List.mem_of_getElem? (i := 13) rfl))) (mvT hZ (hw _ (List.mem_of_getElem? (i := 14) rfl))) (by decide) (backOf (W := 0) (own_rm2 l Z av hw [] b2 T77.heap n0 Z77 ) hZ (hw _ (List.mem_of_getElem? (i := 14) rfl)) (hw _ (List.mem_of_getElem? (i := 13) rfl)) (by decide) (by decide)) (g := (mkF m 303 #[oi p0, oi p1, oi cp, oi (p1.toInt8.toInt32), oa b4, oi (4 : Int32), oi (4 : Int32), oi b0, oi b1, oi b2, oi b3, .unset, .unset] [(.int b2)])) rfl (by rw [hml]; rfl) (argsL := [(.int b2)]) (rest := []) (lenOf own_pd1 rfl) rfl (by show 2 * 0 + _ ≤ _; exact Nat.le_of_eq rfl) (hb hby at_303) (fun _ _ => ⟨rfl, eq90, (by decide : 1 + 0 ≤ _), (by decide : 5 + 0 ≤ _)⟩)
          dsimp only [Pt.U, Pt.locs, Pt.cells, Pt.slots] at X92 l92 y92 z92 st92 hQ92
          have yq92 : k92 = 1 := y92
          have zq92 : n92 = 5 := z92
          subst yq92 zq92
          obtain ⟨rfl, Nq92, eq92⟩ := hQ92
          have N92 : Fr n0 L92 := by rw [l92]; exact Fr.app N90 Nq92
          have b93 : ¬ ((own_f2 b2) = (0 : Int32)) := own_cont (by omega) (by omega)
          obtain ⟨_, _, ⟨T94, L94, k94, n94⟩, -, X94, ⟨Lc94, hQ94, l94, y94, z94⟩, st94⟩ := Jvm.LawKit.callS X92 hx (y := (⟨"com/example/godwit/godwit/link/Utf8EncodePinLaw", "cont", "(I)Z"⟩ : MethodName)) hown (mvT hZ (hw _ (List.mem_of_getElem? (i := 11) rfl))) (mvT hZ (hw _ (List.mem_of_getElem? (i := 12) rfl))) (mvT hZ (hw _ (List.mem_of_getElem? (i := 13) rfl))) (mvT hZ (hw _ (List.mem_of_getElem? (i := 14) rfl))) (by decide) (backOf (W := 0) (own_rm2 l Z av hw [] b3 T77.heap n0 Z77 ) hZ (hw _ (List.mem_of_getElem? (i := 14) rfl)) (hw _ (List.mem_of_getElem? (i := 13) rfl)) (by decide) (by decide)) (g := (mkF m 311 #[oi p0, oi p1, oi cp, oi (p1.toInt8.toInt32), oa b4, oi (4 : Int32), oi (4 : Int32), oi b0, oi b1, oi b2, oi b3, .unset, .unset] [(.int b3)])) rfl (by rw [hml]; rfl) (argsL := [(.int b3)]) (rest := []) (lenOf own_pd1 rfl) rfl (by show 2 * 0 + _ ≤ _; exact Nat.le_of_eq rfl) (hb hby at_311) (fun _ _ => ⟨rfl, eq92, (by decide : 1 + 0 ≤ _), (by decide : 5 + 0 ≤ _)⟩)
          dsimp only [Pt.U, Pt.locs, Pt.cells, Pt.slots] at X94 l94 y94 z94 st94 hQ94
          have yq94 : k94 = 1 := y94
          have zq94 : n94 = 5 := z94
          subst yq94 zq94
          obtain ⟨rfl, Nq94, eq94⟩ := hQ94
          have N94 : Fr n0 L94 := by rw [l94]; exact Fr.app N92 Nq94
          have b95 : ¬ ((own_f2 b3) = (0 : Int32)) := own_cont (by omega) (by omega)
          have b96 : (((((b0 &&& (7 : Int32)) <<< ((18 : Int32) &&& 31)) ||| ((b1 &&& (63 : Int32)) <<< ((12 : Int32) &&& 31))) ||| ((b2 &&& (63 : Int32)) <<< ((6 : Int32) &&& 31))) ||| (b3 &&& (63 : Int32))) = cp := own_v4 e0 e1 e2 e3 rc.1 rc.2
          have b97 : (1 : Int32) < (4 : Int32) := (by decide)
          have b98 : (2 : Int32) < (4 : Int32) := (by decide)
          have b99 : (3 : Int32) < (4 : Int32) := (by decide)
          have b100 : (p1.toInt8.toInt32) = (p1.toInt8.toInt32) := rfl
          obtain ⟨fs, hr, hrun, hended, hW, hsame⟩ := X94.leave (v := (some (.int (1 : Int32)))) (fun h => by rw [Bd.returns] at h; cases h)
          refine ⟨_, _, pre85 _ ?_, hrun, hended, _, _, rfl, ?_, ⟨_, rfl⟩, hW, hsame.mono (by decide) (by decide)⟩
          · show oS p e below T77 m 145 #[oi p0, oi p1, oi cp, oi (p1.toInt8.toInt32), oa b4, oi (4 : Int32), oi (4 : Int32), oi b0, oi b1, oi b2, .unset, .unset, .unset] [(.int b3)] _
            refine XS.istore X77.here hx rfl (hb hby at_145) rfl (l' := #[oi p0, oi p1, oi cp, oi (p1.toInt8.toInt32), oa b4, oi (4 : Int32), oi (4 : Int32), oi b0, oi b1, oi b2, oi b3, .unset, .unset]) rfl ?_
            show oS p e below T77 m 147 #[oi p0, oi p1, oi cp, oi (p1.toInt8.toInt32), oa b4, oi (4 : Int32), oi (4 : Int32), oi b0, oi b1, oi b2, oi b3, .unset, .unset] [] _
            refine XS.iload X77.here hx rfl (hb hby at_147) rfl ?_
            show oS p e below T77 m 149 #[oi p0, oi p1, oi cp, oi (p1.toInt8.toInt32), oa b4, oi (4 : Int32), oi (4 : Int32), oi b0, oi b1, oi b2, oi b3, .unset, .unset] [(.int (4 : Int32))] _
            refine XS.iconst X77.here hx rfl (hb hby at_149) ?_
            show oS p e below T77 m 150 #[oi p0, oi p1, oi cp, oi (p1.toInt8.toInt32), oa b4, oi (4 : Int32), oi (4 : Int32), oi b0, oi b1, oi b2, oi b3, .unset, .unset] [(.int (1 : Int32)), (.int (4 : Int32))] _
            refine XS.icmpYes X77.here hx rfl (pc0 := 150) (pc' := 170) rfl (hb hby at_150) rfl (feq b86).2 (by decide) (by decide) ?_
            show oS p e below T77 m 170 #[oi p0, oi p1, oi cp, oi (p1.toInt8.toInt32), oa b4, oi (4 : Int32), oi (4 : Int32), oi b0, oi b1, oi b2, oi b3, .unset, .unset] [] _
            refine XS.iload X77.here hx rfl (hb hby at_170) rfl ?_
            show oS p e below T77 m 172 #[oi p0, oi p1, oi cp, oi (p1.toInt8.toInt32), oa b4, oi (4 : Int32), oi (4 : Int32), oi b0, oi b1, oi b2, oi b3, .unset, .unset] [(.int (4 : Int32))] _
            refine XS.iconst X77.here hx rfl (hb hby at_172) ?_
            show oS p e below T77 m 173 #[oi p0, oi p1, oi cp, oi (p1.toInt8.toInt32), oa b4, oi (4 : Int32), oi (4 : Int32), oi b0, oi b1, oi b2, oi b3, .unset, .unset] [(.int (2 : Int32)), (.int (4 : Int32))] _
            refine XS.icmpYes X77.here hx rfl (pc0 := 173) (pc' := 217) rfl (hb hby at_173) rfl (feq b87).2 (by decide) (by decide) ?_
            show oS p e below T77 m 217 #[oi p0, oi p1, oi cp, oi (p1.toInt8.toInt32), oa b4, oi (4 : Int32), oi (4 : Int32), oi b0, oi b1, oi b2, oi b3, .unset, .unset] [] _
            refine XS.iload X77.here hx rfl (hb hby at_217) rfl ?_
            show oS p e below T77 m 219 #[oi p0, oi p1, oi cp, oi (p1.toInt8.toInt32), oa b4, oi (4 : Int32), oi (4 : Int32), oi b0, oi b1, oi b2, oi b3, .unset, .unset] [(.int (4 : Int32))] _
            refine XS.iconst X77.here hx rfl (hb hby at_219) ?_
            show oS p e below T77 m 220 #[oi p0, oi p1, oi cp, oi (p1.toInt8.toInt32), oa b4, oi (4 : Int32), oi (4 : Int32), oi b0, oi b1, oi b2, oi b3, .unset, .unset] [(.int (3 : Int32)), (.int (4 : Int32))] _
            refine XS.icmpYes X77.here hx rfl (pc0 := 220) (pc' := 281) rfl (hb hby at_220) rfl (feq b88).2 (by decide) (by decide) ?_
            show oS p e below T77 m 281 #[oi p0, oi p1, oi cp, oi (p1.toInt8.toInt32), oa b4, oi (4 : Int32), oi (4 : Int32), oi b0, oi b1, oi b2, oi b3, .unset, .unset] [] _
            refine XS.iload X77.here hx rfl (hb hby at_281) rfl ?_
            show oS p e below T77 m 283 #[oi p0, oi p1, oi cp, oi (p1.toInt8.toInt32), oa b4, oi (4 : Int32), oi (4 : Int32), oi b0, oi b1, oi b2, oi b3, .unset, .unset] [(.int b0)] _
            refine XS.sipush X77.here hx rfl (hb hby at_283) ?_
            show oS p e below T77 m 286 #[oi p0, oi p1, oi cp, oi (p1.toInt8.toInt32), oa b4, oi (4 : Int32), oi (4 : Int32), oi b0, oi b1, oi b2, oi b3, .unset, .unset] [(.int (248 : Int32)), (.int b0)] _
            refine XS.iand X77.here hx rfl (hb hby at_286) rfl ?_
            show oS p e below T77 m 287 #[oi p0, oi p1, oi cp, oi (p1.toInt8.toInt32), oa b4, oi (4 : Int32), oi (4 : Int32), oi b0, oi b1, oi b2, oi b3, .unset, .unset] [(.int (b0 &&& (248 : Int32)))] _
            refine XS.sipush X77.here hx rfl (hb hby at_287) ?_
            show oS p e below T77 m 290 #[oi p0, oi p1, oi cp, oi (p1.toInt8.toInt32), oa b4, oi (4 : Int32), oi (4 : Int32), oi b0, oi b1, oi b2, oi b3, .unset, .unset] [(.int (240 : Int32)), (.int (b0 &&& (248 : Int32)))] _
            refine XS.icmpNo X77.here hx rfl (hb hby at_290) rfl (teq b89).2 ?_
            show oS p e below T77 m 293 #[oi p0, oi p1, oi cp, oi (p1.toInt8.toInt32), oa b4, oi (4 : Int32), oi (4 : Int32), oi b0, oi b1, oi b2, oi b3, .unset, .unset] [] _
            refine XS.iload X77.here hx rfl (hb hby at_293) rfl ?_
            show oS p e below T77 m 295 #[oi p0, oi p1, oi cp, oi (p1.toInt8.toInt32), oa b4, oi (4 : Int32), oi (4 : Int32), oi b0, oi b1, oi b2, oi b3, .unset, .unset] [(.int b1)] _
            refine st90 _ ?_
            show oS p e below T90 m 298 #[oi p0, oi p1, oi cp, oi (p1.toInt8.toInt32), oa b4, oi (4 : Int32), oi (4 : Int32), oi b0, oi b1, oi b2, oi b3, .unset, .unset] [(.int (own_f2 b1))] _
            refine XS.ifNo X90.here hx rfl (hb hby at_298) rfl ((if0 _ _).trans (feq b91).1) ?_
            show oS p e below T90 m 301 #[oi p0, oi p1, oi cp, oi (p1.toInt8.toInt32), oa b4, oi (4 : Int32), oi (4 : Int32), oi b0, oi b1, oi b2, oi b3, .unset, .unset] [] _
            refine XS.iload X90.here hx rfl (hb hby at_301) rfl ?_
            show oS p e below T90 m 303 #[oi p0, oi p1, oi cp, oi (p1.toInt8.toInt32), oa b4, oi (4 : Int32), oi (4 : Int32), oi b0, oi b1, oi b2, oi b3, .unset, .unset] [(.int b2)] _
            refine st92 _ ?_
            show oS p e below T92 m 306 #[oi p0, oi p1, oi cp, oi (p1.toInt8.toInt32), oa b4, oi (4 : Int32), oi (4 : Int32), oi b0, oi b1, oi b2, oi b3, .unset, .unset] [(.int (own_f2 b2))] _
            refine XS.ifNo X92.here hx rfl (hb hby at_306) rfl ((if0 _ _).trans (feq b93).1) ?_
            show oS p e below T92 m 309 #[oi p0, oi p1, oi cp, oi (p1.toInt8.toInt32), oa b4, oi (4 : Int32), oi (4 : Int32), oi b0, oi b1, oi b2, oi b3, .unset, .unset] [] _
            refine XS.iload X92.here hx rfl (hb hby at_309) rfl ?_
            show oS p e below T92 m 311 #[oi p0, oi p1, oi cp, oi (p1.toInt8.toInt32), oa b4, oi (4 : Int32), oi (4 : Int32), oi b0, oi b1, oi b2, oi b3, .unset, .unset] [(.int b3)] _
            refine st94 _ ?_
            show oS p e below T94 m 314 #[oi p0, oi p1, oi cp, oi (p1.toInt8.toInt32), oa b4, oi (4 : Int32), oi (4 : Int32), oi b0, oi b1, oi b2, oi b3, .unset, .unset] [(.int (own_f2 b3))] _
            refine XS.ifYes X94.here hx rfl (pc0 := 314) (pc' := 319) rfl (hb hby at_314) rfl ((if0 _ _).trans (feq b95).2) (by decide) (by decide) ?_
            show oS p e below T94 m 319 #[oi p0, oi p1, oi cp, oi (p1.toInt8.toInt32), oa b4, oi (4 : Int32), oi (4 : Int32), oi b0, oi b1, oi b2, oi b3, .unset, .unset] [] _
            refine XS.iload X94.here hx rfl (hb hby at_319) rfl ?_
            show oS p e below T94 m 321 #[oi p0, oi p1, oi cp, oi (p1.toInt8.toInt32), oa b4, oi (4 : Int32), oi (4 : Int32), oi b0, oi b1, oi b2, oi b3, .unset, .unset] [(.int b0)] _
            refine XS.bipush X94.here hx rfl (hb hby at_321) ?_
            show oS p e below T94 m 323 #[oi p0, oi p1, oi cp, oi (p1.toInt8.toInt32), oa b4, oi (4 : Int32), oi (4 : Int32), oi b0, oi b1, oi b2, oi b3, .unset, .unset] [(.int (7 : Int32)), (.int b0)] _
            refine XS.iand X94.here hx rfl (hb hby at_323) rfl ?_
            show oS p e below T94 m 324 #[oi p0, oi p1, oi cp, oi (p1.toInt8.toInt32), oa b4, oi (4 : Int32), oi (4 : Int32), oi b0, oi b1, oi b2, oi b3, .unset, .unset] [(.int (b0 &&& (7 : Int32)))] _
            refine XS.bipush X94.here hx rfl (hb hby at_324) ?_
            show oS p e below T94 m 326 #[oi p0, oi p1, oi cp, oi (p1.toInt8.toInt32), oa b4, oi (4 : Int32), oi (4 : Int32), oi b0, oi b1, oi b2, oi b3, .unset, .unset] [(.int (18 : Int32)), (.int (b0 &&& (7 : Int32)))] _
            refine XS.ishl X94.here hx rfl (hb hby at_326) rfl ?_
            show oS p e below T94 m 327 #[oi p0, oi p1, oi cp, oi (p1.toInt8.toInt32), oa b4, oi (4 : Int32), oi (4 : Int32), oi b0, oi b1, oi b2, oi b3, .unset, .unset] [(.int ((b0 &&& (7 : Int32)) <<< ((18 : Int32) &&& 31)))] _
            refine XS.iload X94.here hx rfl (hb hby at_327) rfl ?_
            show oS p e below T94 m 329 #[oi p0, oi p1, oi cp, oi (p1.toInt8.toInt32), oa b4, oi (4 : Int32), oi (4 : Int32), oi b0, oi b1, oi b2, oi b3, .unset, .unset] [(.int b1), (.int ((b0 &&& (7 : Int32)) <<< ((18 : Int32) &&& 31)))] _
            refine XS.bipush X94.here hx rfl (hb hby at_329) ?_
            show oS p e below T94 m 331 #[oi p0, oi p1, oi cp, oi (p1.toInt8.toInt32), oa b4, oi (4 : Int32), oi (4 : Int32), oi b0, oi b1, oi b2, oi b3, .unset, .unset] [(.int (63 : Int32)), (.int b1), (.int ((b0 &&& (7 : Int32)) <<< ((18 : Int32) &&& 31)))] _
            refine XS.iand X94.here hx rfl (hb hby at_331) rfl ?_
            show oS p e below T94 m 332 #[oi p0, oi p1, oi cp, oi (p1.toInt8.toInt32), oa b4, oi (4 : Int32), oi (4 : Int32), oi b0, oi b1, oi b2, oi b3, .unset, .unset] [(.int (b1 &&& (63 : Int32))), (.int ((b0 &&& (7 : Int32)) <<< ((18 : Int32) &&& 31)))] _
            refine XS.bipush X94.here hx rfl (hb hby at_332) ?_
            show oS p e below T94 m 334 #[oi p0, oi p1, oi cp, oi (p1.toInt8.toInt32), oa b4, oi (4 : Int32), oi (4 : Int32), oi b0, oi b1, oi b2, oi b3, .unset, .unset] [(.int (12 : Int32)), (.int (b1 &&& (63 : Int32))), (.int ((b0 &&& (7 : Int32)) <<< ((18 : Int32) &&& 31)))] _
            refine XS.ishl X94.here hx rfl (hb hby at_334) rfl ?_
            show oS p e below T94 m 335 #[oi p0, oi p1, oi cp, oi (p1.toInt8.toInt32), oa b4, oi (4 : Int32), oi (4 : Int32), oi b0, oi b1, oi b2, oi b3, .unset, .unset] [(.int ((b1 &&& (63 : Int32)) <<< ((12 : Int32) &&& 31))), (.int ((b0 &&& (7 : Int32)) <<< ((18 : Int32) &&& 31)))] _
            refine XS.ior X94.here hx rfl (hb hby at_335) rfl ?_
            show oS p e below T94 m 336 #[oi p0, oi p1, oi cp, oi (p1.toInt8.toInt32), oa b4, oi (4 : Int32), oi (4 : Int32), oi b0, oi b1, oi b2, oi b3, .unset, .unset] [(.int (((b0 &&& (7 : Int32)) <<< ((18 : Int32) &&& 31)) ||| ((b1 &&& (63 : Int32)) <<< ((12 : Int32) &&& 31))))] _
            refine XS.iload X94.here hx rfl (hb hby at_336) rfl ?_
            show oS p e below T94 m 338 #[oi p0, oi p1, oi cp, oi (p1.toInt8.toInt32), oa b4, oi (4 : Int32), oi (4 : Int32), oi b0, oi b1, oi b2, oi b3, .unset, .unset] [(.int b2), (.int (((b0 &&& (7 : Int32)) <<< ((18 : Int32) &&& 31)) ||| ((b1 &&& (63 : Int32)) <<< ((12 : Int32) &&& 31))))] _
            refine XS.bipush X94.here hx rfl (hb hby at_338) ?_
            show oS p e below T94 m 340 #[oi p0, oi p1, oi cp, oi (p1.toInt8.toInt32), oa b4, oi (4 : Int32), oi (4 : Int32), oi b0, oi b1, oi b2, oi b3, .unset, .unset] [(.int (63 : Int32)), (.int b2), (.int (((b0 &&& (7 : Int32)) <<< ((18 : Int32) &&& 31)) ||| ((b1 &&& (63 : Int32)) <<< ((12 : Int32) &&& 31))))] _
            refine XS.iand X94.here hx rfl (hb hby at_340) rfl ?_
            show oS p e below T94 m 341 #[oi p0, oi p1, oi cp, oi (p1.toInt8.toInt32), oa b4, oi (4 : Int32), oi (4 : Int32), oi b0, oi b1, oi b2, oi b3, .unset, .unset] [(.int (b2 &&& (63 : Int32))), (.int (((b0 &&& (7 : Int32)) <<< ((18 : Int32) &&& 31)) ||| ((b1 &&& (63 : Int32)) <<< ((12 : Int32) &&& 31))))] _
            refine XS.bipush X94.here hx rfl (hb hby at_341) ?_
            show oS p e below T94 m 343 #[oi p0, oi p1, oi cp, oi (p1.toInt8.toInt32), oa b4, oi (4 : Int32), oi (4 : Int32), oi b0, oi b1, oi b2, oi b3, .unset, .unset] [(.int (6 : Int32)), (.int (b2 &&& (63 : Int32))), (.int (((b0 &&& (7 : Int32)) <<< ((18 : Int32) &&& 31)) ||| ((b1 &&& (63 : Int32)) <<< ((12 : Int32) &&& 31))))] _
            refine XS.ishl X94.here hx rfl (hb hby at_343) rfl ?_
            show oS p e below T94 m 344 #[oi p0, oi p1, oi cp, oi (p1.toInt8.toInt32), oa b4, oi (4 : Int32), oi (4 : Int32), oi b0, oi b1, oi b2, oi b3, .unset, .unset] [(.int ((b2 &&& (63 : Int32)) <<< ((6 : Int32) &&& 31))), (.int (((b0 &&& (7 : Int32)) <<< ((18 : Int32) &&& 31)) ||| ((b1 &&& (63 : Int32)) <<< ((12 : Int32) &&& 31))))] _
            refine XS.ior X94.here hx rfl (hb hby at_344) rfl ?_
            show oS p e below T94 m 345 #[oi p0, oi p1, oi cp, oi (p1.toInt8.toInt32), oa b4, oi (4 : Int32), oi (4 : Int32), oi b0, oi b1, oi b2, oi b3, .unset, .unset] [(.int ((((b0 &&& (7 : Int32)) <<< ((18 : Int32) &&& 31)) ||| ((b1 &&& (63 : Int32)) <<< ((12 : Int32) &&& 31))) ||| ((b2 &&& (63 : Int32)) <<< ((6 : Int32) &&& 31))))] _
            refine XS.iload X94.here hx rfl (hb hby at_345) rfl ?_
            show oS p e below T94 m 347 #[oi p0, oi p1, oi cp, oi (p1.toInt8.toInt32), oa b4, oi (4 : Int32), oi (4 : Int32), oi b0, oi b1, oi b2, oi b3, .unset, .unset] [(.int b3), (.int ((((b0 &&& (7 : Int32)) <<< ((18 : Int32) &&& 31)) ||| ((b1 &&& (63 : Int32)) <<< ((12 : Int32) &&& 31))) ||| ((b2 &&& (63 : Int32)) <<< ((6 : Int32) &&& 31))))] _
            refine XS.bipush X94.here hx rfl (hb hby at_347) ?_
            show oS p e below T94 m 349 #[oi p0, oi p1, oi cp, oi (p1.toInt8.toInt32), oa b4, oi (4 : Int32), oi (4 : Int32), oi b0, oi b1, oi b2, oi b3, .unset, .unset] [(.int (63 : Int32)), (.int b3), (.int ((((b0 &&& (7 : Int32)) <<< ((18 : Int32) &&& 31)) ||| ((b1 &&& (63 : Int32)) <<< ((12 : Int32) &&& 31))) ||| ((b2 &&& (63 : Int32)) <<< ((6 : Int32) &&& 31))))] _
            refine XS.iand X94.here hx rfl (hb hby at_349) rfl ?_
            show oS p e below T94 m 350 #[oi p0, oi p1, oi cp, oi (p1.toInt8.toInt32), oa b4, oi (4 : Int32), oi (4 : Int32), oi b0, oi b1, oi b2, oi b3, .unset, .unset] [(.int (b3 &&& (63 : Int32))), (.int ((((b0 &&& (7 : Int32)) <<< ((18 : Int32) &&& 31)) ||| ((b1 &&& (63 : Int32)) <<< ((12 : Int32) &&& 31))) ||| ((b2 &&& (63 : Int32)) <<< ((6 : Int32) &&& 31))))] _
            refine XS.ior X94.here hx rfl (hb hby at_350) rfl ?_
            show oS p e below T94 m 351 #[oi p0, oi p1, oi cp, oi (p1.toInt8.toInt32), oa b4, oi (4 : Int32), oi (4 : Int32), oi b0, oi b1, oi b2, oi b3, .unset, .unset] [(.int (((((b0 &&& (7 : Int32)) <<< ((18 : Int32) &&& 31)) ||| ((b1 &&& (63 : Int32)) <<< ((12 : Int32) &&& 31))) ||| ((b2 &&& (63 : Int32)) <<< ((6 : Int32) &&& 31))) ||| (b3 &&& (63 : Int32))))] _
            refine XS.istore X94.here hx rfl (hb hby at_351) rfl (l' := #[oi p0, oi p1, oi cp, oi (p1.toInt8.toInt32), oa b4, oi (4 : Int32), oi (4 : Int32), oi b0, oi b1, oi b2, oi b3, oi (((((b0 &&& (7 : Int32)) <<< ((18 : Int32) &&& 31)) ||| ((b1 &&& (63 : Int32)) <<< ((12 : Int32) &&& 31))) ||| ((b2 &&& (63 : Int32)) <<< ((6 : Int32) &&& 31))) ||| (b3 &&& (63 : Int32))), .unset]) rfl ?_
            show oS p e below T94 m 353 #[oi p0, oi p1, oi cp, oi (p1.toInt8.toInt32), oa b4, oi (4 : Int32), oi (4 : Int32), oi b0, oi b1, oi b2, oi b3, oi (((((b0 &&& (7 : Int32)) <<< ((18 : Int32) &&& 31)) ||| ((b1 &&& (63 : Int32)) <<< ((12 : Int32) &&& 31))) ||| ((b2 &&& (63 : Int32)) <<< ((6 : Int32) &&& 31))) ||| (b3 &&& (63 : Int32))), .unset] [] _
            refine XS.iload X94.here hx rfl (hb hby at_353) rfl ?_
            show oS p e below T94 m 355 #[oi p0, oi p1, oi cp, oi (p1.toInt8.toInt32), oa b4, oi (4 : Int32), oi (4 : Int32), oi b0, oi b1, oi b2, oi b3, oi (((((b0 &&& (7 : Int32)) <<< ((18 : Int32) &&& 31)) ||| ((b1 &&& (63 : Int32)) <<< ((12 : Int32) &&& 31))) ||| ((b2 &&& (63 : Int32)) <<< ((6 : Int32) &&& 31))) ||| (b3 &&& (63 : Int32))), .unset] [(.int (((((b0 &&& (7 : Int32)) <<< ((18 : Int32) &&& 31)) ||| ((b1 &&& (63 : Int32)) <<< ((12 : Int32) &&& 31))) ||| ((b2 &&& (63 : Int32)) <<< ((6 : Int32) &&& 31))) ||| (b3 &&& (63 : Int32))))] _
            refine XS.iloadN X94.here hx rfl (hb hby at_355) rfl ?_
            show oS p e below T94 m 356 #[oi p0, oi p1, oi cp, oi (p1.toInt8.toInt32), oa b4, oi (4 : Int32), oi (4 : Int32), oi b0, oi b1, oi b2, oi b3, oi (((((b0 &&& (7 : Int32)) <<< ((18 : Int32) &&& 31)) ||| ((b1 &&& (63 : Int32)) <<< ((12 : Int32) &&& 31))) ||| ((b2 &&& (63 : Int32)) <<< ((6 : Int32) &&& 31))) ||| (b3 &&& (63 : Int32))), .unset] [(.int cp), (.int (((((b0 &&& (7 : Int32)) <<< ((18 : Int32) &&& 31)) ||| ((b1 &&& (63 : Int32)) <<< ((12 : Int32) &&& 31))) ||| ((b2 &&& (63 : Int32)) <<< ((6 : Int32) &&& 31))) ||| (b3 &&& (63 : Int32))))] _
            refine XS.icmpYes X94.here hx rfl (pc0 := 356) (pc' := 361) rfl (hb hby at_356) rfl (teq b96).1 (by decide) (by decide) ?_
            show oS p e below T94 m 361 #[oi p0, oi p1, oi cp, oi (p1.toInt8.toInt32), oa b4, oi (4 : Int32), oi (4 : Int32), oi b0, oi b1, oi b2, oi b3, oi (((((b0 &&& (7 : Int32)) <<< ((18 : Int32) &&& 31)) ||| ((b1 &&& (63 : Int32)) <<< ((12 : Int32) &&& 31))) ||| ((b2 &&& (63 : Int32)) <<< ((6 : Int32) &&& 31))) ||| (b3 &&& (63 : Int32))), .unset] [] _
            refine XS.iload X94.here hx rfl (hb hby at_361) rfl ?_
            show oS p e below T94 m 363 #[oi p0, oi p1, oi cp, oi (p1.toInt8.toInt32), oa b4, oi (4 : Int32), oi (4 : Int32), oi b0, oi b1, oi b2, oi b3, oi (((((b0 &&& (7 : Int32)) <<< ((18 : Int32) &&& 31)) ||| ((b1 &&& (63 : Int32)) <<< ((12 : Int32) &&& 31))) ||| ((b2 &&& (63 : Int32)) <<< ((6 : Int32) &&& 31))) ||| (b3 &&& (63 : Int32))), .unset] [(.int (4 : Int32))] _
            refine XS.iconst X94.here hx rfl (hb hby at_363) ?_
            show oS p e below T94 m 364 #[oi p0, oi p1, oi cp, oi (p1.toInt8.toInt32), oa b4, oi (4 : Int32), oi (4 : Int32), oi b0, oi b1, oi b2, oi b3, oi (((((b0 &&& (7 : Int32)) <<< ((18 : Int32) &&& 31)) ||| ((b1 &&& (63 : Int32)) <<< ((12 : Int32) &&& 31))) ||| ((b2 &&& (63 : Int32)) <<< ((6 : Int32) &&& 31))) ||| (b3 &&& (63 : Int32))), .unset] [(.int (1 : Int32)), (.int (4 : Int32))] _
            refine XS.icmpYes X94.here hx rfl (pc0 := 364) (pc' := 375) rfl (hb hby at_364) rfl (tlt b97).2.2.1 (by decide) (by decide) ?_
            show oS p e below T94 m 375 #[oi p0, oi p1, oi cp, oi (p1.toInt8.toInt32), oa b4, oi (4 : Int32), oi (4 : Int32), oi b0, oi b1, oi b2, oi b3, oi (((((b0 &&& (7 : Int32)) <<< ((18 : Int32) &&& 31)) ||| ((b1 &&& (63 : Int32)) <<< ((12 : Int32) &&& 31))) ||| ((b2 &&& (63 : Int32)) <<< ((6 : Int32) &&& 31))) ||| (b3 &&& (63 : Int32))), .unset] [] _
            refine XS.iload X94.here hx rfl (hb hby at_375) rfl ?_
            show oS p e below T94 m 377 #[oi p0, oi p1, oi cp, oi (p1.toInt8.toInt32), oa b4, oi (4 : Int32), oi (4 : Int32), oi b0, oi b1, oi b2, oi b3, oi (((((b0 &&& (7 : Int32)) <<< ((18 : Int32) &&& 31)) ||| ((b1 &&& (63 : Int32)) <<< ((12 : Int32) &&& 31))) ||| ((b2 &&& (63 : Int32)) <<< ((6 : Int32) &&& 31))) ||| (b3 &&& (63 : Int32))), .unset] [(.int (4 : Int32))] _
            refine XS.iconst X94.here hx rfl (hb hby at_377) ?_
            show oS p e below T94 m 378 #[oi p0, oi p1, oi cp, oi (p1.toInt8.toInt32), oa b4, oi (4 : Int32), oi (4 : Int32), oi b0, oi b1, oi b2, oi b3, oi (((((b0 &&& (7 : Int32)) <<< ((18 : Int32) &&& 31)) ||| ((b1 &&& (63 : Int32)) <<< ((12 : Int32) &&& 31))) ||| ((b2 &&& (63 : Int32)) <<< ((6 : Int32) &&& 31))) ||| (b3 &&& (63 : Int32))), .unset] [(.int (2 : Int32)), (.int (4 : Int32))] _
            refine XS.icmpYes X94.here hx rfl (pc0 := 378) (pc' := 389) rfl (hb hby at_378) rfl (tlt b98).2.2.1 (by decide) (by decide) ?_
            show oS p e below T94 m 389 #[oi p0, oi p1, oi cp, oi (p1.toInt8.toInt32), oa b4, oi (4 : Int32), oi (4 : Int32), oi b0, oi b1, oi b2, oi b3, oi (((((b0 &&& (7 : Int32)) <<< ((18 : Int32) &&& 31)) ||| ((b1 &&& (63 : Int32)) <<< ((12 : Int32) &&& 31))) ||| ((b2 &&& (63 : Int32)) <<< ((6 : Int32) &&& 31))) ||| (b3 &&& (63 : Int32))), .unset] [] _
            refine XS.iload X94.here hx rfl (hb hby at_389) rfl ?_
            show oS p e below T94 m 391 #[oi p0, oi p1, oi cp, oi (p1.toInt8.toInt32), oa b4, oi (4 : Int32), oi (4 : Int32), oi b0, oi b1, oi b2, oi b3, oi (((((b0 &&& (7 : Int32)) <<< ((18 : Int32) &&& 31)) ||| ((b1 &&& (63 : Int32)) <<< ((12 : Int32) &&& 31))) ||| ((b2 &&& (63 : Int32)) <<< ((6 : Int32) &&& 31))) ||| (b3 &&& (63 : Int32))), .unset] [(.int (4 : Int32))] _
            refine XS.iconst X94.here hx rfl (hb hby at_391) ?_
            show oS p e below T94 m 392 #[oi p0, oi p1, oi cp, oi (p1.toInt8.toInt32), oa b4, oi (4 : Int32), oi (4 : Int32), oi b0, oi b1, oi b2, oi b3, oi (((((b0 &&& (7 : Int32)) <<< ((18 : Int32) &&& 31)) ||| ((b1 &&& (63 : Int32)) <<< ((12 : Int32) &&& 31))) ||| ((b2 &&& (63 : Int32)) <<< ((6 : Int32) &&& 31))) ||| (b3 &&& (63 : Int32))), .unset] [(.int (3 : Int32)), (.int (4 : Int32))] _
            refine XS.icmpYes X94.here hx rfl (pc0 := 392) (pc' := 403) rfl (hb hby at_392) rfl (tlt b99).2.2.1 (by decide) (by decide) ?_
            show oS p e below T94 m 403 #[oi p0, oi p1, oi cp, oi (p1.toInt8.toInt32), oa b4, oi (4 : Int32), oi (4 : Int32), oi b0, oi b1, oi b2, oi b3, oi (((((b0 &&& (7 : Int32)) <<< ((18 : Int32) &&& 31)) ||| ((b1 &&& (63 : Int32)) <<< ((12 : Int32) &&& 31))) ||| ((b2 &&& (63 : Int32)) <<< ((6 : Int32) &&& 31))) ||| (b3 &&& (63 : Int32))), .unset] [] _
            refine XS.aload X94.here hx rfl (hb hby at_403) rfl rfl ?_
            show oS p e below T94 m 405 #[oi p0, oi p1, oi cp, oi (p1.toInt8.toInt32), oa b4, oi (4 : Int32), oi (4 : Int32), oi b0, oi b1, oi b2, oi b3, oi (((((b0 &&& (7 : Int32)) <<< ((18 : Int32) &&& 31)) ||| ((b1 &&& (63 : Int32)) <<< ((12 : Int32) &&& 31))) ||| ((b2 &&& (63 : Int32)) <<< ((6 : Int32) &&& 31))) ||| (b3 &&& (63 : Int32))), .unset] [(.ref b4)] _
            refine XS.iconst X94.here hx rfl (hb hby at_405) ?_
            show oS p e below T94 m 406 #[oi p0, oi p1, oi cp, oi (p1.toInt8.toInt32), oa b4, oi (4 : Int32), oi (4 : Int32), oi b0, oi b1, oi b2, oi b3, oi (((((b0 &&& (7 : Int32)) <<< ((18 : Int32) &&& 31)) ||| ((b1 &&& (63 : Int32)) <<< ((12 : Int32) &&& 31))) ||| ((b2 &&& (63 : Int32)) <<< ((6 : Int32) &&& 31))) ||| (b3 &&& (63 : Int32))), .unset] [(.int (4 : Int32)), (.ref b4)] _
            refine oLdB X94 hx hZ eq94 Oq77_0 (v := (.int (p1.toInt8.toInt32))) ⟨by decide, by decide⟩ rfl (hb hby at_406) ?_
            show oS p e below T94 m 407 #[oi p0, oi p1, oi cp, oi (p1.toInt8.toInt32), oa b4, oi (4 : Int32), oi (4 : Int32), oi b0, oi b1, oi b2, oi b3, oi (((((b0 &&& (7 : Int32)) <<< ((18 : Int32) &&& 31)) ||| ((b1 &&& (63 : Int32)) <<< ((12 : Int32) &&& 31))) ||| ((b2 &&& (63 : Int32)) <<< ((6 : Int32) &&& 31))) ||| (b3 &&& (63 : Int32))), .unset] [(.int (p1.toInt8.toInt32))] _
            refine XS.iloadN X94.here hx rfl (hb hby at_407) rfl ?_
            show oS p e below T94 m 408 #[oi p0, oi p1, oi cp, oi (p1.toInt8.toInt32), oa b4, oi (4 : Int32), oi (4 : Int32), oi b0, oi b1, oi b2, oi b3, oi (((((b0 &&& (7 : Int32)) <<< ((18 : Int32) &&& 31)) ||| ((b1 &&& (63 : Int32)) <<< ((12 : Int32) &&& 31))) ||| ((b2 &&& (63 : Int32)) <<< ((6 : Int32) &&& 31))) ||| (b3 &&& (63 : Int32))), .unset] [(.int (p1.toInt8.toInt32)), (.int (p1.toInt8.toInt32))] _
            refine XS.icmpNo X94.here hx rfl (hb hby at_408) rfl (teq b100).2 ?_
            show oS p e below T94 m 411 #[oi p0, oi p1, oi cp, oi (p1.toInt8.toInt32), oa b4, oi (4 : Int32), oi (4 : Int32), oi b0, oi b1, oi b2, oi b3, oi (((((b0 &&& (7 : Int32)) <<< ((18 : Int32) &&& 31)) ||| ((b1 &&& (63 : Int32)) <<< ((12 : Int32) &&& 31))) ||| ((b2 &&& (63 : Int32)) <<< ((6 : Int32) &&& 31))) ||| (b3 &&& (63 : Int32))), .unset] [] _
            refine XS.iconst X94.here hx rfl (hb hby at_411) ?_
            show oS p e below T94 m 412 #[oi p0, oi p1, oi cp, oi (p1.toInt8.toInt32), oa b4, oi (4 : Int32), oi (4 : Int32), oi b0, oi b1, oi b2, oi b3, oi (((((b0 &&& (7 : Int32)) <<< ((18 : Int32) &&& 31)) ||| ((b1 &&& (63 : Int32)) <<< ((12 : Int32) &&& 31))) ||| ((b2 &&& (63 : Int32)) <<< ((6 : Int32) &&& 31))) ||| (b3 &&& (63 : Int32))), .unset] [(.int (1 : Int32))] _
            refine XS.goto X94.here hx rfl (pc0 := 412) (pc' := 416) rfl (hb hby at_412) (by decide) (by decide) ?_
            show oS p e below T94 m 416 #[oi p0, oi p1, oi cp, oi (p1.toInt8.toInt32), oa b4, oi (4 : Int32), oi (4 : Int32), oi b0, oi b1, oi b2, oi b3, oi (((((b0 &&& (7 : Int32)) <<< ((18 : Int32) &&& 31)) ||| ((b1 &&& (63 : Int32)) <<< ((12 : Int32) &&& 31))) ||| ((b2 &&& (63 : Int32)) <<< ((6 : Int32) &&& 31))) ||| (b3 &&& (63 : Int32))), .unset] [(.int (1 : Int32))] _
            refine XS.istore X94.here hx rfl (hb hby at_416) rfl (l' := #[oi p0, oi p1, oi cp, oi (p1.toInt8.toInt32), oa b4, oi (4 : Int32), oi (4 : Int32), oi b0, oi b1, oi b2, oi b3, oi (((((b0 &&& (7 : Int32)) <<< ((18 : Int32) &&& 31)) ||| ((b1 &&& (63 : Int32)) <<< ((12 : Int32) &&& 31))) ||| ((b2 &&& (63 : Int32)) <<< ((6 : Int32) &&& 31))) ||| (b3 &&& (63 : Int32))), oi (1 : Int32)]) rfl ?_
            show oS p e below T94 m 418 #[oi p0, oi p1, oi cp, oi (p1.toInt8.toInt32), oa b4, oi (4 : Int32), oi (4 : Int32), oi b0, oi b1, oi b2, oi b3, oi (((((b0 &&& (7 : Int32)) <<< ((18 : Int32) &&& 31)) ||| ((b1 &&& (63 : Int32)) <<< ((12 : Int32) &&& 31))) ||| ((b2 &&& (63 : Int32)) <<< ((6 : Int32) &&& 31))) ||| (b3 &&& (63 : Int32))), oi (1 : Int32)] [] _
            refine XS.iload X94.here hx rfl (hb hby at_418) rfl ?_
            show oS p e below T94 m 420 #[oi p0, oi p1, oi cp, oi (p1.toInt8.toInt32), oa b4, oi (4 : Int32), oi (4 : Int32), oi b0, oi b1, oi b2, oi b3, oi (((((b0 &&& (7 : Int32)) <<< ((18 : Int32) &&& 31)) ||| ((b1 &&& (63 : Int32)) <<< ((12 : Int32) &&& 31))) ||| ((b2 &&& (63 : Int32)) <<< ((6 : Int32) &&& 31))) ||| (b3 &&& (63 : Int32))), oi (1 : Int32)] [(.int (1 : Int32))] _
            exact retN X94 hx (t := .boolean) Bd.returns (by simp) (hb hby at_420) hr
          · show own_Q0 Z p0 p1 h0 n0 _ T94.heap _
            rw [eq94]
            exact ⟨rfl, N94⟩
  · skip
    have pre101 : ∀ t, Steps p.tables e below (s₁.setTop (mkF m 17 #[oi p0, oi p1, oi cp, .unset, .unset, .unset, .unset, .unset, .unset, .unset, .unset, .unset, .unset] [(.int (57343 : Int32)), (.int cp)])) t → Steps p.tables e below (s₁.setTop (entryFrame m #[(.int p0), (.int p1)] maxLocals)) t := by
      intro t k
      refine pre2 t ?_
      show oS p e below s₁ m 11 #[oi p0, oi p1, oi cp, .unset, .unset, .unset, .unset, .unset, .unset, .unset, .unset, .unset, .unset] [(.int (55296 : Int32)), (.int cp)] _
      refine XS.icmpNo X0.here hx rfl (hb hby at_11) rfl (flt c3).1 ?_
      show oS p e below s₁ m 14 #[oi p0, oi p1, oi cp, .unset, .unset, .unset, .unset, .unset, .unset, .unset, .unset, .unset, .unset] [] _
      refine XS.iloadN X0.here hx rfl (hb hby at_14) rfl ?_
      show oS p e below s₁ m 15 #[oi p0, oi p1, oi cp, .unset, .unset, .unset, .unset, .unset, .unset, .unset, .unset, .unset, .unset] [(.int cp)] _
      refine X0.ldcInt hx hown (mvT hZ (hw _ (List.mem_of_getElem? (i := 8) rfl))) (g := (mkF m 15 #[oi p0, oi p1, oi cp, .unset, .unset, .unset, .unset, .unset, .unset, .unset, .unset, .unset, .unset] [(.int cp)])) rfl (hb hby at_15) _ ?_
      exact k
    by_cases c102 : (57343 : Int32) < cp
    · skip
      obtain ⟨T103, h103, k103, X103, e103, E103, A103, st103⟩ := newP X0 hx hZ (hw _ (List.mem_of_getElem? (i := 3) rfl)) e0 (g := (mkF m 26 #[oi p0, oi p1, oi cp, oi (p1.toInt8.toInt32), .unset, .unset, .unset, .unset, .unset, .unset, .unset, .unset, .unset] [(.int (5 : Int32))])) rfl (hb hby at_26) rfl (by decide) (cap := 5) (by decide) (by decide) (by decide) (by decide)
      obtain ⟨b103, g103⟩ : ∃ z, z = h0.size := ⟨_, rfl⟩
      rw [← g103] at A103 st103
      have g_b103 : n0 ≤ b103 := Nat.le_trans Z0 (Nat.le_of_eq g103.symm)
      have Z103 : n0 ≤ h103.size := Nat.le_trans Z0 E103.1
      have V_104 : Arv Z h103 b103 k103 .byte (5 : Int32) [(.int (0 : Int32)), (.int (0 : Int32)), (.int (0 : Int32)), (.int (0 : Int32)), (.int (0 : Int32))] (.int (0 : Int32)) := (Arv.new A103 (by decide)).pad (pad_rep [] (.int (0 : Int32)) 5)
      obtain ⟨T105, h105, X105, e105, W105, V105, st105⟩ := oStB X103 hx hZ e103 V_104 (j := (0 : Int32)) ⟨by decide, by decide⟩ 0 rfl (Nat.le_of_ble_eq_true rfl) (g := (mkF m 34 #[oi p0, oi p1, oi cp, oi (p1.toInt8.toInt32), oa b103, .unset, .unset, .unset, .unset, .unset, .unset, .unset, .unset] [(.int (p1.toInt8.toInt32)), (.int (0 : Int32)), (.ref b103)])) rfl rfl (hb hby at_34)
      rw [own_narb] at V105
      obtain ⟨Lo105, X105, N105⟩ := oOpq X105 (Fr.snoc X105 N0 g_b103)
      have Z105 := Nat.le_trans Z103 (Keep.of_wr W105).1
      have V_106 : Arv Z h105 b103 k103 .byte (5 : Int32) [(.int (p1.toInt8.toInt32)), (.int (0 : Int32)), (.int (0 : Int32)), (.int (0 : Int32)), (.int (0 : Int32))] (.int (0 : Int32)) := V105
      obtain ⟨T107, h107, X107, e107, W107, V107, st107⟩ := oStB X105 hx hZ e105 V_106 (j := (1 : Int32)) ⟨by decide, by decide⟩ 1 rfl (Nat.le_of_ble_eq_true rfl) (g := (mkF m 39 #[oi p0, oi p1, oi cp, oi (p1.toInt8.toInt32), oa b103, .unset, .unset, .unset, .unset, .unset, .unset, .unset, .unset] [(.int (p1.toInt8.toInt32)), (.int (1 : Int32)), (.ref b103)])) rfl rfl (hb hby at_39)
      rw [own_narb] at V107
      obtain ⟨Lo107, X107, N107⟩ := oOpq X107 (Fr.snoc X107 N105 g_b103)
      have Z107 := Nat.le_trans Z105 (Keep.of_wr W107).1
      have V_108 : Arv Z h107 b103 k103 .byte (5 : Int32) [(.int (p1.toInt8.toInt32)), (.int (p1.toInt8.toInt32)), (.int (0 : Int32)), (.int (0 : Int32)), (.int (0 : Int32))] (.int (0 : Int32)) := V107
      obtain ⟨T109, h109, X109, e109, W109, V109, st109⟩ := oStB X107 hx hZ e107 V_108 (j := (2 : Int32)) ⟨by decide, by decide⟩ 2 rfl (Nat.le_of_ble_eq_true rfl) (g := (mkF m 44 #[oi p0, oi p1, oi cp, oi (p1.toInt8.toInt32), oa b103, .unset, .unset, .unset, .unset, .unset, .unset, .unset, .unset] [(.int (p1.toInt8.toInt32)), (.int (2 : Int32)), (.ref b103)])) rfl rfl (hb hby at_44)
      rw [own_narb] at V109
      obtain ⟨Lo109, X109, N109⟩ := oOpq X109 (Fr.snoc X109 N107 g_b103)
      have Z109 := Nat.le_trans Z107 (Keep.of_wr W109).1
      have V_110 : Arv Z h109 b103 k103 .byte (5 : Int32) [(.int (p1.toInt8.toInt32)), (.int (p1.toInt8.toInt32)), (.int (p1.toInt8.toInt32)), (.int (0 : Int32)), (.int (0 : Int32))] (.int (0 : Int32)) := V109
      obtain ⟨T111, h111, X111, e111, W111, V111, st111⟩ := oStB X109 hx hZ e109 V_110 (j := (3 : Int32)) ⟨by decide, by decide⟩ 3 rfl (Nat.le_of_ble_eq_true rfl) (g := (mkF m 49 #[oi p0, oi p1, oi cp, oi (p1.toInt8.toInt32), oa b103, .unset, .unset, .unset, .unset, .unset, .unset, .unset, .unset] [(.int (p1.toInt8.toInt32)), (.int (3 : Int32)), (.ref b103)])) rfl rfl (hb hby at_49)
      rw [own_narb] at V111
      obtain ⟨Lo111, X111, N111⟩ := oOpq X111 (Fr.snoc X111 N109 g_b103)
      have Z111 := Nat.le_trans Z109 (Keep.of_wr W111).1
      have V_112 : Arv Z h111 b103 k103 .byte (5 : Int32) [(.int (p1.toInt8.toInt32)), (.int (p1.toInt8.toInt32)), (.int (p1.toInt8.toInt32)), (.int (p1.toInt8.toInt32)), (.int (0 : Int32))] (.int (0 : Int32)) := V111
      obtain ⟨T113, h113, X113, e113, W113, V113, st113⟩ := oStB X111 hx hZ e111 V_112 (j := (4 : Int32)) ⟨by decide, by decide⟩ 4 rfl (Nat.le_of_ble_eq_true rfl) (g := (mkF m 54 #[oi p0, oi p1, oi cp, oi (p1.toInt8.toInt32), oa b103, .unset, .unset, .unset, .unset, .unset, .unset, .unset, .unset] [(.int (p1.toInt8.toInt32)), (.int (4 : Int32)), (.ref b103)])) rfl rfl (hb hby at_54)
      rw [own_narb] at V113
      obtain ⟨Lo113, X113, N113⟩ := oOpq X113 (Fr.snoc X113 N111 g_b103)
      have Z113 := Nat.le_trans Z111 (Keep.of_wr W113).1
      have V_114 : Arv Z h113 b103 k103 .byte (5 : Int32) [(.int (p1.toInt8.toInt32)), (.int (p1.toInt8.toInt32)), (.int (p1.toInt8.toInt32)), (.int (p1.toInt8.toInt32)), (.int (p1.toInt8.toInt32))] (.int (0 : Int32)) := V113
      have pre115 : ∀ t, Steps p.tables e below (T113.setTop (mkF m 58 #[oi p0, oi p1, oi cp, oi (p1.toInt8.toInt32), oa b103, .unset, .unset, .unset, .unset, .unset, .unset, .unset, .unset] [(.ref b103), (.int cp)])) t → Steps p.tables e below (s₁.setTop (entryFrame m #[(.int p0), (.int p1)] maxLocals)) t := by
        intro t k
        refine pre101 t ?_
        show oS p e below s₁ m 17 #[oi p0, oi p1, oi cp, .unset, .unset, .unset, .unset, .unset, .unset, .unset, .unset, .unset, .unset] [(.int (57343 : Int32)), (.int cp)] _
        refine XS.icmpYes X0.here hx rfl (pc0 := 17) (pc' := 22) rfl (hb hby at_17) rfl (tlt c102).2.2.1 (by decide) (by decide) ?_
        show oS p e below s₁ m 22 #[oi p0, oi p1, oi cp, .unset, .unset, .unset, .unset, .unset, .unset, .unset, .unset, .unset, .unset] [] _
        refine XS.iloadN X0.here hx rfl (hb hby at_22) rfl ?_
        show oS p e below s₁ m 23 #[oi p0, oi p1, oi cp, .unset, .unset, .unset, .unset, .unset, .unset, .unset, .unset, .unset, .unset] [(.int p1)] _
        refine XS.i2b X0.here hx rfl (hb hby at_23) rfl ?_
        show oS p e below s₁ m 24 #[oi p0, oi p1, oi cp, .unset, .unset, .unset, .unset, .unset, .unset, .unset, .unset, .unset, .unset] [(.int (p1.toInt8.toInt32))] _
        refine XS.istoreN X0.here hx rfl (hb hby at_24) rfl (l' := #[oi p0, oi p1, oi cp, oi (p1.toInt8.toInt32), .unset, .unset, .unset, .unset, .unset, .unset, .unset, .unset, .unset]) rfl ?_
        show oS p e below s₁ m 25 #[oi p0, oi p1, oi cp, oi (p1.toInt8.toInt32), .unset, .unset, .unset, .unset, .unset, .unset, .unset, .unset, .unset] [] _
        refine XS.iconst X0.here hx rfl (hb hby at_25) ?_
        show oS p e below s₁ m 26 #[oi p0, oi p1, oi cp, oi (p1.toInt8.toInt32), .unset, .unset, .unset, .unset, .unset, .unset, .unset, .unset, .unset] [(.int (5 : Int32))] _
        refine st103 _ ?_
        show oS p e below T103 m 28 #[oi p0, oi p1, oi cp, oi (p1.toInt8.toInt32), .unset, .unset, .unset, .unset, .unset, .unset, .unset, .unset, .unset] [(.ref b103)] _
        refine XS.astore X103.here hx rfl (hb hby at_28) rfl rfl (l' := #[oi p0, oi p1, oi cp, oi (p1.toInt8.toInt32), oa b103, .unset, .unset, .unset, .unset, .unset, .unset, .unset, .unset]) rfl ?_
        show oS p e below T103 m 30 #[oi p0, oi p1, oi cp, oi (p1.toInt8.toInt32), oa b103, .unset, .unset, .unset, .unset, .unset, .unset, .unset, .unset] [] _
        refine XS.aload X103.here hx rfl (hb hby at_30) rfl rfl ?_
        show oS p e below T103 m 32 #[oi p0, oi p1, oi cp, oi (p1.toInt8.toInt32), oa b103, .unset, .unset, .unset, .unset, .unset, .unset, .unset, .unset] [(.ref b103)] _
        refine XS.iconst X103.here hx rfl (hb hby at_32) ?_
        show oS p e below T103 m 33 #[oi p0, oi p1, oi cp, oi (p1.toInt8.toInt32), oa b103, .unset, .unset, .unset, .unset, .unset, .unset, .unset, .unset] [(.int (0 : Int32)), (.ref b103)] _
        refine XS.iloadN X103.here hx rfl (hb hby at_33) rfl ?_
        show oS p e below T103 m 34 #[oi p0, oi p1, oi cp, oi (p1.toInt8.toInt32), oa b103, .unset, .unset, .unset, .unset, .unset, .unset, .unset, .unset] [(.int (p1.toInt8.toInt32)), (.int (0 : Int32)), (.ref b103)] _
        refine st105 _ ?_
        show oS p e below T105 m 35 #[oi p0, oi p1, oi cp, oi (p1.toInt8.toInt32), oa b103, .unset, .unset, .unset, .unset, .unset, .unset, .unset, .unset] [] _
        refine XS.aload X105.here hx rfl (hb hby at_35) rfl rfl ?_
        show oS p e below T105 m 37 #[oi p0, oi p1, oi cp, oi (p1.toInt8.toInt32), oa b103, .unset, .unset, .unset, .unset, .unset, .unset, .unset, .unset] [(.ref b103)] _
        refine XS.iconst X105.here hx rfl (hb hby at_37) ?_
        show oS p e below T105 m 38 #[oi p0, oi p1, oi cp, oi (p1.toInt8.toInt32), oa b103, .unset, .unset, .unset, .unset, .unset, .unset, .unset, .unset] [(.int (1 : Int32)), (.ref b103)] _
        refine XS.iloadN X105.here hx rfl (hb hby at_38) rfl ?_
        show oS p e below T105 m 39 #[oi p0, oi p1, oi cp, oi (p1.toInt8.toInt32), oa b103, .unset, .unset, .unset, .unset, .unset, .unset, .unset, .unset] [(.int (p1.toInt8.toInt32)), (.int (1 : Int32)), (.ref b103)] _
        refine st107 _ ?_
        show oS p e below T107 m 40 #[oi p0, oi p1, oi cp, oi (p1.toInt8.toInt32), oa b103, .unset, .unset, .unset, .unset, .unset, .unset, .unset, .unset] [] _
        refine XS.aload X107.here hx rfl (hb hby at_40) rfl rfl ?_
        show oS p e below T107 m 42 #[oi p0, oi p1, oi cp, oi (p1.toInt8.toInt32), oa b103, .unset, .unset, .unset, .unset, .unset, .unset, .unset, .unset] [(.ref b103)] _
        refine XS.iconst X107.here hx rfl (hb hby at_42) ?_
        show oS p e below T107 m 43 #[oi p0, oi p1, oi cp, oi (p1.toInt8.toInt32), oa b103, .unset, .unset, .unset, .unset, .unset, .unset, .unset, .unset] [(.int (2 : Int32)), (.ref b103)] _
        refine XS.iloadN X107.here hx rfl (hb hby at_43) rfl ?_
        show oS p e below T107 m 44 #[oi p0, oi p1, oi cp, oi (p1.toInt8.toInt32), oa b103, .unset, .unset, .unset, .unset, .unset, .unset, .unset, .unset] [(.int (p1.toInt8.toInt32)), (.int (2 : Int32)), (.ref b103)] _
        refine st109 _ ?_
        show oS p e below T109 m 45 #[oi p0, oi p1, oi cp, oi (p1.toInt8.toInt32), oa b103, .unset, .unset, .unset, .unset, .unset, .unset, .unset, .unset] [] _
        refine XS.aload X109.here hx rfl (hb hby at_45) rfl rfl ?_
        show oS p e below T109 m 47 #[oi p0, oi p1, oi cp, oi (p1.toInt8.toInt32), oa b103, .unset, .unset, .unset, .unset, .unset, .unset, .unset, .unset] [(.ref b103)] _
        refine XS.iconst X109.here hx rfl (hb hby at_47) ?_
        show oS p e below T109 m 48 #[oi p0, oi p1, oi cp, oi (p1.toInt8.toInt32), oa b103, .unset, .unset, .unset, .unset, .unset, .unset, .unset, .unset] [(.int (3 : Int32)), (.ref b103)] _
        refine XS.iloadN X109.here hx rfl (hb hby at_48) rfl ?_
        show oS p e below T109 m 49 #[oi p0, oi p1, oi cp, oi (p1.toInt8.toInt32), oa b103, .unset, .unset, .unset, .unset, .unset, .unset, .unset, .unset] [(.int (p1.toInt8.toInt32)), (.int (3 : Int32)), (.ref b103)] _
        refine st111 _ ?_
        show oS p e below T111 m 50 #[oi p0, oi p1, oi cp, oi (p1.toInt8.toInt32), oa b103, .unset, .unset, .unset, .unset, .unset, .unset, .unset, .unset] [] _
        refine XS.aload X111.here hx rfl (hb hby at_50) rfl rfl ?_
        show oS p e below T111 m 52 #[oi p0, oi p1, oi cp, oi (p1.toInt8.toInt32), oa b103, .unset, .unset, .unset, .unset, .unset, .unset, .unset, .unset] [(.ref b103)] _
        refine XS.iconst X111.here hx rfl (hb hby at_52) ?_
        show oS p e below T111 m 53 #[oi p0, oi p1, oi cp, oi (p1.toInt8.toInt32), oa b103, .unset, .unset, .unset, .unset, .unset, .unset, .unset, .unset] [(.int (4 : Int32)), (.ref b103)] _
        refine XS.iloadN X111.here hx rfl (hb hby at_53) rfl ?_
        show oS p e below T111 m 54 #[oi p0, oi p1, oi cp, oi (p1.toInt8.toInt32), oa b103, .unset, .unset, .unset, .unset, .unset, .unset, .unset, .unset] [(.int (p1.toInt8.toInt32)), (.int (4 : Int32)), (.ref b103)] _
        refine st113 _ ?_
        show oS p e below T113 m 55 #[oi p0, oi p1, oi cp, oi (p1.toInt8.toInt32), oa b103, .unset, .unset, .unset, .unset, .unset, .unset, .unset, .unset] [] _
        refine XS.iloadN X113.here hx rfl (hb hby at_55) rfl ?_
        show oS p e below T113 m 56 #[oi p0, oi p1, oi cp, oi (p1.toInt8.toInt32), oa b103, .unset, .unset, .unset, .unset, .unset, .unset, .unset, .unset] [(.int cp)] _
        refine XS.aload X113.here hx rfl (hb hby at_56) rfl rfl ?_
        exact k
      by_cases hA : cp < (128 : Int32)
      · skip
        have mhA := hA
        simp only [own_ltp, Int32.reduceToInt] at mhA
        obtain ⟨_, _, ⟨T116, L116, k116, n116⟩, -, X116, ⟨Lc116, hQ116, l116, y116, z116⟩, st116⟩ := Jvm.LawKit.callS X113 hx (y := (⟨"com/example/godwit/godwit/link/Utf8", "encode", "(I[B)I"⟩ : MethodName)) hown (mvT hZ (hw _ (List.mem_of_getElem? (i := 4) rfl))) (mvT hZ (hw _ (List.mem_of_getElem? (i := 5) rfl))) (mvT hZ (hw _ (List.mem_of_getElem? (i := 6) rfl))) (mvT hZ (hw _ (List.mem_of_getElem? (i := 7) rfl))) (by decide) (backOf (W := 0) (own_rm1A l Z av hw [] cp b103 k103 (p1.toInt8.toInt32) h113 n0 Z113 V_114 g_b103 (hA)) hZ (hw _ (List.mem_of_getElem? (i := 7) rfl)) (hw _ (List.mem_of_getElem? (i := 6) rfl)) (by decide) (by decide)) (g := (mkF m 58 #[oi p0, oi p1, oi cp, oi (p1.toInt8.toInt32), oa b103, .unset, .unset, .unset, .unset, .unset, .unset, .unset, .unset] [(.ref b103), (.int cp)])) rfl (by rw [hml]; rfl) (argsL := [(.int cp), (.ref b103)]) (rest := []) (lenOf own_pd0 rfl) rfl (by show 2 * 0 + _ ≤ _; exact Nat.le_of_eq rfl) (hb hby at_58) (fun _ _ => ⟨rfl, e113, (by decide : 1 + 0 ≤ _), (by decide : 5 + 0 ≤ _)⟩)
        dsimp only [Pt.U, Pt.locs, Pt.cells, Pt.slots] at X116 l116 y116 z116 st116 hQ116
        have yq116 : k116 = 1 := y116
        have zq116 : n116 = 5 := z116
        subst yq116 zq116
        obtain ⟨rfl, Nq116, Kq116, Oq116_0⟩ := hQ116
        have N116 : Fr n0 L116 := by rw [l116]; exact Fr.app N113 Nq116
        have Z116 : n0 ≤ T116.heap.size := Nat.le_trans Z113 Kq116.1
        have b117 : cp < (128 : Int32) := hA
        have b118 : (1 : Int32) = (1 : Int32) := (by decide)
        have pre119 : ∀ t, Steps p.tables e below (T116.setTop (mkF m 115 #[oi p0, oi p1, oi cp, oi (p1.toInt8.toInt32), oa b103, oi (1 : Int32), oi (1 : Int32), .unset, .unset, .unset, .unset, .unset, .unset] [(.int ((cp.toInt8.toInt32) &&& (255 : Int32)))])) t → Steps p.tables e below (s₁.setTop (entryFrame m #[(.int p0), (.int p1)] maxLocals)) t := by
          intro t k
          refine pre115 t ?_
          show oS p e below T113 m 58 #[oi p0, oi p1, oi cp, oi (p1.toInt8.toInt32), oa b103, .unset, .unset, .unset, .unset, .unset, .unset, .unset, .unset] [(.ref b103), (.int cp)] _
          refine st116 _ ?_
          show oS p e below T116 m 61 #[oi p0, oi p1, oi cp, oi (p1.toInt8.toInt32), oa b103, .unset, .unset, .unset, .unset, .unset, .unset, .unset, .unset] [(.int (1 : Int32))] _
          refine XS.istore X116.here hx rfl (hb hby at_61) rfl (l' := #[oi p0, oi p1, oi cp, oi (p1.toInt8.toInt32), oa b103, oi (1 : Int32), .unset, .unset, .unset, .unset, .unset, .unset, .unset]) rfl ?_
          show oS p e below T116 m 63 #[oi p0, oi p1, oi cp, oi (p1.toInt8.toInt32), oa b103, oi (1 : Int32), .unset, .unset, .unset, .unset, .unset, .unset, .unset] [] _
          refine XS.iloadN X116.here hx rfl (hb hby at_63) rfl ?_
          show oS p e below T116 m 64 #[oi p0, oi p1, oi cp, oi (p1.toInt8.toInt32), oa b103, oi (1 : Int32), .unset, .unset, .unset, .unset, .unset, .unset, .unset] [(.int cp)] _
          refine XS.sipush X116.here hx rfl (hb hby at_64) ?_
          show oS p e below T116 m 67 #[oi p0, oi p1, oi cp, oi (p1.toInt8.toInt32), oa b103, oi (1 : Int32), .unset, .unset, .unset, .unset, .unset, .unset, .unset] [(.int (128 : Int32)), (.int cp)] _
          refine XS.icmpNo X116.here hx rfl (hb hby at_67) rfl (tlt b117).2.1 ?_
          show oS p e below T116 m 70 #[oi p0, oi p1, oi cp, oi (p1.toInt8.toInt32), oa b103, oi (1 : Int32), .unset, .unset, .unset, .unset, .unset, .unset, .unset] [] _
          refine XS.iconst X116.here hx rfl (hb hby at_70) ?_
          show oS p e below T116 m 71 #[oi p0, oi p1, oi cp, oi (p1.toInt8.toInt32), oa b103, oi (1 : Int32), .unset, .unset, .unset, .unset, .unset, .unset, .unset] [(.int (1 : Int32))] _
          refine XS.goto X116.here hx rfl (pc0 := 71) (pc' := 96) rfl (hb hby at_71) (by decide) (by decide) ?_
          show oS p e below T116 m 96 #[oi p0, oi p1, oi cp, oi (p1.toInt8.toInt32), oa b103, oi (1 : Int32), .unset, .unset, .unset, .unset, .unset, .unset, .unset] [(.int (1 : Int32))] _
          refine XS.istore X116.here hx rfl (hb hby at_96) rfl (l' := #[oi p0, oi p1, oi cp, oi (p1.toInt8.toInt32), oa b103, oi (1 : Int32), oi (1 : Int32), .unset, .unset, .unset, .unset, .unset, .unset]) rfl ?_
          show oS p e below T116 m 98 #[oi p0, oi p1, oi cp, oi (p1.toInt8.toInt32), oa b103, oi (1 : Int32), oi (1 : Int32), .unset, .unset, .unset, .unset, .unset, .unset] [] _
          refine XS.iload X116.here hx rfl (hb hby at_98) rfl ?_
          show oS p e below T116 m 100 #[oi p0, oi p1, oi cp, oi (p1.toInt8.toInt32), oa b103, oi (1 : Int32), oi (1 : Int32), .unset, .unset, .unset, .unset, .unset, .unset] [(.int (1 : Int32))] _
          refine XS.iload X116.here hx rfl (hb hby at_100) rfl ?_
          show oS p e below T116 m 102 #[oi p0, oi p1, oi cp, oi (p1.toInt8.toInt32), oa b103, oi (1 : Int32), oi (1 : Int32), .unset, .unset, .unset, .unset, .unset, .unset] [(.int (1 : Int32)), (.int (1 : Int32))] _
          refine XS.icmpYes X116.here hx rfl (pc0 := 102) (pc' := 107) rfl (hb hby at_102) rfl (teq b118).1 (by decide) (by decide) ?_
          show oS p e below T116 m 107 #[oi p0, oi p1, oi cp, oi (p1.toInt8.toInt32), oa b103, oi (1 : Int32), oi (1 : Int32), .unset, .unset, .unset, .unset, .unset, .unset] [] _
          refine XS.aload X116.here hx rfl (hb hby at_107) rfl rfl ?_
          show oS p e below T116 m 109 #[oi p0, oi p1, oi cp, oi (p1.toInt8.toInt32), oa b103, oi (1 : Int32), oi (1 : Int32), .unset, .unset, .unset, .unset, .unset, .unset] [(.ref b103)] _
          refine XS.iconst X116.here hx rfl (hb hby at_109) ?_
          show oS p e below T116 m 110 #[oi p0, oi p1, oi cp, oi (p1.toInt8.toInt32), oa b103, oi (1 : Int32), oi (1 : Int32), .unset, .unset, .unset, .unset, .unset, .unset] [(.int (0 : Int32)), (.ref b103)] _
          refine oLdB X116 hx hZ rfl Oq116_0 (v := (.int (cp.toInt8.toInt32))) ⟨by decide, by decide⟩ rfl (hb hby at_110) ?_
          show oS p e below T116 m 111 #[oi p0, oi p1, oi cp, oi (p1.toInt8.toInt32), oa b103, oi (1 : Int32), oi (1 : Int32), .unset, .unset, .unset, .unset, .unset, .unset] [(.int (cp.toInt8.toInt32))] _
          refine XS.sipush X116.here hx rfl (hb hby at_111) ?_
          show oS p e below T116 m 114 #[oi p0, oi p1, oi cp, oi (p1.toInt8.toInt32), oa b103, oi (1 : Int32), oi (1 : Int32), .unset, .unset, .unset, .unset, .unset, .unset] [(.int (255 : Int32)), (.int (cp.toInt8.toInt32))] _
          refine XS.iand X116.here hx rfl (hb hby at_114) rfl ?_
          exact k
        obtain ⟨b0, hb0⟩ : ∃ z : Int32, z = ((cp.toInt8.toInt32) &&& (255 : Int32)) := ⟨_, rfl⟩
        rw [← hb0] at pre119
        have e0 : b0.toInt = cp.toInt := by rw [hb0, own_by]; omega
        have pre120 : ∀ t, Steps p.tables e below (T116.setTop (mkF m 125 #[oi p0, oi p1, oi cp, oi (p1.toInt8.toInt32), oa b103, oi (1 : Int32), oi (1 : Int32), oi b0, .unset, .unset, .unset, .unset, .unset] [(.int ((p1.toInt8.toInt32) &&& (255 : Int32)))])) t → Steps p.tables e below (s₁.setTop (entryFrame m #[(.int p0), (.int p1)] maxLocals)) t := by
          intro t k
          refine pre119 t ?_
          show oS p e below T116 m 115 #[oi p0, oi p1, oi cp, oi (p1.toInt8.toInt32), oa b103, oi (1 : Int32), oi (1 : Int32), .unset, .unset, .unset, .unset, .unset, .unset] [(.int b0)] _
          refine XS.istore X116.here hx rfl (hb hby at_115) rfl (l' := #[oi p0, oi p1, oi cp, oi (p1.toInt8.toInt32), oa b103, oi (1 : Int32), oi (1 : Int32), oi b0, .unset, .unset, .unset, .unset, .unset]) rfl ?_
          show oS p e below T116 m 117 #[oi p0, oi p1, oi cp, oi (p1.toInt8.toInt32), oa b103, oi (1 : Int32), oi (1 : Int32), oi b0, .unset, .unset, .unset, .unset, .unset] [] _
          refine XS.aload X116.here hx rfl (hb hby at_117) rfl rfl ?_
          show oS p e below T116 m 119 #[oi p0, oi p1, oi cp, oi (p1.toInt8.toInt32), oa b103, oi (1 : Int32), oi (1 : Int32), oi b0, .unset, .unset, .unset, .unset, .unset] [(.ref b103)] _
          refine XS.iconst X116.here hx rfl (hb hby at_119) ?_
          show oS p e below T116 m 120 #[oi p0, oi p1, oi cp, oi (p1.toInt8.toInt32), oa b103, oi (1 : Int32), oi (1 : Int32), oi b0, .unset, .unset, .unset, .unset, .unset] [(.int (1 : Int32)), (.ref b103)] _
          refine oLdB X116 hx hZ rfl Oq116_0 (v := (.int (p1.toInt8.toInt32))) ⟨by decide, by decide⟩ rfl (hb hby at_120) ?_
          show oS p e below T116 m 121 #[oi p0, oi p1, oi cp, oi (p1.toInt8.toInt32), oa b103, oi (1 : Int32), oi (1 : Int32), oi b0, .unset, .unset, .unset, .unset, .unset] [(.int (p1.toInt8.toInt32))] _
          refine XS.sipush X116.here hx rfl (hb hby at_121) ?_
          show oS p e below T116 m 124 #[oi p0, oi p1, oi cp, oi (p1.toInt8.toInt32), oa b103, oi (1 : Int32), oi (1 : Int32), oi b0, .unset, .unset, .unset, .unset, .unset] [(.int (255 : Int32)), (.int (p1.toInt8.toInt32))] _
          refine XS.iand X116.here hx rfl (hb hby at_124) rfl ?_
          exact k
        obtain ⟨b1, hb1⟩ : ∃ z : Int32, z = ((p1.toInt8.toInt32) &&& (255 : Int32)) := ⟨_, rfl⟩
        rw [← hb1] at pre120
        have pre121 : ∀ t, Steps p.tables e below (T116.setTop (mkF m 135 #[oi p0, oi p1, oi cp, oi (p1.toInt8.toInt32), oa b103, oi (1 : Int32), oi (1 : Int32), oi b0, oi b1, .unset, .unset, .unset, .unset] [(.int ((p1.toInt8.toInt32) &&& (255 : Int32)))])) t → Steps p.tables e below (s₁.setTop (entryFrame m #[(.int p0), (.int p1)] maxLocals)) t := by
          intro t k
          refine pre120 t ?_
          show oS p e below T116 m 125 #[oi p0, oi p1, oi cp, oi (p1.toInt8.toInt32), oa b103, oi (1 : Int32), oi (1 : Int32), oi b0, .unset, .unset, .unset, .unset, .unset] [(.int b1)] _
          refine XS.istore X116.here hx rfl (hb hby at_125) rfl (l' := #[oi p0, oi p1, oi cp, oi (p1.toInt8.toInt32), oa b103, oi (1 : Int32), oi (1 : Int32), oi b0, oi b1, .unset, .unset, .unset, .unset]) rfl ?_
          show oS p e below T116 m 127 #[oi p0, oi p1, oi cp, oi (p1.toInt8.toInt32), oa b103, oi (1 : Int32), oi (1 : Int32), oi b0, oi b1, .unset, .unset, .unset, .unset] [] _
          refine XS.aload X116.here hx rfl (hb hby at_127) rfl rfl ?_
          show oS p e below T116 m 129 #[oi p0, oi p1, oi cp, oi (p1.toInt8.toInt32), oa b103, oi (1 : Int32), oi (1 : Int32), oi b0, oi b1, .unset, .unset, .unset, .unset] [(.ref b103)] _
          refine XS.iconst X116.here hx rfl (hb hby at_129) ?_
          show oS p e below T116 m 130 #[oi p0, oi p1, oi cp, oi (p1.toInt8.toInt32), oa b103, oi (1 : Int32), oi (1 : Int32), oi b0, oi b1, .unset, .unset, .unset, .unset] [(.int (2 : Int32)), (.ref b103)] _
          refine oLdB X116 hx hZ rfl Oq116_0 (v := (.int (p1.toInt8.toInt32))) ⟨by decide, by decide⟩ rfl (hb hby at_130) ?_
          show oS p e below T116 m 131 #[oi p0, oi p1, oi cp, oi (p1.toInt8.toInt32), oa b103, oi (1 : Int32), oi (1 : Int32), oi b0, oi b1, .unset, .unset, .unset, .unset] [(.int (p1.toInt8.toInt32))] _
          refine XS.sipush X116.here hx rfl (hb hby at_131) ?_
          show oS p e below T116 m 134 #[oi p0, oi p1, oi cp, oi (p1.toInt8.toInt32), oa b103, oi (1 : Int32), oi (1 : Int32), oi b0, oi b1, .unset, .unset, .unset, .unset] [(.int (255 : Int32)), (.int (p1.toInt8.toInt32))] _
          refine XS.iand X116.here hx rfl (hb hby at_134) rfl ?_
          exact k
        obtain ⟨b2, hb2⟩ : ∃ z : Int32, z = ((p1.toInt8.toInt32) &&& (255 : Int32)) := ⟨_, rfl⟩
        rw [← hb2] at pre121
        have pre122 : ∀ t, Steps p.tables e below (T116.setTop (mkF m 145 #[oi p0, oi p1, oi cp, oi (p1.toInt8.toInt32), oa b103, oi (1 : Int32), oi (1 : Int32), oi b0, oi b1, oi b2, .unset, .unset, .unset] [(.int ((p1.toInt8.toInt32) &&& (255 : Int32)))])) t → Steps p.tables e below (s₁.setTop (entryFrame m #[(.int p0), (.int p1)] maxLocals)) t := by
          intro t k
          refine pre121 t ?_
          show oS p e below T116 m 135 #[oi p0, oi p1, oi cp, oi (p1.toInt8.toInt32), oa b103, oi (1 : Int32), oi (1 : Int32), oi b0, oi b1, .unset, .unset, .unset, .unset] [(.int b2)] _
          refine XS.istore X116.here hx rfl (hb hby at_135) rfl (l' := #[oi p0, oi p1, oi cp, oi (p1.toInt8.toInt32), oa b103, oi (1 : Int32), oi (1 : Int32), oi b0, oi b1, oi b2, .unset, .unset, .unset]) rfl ?_
          show oS p e below T116 m 137 #[oi p0, oi p1, oi cp, oi (p1.toInt8.toInt32), oa b103, oi (1 : Int32), oi (1 : Int32), oi b0, oi b1, oi b2, .unset, .unset, .unset] [] _
          refine XS.aload X116.here hx rfl (hb hby at_137) rfl rfl ?_
          show oS p e below T116 m 139 #[oi p0, oi p1, oi cp, oi (p1.toInt8.toInt32), oa b103, oi (1 : Int32), oi (1 : Int32), oi b0, oi b1, oi b2, .unset, .unset, .unset] [(.ref b103)] _
          refine XS.iconst X116.here hx rfl (hb hby at_139) ?_
          show oS p e below T116 m 140 #[oi p0, oi p1, oi cp, oi (p1.toInt8.toInt32), oa b103, oi (1 : Int32), oi (1 : Int32), oi b0, oi b1, oi b2, .unset, .unset, .unset] [(.int (3 : Int32)), (.ref b103)] _
          refine oLdB X116 hx hZ rfl Oq116_0 (v := (.int (p1.toInt8.toInt32))) ⟨by decide, by decide⟩ rfl (hb hby at_140) ?_
          show oS p e below T116 m 141 #[oi p0, oi p1, oi cp, oi (p1.toInt8.toInt32), oa b103, oi (1 : Int32), oi (1 : Int32), oi b0, oi b1, oi b2, .unset, .unset, .unset] [(.int (p1.toInt8.toInt32))] _
          refine XS.sipush X116.here hx rfl (hb hby at_141) ?_
          show oS p e below T116 m 144 #[oi p0, oi p1, oi cp, oi (p1.toInt8.toInt32), oa b103, oi (1 : Int32), oi (1 : Int32), oi b0, oi b1, oi b2, .unset, .unset, .unset] [(.int (255 : Int32)), (.int (p1.toInt8.toInt32))] _
          refine XS.iand X116.here hx rfl (hb hby at_144) rfl ?_
          exact k
        obtain ⟨b3, hb3⟩ : ∃ z : Int32, z = ((p1.toInt8.toInt32) &&& (255 : Int32)) := ⟨_, rfl⟩
        rw [← hb3] at pre122
        have b123 : (1 : Int32) = (1 : Int32) := (by decide)
        have b124 : b0 < (128 : Int32) := by simp only [own_ltp, Int32.reduceToInt]; omega
        have b125 : b0 = cp := Int32.toInt_inj.mp e0
        have b126 : ¬ ((1 : Int32) < (1 : Int32)) := (by decide)
        have b127 : (p1.toInt8.toInt32) = (p1.toInt8.toInt32) := rfl
        have b128 : ¬ ((2 : Int32) < (1 : Int32)) := (by decide)
        have b129 : (p1.toInt8.toInt32) = (p1.toInt8.toInt32) := rfl
        have b130 : ¬ ((3 : Int32) < (1 : Int32)) := (by decide)
        have b131 : (p1.toInt8.toInt32) = (p1.toInt8.toInt32) := rfl
        have b132 : (p1.toInt8.toInt32) = (p1.toInt8.toInt32) := rfl
        obtain ⟨fs, hr, hrun, hended, hW, hsame⟩ := X116.leave (v := (some (.int (1 : Int32)))) (fun h => by rw [Bd.returns] at h; cases h)
        refine ⟨_, _, pre122 _ ?_, hrun, hended, _, _, rfl, ?_, ⟨_, rfl⟩, hW, hsame.mono (by decide) (by decide)⟩
        · show oS p e below T116 m 145 #[oi p0, oi p1, oi cp, oi (p1.toInt8.toInt32), oa b103, oi (1 : Int32), oi (1 : Int32), oi b0, oi b1, oi b2, .unset, .unset, .unset] [(.int b3)] _
          refine XS.istore X116.here hx rfl (hb hby at_145) rfl (l' := #[oi p0, oi p1, oi cp, oi (p1.toInt8.toInt32), oa b103, oi (1 : Int32), oi (1 : Int32), oi b0, oi b1, oi b2, oi b3, .unset, .unset]) rfl ?_
          show oS p e below T116 m 147 #[oi p0, oi p1, oi cp, oi (p1.toInt8.toInt32), oa b103, oi (1 : Int32), oi (1 : Int32), oi b0, oi b1, oi b2, oi b3, .unset, .unset] [] _
          refine XS.iload X116.here hx rfl (hb hby at_147) rfl ?_
          show oS p e below T116 m 149 #[oi p0, oi p1, oi cp, oi (p1.toInt8.toInt32), oa b103, oi (1 : Int32), oi (1 : Int32), oi b0, oi b1, oi b2, oi b3, .unset, .unset] [(.int (1 : Int32))] _
          refine XS.iconst X116.here hx rfl (hb hby at_149) ?_
          show oS p e below T116 m 150 #[oi p0, oi p1, oi cp, oi (p1.toInt8.toInt32), oa b103, oi (1 : Int32), oi (1 : Int32), oi b0, oi b1, oi b2, oi b3, .unset, .unset] [(.int (1 : Int32)), (.int (1 : Int32))] _
          refine XS.icmpNo X116.here hx rfl (hb hby at_150) rfl (teq b123).2 ?_
          show oS p e below T116 m 153 #[oi p0, oi p1, oi cp, oi (p1.toInt8.toInt32), oa b103, oi (1 : Int32), oi (1 : Int32), oi b0, oi b1, oi b2, oi b3, .unset, .unset] [] _
          refine XS.iload X116.here hx rfl (hb hby at_153) rfl ?_
          show oS p e below T116 m 155 #[oi p0, oi p1, oi cp, oi (p1.toInt8.toInt32), oa b103, oi (1 : Int32), oi (1 : Int32), oi b0, oi b1, oi b2, oi b3, .unset, .unset] [(.int b0)] _
          refine XS.sipush X116.here hx rfl (hb hby at_155) ?_
          show oS p e below T116 m 158 #[oi p0, oi p1, oi cp, oi (p1.toInt8.toInt32), oa b103, oi (1 : Int32), oi (1 : Int32), oi b0, oi b1, oi b2, oi b3, .unset, .unset] [(.int (128 : Int32)), (.int b0)] _
          refine XS.icmpYes X116.here hx rfl (pc0 := 158) (pc' := 163) rfl (hb hby at_158) rfl (tlt b124).1 (by decide) (by decide) ?_
          show oS p e below T116 m 163 #[oi p0, oi p1, oi cp, oi (p1.toInt8.toInt32), oa b103, oi (1 : Int32), oi (1 : Int32), oi b0, oi b1, oi b2, oi b3, .unset, .unset] [] _
          refine XS.iload X116.here hx rfl (hb hby at_163) rfl ?_
          show oS p e below T116 m 165 #[oi p0, oi p1, oi cp, oi (p1.toInt8.toInt32), oa b103, oi (1 : Int32), oi (1 : Int32), oi b0, oi b1, oi b2, oi b3, .unset, .unset] [(.int b0)] _
          refine XS.istore X116.here hx rfl (hb hby at_165) rfl (l' := #[oi p0, oi p1, oi cp, oi (p1.toInt8.toInt32), oa b103, oi (1 : Int32), oi (1 : Int32), oi b0, oi b1, oi b2, oi b3, oi b0, .unset]) rfl ?_
          show oS p e below T116 m 167 #[oi p0, oi p1, oi cp, oi (p1.toInt8.toInt32), oa b103, oi (1 : Int32), oi (1 : Int32), oi b0, oi b1, oi b2, oi b3, oi b0, .unset] [] _
          refine XS.goto X116.here hx rfl (pc0 := 167) (pc' := 353) rfl (hb hby at_167) (by decide) (by decide) ?_
          show oS p e below T116 m 353 #[oi p0, oi p1, oi cp, oi (p1.toInt8.toInt32), oa b103, oi (1 : Int32), oi (1 : Int32), oi b0, oi b1, oi b2, oi b3, oi b0, .unset] [] _
          refine XS.iload X116.here hx rfl (hb hby at_353) rfl ?_
          show oS p e below T116 m 355 #[oi p0, oi p1, oi cp, oi (p1.toInt8.toInt32), oa b103, oi (1 : Int32), oi (1 : Int32), oi b0, oi b1, oi b2, oi b3, oi b0, .unset] [(.int b0)] _
          refine XS.iloadN X116.here hx rfl (hb hby at_355) rfl ?_
          show oS p e below T116 m 356 #[oi p0, oi p1, oi cp, oi (p1.toInt8.toInt32), oa b103, oi (1 : Int32), oi (1 : Int32), oi b0, oi b1, oi b2, oi b3, oi b0, .unset] [(.int cp), (.int b0)] _
          refine XS.icmpYes X116.here hx rfl (pc0 := 356) (pc' := 361) rfl (hb hby at_356) rfl (teq b125).1 (by decide) (by decide) ?_
          show oS p e below T116 m 361 #[oi p0, oi p1, oi cp, oi (p1.toInt8.toInt32), oa b103, oi (1 : Int32), oi (1 : Int32), oi b0, oi b1, oi b2, oi b3, oi b0, .unset] [] _
          refine XS.iload X116.here hx rfl (hb hby at_361) rfl ?_
          show oS p e below T116 m 363 #[oi p0, oi p1, oi cp, oi (p1.toInt8.toInt32), oa b103, oi (1 : Int32), oi (1 : Int32), oi b0, oi b1, oi b2, oi b3, oi b0, .unset] [(.int (1 : Int32))] _
          refine XS.iconst X116.here hx rfl (hb hby at_363) ?_
          show oS p e below T116 m 364 #[oi p0, oi p1, oi cp, oi (p1.toInt8.toInt32), oa b103, oi (1 : Int32), oi (1 : Int32), oi b0, oi b1, oi b2, oi b3, oi b0, .unset] [(.int (1 : Int32)), (.int (1 : Int32))] _
          refine XS.icmpNo X116.here hx rfl (hb hby at_364) rfl (flt b126).2.2.1 ?_
          show oS p e below T116 m 367 #[oi p0, oi p1, oi cp, oi (p1.toInt8.toInt32), oa b103, oi (1 : Int32), oi (1 : Int32), oi b0, oi b1, oi b2, oi b3, oi b0, .unset] [] _
          refine XS.aload X116.here hx rfl (hb hby at_367) rfl rfl ?_
          show oS p e below T116 m 369 #[oi p0, oi p1, oi cp, oi (p1.toInt8.toInt32), oa b103, oi (1 : Int32), oi (1 : Int32), oi b0, oi b1, oi b2, oi b3, oi b0, .unset] [(.ref b103)] _
          refine XS.iconst X116.here hx rfl (hb hby at_369) ?_
          show oS p e below T116 m 370 #[oi p0, oi p1, oi cp, oi (p1.toInt8.toInt32), oa b103, oi (1 : Int32), oi (1 : Int32), oi b0, oi b1, oi b2, oi b3, oi b0, .unset] [(.int (1 : Int32)), (.ref b103)] _
          refine oLdB X116 hx hZ rfl Oq116_0 (v := (.int (p1.toInt8.toInt32))) ⟨by decide, by decide⟩ rfl (hb hby at_370) ?_
          show oS p e below T116 m 371 #[oi p0, oi p1, oi cp, oi (p1.toInt8.toInt32), oa b103, oi (1 : Int32), oi (1 : Int32), oi b0, oi b1, oi b2, oi b3, oi b0, .unset] [(.int (p1.toInt8.toInt32))] _
          refine XS.iloadN X116.here hx rfl (hb hby at_371) rfl ?_
          show oS p e below T116 m 372 #[oi p0, oi p1, oi cp, oi (p1.toInt8.toInt32), oa b103, oi (1 : Int32), oi (1 : Int32), oi b0, oi b1, oi b2, oi b3, oi b0, .unset] [(.int (p1.toInt8.toInt32)), (.int (p1.toInt8.toInt32))] _
          refine XS.icmpNo X116.here hx rfl (hb hby at_372) rfl (teq b127).2 ?_
          show oS p e below T116 m 375 #[oi p0, oi p1, oi cp, oi (p1.toInt8.toInt32), oa b103, oi (1 : Int32), oi (1 : Int32), oi b0, oi b1, oi b2, oi b3, oi b0, .unset] [] _
          refine XS.iload X116.here hx rfl (hb hby at_375) rfl ?_
          show oS p e below T116 m 377 #[oi p0, oi p1, oi cp, oi (p1.toInt8.toInt32), oa b103, oi (1 : Int32), oi (1 : Int32), oi b0, oi b1, oi b2, oi b3, oi b0, .unset] [(.int (1 : Int32))] _
          refine XS.iconst X116.here hx rfl (hb hby at_377) ?_
          show oS p e below T116 m 378 #[oi p0, oi p1, oi cp, oi (p1.toInt8.toInt32), oa b103, oi (1 : Int32), oi (1 : Int32), oi b0, oi b1, oi b2, oi b3, oi b0, .unset] [(.int (2 : Int32)), (.int (1 : Int32))] _
          refine XS.icmpNo X116.here hx rfl (hb hby at_378) rfl (flt b128).2.2.1 ?_
          show oS p e below T116 m 381 #[oi p0, oi p1, oi cp, oi (p1.toInt8.toInt32), oa b103, oi (1 : Int32), oi (1 : Int32), oi b0, oi b1, oi b2, oi b3, oi b0, .unset] [] _
          refine XS.aload X116.here hx rfl (hb hby at_381) rfl rfl ?_
          show oS p e below T116 m 383 #[oi p0, oi p1, oi cp, oi (p1.toInt8.toInt32), oa b103, oi (1 : Int32), oi (1 : Int32), oi b0, oi b1, oi b2, oi b3, oi b0, .unset] [(.ref b103)] _
          refine XS.iconst X116.here hx rfl (hb hby at_383) ?_
          show oS p e below T116 m 384 #[oi p0, oi p1, oi cp, oi (p1.toInt8.toInt32), oa b103, oi (1 : Int32), oi (1 : Int32), oi b0, oi b1, oi b2, oi b3, oi b0, .unset] [(.int (2 : Int32)), (.ref b103)] _
          refine oLdB X116 hx hZ rfl Oq116_0 (v := (.int (p1.toInt8.toInt32))) ⟨by decide, by decide⟩ rfl (hb hby at_384) ?_
          show oS p e below T116 m 385 #[oi p0, oi p1, oi cp, oi (p1.toInt8.toInt32), oa b103, oi (1 : Int32), oi (1 : Int32), oi b0, oi b1, oi b2, oi b3, oi b0, .unset] [(.int (p1.toInt8.toInt32))] _
          refine XS.iloadN X116.here hx rfl (hb hby at_385) rfl ?_
          show oS p e below T116 m 386 #[oi p0, oi p1, oi cp, oi (p1.toInt8.toInt32), oa b103, oi (1 : Int32), oi (1 : Int32), oi b0, oi b1, oi b2, oi b3, oi b0, .unset] [(.int (p1.toInt8.toInt32)), (.int (p1.toInt8.toInt32))] _
          refine XS.icmpNo X116.here hx rfl (hb hby at_386) rfl (teq b129).2 ?_
          show oS p e below T116 m 389 #[oi p0, oi p1, oi cp, oi (p1.toInt8.toInt32), oa b103, oi (1 : Int32), oi (1 : Int32), oi b0, oi b1, oi b2, oi b3, oi b0, .unset] [] _
          refine XS.iload X116.here hx rfl (hb hby at_389) rfl ?_
          show oS p e below T116 m 391 #[oi p0, oi p1, oi cp, oi (p1.toInt8.toInt32), oa b103, oi (1 : Int32), oi (1 : Int32), oi b0, oi b1, oi b2, oi b3, oi b0, .unset] [(.int (1 : Int32))] _
          refine XS.iconst X116.here hx rfl (hb hby at_391) ?_
          show oS p e below T116 m 392 #[oi p0, oi p1, oi cp, oi (p1.toInt8.toInt32), oa b103, oi (1 : Int32), oi (1 : Int32), oi b0, oi b1, oi b2, oi b3, oi b0, .unset] [(.int (3 : Int32)), (.int (1 : Int32))] _
          refine XS.icmpNo X116.here hx rfl (hb hby at_392) rfl (flt b130).2.2.1 ?_
          show oS p e below T116 m 395 #[oi p0, oi p1, oi cp, oi (p1.toInt8.toInt32), oa b103, oi (1 : Int32), oi (1 : Int32), oi b0, oi b1, oi b2, oi b3, oi b0, .unset] [] _
          refine XS.aload X116.here hx rfl (hb hby at_395) rfl rfl ?_
          show oS p e below T116 m 397 #[oi p0, oi p1, oi cp, oi (p1.toInt8.toInt32), oa b103, oi (1 : Int32), oi (1 : Int32), oi b0, oi b1, oi b2, oi b3, oi b0, .unset] [(.ref b103)] _
          refine XS.iconst X116.here hx rfl (hb hby at_397) ?_
          show oS p e below T116 m 398 #[oi p0, oi p1, oi cp, oi (p1.toInt8.toInt32), oa b103, oi (1 : Int32), oi (1 : Int32), oi b0, oi b1, oi b2, oi b3, oi b0, .unset] [(.int (3 : Int32)), (.ref b103)] _
          refine oLdB X116 hx hZ rfl Oq116_0 (v := (.int (p1.toInt8.toInt32))) ⟨by decide, by decide⟩ rfl (hb hby at_398) ?_
          show oS p e below T116 m 399 #[oi p0, oi p1, oi cp, oi (p1.toInt8.toInt32), oa b103, oi (1 : Int32), oi (1 : Int32), oi b0, oi b1, oi b2, oi b3, oi b0, .unset] [(.int (p1.toInt8.toInt32))] _
          refine XS.iloadN X116.here hx rfl (hb hby at_399) rfl ?_
          show oS p e below T116 m 400 #[oi p0, oi p1, oi cp, oi (p1.toInt8.toInt32), oa b103, oi (1 : Int32), oi (1 : Int32), oi b0, oi b1, oi b2, oi b3, oi b0, .unset] [(.int (p1.toInt8.toInt32)), (.int (p1.toInt8.toInt32))] _
          refine XS.icmpNo X116.here hx rfl (hb hby at_400) rfl (teq b131).2 ?_
          show oS p e below T116 m 403 #[oi p0, oi p1, oi cp, oi (p1.toInt8.toInt32), oa b103, oi (1 : Int32), oi (1 : Int32), oi b0, oi b1, oi b2, oi b3, oi b0, .unset] [] _
          refine XS.aload X116.here hx rfl (hb hby at_403) rfl rfl ?_
          show oS p e below T116 m 405 #[oi p0, oi p1, oi cp, oi (p1.toInt8.toInt32), oa b103, oi (1 : Int32), oi (1 : Int32), oi b0, oi b1, oi b2, oi b3, oi b0, .unset] [(.ref b103)] _
          refine XS.iconst X116.here hx rfl (hb hby at_405) ?_
          show oS p e below T116 m 406 #[oi p0, oi p1, oi cp, oi (p1.toInt8.toInt32), oa b103, oi (1 : Int32), oi (1 : Int32), oi b0, oi b1, oi b2, oi b3, oi b0, .unset] [(.int (4 : Int32)), (.ref b103)] _
          refine oLdB X116 hx hZ rfl Oq116_0 (v := (.int (p1.toInt8.toInt32))) ⟨by decide, by decide⟩ rfl (hb hby at_406) ?_
          show oS p e below T116 m 407 #[oi p0, oi p1, oi cp, oi (p1.toInt8.toInt32), oa b103, oi (1 : Int32), oi (1 : Int32), oi b0, oi b1, oi b2, oi b3, oi b0, .unset] [(.int (p1.toInt8.toInt32))] _
          refine XS.iloadN X116.here hx rfl (hb hby at_407) rfl ?_
          show oS p e below T116 m 408 #[oi p0, oi p1, oi cp, oi (p1.toInt8.toInt32), oa b103, oi (1 : Int32), oi (1 : Int32), oi b0, oi b1, oi b2, oi b3, oi b0, .unset] [(.int (p1.toInt8.toInt32)), (.int (p1.toInt8.toInt32))] _
          refine XS.icmpNo X116.here hx rfl (hb hby at_408) rfl (teq b132).2 ?_
          show oS p e below T116 m 411 #[oi p0, oi p1, oi cp, oi (p1.toInt8.toInt32), oa b103, oi (1 : Int32), oi (1 : Int32), oi b0, oi b1, oi b2, oi b3, oi b0, .unset] [] _
          refine XS.iconst X116.here hx rfl (hb hby at_411) ?_
          show oS p e below T116 m 412 #[oi p0, oi p1, oi cp, oi (p1.toInt8.toInt32), oa b103, oi (1 : Int32), oi (1 : Int32), oi b0, oi b1, oi b2, oi b3, oi b0, .unset] [(.int (1 : Int32))] _
          refine XS.goto X116.here hx rfl (pc0 := 412) (pc' := 416) rfl (hb hby at_412) (by decide) (by decide) ?_
          show oS p e below T116 m 416 #[oi p0, oi p1, oi cp, oi (p1.toInt8.toInt32), oa b103, oi (1 : Int32), oi (1 : Int32), oi b0, oi b1, oi b2, oi b3, oi b0, .unset] [(.int (1 : Int32))] _
          refine XS.istore X116.here hx rfl (hb hby at_416) rfl (l' := #[oi p0, oi p1, oi cp, oi (p1.toInt8.toInt32), oa b103, oi (1 : Int32), oi (1 : Int32), oi b0, oi b1, oi b2, oi b3, oi b0, oi (1 : Int32)]) rfl ?_
          show oS p e below T116 m 418 #[oi p0, oi p1, oi cp, oi (p1.toInt8.toInt32), oa b103, oi (1 : Int32), oi (1 : Int32), oi b0, oi b1, oi b2, oi b3, oi b0, oi (1 : Int32)] [] _
          refine XS.iload X116.here hx rfl (hb hby at_418) rfl ?_
          show oS p e below T116 m 420 #[oi p0, oi p1, oi cp, oi (p1.toInt8.toInt32), oa b103, oi (1 : Int32), oi (1 : Int32), oi b0, oi b1, oi b2, oi b3, oi b0, oi (1 : Int32)] [(.int (1 : Int32))] _
          exact retN X116 hx (t := .boolean) Bd.returns (by simp) (hb hby at_420) hr
        · show own_Q0 Z p0 p1 h0 n0 _ T116.heap _
          exact ⟨rfl, N116⟩
      · skip
        by_cases hB : cp < (2048 : Int32)
        · skip
          have mhA := hA
          have mhB := hB
          simp only [own_ltp, Int32.reduceToInt] at mhA mhB
          obtain ⟨_, _, ⟨T133, L133, k133, n133⟩, -, X133, ⟨Lc133, hQ133, l133, y133, z133⟩, st133⟩ := Jvm.LawKit.callS X113 hx (y := (⟨"com/example/godwit/godwit/link/Utf8", "encode", "(I[B)I"⟩ : MethodName)) hown (mvT hZ (hw _ (List.mem_of_getElem? (i := 4) rfl))) (mvT hZ (hw _ (List.mem_of_getElem? (i := 5) rfl))) (mvT hZ (hw _ (List.mem_of_getElem? (i := 6) rfl))) (mvT hZ (hw _ (List.mem_of_getElem? (i := 7) rfl))) (by decide) (backOf (W := 0) (own_rm1B l Z av hw [] cp b103 k103 (p1.toInt8.toInt32) h113 n0 Z113 V_114 g_b103 (hA) (hB)) hZ (hw _ (List.mem_of_getElem? (i := 7) rfl)) (hw _ (List.mem_of_getElem? (i := 6) rfl)) (by decide) (by decide)) (g := (mkF m 58 #[oi p0, oi p1, oi cp, oi (p1.toInt8.toInt32), oa b103, .unset, .unset, .unset, .unset, .unset, .unset, .unset, .unset] [(.ref b103), (.int cp)])) rfl (by rw [hml]; rfl) (argsL := [(.int cp), (.ref b103)]) (rest := []) (lenOf own_pd0 rfl) rfl (by show 2 * 0 + _ ≤ _; exact Nat.le_of_eq rfl) (hb hby at_58) (fun _ _ => ⟨rfl, e113, (by decide : 1 + 0 ≤ _), (by decide : 5 + 0 ≤ _)⟩)
          dsimp only [Pt.U, Pt.locs, Pt.cells, Pt.slots] at X133 l133 y133 z133 st133 hQ133
          have yq133 : k133 = 1 := y133
          have zq133 : n133 = 5 := z133
          subst yq133 zq133
          obtain ⟨rfl, Nq133, Kq133, Oq133_0⟩ := hQ133
          have N133 : Fr n0 L133 := by rw [l133]; exact Fr.app N113 Nq133
          have Z133 : n0 ≤ T133.heap.size := Nat.le_trans Z113 Kq133.1
          have b134 : ¬ (cp < (128 : Int32)) := hA
          have b135 : cp < (2048 : Int32) := hB
          have b136 : (2 : Int32) = (2 : Int32) := (by decide)
          have pre137 : ∀ t, Steps p.tables e below (T133.setTop (mkF m 115 #[oi p0, oi p1, oi cp, oi (p1.toInt8.toInt32), oa b103, oi (2 : Int32), oi (2 : Int32), .unset, .unset, .unset, .unset, .unset, .unset] [(.int ((((192 : Int32) ||| (cp >>> ((6 : Int32) &&& 31))).toInt8.toInt32) &&& (255 : Int32)))])) t → Steps p.tables e below (s₁.setTop (entryFrame m #[(.int p0), (.int p1)] maxLocals)) t := by
            intro t k
            refine pre115 t ?_
            show oS p e below T113 m 58 #[oi p0, oi p1, oi cp, oi (p1.toInt8.toInt32), oa b103, .unset, .unset, .unset, .unset, .unset, .unset, .unset, .unset] [(.ref b103), (.int cp)] _
            refine st133 _ ?_
            show oS p e below T133 m 61 #[oi p0, oi p1, oi cp, oi (p1.toInt8.toInt32), oa b103, .unset, .unset, .unset, .unset, .unset, .unset, .unset, .unset] [(.int (2 : Int32))] _
            refine XS.istore X133.here hx rfl (hb hby at_61) rfl (l' := #[oi p0, oi p1, oi cp, oi (p1.toInt8.toInt32), oa b103, oi (2 : Int32), .unset, .unset, .unset, .unset, .unset, .unset, .unset]) rfl ?_
            show oS p e below T133 m 63 #[oi p0, oi p1, oi cp, oi (p1.toInt8.toInt32), oa b103, oi (2 : Int32), .unset, .unset, .unset, .unset, .unset, .unset, .unset] [] _
            refine XS.iloadN X133.here hx rfl (hb hby at_63) rfl ?_
            show oS p e below T133 m 64 #[oi p0, oi p1, oi cp, oi (p1.toInt8.toInt32), oa b103, oi (2 : Int32), .unset, .unset, .unset, .unset, .unset, .unset, .unset] [(.int cp)] _
            refine XS.sipush X133.here hx rfl (hb hby at_64) ?_
            show oS p e below T133 m 67 #[oi p0, oi p1, oi cp, oi (p1.toInt8.toInt32), oa b103, oi (2 : Int32), .unset, .unset, .unset, .unset, .unset, .unset, .unset] [(.int (128 : Int32)), (.int cp)] _
            refine XS.icmpYes X133.here hx rfl (pc0 := 67) (pc' := 74) rfl (hb hby at_67) rfl (flt b134).2.1 (by decide) (by decide) ?_
            show oS p e below T133 m 74 #[oi p0, oi p1, oi cp, oi (p1.toInt8.toInt32), oa b103, oi (2 : Int32), .unset, .unset, .unset, .unset, .unset, .unset, .unset] [] _
            refine XS.iloadN X133.here hx rfl (hb hby at_74) rfl ?_
            show oS p e below T133 m 75 #[oi p0, oi p1, oi cp, oi (p1.toInt8.toInt32), oa b103, oi (2 : Int32), .unset, .unset, .unset, .unset, .unset, .unset, .unset] [(.int cp)] _
            refine XS.sipush X133.here hx rfl (hb hby at_75) ?_
            show oS p e below T133 m 78 #[oi p0, oi p1, oi cp, oi (p1.toInt8.toInt32), oa b103, oi (2 : Int32), .unset, .unset, .unset, .unset, .unset, .unset, .unset] [(.int (2048 : Int32)), (.int cp)] _
            refine XS.icmpNo X133.here hx rfl (hb hby at_78) rfl (tlt b135).2.1 ?_
            show oS p e below T133 m 81 #[oi p0, oi p1, oi cp, oi (p1.toInt8.toInt32), oa b103, oi (2 : Int32), .unset, .unset, .unset, .unset, .unset, .unset, .unset] [] _
            refine XS.iconst X133.here hx rfl (hb hby at_81) ?_
            show oS p e below T133 m 82 #[oi p0, oi p1, oi cp, oi (p1.toInt8.toInt32), oa b103, oi (2 : Int32), .unset, .unset, .unset, .unset, .unset, .unset, .unset] [(.int (2 : Int32))] _
            refine XS.goto X133.here hx rfl (pc0 := 82) (pc' := 96) rfl (hb hby at_82) (by decide) (by decide) ?_
            show oS p e below T133 m 96 #[oi p0, oi p1, oi cp, oi (p1.toInt8.toInt32), oa b103, oi (2 : Int32), .unset, .unset, .unset, .unset, .unset, .unset, .unset] [(.int (2 : Int32))] _
            refine XS.istore X133.here hx rfl (hb hby at_96) rfl (l' := #[oi p0, oi p1, oi cp, oi (p1.toInt8.toInt32), oa b103, oi (2 : Int32), oi (2 : Int32), .unset, .unset, .unset, .unset, .unset, .unset]) rfl ?_
            show oS p e below T133 m 98 #[oi p0, oi p1, oi cp, oi (p1.toInt8.toInt32), oa b103, oi (2 : Int32), oi (2 : Int32), .unset, .unset, .unset, .unset, .unset, .unset] [] _
            refine XS.iload X133.here hx rfl (hb hby at_98) rfl ?_
            show oS p e below T133 m 100 #[oi p0, oi p1, oi cp, oi (p1.toInt8.toInt32), oa b103, oi (2 : Int32), oi (2 : Int32), .unset, .unset, .unset, .unset, .unset, .unset] [(.int (2 : Int32))] _
            refine XS.iload X133.here hx rfl (hb hby at_100) rfl ?_
            show oS p e below T133 m 102 #[oi p0, oi p1, oi cp, oi (p1.toInt8.toInt32), oa b103, oi (2 : Int32), oi (2 : Int32), .unset, .unset, .unset, .unset, .unset, .unset] [(.int (2 : Int32)), (.int (2 : Int32))] _
            refine XS.icmpYes X133.here hx rfl (pc0 := 102) (pc' := 107) rfl (hb hby at_102) rfl (teq b136).1 (by decide) (by decide) ?_
            show oS p e below T133 m 107 #[oi p0, oi p1, oi cp, oi (p1.toInt8.toInt32), oa b103, oi (2 : Int32), oi (2 : Int32), .unset, .unset, .unset, .unset, .unset, .unset] [] _
            refine XS.aload X133.here hx rfl (hb hby at_107) rfl rfl ?_
            show oS p e below T133 m 109 #[oi p0, oi p1, oi cp, oi (p1.toInt8.toInt32), oa b103, oi (2 : Int32), oi (2 : Int32), .unset, .unset, .unset, .unset, .unset, .unset] [(.ref b103)] _
            refine XS.iconst X133.here hx rfl (hb hby at_109) ?_
            show oS p e below T133 m 110 #[oi p0, oi p1, oi cp, oi (p1.toInt8.toInt32), oa b103, oi (2 : Int32), oi (2 : Int32), .unset, .unset, .unset, .unset, .unset, .unset] [(.int (0 : Int32)), (.ref b103)] _
            refine oLdB X133 hx hZ rfl Oq133_0 (v := (.int (((192 : Int32) ||| (cp >>> ((6 : Int32) &&& 31))).toInt8.toInt32))) ⟨by decide, by decide⟩ rfl (hb hby at_110) ?_
            show oS p e below T133 m 111 #[oi p0, oi p1, oi cp, oi (p1.toInt8.toInt32), oa b103, oi (2 : Int32), oi (2 : Int32), .unset, .unset, .unset, .unset, .unset, .unset] [(.int (((192 : Int32) ||| (cp >>> ((6 : Int32) &&& 31))).toInt8.toInt32))] _
            refine XS.sipush X133.here hx rfl (hb hby at_111) ?_
            show oS p e below T133 m 114 #[oi p0, oi p1, oi cp, oi (p1.toInt8.toInt32), oa b103, oi (2 : Int32), oi (2 : Int32), .unset, .unset, .unset, .unset, .unset, .unset] [(.int (255 : Int32)), (.int (((192 : Int32) ||| (cp >>> ((6 : Int32) &&& 31))).toInt8.toInt32))] _
            refine XS.iand X133.here hx rfl (hb hby at_114) rfl ?_
            exact k
          obtain ⟨b0, hb0⟩ : ∃ z : Int32, z = ((((192 : Int32) ||| (cp >>> ((6 : Int32) &&& 31))).toInt8.toInt32) &&& (255 : Int32)) := ⟨_, rfl⟩
          rw [← hb0] at pre137
          have e0 : b0.toInt = 192 + cp.toInt / 64 := by rw [hb0, own_lead _ _ (by decide) (by rw [own_s6]; omega) (by rw [own_s6, if_pos rfl]; omega), own_s6]; rfl
          have pre138 : ∀ t, Steps p.tables e below (T133.setTop (mkF m 125 #[oi p0, oi p1, oi cp, oi (p1.toInt8.toInt32), oa b103, oi (2 : Int32), oi (2 : Int32), oi b0, .unset, .unset, .unset, .unset, .unset] [(.int ((((128 : Int32) ||| (cp &&& (63 : Int32))).toInt8.toInt32) &&& (255 : Int32)))])) t → Steps p.tables e below (s₁.setTop (entryFrame m #[(.int p0), (.int p1)] maxLocals)) t := by
            intro t k
            refine pre137 t ?_
            show oS p e below T133 m 115 #[oi p0, oi p1, oi cp, oi (p1.toInt8.toInt32), oa b103, oi (2 : Int32), oi (2 : Int32), .unset, .unset, .unset, .unset, .unset, .unset] [(.int b0)] _
            refine XS.istore X133.here hx rfl (hb hby at_115) rfl (l' := #[oi p0, oi p1, oi cp, oi (p1.toInt8.toInt32), oa b103, oi (2 : Int32), oi (2 : Int32), oi b0, .unset, .unset, .unset, .unset, .unset]) rfl ?_
            show oS p e below T133 m 117 #[oi p0, oi p1, oi cp, oi (p1.toInt8.toInt32), oa b103, oi (2 : Int32), oi (2 : Int32), oi b0, .unset, .unset, .unset, .unset, .unset] [] _
            refine XS.aload X133.here hx rfl (hb hby at_117) rfl rfl ?_
            show oS p e below T133 m 119 #[oi p0, oi p1, oi cp, oi (p1.toInt8.toInt32), oa b103, oi (2 : Int32), oi (2 : Int32), oi b0, .unset, .unset, .unset, .unset, .unset] [(.ref b103)] _
            refine XS.iconst X133.here hx rfl (hb hby at_119) ?_
            show oS p e below T133 m 120 #[oi p0, oi p1, oi cp, oi (p1.toInt8.toInt32), oa b103, oi (2 : Int32), oi (2 : Int32), oi b0, .unset, .unset, .unset, .unset, .unset] [(.int (1 : Int32)), (.ref b103)] _
            refine oLdB X133 hx hZ rfl Oq133_0 (v := (.int (((128 : Int32) ||| (cp &&& (63 : Int32))).toInt8.toInt32))) ⟨by decide, by decide⟩ rfl (hb hby at_120) ?_
            show oS p e below T133 m 121 #[oi p0, oi p1, oi cp, oi (p1.toInt8.toInt32), oa b103, oi (2 : Int32), oi (2 : Int32), oi b0, .unset, .unset, .unset, .unset, .unset] [(.int (((128 : Int32) ||| (cp &&& (63 : Int32))).toInt8.toInt32))] _
            refine XS.sipush X133.here hx rfl (hb hby at_121) ?_
            show oS p e below T133 m 124 #[oi p0, oi p1, oi cp, oi (p1.toInt8.toInt32), oa b103, oi (2 : Int32), oi (2 : Int32), oi b0, .unset, .unset, .unset, .unset, .unset] [(.int (255 : Int32)), (.int (((128 : Int32) ||| (cp &&& (63 : Int32))).toInt8.toInt32))] _
            refine XS.iand X133.here hx rfl (hb hby at_124) rfl ?_
            exact k
          obtain ⟨b1, hb1⟩ : ∃ z : Int32, z = ((((128 : Int32) ||| (cp &&& (63 : Int32))).toInt8.toInt32) &&& (255 : Int32)) := ⟨_, rfl⟩
          rw [← hb1] at pre138
          have e1 : b1.toInt = 128 + cp.toInt % 64 := by rw [hb1, own_cb]
          have pre139 : ∀ t, Steps p.tables e below (T133.setTop (mkF m 135 #[oi p0, oi p1, oi cp, oi (p1.toInt8.toInt32), oa b103, oi (2 : Int32), oi (2 : Int32), oi b0, oi b1, .unset, .unset, .unset, .unset] [(.int ((p1.toInt8.toInt32) &&& (255 : Int32)))])) t → Steps p.tables e below (s₁.setTop (entryFrame m #[(.int p0), (.int p1)] maxLocals)) t := by
            intro t k
            refine pre138 t ?_
            show oS p e below T133 m 125 #[oi p0, oi p1, oi cp, oi (p1.toInt8.toInt32), oa b103, oi (2 : Int32), oi (2 : Int32), oi b0, .unset, .unset, .unset, .unset, .unset] [(.int b1)] _
            refine XS.istore X133.here hx rfl (hb hby at_125) rfl (l' := #[oi p0, oi p1, oi cp, oi (p1.toInt8.toInt32), oa b103, oi (2 : Int32), oi (2 : Int32), oi b0, oi b1, .unset, .unset, .unset, .unset]) rfl ?_
            show oS p e below T133 m 127 #[oi p0, oi p1, oi cp, oi (p1.toInt8.toInt32), oa b103, oi (2 : Int32), oi (2 : Int32), oi b0, oi b1, .unset, .unset, .unset, .unset] [] _
            refine XS.aload X133.here hx rfl (hb hby at_127) rfl rfl ?_
            show oS p e below T133 m 129 #[oi p0, oi p1, oi cp, oi (p1.toInt8.toInt32), oa b103, oi (2 : Int32), oi (2 : Int32), oi b0, oi b1, .unset, .unset, .unset, .unset] [(.ref b103)] _
            refine XS.iconst X133.here hx rfl (hb hby at_129) ?_
            show oS p e below T133 m 130 #[oi p0, oi p1, oi cp, oi (p1.toInt8.toInt32), oa b103, oi (2 : Int32), oi (2 : Int32), oi b0, oi b1, .unset, .unset, .unset, .unset] [(.int (2 : Int32)), (.ref b103)] _
            refine oLdB X133 hx hZ rfl Oq133_0 (v := (.int (p1.toInt8.toInt32))) ⟨by decide, by decide⟩ rfl (hb hby at_130) ?_
            show oS p e below T133 m 131 #[oi p0, oi p1, oi cp, oi (p1.toInt8.toInt32), oa b103, oi (2 : Int32), oi (2 : Int32), oi b0, oi b1, .unset, .unset, .unset, .unset] [(.int (p1.toInt8.toInt32))] _
            refine XS.sipush X133.here hx rfl (hb hby at_131) ?_
            show oS p e below T133 m 134 #[oi p0, oi p1, oi cp, oi (p1.toInt8.toInt32), oa b103, oi (2 : Int32), oi (2 : Int32), oi b0, oi b1, .unset, .unset, .unset, .unset] [(.int (255 : Int32)), (.int (p1.toInt8.toInt32))] _
            refine XS.iand X133.here hx rfl (hb hby at_134) rfl ?_
            exact k
          obtain ⟨b2, hb2⟩ : ∃ z : Int32, z = ((p1.toInt8.toInt32) &&& (255 : Int32)) := ⟨_, rfl⟩
          rw [← hb2] at pre139
          have pre140 : ∀ t, Steps p.tables e below (T133.setTop (mkF m 145 #[oi p0, oi p1, oi cp, oi (p1.toInt8.toInt32), oa b103, oi (2 : Int32), oi (2 : Int32), oi b0, oi b1, oi b2, .unset, .unset, .unset] [(.int ((p1.toInt8.toInt32) &&& (255 : Int32)))])) t → Steps p.tables e below (s₁.setTop (entryFrame m #[(.int p0), (.int p1)] maxLocals)) t := by
            intro t k
            refine pre139 t ?_
            show oS p e below T133 m 135 #[oi p0, oi p1, oi cp, oi (p1.toInt8.toInt32), oa b103, oi (2 : Int32), oi (2 : Int32), oi b0, oi b1, .unset, .unset, .unset, .unset] [(.int b2)] _
            refine XS.istore X133.here hx rfl (hb hby at_135) rfl (l' := #[oi p0, oi p1, oi cp, oi (p1.toInt8.toInt32), oa b103, oi (2 : Int32), oi (2 : Int32), oi b0, oi b1, oi b2, .unset, .unset, .unset]) rfl ?_
            show oS p e below T133 m 137 #[oi p0, oi p1, oi cp, oi (p1.toInt8.toInt32), oa b103, oi (2 : Int32), oi (2 : Int32), oi b0, oi b1, oi b2, .unset, .unset, .unset] [] _
            refine XS.aload X133.here hx rfl (hb hby at_137) rfl rfl ?_
            show oS p e below T133 m 139 #[oi p0, oi p1, oi cp, oi (p1.toInt8.toInt32), oa b103, oi (2 : Int32), oi (2 : Int32), oi b0, oi b1, oi b2, .unset, .unset, .unset] [(.ref b103)] _
            refine XS.iconst X133.here hx rfl (hb hby at_139) ?_
            show oS p e below T133 m 140 #[oi p0, oi p1, oi cp, oi (p1.toInt8.toInt32), oa b103, oi (2 : Int32), oi (2 : Int32), oi b0, oi b1, oi b2, .unset, .unset, .unset] [(.int (3 : Int32)), (.ref b103)] _
            refine oLdB X133 hx hZ rfl Oq133_0 (v := (.int (p1.toInt8.toInt32))) ⟨by decide, by decide⟩ rfl (hb hby at_140) ?_
            show oS p e below T133 m 141 #[oi p0, oi p1, oi cp, oi (p1.toInt8.toInt32), oa b103, oi (2 : Int32), oi (2 : Int32), oi b0, oi b1, oi b2, .unset, .unset, .unset] [(.int (p1.toInt8.toInt32))] _
            refine XS.sipush X133.here hx rfl (hb hby at_141) ?_
            show oS p e below T133 m 144 #[oi p0, oi p1, oi cp, oi (p1.toInt8.toInt32), oa b103, oi (2 : Int32), oi (2 : Int32), oi b0, oi b1, oi b2, .unset, .unset, .unset] [(.int (255 : Int32)), (.int (p1.toInt8.toInt32))] _
            refine XS.iand X133.here hx rfl (hb hby at_144) rfl ?_
            exact k
          obtain ⟨b3, hb3⟩ : ∃ z : Int32, z = ((p1.toInt8.toInt32) &&& (255 : Int32)) := ⟨_, rfl⟩
          rw [← hb3] at pre140
          have b141 : ¬ ((2 : Int32) = (1 : Int32)) := (by decide)
          have b142 : (2 : Int32) = (2 : Int32) := (by decide)
          have b143 : (b0 &&& (224 : Int32)) = (192 : Int32) := own_h2 (by omega) (by omega)
          obtain ⟨_, _, ⟨T144, L144, k144, n144⟩, -, X144, ⟨Lc144, hQ144, l144, y144, z144⟩, st144⟩ := Jvm.LawKit.callS X133 hx (y := (⟨"com/example/godwit/godwit/link/Utf8EncodePinLaw", "cont", "(I)Z"⟩ : MethodName)) hown (mvT hZ (hw _ (List.mem_of_getElem? (i := 11) rfl))) (mvT hZ (hw _ (List.mem_of_getElem? (i := 12) rfl))) (mvT hZ (hw _ (List.mem_of_getElem? (i := 13) rfl))) (mvT hZ (hw _ (List.mem_of_getElem? (i := 14) rfl))) (by decide) (backOf (W := 0) (own_rm2 l Z av hw [] b1 T133.heap n0 Z133 ) hZ (hw _ (List.mem_of_getElem? (i := 14) rfl)) (hw _ (List.mem_of_getElem? (i := 13) rfl)) (by decide) (by decide)) (g := (mkF m 190 #[oi p0, oi p1, oi cp, oi (p1.toInt8.toInt32), oa b103, oi (2 : Int32), oi (2 : Int32), oi b0, oi b1, oi b2, oi b3, .unset, .unset] [(.int b1)])) rfl (by rw [hml]; rfl) (argsL := [(.int b1)]) (rest := []) (lenOf own_pd1 rfl) rfl (by show 2 * 0 + _ ≤ _; exact Nat.le_of_eq rfl) (hb hby at_190) (fun _ _ => ⟨rfl, rfl, (by decide : 1 + 0 ≤ _), (by decide : 5 + 0 ≤ _)⟩)
          dsimp only [Pt.U, Pt.locs, Pt.cells, Pt.slots] at X144 l144 y144 z144 st144 hQ144
          have yq144 : k144 = 1 := y144
          have zq144 : n144 = 5 := z144
          subst yq144 zq144
          obtain ⟨rfl, Nq144, eq144⟩ := hQ144
          have N144 : Fr n0 L144 := by rw [l144]; exact Fr.app N133 Nq144
          have b145 : ¬ ((own_f2 b1) = (0 : Int32)) := own_cont (by omega) (by omega)
          have b146 : (((b0 &&& (31 : Int32)) <<< ((6 : Int32) &&& 31)) ||| (b1 &&& (63 : Int32))) = cp := own_v2 e0 e1 rc.1 (by omega)
          have b147 : (1 : Int32) < (2 : Int32) := (by decide)
          have b148 : ¬ ((2 : Int32) < (2 : Int32)) := (by decide)
          have b149 : (p1.toInt8.toInt32) = (p1.toInt8.toInt32) := rfl
          have b150 : ¬ ((3 : Int32) < (2 : Int32)) := (by decide)
          have b151 : (p1.toInt8.toInt32) = (p1.toInt8.toInt32) := rfl
          have b152 : (p1.toInt8.toInt32) = (p1.toInt8.toInt32) := rfl
          obtain ⟨fs, hr, hrun, hended, hW, hsame⟩ := X144.leave (v := (some (.int (1 : Int32)))) (fun h => by rw [Bd.returns] at h; cases h)
          refine ⟨_, _, pre140 _ ?_, hrun, hended, _, _, rfl, ?_, ⟨_, rfl⟩, hW, hsame.mono (by decide) (by decide)⟩
          · show oS p e below T133 m 145 #[oi p0, oi p1, oi cp, oi (p1.toInt8.toInt32), oa b103, oi (2 : Int32), oi (2 : Int32), oi b0, oi b1, oi b2, .unset, .unset, .unset] [(.int b3)] _
            refine XS.istore X133.here hx rfl (hb hby at_145) rfl (l' := #[oi p0, oi p1, oi cp, oi (p1.toInt8.toInt32), oa b103, oi (2 : Int32), oi (2 : Int32), oi b0, oi b1, oi b2, oi b3, .unset, .unset]) rfl ?_
            show oS p e below T133 m 147 #[oi p0, oi p1, oi cp, oi (p1.toInt8.toInt32), oa b103, oi (2 : Int32), oi (2 : Int32), oi b0, oi b1, oi b2, oi b3, .unset, .unset] [] _
            refine XS.iload X133.here hx rfl (hb hby at_147) rfl ?_
            show oS p e below T133 m 149 #[oi p0, oi p1, oi cp, oi (p1.toInt8.toInt32), oa b103, oi (2 : Int32), oi (2 : Int32), oi b0, oi b1, oi b2, oi b3, .unset, .unset] [(.int (2 : Int32))] _
            refine XS.iconst X133.here hx rfl (hb hby at_149) ?_
            show oS p e below T133 m 150 #[oi p0, oi p1, oi cp, oi (p1.toInt8.toInt32), oa b103, oi (2 : Int32), oi (2 : Int32), oi b0, oi b1, oi b2, oi b3, .unset, .unset] [(.int (1 : Int32)), (.int (2 : Int32))] _
            refine XS.icmpYes X133.here hx rfl (pc0 := 150) (pc' := 170) rfl (hb hby at_150) rfl (feq b141).2 (by decide) (by decide) ?_
            show oS p e below T133 m 170 #[oi p0, oi p1, oi cp, oi (p1.toInt8.toInt32), oa b103, oi (2 : Int32), oi (2 : Int32), oi b0, oi b1, oi b2, oi b3, .unset, .unset] [] _
            refine XS.iload X133.here hx rfl (hb hby at_170) rfl ?_
            show oS p e below T133 m 172 #[oi p0, oi p1, oi cp, oi (p1.toInt8.toInt32), oa b103, oi (2 : Int32), oi (2 : Int32), oi b0, oi b1, oi b2, oi b3, .unset, .unset] [(.int (2 : Int32))] _
            refine XS.iconst X133.here hx rfl (hb hby at_172) ?_
            show oS p e below T133 m 173 #[oi p0, oi p1, oi cp, oi (p1.toInt8.toInt32), oa b103, oi (2 : Int32), oi (2 : Int32), oi b0, oi b1, oi b2, oi b3, .unset, .unset] [(.int (2 : Int32)), (.int (2 : Int32))] _
            refine XS.icmpNo X133.here hx rfl (hb hby at_173) rfl (teq b142).2 ?_
            show oS p e below T133 m 176 #[oi p0, oi p1, oi cp, oi (p1.toInt8.toInt32), oa b103, oi (2 : Int32), oi (2 : Int32), oi b0, oi b1, oi b2, oi b3, .unset, .unset] [] _
            refine XS.iload X133.here hx rfl (hb hby at_176) rfl ?_
            show oS p e below T133 m 178 #[oi p0, oi p1, oi cp, oi (p1.toInt8.toInt32), oa b103, oi (2 : Int32), oi (2 : Int32), oi b0, oi b1, oi b2, oi b3, .unset, .unset] [(.int b0)] _
            refine XS.sipush X133.here hx rfl (hb hby at_178) ?_
            show oS p e below T133 m 181 #[oi p0, oi p1, oi cp, oi (p1.toInt8.toInt32), oa b103, oi (2 : Int32), oi (2 : Int32), oi b0, oi b1, oi b2, oi b3, .unset, .unset] [(.int (224 : Int32)), (.int b0)] _
            refine XS.iand X133.here hx rfl (hb hby at_181) rfl ?_
            show oS p e below T133 m 182 #[oi p0, oi p1, oi cp, oi (p1.toInt8.toInt32), oa b103, oi (2 : Int32), oi (2 : Int32), oi b0, oi b1, oi b2, oi b3, .unset, .unset] [(.int (b0 &&& (224 : Int32)))] _
            refine XS.sipush X133.here hx rfl (hb hby at_182) ?_
            show oS p e below T133 m 185 #[oi p0, oi p1, oi cp, oi (p1.toInt8.toInt32), oa b103, oi (2 : Int32), oi (2 : Int32), oi b0, oi b1, oi b2, oi b3, .unset, .unset] [(.int (192 : Int32)), (.int (b0 &&& (224 : Int32)))] _
            refine XS.icmpNo X133.here hx rfl (hb hby at_185) rfl (teq b143).2 ?_
            show oS p e below T133 m 188 #[oi p0, oi p1, oi cp, oi (p1.toInt8.toInt32), oa b103, oi (2 : Int32), oi (2 : Int32), oi b0, oi b1, oi b2, oi b3, .unset, .unset] [] _
            refine XS.iload X133.here hx rfl (hb hby at_188) rfl ?_
            show oS p e below T133 m 190 #[oi p0, oi p1, oi cp, oi (p1.toInt8.toInt32), oa b103, oi (2 : Int32), oi (2 : Int32), oi b0, oi b1, oi b2, oi b3, .unset, .unset] [(.int b1)] _
            refine st144 _ ?_
            show oS p e below T144 m 193 #[oi p0, oi p1, oi cp, oi (p1.toInt8.toInt32), oa b103, oi (2 : Int32), oi (2 : Int32), oi b0, oi b1, oi b2, oi b3, .unset, .unset] [(.int (own_f2 b1))] _
            refine XS.ifYes X144.here hx rfl (pc0 := 193) (pc' := 198) rfl (hb hby at_193) rfl ((if0 _ _).trans (feq b145).2) (by decide) (by decide) ?_
            show oS p e below T144 m 198 #[oi p0, oi p1, oi cp, oi (p1.toInt8.toInt32), oa b103, oi (2 : Int32), oi (2 : Int32), oi b0, oi b1, oi b2, oi b3, .unset, .unset] [] _
            refine XS.iload X144.here hx rfl (hb hby at_198) rfl ?_
            show oS p e below T144 m 200 #[oi p0, oi p1, oi cp, oi (p1.toInt8.toInt32), oa b103, oi (2 : Int32), oi (2 : Int32), oi b0, oi b1, oi b2, oi b3, .unset, .unset] [(.int b0)] _
            refine XS.bipush X144.here hx rfl (hb hby at_200) ?_
            show oS p e below T144 m 202 #[oi p0, oi p1, oi cp, oi (p1.toInt8.toInt32), oa b103, oi (2 : Int32), oi (2 : Int32), oi b0, oi b1, oi b2, oi b3, .unset, .unset] [(.int (31 : Int32)), (.int b0)] _
            refine XS.iand X144.here hx rfl (hb hby at_202) rfl ?_
            show oS p e below T144 m 203 #[oi p0, oi p1, oi cp, oi (p1.toInt8.toInt32), oa b103, oi (2 : Int32), oi (2 : Int32), oi b0, oi b1, oi b2, oi b3, .unset, .unset] [(.int (b0 &&& (31 : Int32)))] _
            refine XS.bipush X144.here hx rfl (hb hby at_203) ?_
            show oS p e below T144 m 205 #[oi p0, oi p1, oi cp, oi (p1.toInt8.toInt32), oa b103, oi (2 : Int32), oi (2 : Int32), oi b0, oi b1, oi b2, oi b3, .unset, .unset] [(.int (6 : Int32)), (.int (b0 &&& (31 : Int32)))] _
            refine XS.ishl X144.here hx rfl (hb hby at_205) rfl ?_
            show oS p e below T144 m 206 #[oi p0, oi p1, oi cp, oi (p1.toInt8.toInt32), oa b103, oi (2 : Int32), oi (2 : Int32), oi b0, oi b1, oi b2, oi b3, .unset, .unset] [(.int ((b0 &&& (31 : Int32)) <<< ((6 : Int32) &&& 31)))] _
            refine XS.iload X144.here hx rfl (hb hby at_206) rfl ?_
            show oS p e below T144 m 208 #[oi p0, oi p1, oi cp, oi (p1.toInt8.toInt32), oa b103, oi (2 : Int32), oi (2 : Int32), oi b0, oi b1, oi b2, oi b3, .unset, .unset] [(.int b1), (.int ((b0 &&& (31 : Int32)) <<< ((6 : Int32) &&& 31)))] _
            refine XS.bipush X144.here hx rfl (hb hby at_208) ?_
            show oS p e below T144 m 210 #[oi p0, oi p1, oi cp, oi (p1.toInt8.toInt32), oa b103, oi (2 : Int32), oi (2 : Int32), oi b0, oi b1, oi b2, oi b3, .unset, .unset] [(.int (63 : Int32)), (.int b1), (.int ((b0 &&& (31 : Int32)) <<< ((6 : Int32) &&& 31)))] _
            refine XS.iand X144.here hx rfl (hb hby at_210) rfl ?_
            show oS p e below T144 m 211 #[oi p0, oi p1, oi cp, oi (p1.toInt8.toInt32), oa b103, oi (2 : Int32), oi (2 : Int32), oi b0, oi b1, oi b2, oi b3, .unset, .unset] [(.int (b1 &&& (63 : Int32))), (.int ((b0 &&& (31 : Int32)) <<< ((6 : Int32) &&& 31)))] _
            refine XS.ior X144.here hx rfl (hb hby at_211) rfl ?_
            show oS p e below T144 m 212 #[oi p0, oi p1, oi cp, oi (p1.toInt8.toInt32), oa b103, oi (2 : Int32), oi (2 : Int32), oi b0, oi b1, oi b2, oi b3, .unset, .unset] [(.int (((b0 &&& (31 : Int32)) <<< ((6 : Int32) &&& 31)) ||| (b1 &&& (63 : Int32))))] _
            refine XS.istore X144.here hx rfl (hb hby at_212) rfl (l' := #[oi p0, oi p1, oi cp, oi (p1.toInt8.toInt32), oa b103, oi (2 : Int32), oi (2 : Int32), oi b0, oi b1, oi b2, oi b3, oi (((b0 &&& (31 : Int32)) <<< ((6 : Int32) &&& 31)) ||| (b1 &&& (63 : Int32))), .unset]) rfl ?_
            show oS p e below T144 m 214 #[oi p0, oi p1, oi cp, oi (p1.toInt8.toInt32), oa b103, oi (2 : Int32), oi (2 : Int32), oi b0, oi b1, oi b2, oi b3, oi (((b0 &&& (31 : Int32)) <<< ((6 : Int32) &&& 31)) ||| (b1 &&& (63 : Int32))), .unset] [] _
            refine XS.goto X144.here hx rfl (pc0 := 214) (pc' := 353) rfl (hb hby at_214) (by decide) (by decide) ?_
            show oS p e below T144 m 353 #[oi p0, oi p1, oi cp, oi (p1.toInt8.toInt32), oa b103, oi (2 : Int32), oi (2 : Int32), oi b0, oi b1, oi b2, oi b3, oi (((b0 &&& (31 : Int32)) <<< ((6 : Int32) &&& 31)) ||| (b1 &&& (63 : Int32))), .unset] [] _
            refine XS.iload X144.here hx rfl (hb hby at_353) rfl ?_
            show oS p e below T144 m 355 #[oi p0, oi p1, oi cp, oi (p1.toInt8.toInt32), oa b103, oi (2 : Int32), oi (2 : Int32), oi b0, oi b1, oi b2, oi b3, oi (((b0 &&& (31 : Int32)) <<< ((6 : Int32) &&& 31)) ||| (b1 &&& (63 : Int32))), .unset] [(.int (((b0 &&& (31 : Int32)) <<< ((6 : Int32) &&& 31)) ||| (b1 &&& (63 : Int32))))] _
            refine XS.iloadN X144.here hx rfl (hb hby at_355) rfl ?_
            show oS p e below T144 m 356 #[oi p0, oi p1, oi cp, oi (p1.toInt8.toInt32), oa b103, oi (2 : Int32), oi (2 : Int32), oi b0, oi b1, oi b2, oi b3, oi (((b0 &&& (31 : Int32)) <<< ((6 : Int32) &&& 31)) ||| (b1 &&& (63 : Int32))), .unset] [(.int cp), (.int (((b0 &&& (31 : Int32)) <<< ((6 : Int32) &&& 31)) ||| (b1 &&& (63 : Int32))))] _
            refine XS.icmpYes X144.here hx rfl (pc0 := 356) (pc' := 361) rfl (hb hby at_356) rfl (teq b146).1 (by decide) (by decide) ?_
            show oS p e below T144 m 361 #[oi p0, oi p1, oi cp, oi (p1.toInt8.toInt32), oa b103, oi (2 : Int32), oi (2 : Int32), oi b0, oi b1, oi b2, oi b3, oi (((b0 &&& (31 : Int32)) <<< ((6 : Int32) &&& 31)) ||| (b1 &&& (63 : Int32))), .unset] [] _
            refine XS.iload X144.here hx rfl (hb hby at_361) rfl ?_
            show oS p e below T144 m 363 #[oi p0, oi p1, oi cp, oi (p1.toInt8.toInt32), oa b103, oi (2 : Int32), oi (2 : Int32), oi b0, oi b1, oi b2, oi b3, oi (((b0 &&& (31 : Int32)) <<< ((6 : Int32) &&& 31)) ||| (b1 &&& (63 : Int32))), .unset] [(.int (2 : Int32))] _
            refine XS.iconst X144.here hx rfl (hb hby at_363) ?_
            show oS p e below T144 m 364 #[oi p0, oi p1, oi cp, oi (p1.toInt8.toInt32), oa b103, oi (2 : Int32), oi (2 : Int32), oi b0, oi b1, oi b2, oi b3, oi (((b0 &&& (31 : Int32)) <<< ((6 : Int32) &&& 31)) ||| (b1 &&& (63 : Int32))), .unset] [(.int (1 : Int32)), (.int (2 : Int32))] _
            refine XS.icmpYes X144.here hx rfl (pc0 := 364) (pc' := 375) rfl (hb hby at_364) rfl (tlt b147).2.2.1 (by decide) (by decide) ?_
            show oS p e below T144 m 375 #[oi p0, oi p1, oi cp, oi (p1.toInt8.toInt32), oa b103, oi (2 : Int32), oi (2 : Int32), oi b0, oi b1, oi b2, oi b3, oi (((b0 &&& (31 : Int32)) <<< ((6 : Int32) &&& 31)) ||| (b1 &&& (63 : Int32))), .unset] [] _
            refine XS.iload X144.here hx rfl (hb hby at_375) rfl ?_
            show oS p e below T144 m 377 #[oi p0, oi p1, oi cp, oi (p1.toInt8.toInt32), oa b103, oi (2 : Int32), oi (2 : Int32), oi b0, oi b1, oi b2, oi b3, oi (((b0 &&& (31 : Int32)) <<< ((6 : Int32) &&& 31)) ||| (b1 &&& (63 : Int32))), .unset] [(.int (2 : Int32))] _
            refine XS.iconst X144.here hx rfl (hb hby at_377) ?_
            show oS p e below T144 m 378 #[oi p0, oi p1, oi cp, oi (p1.toInt8.toInt32), oa b103, oi (2 : Int32), oi (2 : Int32), oi b0, oi b1, oi b2, oi b3, oi (((b0 &&& (31 : Int32)) <<< ((6 : Int32) &&& 31)) ||| (b1 &&& (63 : Int32))), .unset] [(.int (2 : Int32)), (.int (2 : Int32))] _
            refine XS.icmpNo X144.here hx rfl (hb hby at_378) rfl (flt b148).2.2.1 ?_
            show oS p e below T144 m 381 #[oi p0, oi p1, oi cp, oi (p1.toInt8.toInt32), oa b103, oi (2 : Int32), oi (2 : Int32), oi b0, oi b1, oi b2, oi b3, oi (((b0 &&& (31 : Int32)) <<< ((6 : Int32) &&& 31)) ||| (b1 &&& (63 : Int32))), .unset] [] _
            refine XS.aload X144.here hx rfl (hb hby at_381) rfl rfl ?_
            show oS p e below T144 m 383 #[oi p0, oi p1, oi cp, oi (p1.toInt8.toInt32), oa b103, oi (2 : Int32), oi (2 : Int32), oi b0, oi b1, oi b2, oi b3, oi (((b0 &&& (31 : Int32)) <<< ((6 : Int32) &&& 31)) ||| (b1 &&& (63 : Int32))), .unset] [(.ref b103)] _
            refine XS.iconst X144.here hx rfl (hb hby at_383) ?_
            show oS p e below T144 m 384 #[oi p0, oi p1, oi cp, oi (p1.toInt8.toInt32), oa b103, oi (2 : Int32), oi (2 : Int32), oi b0, oi b1, oi b2, oi b3, oi (((b0 &&& (31 : Int32)) <<< ((6 : Int32) &&& 31)) ||| (b1 &&& (63 : Int32))), .unset] [(.int (2 : Int32)), (.ref b103)] _
            refine oLdB X144 hx hZ eq144 Oq133_0 (v := (.int (p1.toInt8.toInt32))) ⟨by decide, by decide⟩ rfl (hb hby at_384) ?_
            show oS p e below T144 m 385 #[oi p0, oi p1, oi cp, oi (p1.toInt8.toInt32), oa b103, oi (2 : Int32), oi (2 : Int32), oi b0, oi b1, oi b2, oi b3, oi (((b0 &&& (31 : Int32)) <<< ((6 : Int32) &&& 31)) ||| (b1 &&& (63 : Int32))), .unset] [(.int (p1.toInt8.toInt32))] _
            refine XS.iloadN X144.here hx rfl (hb hby at_385) rfl ?_
            show oS p e below T144 m 386 #[oi p0, oi p1, oi cp, oi (p1.toInt8.toInt32), oa b103, oi (2 : Int32), oi (2 : Int32), oi b0, oi b1, oi b2, oi b3, oi (((b0 &&& (31 : Int32)) <<< ((6 : Int32) &&& 31)) ||| (b1 &&& (63 : Int32))), .unset] [(.int (p1.toInt8.toInt32)), (.int (p1.toInt8.toInt32))] _
            refine XS.icmpNo X144.here hx rfl (hb hby at_386) rfl (teq b149).2 ?_
            show oS p e below T144 m 389 #[oi p0, oi p1, oi cp, oi (p1.toInt8.toInt32), oa b103, oi (2 : Int32), oi (2 : Int32), oi b0, oi b1, oi b2, oi b3, oi (((b0 &&& (31 : Int32)) <<< ((6 : Int32) &&& 31)) ||| (b1 &&& (63 : Int32))), .unset] [] _
            refine XS.iload X144.here hx rfl (hb hby at_389) rfl ?_
            show oS p e below T144 m 391 #[oi p0, oi p1, oi cp, oi (p1.toInt8.toInt32), oa b103, oi (2 : Int32), oi (2 : Int32), oi b0, oi b1, oi b2, oi b3, oi (((b0 &&& (31 : Int32)) <<< ((6 : Int32) &&& 31)) ||| (b1 &&& (63 : Int32))), .unset] [(.int (2 : Int32))] _
            refine XS.iconst X144.here hx rfl (hb hby at_391) ?_
            show oS p e below T144 m 392 #[oi p0, oi p1, oi cp, oi (p1.toInt8.toInt32), oa b103, oi (2 : Int32), oi (2 : Int32), oi b0, oi b1, oi b2, oi b3, oi (((b0 &&& (31 : Int32)) <<< ((6 : Int32) &&& 31)) ||| (b1 &&& (63 : Int32))), .unset] [(.int (3 : Int32)), (.int (2 : Int32))] _
            refine XS.icmpNo X144.here hx rfl (hb hby at_392) rfl (flt b150).2.2.1 ?_
            show oS p e below T144 m 395 #[oi p0, oi p1, oi cp, oi (p1.toInt8.toInt32), oa b103, oi (2 : Int32), oi (2 : Int32), oi b0, oi b1, oi b2, oi b3, oi (((b0 &&& (31 : Int32)) <<< ((6 : Int32) &&& 31)) ||| (b1 &&& (63 : Int32))), .unset] [] _
            refine XS.aload X144.here hx rfl (hb hby at_395) rfl rfl ?_
            show oS p e below T144 m 397 #[oi p0, oi p1, oi cp, oi (p1.toInt8.toInt32), oa b103, oi (2 : Int32), oi (2 : Int32), oi b0, oi b1, oi b2, oi b3, oi (((b0 &&& (31 : Int32)) <<< ((6 : Int32) &&& 31)) ||| (b1 &&& (63 : Int32))), .unset] [(.ref b103)] _
            refine XS.iconst X144.here hx rfl (hb hby at_397) ?_
            show oS p e below T144 m 398 #[oi p0, oi p1, oi cp, oi (p1.toInt8.toInt32), oa b103, oi (2 : Int32), oi (2 : Int32), oi b0, oi b1, oi b2, oi b3, oi (((b0 &&& (31 : Int32)) <<< ((6 : Int32) &&& 31)) ||| (b1 &&& (63 : Int32))), .unset] [(.int (3 : Int32)), (.ref b103)] _
            refine oLdB X144 hx hZ eq144 Oq133_0 (v := (.int (p1.toInt8.toInt32))) ⟨by decide, by decide⟩ rfl (hb hby at_398) ?_
            show oS p e below T144 m 399 #[oi p0, oi p1, oi cp, oi (p1.toInt8.toInt32), oa b103, oi (2 : Int32), oi (2 : Int32), oi b0, oi b1, oi b2, oi b3, oi (((b0 &&& (31 : Int32)) <<< ((6 : Int32) &&& 31)) ||| (b1 &&& (63 : Int32))), .unset] [(.int (p1.toInt8.toInt32))] _
            refine XS.iloadN X144.here hx rfl (hb hby at_399) rfl ?_
            show oS p e below T144 m 400 #[oi p0, oi p1, oi cp, oi (p1.toInt8.toInt32), oa b103, oi (2 : Int32), oi (2 : Int32), oi b0, oi b1, oi b2, oi b3, oi (((b0 &&& (31 : Int32)) <<< ((6 : Int32) &&& 31)) ||| (b1 &&& (63 : Int32))), .unset] [(.int (p1.toInt8.toInt32)), (.int (p1.toInt8.toInt32))] _
            refine XS.icmpNo X144.here hx rfl (hb hby at_400) rfl (teq b151).2 ?_
            show oS p e below T144 m 403 #[oi p0, oi p1, oi cp, oi (p1.toInt8.toInt32), oa b103, oi (2 : Int32), oi (2 : Int32), oi b0, oi b1, oi b2, oi b3, oi (((b0 &&& (31 : Int32)) <<< ((6 : Int32) &&& 31)) ||| (b1 &&& (63 : Int32))), .unset] [] _
            refine XS.aload X144.here hx rfl (hb hby at_403) rfl rfl ?_
            show oS p e below T144 m 405 #[oi p0, oi p1, oi cp, oi (p1.toInt8.toInt32), oa b103, oi (2 : Int32), oi (2 : Int32), oi b0, oi b1, oi b2, oi b3, oi (((b0 &&& (31 : Int32)) <<< ((6 : Int32) &&& 31)) ||| (b1 &&& (63 : Int32))), .unset] [(.ref b103)] _
            refine XS.iconst X144.here hx rfl (hb hby at_405) ?_
            show oS p e below T144 m 406 #[oi p0, oi p1, oi cp, oi (p1.toInt8.toInt32), oa b103, oi (2 : Int32), oi (2 : Int32), oi b0, oi b1, oi b2, oi b3, oi (((b0 &&& (31 : Int32)) <<< ((6 : Int32) &&& 31)) ||| (b1 &&& (63 : Int32))), .unset] [(.int (4 : Int32)), (.ref b103)] _
            refine oLdB X144 hx hZ eq144 Oq133_0 (v := (.int (p1.toInt8.toInt32))) ⟨by decide, by decide⟩ rfl (hb hby at_406) ?_
            show oS p e below T144 m 407 #[oi p0, oi p1, oi cp, oi (p1.toInt8.toInt32), oa b103, oi (2 : Int32), oi (2 : Int32), oi b0, oi b1, oi b2, oi b3, oi (((b0 &&& (31 : Int32)) <<< ((6 : Int32) &&& 31)) ||| (b1 &&& (63 : Int32))), .unset] [(.int (p1.toInt8.toInt32))] _
            refine XS.iloadN X144.here hx rfl (hb hby at_407) rfl ?_
            show oS p e below T144 m 408 #[oi p0, oi p1, oi cp, oi (p1.toInt8.toInt32), oa b103, oi (2 : Int32), oi (2 : Int32), oi b0, oi b1, oi b2, oi b3, oi (((b0 &&& (31 : Int32)) <<< ((6 : Int32) &&& 31)) ||| (b1 &&& (63 : Int32))), .unset] [(.int (p1.toInt8.toInt32)), (.int (p1.toInt8.toInt32))] _
            refine XS.icmpNo X144.here hx rfl (hb hby at_408) rfl (teq b152).2 ?_
            show oS p e below T144 m 411 #[oi p0, oi p1, oi cp, oi (p1.toInt8.toInt32), oa b103, oi (2 : Int32), oi (2 : Int32), oi b0, oi b1, oi b2, oi b3, oi (((b0 &&& (31 : Int32)) <<< ((6 : Int32) &&& 31)) ||| (b1 &&& (63 : Int32))), .unset] [] _
            refine XS.iconst X144.here hx rfl (hb hby at_411) ?_
            show oS p e below T144 m 412 #[oi p0, oi p1, oi cp, oi (p1.toInt8.toInt32), oa b103, oi (2 : Int32), oi (2 : Int32), oi b0, oi b1, oi b2, oi b3, oi (((b0 &&& (31 : Int32)) <<< ((6 : Int32) &&& 31)) ||| (b1 &&& (63 : Int32))), .unset] [(.int (1 : Int32))] _
            refine XS.goto X144.here hx rfl (pc0 := 412) (pc' := 416) rfl (hb hby at_412) (by decide) (by decide) ?_
            show oS p e below T144 m 416 #[oi p0, oi p1, oi cp, oi (p1.toInt8.toInt32), oa b103, oi (2 : Int32), oi (2 : Int32), oi b0, oi b1, oi b2, oi b3, oi (((b0 &&& (31 : Int32)) <<< ((6 : Int32) &&& 31)) ||| (b1 &&& (63 : Int32))), .unset] [(.int (1 : Int32))] _
            refine XS.istore X144.here hx rfl (hb hby at_416) rfl (l' := #[oi p0, oi p1, oi cp, oi (p1.toInt8.toInt32), oa b103, oi (2 : Int32), oi (2 : Int32), oi b0, oi b1, oi b2, oi b3, oi (((b0 &&& (31 : Int32)) <<< ((6 : Int32) &&& 31)) ||| (b1 &&& (63 : Int32))), oi (1 : Int32)]) rfl ?_
            show oS p e below T144 m 418 #[oi p0, oi p1, oi cp, oi (p1.toInt8.toInt32), oa b103, oi (2 : Int32), oi (2 : Int32), oi b0, oi b1, oi b2, oi b3, oi (((b0 &&& (31 : Int32)) <<< ((6 : Int32) &&& 31)) ||| (b1 &&& (63 : Int32))), oi (1 : Int32)] [] _
            refine XS.iload X144.here hx rfl (hb hby at_418) rfl ?_
            show oS p e below T144 m 420 #[oi p0, oi p1, oi cp, oi (p1.toInt8.toInt32), oa b103, oi (2 : Int32), oi (2 : Int32), oi b0, oi b1, oi b2, oi b3, oi (((b0 &&& (31 : Int32)) <<< ((6 : Int32) &&& 31)) ||| (b1 &&& (63 : Int32))), oi (1 : Int32)] [(.int (1 : Int32))] _
            exact retN X144 hx (t := .boolean) Bd.returns (by simp) (hb hby at_420) hr
          · show own_Q0 Z p0 p1 h0 n0 _ T144.heap _
            rw [eq144]
            exact ⟨rfl, N144⟩
        · skip
          by_cases hC : cp < (65536 : Int32)
          · skip
            have mhA := hA
            have mhB := hB
            have mhC := hC
            simp only [own_ltp, Int32.reduceToInt] at mhA mhB mhC
            obtain ⟨_, _, ⟨T153, L153, k153, n153⟩, -, X153, ⟨Lc153, hQ153, l153, y153, z153⟩, st153⟩ := Jvm.LawKit.callS X113 hx (y := (⟨"com/example/godwit/godwit/link/Utf8", "encode", "(I[B)I"⟩ : MethodName)) hown (mvT hZ (hw _ (List.mem_of_getElem? (i := 4) rfl))) (mvT hZ (hw _ (List.mem_of_getElem? (i := 5) rfl))) (mvT hZ (hw _ (List.mem_of_getElem? (i := 6) rfl))) (mvT hZ (hw _ (List.mem_of_getElem? (i := 7) rfl))) (by decide) (backOf (W := 0) (own_rm1C l Z av hw [] cp b103 k103 (p1.toInt8.toInt32) h113 n0 Z113 V_114 g_b103 (hA) (hB) (hC)) hZ (hw _ (List.mem_of_getElem? (i := 7) rfl)) (hw _ (List.mem_of_getElem? (i := 6) rfl)) (by decide) (by decide)) (g := (mkF m 58 #[oi p0, oi p1, oi cp, oi (p1.toInt8.toInt32), oa b103, .unset, .unset, .unset, .unset, .unset, .unset, .unset, .unset] [(.ref b103), (.int cp)])) rfl (by rw [hml]; rfl) (argsL := [(.int cp), (.ref b103)]) (rest := []) (lenOf own_pd0 rfl) rfl (by show 2 * 0 + _ ≤ _; exact Nat.le_of_eq rfl) (hb hby at_58) (fun _ _ => ⟨rfl, e113, (by decide : 1 + 0 ≤ _), (by decide : 5 + 0 ≤ _)⟩)
            dsimp only [Pt.U, Pt.locs, Pt.cells, Pt.slots] at X153 l153 y153 z153 st153 hQ153
            have yq153 : k153 = 1 := y153
            have zq153 : n153 = 5 := z153
            subst yq153 zq153
            obtain ⟨rfl, Nq153, Kq153, Oq153_0⟩ := hQ153
            have N153 : Fr n0 L153 := by rw [l153]; exact Fr.app N113 Nq153
            have Z153 : n0 ≤ T153.heap.size := Nat.le_trans Z113 Kq153.1
            have b154 : ¬ (cp < (128 : Int32)) := hA
            have b155 : ¬ (cp < (2048 : Int32)) := hB
            have b156 : cp < (65536 : Int32) := hC
            have b157 : (3 : Int32) = (3 : Int32) := (by decide)
            have pre158 : ∀ t, Steps p.tables e below (T153.setTop (mkF m 115 #[oi p0, oi p1, oi cp, oi (p1.toInt8.toInt32), oa b103, oi (3 : Int32), oi (3 : Int32), .unset, .unset, .unset, .unset, .unset, .unset] [(.int ((((224 : Int32) ||| (cp >>> ((12 : Int32) &&& 31))).toInt8.toInt32) &&& (255 : Int32)))])) t → Steps p.tables e below (s₁.setTop (entryFrame m #[(.int p0), (.int p1)] maxLocals)) t := by
              intro t k
              refine pre115 t ?_
              show oS p e below T113 m 58 #[oi p0, oi p1, oi cp, oi (p1.toInt8.toInt32), oa b103, .unset, .unset, .unset, .unset, .unset, .unset, .unset, .unset] [(.ref b103), (.int cp)] _
              refine st153 _ ?_
              show oS p e below T153 m 61 #[oi p0, oi p1, oi cp, oi (p1.toInt8.toInt32), oa b103, .unset, .unset, .unset, .unset, .unset, .unset, .unset, .unset] [(.int (3 : Int32))] _
              refine XS.istore X153.here hx rfl (hb hby at_61) rfl (l' := #[oi p0, oi p1, oi cp, oi (p1.toInt8.toInt32), oa b103, oi (3 : Int32), .unset, .unset, .unset, .unset, .unset, .unset, .unset]) rfl ?_
              show oS p e below T153 m 63 #[oi p0, oi p1, oi cp, oi (p1.toInt8.toInt32), oa b103, oi (3 : Int32), .unset, .unset, .unset, .unset, .unset, .unset, .unset] [] _
              refine XS.iloadN X153.here hx rfl (hb hby at_63) rfl ?_
              show oS p e below T153 m 64 #[oi p0, oi p1, oi cp, oi (p1.toInt8.toInt32), oa b103, oi (3 : Int32), .unset, .unset, .unset, .unset, .unset, .unset, .unset] [(.int cp)] _
              refine XS.sipush X153.here hx rfl (hb hby at_64) ?_
              show oS p e below T153 m 67 #[oi p0, oi p1, oi cp, oi (p1.toInt8.toInt32), oa b103, oi (3 : Int32), .unset, .unset, .unset, .unset, .unset, .unset, .unset] [(.int (128 : Int32)), (.int cp)] _
              refine XS.icmpYes X153.here hx rfl (pc0 := 67) (pc' := 74) rfl (hb hby at_67) rfl (flt b154).2.1 (by decide) (by decide) ?_
              show oS p e below T153 m 74 #[oi p0, oi p1, oi cp, oi (p1.toInt8.toInt32), oa b103, oi (3 : Int32), .unset, .unset, .unset, .unset, .unset, .unset, .unset] [] _
              refine XS.iloadN X153.here hx rfl (hb hby at_74) rfl ?_
              show oS p e below T153 m 75 #[oi p0, oi p1, oi cp, oi (p1.toInt8.toInt32), oa b103, oi (3 : Int32), .unset, .unset, .unset, .unset, .unset, .unset, .unset] [(.int cp)] _
              refine XS.sipush X153.here hx rfl (hb hby at_75) ?_
              show oS p e below T153 m 78 #[oi p0, oi p1, oi cp, oi (p1.toInt8.toInt32), oa b103, oi (3 : Int32), .unset, .unset, .unset, .unset, .unset, .unset, .unset] [(.int (2048 : Int32)), (.int cp)] _
              refine XS.icmpYes X153.here hx rfl (pc0 := 78) (pc' := 85) rfl (hb hby at_78) rfl (flt b155).2.1 (by decide) (by decide) ?_
              show oS p e below T153 m 85 #[oi p0, oi p1, oi cp, oi (p1.toInt8.toInt32), oa b103, oi (3 : Int32), .unset, .unset, .unset, .unset, .unset, .unset, .unset] [] _
              refine XS.iloadN X153.here hx rfl (hb hby at_85) rfl ?_
              show oS p e below T153 m 86 #[oi p0, oi p1, oi cp, oi (p1.toInt8.toInt32), oa b103, oi (3 : Int32), .unset, .unset, .unset, .unset, .unset, .unset, .unset] [(.int cp)] _
              refine X153.ldcInt hx hown (mvT hZ (hw _ (List.mem_of_getElem? (i := 10) rfl))) (g := (mkF m 86 #[oi p0, oi p1, oi cp, oi (p1.toInt8.toInt32), oa b103, oi (3 : Int32), .unset, .unset, .unset, .unset, .unset, .unset, .unset] [(.int cp)])) rfl (hb hby at_86) _ ?_
              show oS p e below T153 m 88 #[oi p0, oi p1, oi cp, oi (p1.toInt8.toInt32), oa b103, oi (3 : Int32), .unset, .unset, .unset, .unset, .unset, .unset, .unset] [(.int (65536 : Int32)), (.int cp)] _
              refine XS.icmpNo X153.here hx rfl (hb hby at_88) rfl (tlt b156).2.1 ?_
              show oS p e below T153 m 91 #[oi p0, oi p1, oi cp, oi (p1.toInt8.toInt32), oa b103, oi (3 : Int32), .unset, .unset, .unset, .unset, .unset, .unset, .unset] [] _
              refine XS.iconst X153.here hx rfl (hb hby at_91) ?_
              show oS p e below T153 m 92 #[oi p0, oi p1, oi cp, oi (p1.toInt8.toInt32), oa b103, oi (3 : Int32), .unset, .unset, .unset, .unset, .unset, .unset, .unset] [(.int (3 : Int32))] _
              refine XS.goto X153.here hx rfl (pc0 := 92) (pc' := 96) rfl (hb hby at_92) (by decide) (by decide) ?_
              show oS p e below T153 m 96 #[oi p0, oi p1, oi cp, oi (p1.toInt8.toInt32), oa b103, oi (3 : Int32), .unset, .unset, .unset, .unset, .unset, .unset, .unset] [(.int (3 : Int32))] _
              refine XS.istore X153.here hx rfl (hb hby at_96) rfl (l' := #[oi p0, oi p1, oi cp, oi (p1.toInt8.toInt32), oa b103, oi (3 : Int32), oi (3 : Int32), .unset, .unset, .unset, .unset, .unset, .unset]) rfl ?_
              show oS p e below T153 m 98 #[oi p0, oi p1, oi cp, oi (p1.toInt8.toInt32), oa b103, oi (3 : Int32), oi (3 : Int32), .unset, .unset, .unset, .unset, .unset, .unset] [] _
              refine XS.iload X153.here hx rfl (hb hby at_98) rfl ?_
              show oS p e below T153 m 100 #[oi p0, oi p1, oi cp, oi (p1.toInt8.toInt32), oa b103, oi (3 : Int32), oi (3 : Int32), .unset, .unset, .unset, .unset, .unset, .unset] [(.int (3 : Int32))] _
              refine XS.iload X153.here hx rfl (hb hby at_100) rfl ?_
              show oS p e below T153 m 102 #[oi p0, oi p1, oi cp, oi (p1.toInt8.toInt32), oa b103, oi (3 : Int32), oi (3 : Int32), .unset, .unset, .unset, .unset, .unset, .unset] [(.int (3 : Int32)), (.int (3 : Int32))] _
              refine XS.icmpYes X153.here hx rfl (pc0 := 102) (pc' := 107) rfl (hb hby at_102) rfl (teq b157).1 (by decide) (by decide) ?_
              show oS p e below T153 m 107 #[oi p0, oi p1, oi cp, oi (p1.toInt8.toInt32), oa b103, oi (3 : Int32), oi (3 : Int32), .unset, .unset, .unset, .unset, .unset, .unset] [] _
              refine XS.aload X153.here hx rfl (hb hby at_107) rfl rfl ?_
              show oS p e below T153 m 109 #[oi p0, oi p1, oi cp, oi (p1.toInt8.toInt32), oa b103, oi (3 : Int32), oi (3 : Int32), .unset, .unset, .unset, .unset, .unset, .unset] [(.ref b103)] _
              refine XS.iconst X153.here hx rfl (hb hby at_109) ?_
              show oS p e below T153 m 110 #[oi p0, oi p1, oi cp, oi (p1.toInt8.toInt32), oa b103, oi (3 : Int32), oi (3 : Int32), .unset, .unset, .unset, .unset, .unset, .unset] [(.int (0 : Int32)), (.ref b103)] _
              refine oLdB X153 hx hZ rfl Oq153_0 (v := (.int (((224 : Int32) ||| (cp >>> ((12 : Int32) &&& 31))).toInt8.toInt32))) ⟨by decide, by decide⟩ rfl (hb hby at_110) ?_
              show oS p e below T153 m 111 #[oi p0, oi p1, oi cp, oi (p1.toInt8.toInt32), oa b103, oi (3 : Int32), oi (3 : Int32), .unset, .unset, .unset, .unset, .unset, .unset] [(.int (((224 : Int32) ||| (cp >>> ((12 : Int32) &&& 31))).toInt8.toInt32))] _
              refine XS.sipush X153.here hx rfl (hb hby at_111) ?_
              show oS p e below T153 m 114 #[oi p0, oi p1, oi cp, oi (p1.toInt8.toInt32), oa b103, oi (3 : Int32), oi (3 : Int32), .unset, .unset, .unset, .unset, .unset, .unset] [(.int (255 : Int32)), (.int (((224 : Int32) ||| (cp >>> ((12 : Int32) &&& 31))).toInt8.toInt32))] _
              refine XS.iand X153.here hx rfl (hb hby at_114) rfl ?_
              exact k
            obtain ⟨b0, hb0⟩ : ∃ z : Int32, z = ((((224 : Int32) ||| (cp >>> ((12 : Int32) &&& 31))).toInt8.toInt32) &&& (255 : Int32)) := ⟨_, rfl⟩
            rw [← hb0] at pre158
            have e0 : b0.toInt = 224 + cp.toInt / 4096 := by rw [hb0, own_lead _ _ (by decide) (by rw [own_s12]; omega) (by rw [own_s12, if_neg (by decide), if_pos rfl]; omega), own_s12]; rfl
            have pre159 : ∀ t, Steps p.tables e below (T153.setTop (mkF m 125 #[oi p0, oi p1, oi cp, oi (p1.toInt8.toInt32), oa b103, oi (3 : Int32), oi (3 : Int32), oi b0, .unset, .unset, .unset, .unset, .unset] [(.int ((((128 : Int32) ||| ((cp >>> ((6 : Int32) &&& 31)) &&& (63 : Int32))).toInt8.toInt32) &&& (255 : Int32)))])) t → Steps p.tables e below (s₁.setTop (entryFrame m #[(.int p0), (.int p1)] maxLocals)) t := by
              intro t k
              refine pre158 t ?_
              show oS p e below T153 m 115 #[oi p0, oi p1, oi cp, oi (p1.toInt8.toInt32), oa b103, oi (3 : Int32), oi (3 : Int32), .unset, .unset, .unset, .unset, .unset, .unset] [(.int b0)] _
              refine XS.istore X153.here hx rfl (hb hby at_115) rfl (l' := #[oi p0, oi p1, oi cp, oi (p1.toInt8.toInt32), oa b103, oi (3 : Int32), oi (3 : Int32), oi b0, .unset, .unset, .unset, .unset, .unset]) rfl ?_
              show oS p e below T153 m 117 #[oi p0, oi p1, oi cp, oi (p1.toInt8.toInt32), oa b103, oi (3 : Int32), oi (3 : Int32), oi b0, .unset, .unset, .unset, .unset, .unset] [] _
              refine XS.aload X153.here hx rfl (hb hby at_117) rfl rfl ?_
              show oS p e below T153 m 119 #[oi p0, oi p1, oi cp, oi (p1.toInt8.toInt32), oa b103, oi (3 : Int32), oi (3 : Int32), oi b0, .unset, .unset, .unset, .unset, .unset] [(.ref b103)] _
              refine XS.iconst X153.here hx rfl (hb hby at_119) ?_
              show oS p e below T153 m 120 #[oi p0, oi p1, oi cp, oi (p1.toInt8.toInt32), oa b103, oi (3 : Int32), oi (3 : Int32), oi b0, .unset, .unset, .unset, .unset, .unset] [(.int (1 : Int32)), (.ref b103)] _
              refine oLdB X153 hx hZ rfl Oq153_0 (v := (.int (((128 : Int32) ||| ((cp >>> ((6 : Int32) &&& 31)) &&& (63 : Int32))).toInt8.toInt32))) ⟨by decide, by decide⟩ rfl (hb hby at_120) ?_
              show oS p e below T153 m 121 #[oi p0, oi p1, oi cp, oi (p1.toInt8.toInt32), oa b103, oi (3 : Int32), oi (3 : Int32), oi b0, .unset, .unset, .unset, .unset, .unset] [(.int (((128 : Int32) ||| ((cp >>> ((6 : Int32) &&& 31)) &&& (63 : Int32))).toInt8.toInt32))] _
              refine XS.sipush X153.here hx rfl (hb hby at_121) ?_
              show oS p e below T153 m 124 #[oi p0, oi p1, oi cp, oi (p1.toInt8.toInt32), oa b103, oi (3 : Int32), oi (3 : Int32), oi b0, .unset, .unset, .unset, .unset, .unset] [(.int (255 : Int32)), (.int (((128 : Int32) ||| ((cp >>> ((6 : Int32) &&& 31)) &&& (63 : Int32))).toInt8.toInt32))] _
              refine XS.iand X153.here hx rfl (hb hby at_124) rfl ?_
              exact k
            obtain ⟨b1, hb1⟩ : ∃ z : Int32, z = ((((128 : Int32) ||| ((cp >>> ((6 : Int32) &&& 31)) &&& (63 : Int32))).toInt8.toInt32) &&& (255 : Int32)) := ⟨_, rfl⟩
            rw [← hb1] at pre159
            have e1 : b1.toInt = 128 + cp.toInt / 64 % 64 := by rw [hb1, own_cb, own_s6]
            have pre160 : ∀ t, Steps p.tables e below (T153.setTop (mkF m 135 #[oi p0, oi p1, oi cp, oi (p1.toInt8.toInt32), oa b103, oi (3 : Int32), oi (3 : Int32), oi b0, oi b1, .unset, .unset, .unset, .unset] [(.int ((((128 : Int32) ||| (cp &&& (63 : Int32))).toInt8.toInt32) &&& (255 : Int32)))])) t → Steps p.tables e below (s₁.setTop (entryFrame m #[(.int p0), (.int p1)] maxLocals)) t := by
              intro t k
              refine pre159 t ?_
              show oS p e below T153 m 125 #[oi p0, oi p1, oi cp, oi (p1.toInt8.toInt32), oa b103, oi (3 : Int32), oi (3 : Int32), oi b0, .unset, .unset, .unset, .unset, .unset] [(.int b1)] _
              refine XS.istore X153.here hx rfl (hb hby at_125) rfl (l' := #[oi p0, oi p1, oi cp, oi (p1.toInt8.toInt32), oa b103, oi (3 : Int32), oi (3 : Int32), oi b0, oi b1, .unset, .unset, .unset, .unset]) rfl ?_
              show oS p e below T153 m 127 #[oi p0, oi p1, oi cp, oi (p1.toInt8.toInt32), oa b103, oi (3 : Int32), oi (3 : Int32), oi b0, oi b1, .unset, .unset, .unset, .unset] [] _
              refine XS.aload X153.here hx rfl (hb hby at_127) rfl rfl ?_
              show oS p e below T153 m 129 #[oi p0, oi p1, oi cp, oi (p1.toInt8.toInt32), oa b103, oi (3 : Int32), oi (3 : Int32), oi b0, oi b1, .unset, .unset, .unset, .unset] [(.ref b103)] _
              refine XS.iconst X153.here hx rfl (hb hby at_129) ?_
              show oS p e below T153 m 130 #[oi p0, oi p1, oi cp, oi (p1.toInt8.toInt32), oa b103, oi (3 : Int32), oi (3 : Int32), oi b0, oi b1, .unset, .unset, .unset, .unset] [(.int (2 : Int32)), (.ref b103)] _
              refine oLdB X153 hx hZ rfl Oq153_0 (v := (.int (((128 : Int32) ||| (cp &&& (63 : Int32))).toInt8.toInt32))) ⟨by decide, by decide⟩ rfl (hb hby at_130) ?_
              show oS p e below T153 m 131 #[oi p0, oi p1, oi cp, oi (p1.toInt8.toInt32), oa b103, oi (3 : Int32), oi (3 : Int32), oi b0, oi b1, .unset, .unset, .unset, .unset] [(.int (((128 : Int32) ||| (cp &&& (63 : Int32))).toInt8.toInt32))] _
              refine XS.sipush X153.here hx rfl (hb hby at_131) ?_
              show oS p e below T153 m 134 #[oi p0, oi p1, oi cp, oi (p1.toInt8.toInt32), oa b103, oi (3 : Int32), oi (3 : Int32), oi b0, oi b1, .unset, .unset, .unset, .unset] [(.int (255 : Int32)), (.int (((128 : Int32) ||| (cp &&& (63 : Int32))).toInt8.toInt32))] _
              refine XS.iand X153.here hx rfl (hb hby at_134) rfl ?_
              exact k
            obtain ⟨b2, hb2⟩ : ∃ z : Int32, z = ((((128 : Int32) ||| (cp &&& (63 : Int32))).toInt8.toInt32) &&& (255 : Int32)) := ⟨_, rfl⟩
            rw [← hb2] at pre160
            have e2 : b2.toInt = 128 + cp.toInt % 64 := by rw [hb2, own_cb]
            have pre161 : ∀ t, Steps p.tables e below (T153.setTop (mkF m 145 #[oi p0, oi p1, oi cp, oi (p1.toInt8.toInt32), oa b103, oi (3 : Int32), oi (3 : Int32), oi b0, oi b1, oi b2, .unset, .unset, .unset] [(.int ((p1.toInt8.toInt32) &&& (255 : Int32)))])) t → Steps p.tables e below (s₁.setTop (entryFrame m #[(.int p0), (.int p1)] maxLocals)) t := by
              intro t k
              refine pre160 t ?_
              show oS p e below T153 m 135 #[oi p0, oi p1, oi cp, oi (p1.toInt8.toInt32), oa b103, oi (3 : Int32), oi (3 : Int32), oi b0, oi b1, .unset, .unset, .unset, .unset] [(.int b2)] _
              refine XS.istore X153.here hx rfl (hb hby at_135) rfl (l' := #[oi p0, oi p1, oi cp, oi (p1.toInt8.toInt32), oa b103, oi (3 : Int32), oi (3 : Int32), oi b0, oi b1, oi b2, .unset, .unset, .unset]) rfl ?_
              show oS p e below T153 m 137 #[oi p0, oi p1, oi cp, oi (p1.toInt8.toInt32), oa b103, oi (3 : Int32), oi (3 : Int32), oi b0, oi b1, oi b2, .unset, .unset, .unset] [] _
              refine XS.aload X153.here hx rfl (hb hby at_137) rfl rfl ?_
              show oS p e below T153 m 139 #[oi p0, oi p1, oi cp, oi (p1.toInt8.toInt32), oa b103, oi (3 : Int32), oi (3 : Int32), oi b0, oi b1, oi b2, .unset, .unset, .unset] [(.ref b103)] _
              refine XS.iconst X153.here hx rfl (hb hby at_139) ?_
              show oS p e below T153 m 140 #[oi p0, oi p1, oi cp, oi (p1.toInt8.toInt32), oa b103, oi (3 : Int32), oi (3 : Int32), oi b0, oi b1, oi b2, .unset, .unset, .unset] [(.int (3 : Int32)), (.ref b103)] _
              refine oLdB X153 hx hZ rfl Oq153_0 (v := (.int (p1.toInt8.toInt32))) ⟨by decide, by decide⟩ rfl (hb hby at_140) ?_
              show oS p e below T153 m 141 #[oi p0, oi p1, oi cp, oi (p1.toInt8.toInt32), oa b103, oi (3 : Int32), oi (3 : Int32), oi b0, oi b1, oi b2, .unset, .unset, .unset] [(.int (p1.toInt8.toInt32))] _
              refine XS.sipush X153.here hx rfl (hb hby at_141) ?_
              show oS p e below T153 m 144 #[oi p0, oi p1, oi cp, oi (p1.toInt8.toInt32), oa b103, oi (3 : Int32), oi (3 : Int32), oi b0, oi b1, oi b2, .unset, .unset, .unset] [(.int (255 : Int32)), (.int (p1.toInt8.toInt32))] _
              refine XS.iand X153.here hx rfl (hb hby at_144) rfl ?_
              exact k
            obtain ⟨b3, hb3⟩ : ∃ z : Int32, z = ((p1.toInt8.toInt32) &&& (255 : Int32)) := ⟨_, rfl⟩
            rw [← hb3] at pre161
            have b162 : ¬ ((3 : Int32) = (1 : Int32)) := (by decide)
            have b163 : ¬ ((3 : Int32) = (2 : Int32)) := (by decide)
            have b164 : (3 : Int32) = (3 : Int32) := (by decide)
            have b165 : (b0 &&& (240 : Int32)) = (224 : Int32) := own_h3 (by omega) (by omega)
            obtain ⟨_, _, ⟨T166, L166, k166, n166⟩, -, X166, ⟨Lc166, hQ166, l166, y166, z166⟩, st166⟩ := Jvm.LawKit.callS X153 hx (y := (⟨"com/example/godwit/godwit/link/Utf8EncodePinLaw", "cont", "(I)Z"⟩ : MethodName)) hown (mvT hZ (hw _ (List.mem_of_getElem? (i := 11) rfl))) (mvT hZ (hw _ (List.mem_of_getElem? (i := 12) rfl))) (mvT hZ (hw _ (List.mem_of_getElem? (i := 13) rfl))) (mvT hZ (hw _ (List.mem_of_getElem? (i := 14) rfl))) (by decide) (backOf (W := 0) (own_rm2 l Z av hw [] b1 T153.heap n0 Z153 ) hZ (hw _ (List.mem_of_getElem? (i := 14) rfl)) (hw _ (List.mem_of_getElem? (i := 13) rfl)) (by decide) (by decide)) (g := (mkF m 237 #[oi p0, oi p1, oi cp, oi (p1.toInt8.toInt32), oa b103, oi (3 : Int32), oi (3 : Int32), oi b0, oi b1, oi b2, oi b3, .unset, .unset] [(.int b1)])) rfl (by rw [hml]; rfl) (argsL := [(.int b1)]) (rest := []) (lenOf own_pd1 rfl) rfl (by show 2 * 0 + _ ≤ _; exact Nat.le_of_eq rfl) (hb hby at_237) (fun _ _ => ⟨rfl, rfl, (by decide : 1 + 0 ≤ _), (by decide : 5 + 0 ≤ _)⟩)
            dsimp only [Pt.U, Pt.locs, Pt.cells, Pt.slots] at X166 l166 y166 z166 st166 hQ166
            have yq166 : k166 = 1 := y166
            have zq166 : n166 = 5 := z166
            subst yq166 zq166
            obtain ⟨rfl, Nq166, eq166⟩ := hQ166
            have N166 : Fr n0 L166 := by rw [l166]; exact Fr.app N153 Nq166
            have b167 : ¬ ((own_f2 b1) = (0 : Int32)) := own_cont (by omega) (by omega)
            obtain ⟨_, _, ⟨T168, L168, k168, n168⟩, -, X168, ⟨Lc168, hQ168, l168, y168, z168⟩, st168⟩ := Jvm.LawKit.callS X166 hx (y := (⟨"com/example/godwit/godwit/link/Utf8EncodePinLaw", "cont", "(I)Z"⟩ : MethodName)) hown (mvT hZ (hw _ (List.mem_of_getElem? (i := 11) rfl))) (mvT hZ (hw _ (List.mem_of_getElem? (i := 12) rfl))) (mvT hZ (hw _ (List.mem_of_getElem? (i := 13) rfl))) (mvT hZ (hw _ (List.mem_of_getElem? (i := 14) rfl))) (by decide) (backOf (W := 0) (own_rm2 l Z av hw [] b2 T153.heap n0 Z153 ) hZ (hw _ (List.mem_of_getElem? (i := 14) rfl)) (hw _ (List.mem_of_getElem? (i := 13) rfl)) (by decide) (by decide)) (g := (mkF m 245 #[oi p0, oi p1, oi cp, oi (p1.toInt8.toInt32), oa b103, oi (3 : Int32), oi (3 : Int32), oi b0, oi b1, oi b2, oi b3, .unset, .unset] [(.int b2)])) rfl (by rw [hml]; rfl) (argsL := [(.int b2)]) (rest := []) (lenOf own_pd1 rfl) rfl (by show 2 * 0 + _ ≤ _; exact Nat.le_of_eq rfl) (hb hby at_245) (fun _ _ => ⟨rfl, eq166, (by decide : 1 + 0 ≤ _), (by decide : 5 + 0 ≤ _)⟩)
            dsimp only [Pt.U, Pt.locs, Pt.cells, Pt.slots] at X168 l168 y168 z168 st168 hQ168
            have yq168 : k168 = 1 := y168
            have zq168 : n168 = 5 := z168
            subst yq168 zq168
            obtain ⟨rfl, Nq168, eq168⟩ := hQ168
            have N168 : Fr n0 L168 := by rw [l168]; exact Fr.app N166 Nq168
            have b169 : ¬ ((own_f2 b2) = (0 : Int32)) := own_cont (by omega) (by omega)
            have b170 : ((((b0 &&& (15 : Int32)) <<< ((12 : Int32) &&& 31)) ||| ((b1 &&& (63 : Int32)) <<< ((6 : Int32) &&& 31))) ||| (b2 &&& (63 : Int32))) = cp := own_v3 e0 e1 e2 rc.1 (by omega)
            have b171 : (1 : Int32) < (3 : Int32) := (by decide)
            have b172 : (2 : Int32) < (3 : Int32) := (by decide)
            have b173 : ¬ ((3 : Int32) < (3 : Int32)) := (by decide)
            have b174 : (p1.toInt8.toInt32) = (p1.toInt8.toInt32) := rfl
            have b175 : (p1.toInt8.toInt32) = (p1.toInt8.toInt32) := rfl
            obtain ⟨fs, hr, hrun, hended, hW, hsame⟩ := X168.leave (v := (some (.int (1 : Int32)))) (fun h => by rw [Bd.returns] at h; cases h)
            refine ⟨_, _, pre161 _ ?_, hrun, hended, _, _, rfl, ?_, ⟨_, rfl⟩, hW, hsame.mono (by decide) (by decide)⟩
            · show oS p e below T153 m 145 #[oi p0, oi p1, oi cp, oi (p1.toInt8.toInt32), oa b103, oi (3 : Int32), oi (3 : Int32), oi b0, oi b1, oi b2, .unset, .unset, .unset] [(.int b3)] _
              refine XS.istore X153.here hx rfl (hb hby at_145) rfl (l' := #[oi p0, oi p1, oi cp, oi (p1.toInt8.toInt32), oa b103, oi (3 : Int32), oi (3 : Int32), oi b0, oi b1, oi b2, oi b3, .unset, .unset]) rfl ?_
              show oS p e below T153 m 147 #[oi p0, oi p1, oi cp, oi (p1.toInt8.toInt32), oa b103, oi (3 : Int32), oi (3 : Int32), oi b0, oi b1, oi b2, oi b3, .unset, .unset] [] _
              refine XS.iload X153.here hx rfl (hb hby at_147) rfl ?_
              show oS p e below T153 m 149 #[oi p0, oi p1, oi cp, oi (p1.toInt8.toInt32), oa b103, oi (3 : Int32), oi (3 : Int32), oi b0, oi b1, oi b2, oi b3, .unset, .unset] [(.int (3 : Int32))] _
              refine XS.iconst X153.here hx rfl (hb hby at_149) ?_
              show oS p e below T153 m 150 #[oi p0, oi p1, oi cp, oi (p1.toInt8.toInt32), oa b103, oi (3 : Int32), oi (3 : Int32), oi b0, oi b1, oi b2, oi b3, .unset, .unset] [(.int (1 : Int32)), (.int (3 : Int32))] _
              refine XS.icmpYes X153.here hx rfl (pc0 := 150) (pc' := 170) rfl (hb hby at_150) rfl (feq b162).2 (by decide) (by decide) ?_
              show oS p e below T153 m 170 #[oi p0, oi p1, oi cp, oi (p1.toInt8.toInt32), oa b103, oi (3 : Int32), oi (3 : Int32), oi b0, oi b1, oi b2, oi b3, .unset, .unset] [] _
              refine XS.iload X153.here hx rfl (hb hby at_170) rfl ?_
              show oS p e below T153 m 172 #[oi p0, oi p1, oi cp, oi (p1.toInt8.toInt32), oa b103, oi (3 : Int32), oi (3 : Int32), oi b0, oi b1, oi b2, oi b3, .unset, .unset] [(.int (3 : Int32))] _
              refine XS.iconst X153.here hx rfl (hb hby at_172) ?_
              show oS p e below T153 m 173 #[oi p0, oi p1, oi cp, oi (p1.toInt8.toInt32), oa b103, oi (3 : Int32), oi (3 : Int32), oi b0, oi b1, oi b2, oi b3, .unset, .unset] [(.int (2 : Int32)), (.int (3 : Int32))] _
              refine XS.icmpYes X153.here hx rfl (pc0 := 173) (pc' := 217) rfl (hb hby at_173) rfl (feq b163).2 (by decide) (by decide) ?_
              show oS p e below T153 m 217 #[oi p0, oi p1, oi cp, oi (p1.toInt8.toInt32), oa b103, oi (3 : Int32), oi (3 : Int32), oi b0, oi b1, oi b2, oi b3, .unset, .unset] [] _
              refine XS.iload X153.here hx rfl (hb hby at_217) rfl ?_
              show oS p e below T153 m 219 #[oi p0, oi p1, oi cp, oi (p1.toInt8.toInt32), oa b103, oi (3 : Int32), oi (3 : Int32), oi b0, oi b1, oi b2, oi b3, .unset, .unset] [(.int (3 : Int32))] _
              refine XS.iconst X153.here hx rfl (hb hby at_219) ?_
              show oS p e below T153 m 220 #[oi p0, oi p1, oi cp, oi (p1.toInt8.toInt32), oa b103, oi (3 : Int32), oi (3 : Int32), oi b0, oi b1, oi b2, oi b3, .unset, .unset] [(.int (3 : Int32)), (.int (3 : Int32))] _
              refine XS.icmpNo X153.here hx rfl (hb hby at_220) rfl (teq b164).2 ?_
              show oS p e below T153 m 223 #[oi p0, oi p1, oi cp, oi (p1.toInt8.toInt32), oa b103, oi (3 : Int32), oi (3 : Int32), oi b0, oi b1, oi b2, oi b3, .unset, .unset] [] _
              refine XS.iload X153.here hx rfl (hb hby at_223) rfl ?_
              show oS p e below T153 m 225 #[oi p0, oi p1, oi cp, oi (p1.toInt8.toInt32), oa b103, oi (3 : Int32), oi (3 : Int32), oi b0, oi b1, oi b2, oi b3, .unset, .unset] [(.int b0)] _
              refine XS.sipush X153.here hx rfl (hb hby at_225) ?_
              show oS p e below T153 m 228 #[oi p0, oi p1, oi cp, oi (p1.toInt8.toInt32), oa b103, oi (3 : Int32), oi (3 : Int32), oi b0, oi b1, oi b2, oi b3, .unset, .unset] [(.int (240 : Int32)), (.int b0)] _
              refine XS.iand X153.here hx rfl (hb hby at_228) rfl ?_
              show oS p e below T153 m 229 #[oi p0, oi p1, oi cp, oi (p1.toInt8.toInt32), oa b103, oi (3 : Int32), oi (3 : Int32), oi b0, oi b1, oi b2, oi b3, .unset, .unset] [(.int (b0 &&& (240 : Int32)))] _
              refine XS.sipush X153.here hx rfl (hb hby at_229) ?_
              show oS p e below T153 m 232 #[oi p0, oi p1, oi cp, oi (p1.toInt8.toInt32), oa b103, oi (3 : Int32), oi (3 : Int32), oi b0, oi b1, oi b2, oi b3, .unset, .unset] [(.int (224 : Int32)), (.int (b0 &&& (240 : Int32)))] _
              refine XS.icmpNo X153.here hx rfl (hb hby at_232) rfl (teq b165).2 ?_
              show oS p e below T153 m 235 #[oi p0, oi p1, oi cp, oi (p1.toInt8.toInt32), oa b103, oi (3 : Int32), oi (3 : Int32), oi b0, oi b1, oi b2, oi b3, .unset, .unset] [] _
              refine XS.iload X153.here hx rfl (hb hby at_235) rfl ?_
              show oS p e below T153 m 237 #[oi p0, oi p1, oi cp, oi (p1.toInt8.toInt32), oa b103, oi (3 : Int32), oi (3 : Int32), oi b0, oi b1, oi b2, oi b3, .unset, .unset] [(.int b1)] _
              refine st166 _ ?_
              show oS p e below T166 m 240 #[oi p0, oi p1, oi cp, oi (p1.toInt8.toInt32), oa b103, oi (3 : Int32), oi (3 : Int32), oi b0, oi b1, oi b2, oi b3, .unset, .unset] [(.int (own_f2 b1))] _
              refine XS.ifNo X166.here hx rfl (hb hby at_240) rfl ((if0 _ _).trans (feq b167).1) ?_
              show oS p e below T166 m 243 #[oi p0, oi p1, oi cp, oi (p1.toInt8.toInt32), oa b103, oi (3 : Int32), oi (3 : Int32), oi b0, oi b1, oi b2, oi b3, .unset, .unset] [] _
              refine XS.iload X166.here hx rfl (hb hby at_243) rfl ?_
              show oS p e below T166 m 245 #[oi p0, oi p1, oi cp, oi (p1.toInt8.toInt32), oa b103, oi (3 : Int32), oi (3 : Int32), oi b0, oi b1, oi b2, oi b3, .unset, .unset] [(.int b2)] _
              refine st168 _ ?_
              show oS p e below T168 m 248 #[oi p0, oi p1, oi cp, oi (p1.toInt8.toInt32), oa b103, oi (3 : Int32), oi (3 : Int32), oi b0, oi b1, oi b2, oi b3, .unset, .unset] [(.int (own_f2 b2))] _
              refine XS.ifYes X168.here hx rfl (pc0 := 248) (pc' := 253) rfl (hb hby at_248) rfl ((if0 _ _).trans (feq b169).2) (by decide) (by decide) ?_
              show oS p e below T168 m 253 #[oi p0, oi p1, oi cp, oi (p1.toInt8.toInt32), oa b103, oi (3 : Int32), oi (3 : Int32), oi b0, oi b1, oi b2, oi b3, .unset, .unset] [] _
              refine XS.iload X168.here hx rfl (hb hby at_253) rfl ?_
              show oS p e below T168 m 255 #[oi p0, oi p1, oi cp, oi (p1.toInt8.toInt32), oa b103, oi (3 : Int32), oi (3 : Int32), oi b0, oi b1, oi b2, oi b3, .unset, .unset] [(.int b0)] _
              refine XS.bipush X168.here hx rfl (hb hby at_255) ?_
              show oS p e below T168 m 257 #[oi p0, oi p1, oi cp, oi (p1.toInt8.toInt32), oa b103, oi (3 : Int32), oi (3 : Int32), oi b0, oi b1, oi b2, oi b3, .unset, .unset] [(.int (15 : Int32)), (.int b0)] _
              refine XS.iand X168.here hx rfl (hb hby at_257) rfl ?_
              show oS p e below T168 m 258 #[oi p0, oi p1, oi cp, oi (p1.toInt8.toInt32), oa b103, oi (3 : Int32), oi (3 : Int32), oi b0, oi b1, oi b2, oi b3, .unset, .unset] [(.int (b0 &&& (15 : Int32)))] _
              refine XS.bipush X168.here hx rfl (hb hby at_258) ?_
              show oS p e below T168 m 260 #[oi p0, oi p1, oi cp, oi (p1.toInt8.toInt32), oa b103, oi (3 : Int32), oi (3 : Int32), oi b0, oi b1, oi b2, oi b3, .unset, .unset] [(.int (12 : Int32)), (.int (b0 &&& (15 : Int32)))] _
              refine XS.ishl X168.here hx rfl (hb hby at_260) rfl ?_
              show oS p e below T168 m 261 #[oi p0, oi p1, oi cp, oi (p1.toInt8.toInt32), oa b103, oi (3 : Int32), oi (3 : Int32), oi b0, oi b1, oi b2, oi b3, .unset, .unset] [(.int ((b0 &&& (15 : Int32)) <<< ((12 : Int32) &&& 31)))] _
              refine XS.iload X168.here hx rfl (hb hby at_261) rfl ?_
              show oS p e below T168 m 263 #[oi p0, oi p1, oi cp, oi (p1.toInt8.toInt32), oa b103, oi (3 : Int32), oi (3 : Int32), oi b0, oi b1, oi b2, oi b3, .unset, .unset] [(.int b1), (.int ((b0 &&& (15 : Int32)) <<< ((12 : Int32) &&& 31)))] _
              refine XS.bipush X168.here hx rfl (hb hby at_263) ?_
              show oS p e below T168 m 265 #[oi p0, oi p1, oi cp, oi (p1.toInt8.toInt32), oa b103, oi (3 : Int32), oi (3 : Int32), oi b0, oi b1, oi b2, oi b3, .unset, .unset] [(.int (63 : Int32)), (.int b1), (.int ((b0 &&& (15 : Int32)) <<< ((12 : Int32) &&& 31)))] _
              refine XS.iand X168.here hx rfl (hb hby at_265) rfl ?_
              show oS p e below T168 m 266 #[oi p0, oi p1, oi cp, oi (p1.toInt8.toInt32), oa b103, oi (3 : Int32), oi (3 : Int32), oi b0, oi b1, oi b2, oi b3, .unset, .unset] [(.int (b1 &&& (63 : Int32))), (.int ((b0 &&& (15 : Int32)) <<< ((12 : Int32) &&& 31)))] _
              refine XS.bipush X168.here hx rfl (hb hby at_266) ?_
              show oS p e below T168 m 268 #[oi p0, oi p1, oi cp, oi (p1.toInt8.toInt32), oa b103, oi (3 : Int32), oi (3 : Int32), oi b0, oi b1, oi b2, oi b3, .unset, .unset] [(.int (6 : Int32)), (.int (b1 &&& (63 : Int32))), (.int ((b0 &&& (15 : Int32)) <<< ((12 : Int32) &&& 31)))] _
              refine XS.ishl X168.here hx rfl (hb hby at_268) rfl ?_
              show oS p e below T168 m 269 #[oi p0, oi p1, oi cp, oi (p1.toInt8.toInt32), oa b103, oi (3 : Int32), oi (3 : Int32), oi b0, oi b1, oi b2, oi b3, .unset, .unset] [(.int ((b1 &&& (63 : Int32)) <<< ((6 : Int32) &&& 31))), (.int ((b0 &&& (15 : Int32)) <<< ((12 : Int32) &&& 31)))] _
              refine XS.ior X168.here hx rfl (hb hby at_269) rfl ?_
              show oS p e below T168 m 270 #[oi p0, oi p1, oi cp, oi (p1.toInt8.toInt32), oa b103, oi (3 : Int32), oi (3 : Int32), oi b0, oi b1, oi b2, oi b3, .unset, .unset] [(.int (((b0 &&& (15 : Int32)) <<< ((12 : Int32) &&& 31)) ||| ((b1 &&& (63 : Int32)) <<< ((6 : Int32) &&& 31))))] _
              refine XS.iload X168.here hx rfl (hb hby at_270) rfl ?_
              show oS p e below T168 m 272 #[oi p0, oi p1, oi cp, oi (p1.toInt8.toInt32), oa b103, oi (3 : Int32), oi (3 : Int32), oi b0, oi b1, oi b2, oi b3, .unset, .unset] [(.int b2), (.int (((b0 &&& (15 : Int32)) <<< ((12 : Int32) &&& 31)) ||| ((b1 &&& (63 : Int32)) <<< ((6 : Int32) &&& 31))))] _
              refine XS.bipush X168.here hx rfl (hb hby at_272) ?_
              show oS p e below T168 m 274 #[oi p0, oi p1, oi cp, oi (p1.toInt8.toInt32), oa b103, oi (3 : Int32), oi (3 : Int32), oi b0, oi b1, oi b2, oi b3, .unset, .unset] [(.int (63 : Int32)), (.int b2), (.int (((b0 &&& (15 : Int32)) <<< ((12 : Int32) &&& 31)) ||| ((b1 &&& (63 : Int32)) <<< ((6 : Int32) &&& 31))))] _
              refine XS.iand X168.here hx rfl (hb hby at_274) rfl ?_
              show oS p e below T168 m 275 #[oi p0, oi p1, oi cp, oi (p1.toInt8.toInt32), oa b103, oi (3 : Int32), oi (3 : Int32), oi b0, oi b1, oi b2, oi b3, .unset, .unset] [(.int (b2 &&& (63 : Int32))), (.int (((b0 &&& (15 : Int32)) <<< ((12 : Int32) &&& 31)) ||| ((b1 &&& (63 : Int32)) <<< ((6 : Int32) &&& 31))))] _
              refine XS.ior X168.here hx rfl (hb hby at_275) rfl ?_
              show oS p e below T168 m 276 #[oi p0, oi p1, oi cp, oi (p1.toInt8.toInt32), oa b103, oi (3 : Int32), oi (3 : Int32), oi b0, oi b1, oi b2, oi b3, .unset, .unset] [(.int ((((b0 &&& (15 : Int32)) <<< ((12 : Int32) &&& 31)) ||| ((b1 &&& (63 : Int32)) <<< ((6 : Int32) &&& 31))) ||| (b2 &&& (63 : Int32))))] _
              refine XS.istore X168.here hx rfl (hb hby at_276) rfl (l' := #[oi p0, oi p1, oi cp, oi (p1.toInt8.toInt32), oa b103, oi (3 : Int32), oi (3 : Int32), oi b0, oi b1, oi b2, oi b3, oi ((((b0 &&& (15 : Int32)) <<< ((12 : Int32) &&& 31)) ||| ((b1 &&& (63 : Int32)) <<< ((6 : Int32) &&& 31))) ||| (b2 &&& (63 : Int32))), .unset]) rfl ?_
              show oS p e below T168 m 278 #[oi p0, oi p1, oi cp, oi (p1.toInt8.toInt32), oa b103, oi (3 : Int32), oi (3 : Int32), oi b0, oi b1, oi b2, oi b3, oi ((((b0 &&& (15 : Int32)) <<< ((12 : Int32) &&& 31)) ||| ((b1 &&& (63 : Int32)) <<< ((6 : Int32) &&& 31))) ||| (b2 &&& (63 : Int32))), .unset] [] _
              refine XS.goto X168.here hx rfl (pc0 := 278) (pc' := 353) rfl (hb hby at_278) (by decide) (by decide) ?_
              show oS p e below T168 m 353 #[oi p0, oi p1, oi cp, oi (p1.toInt8.toInt32), oa b103, oi (3 : Int32), oi (3 : Int32), oi b0, oi b1, oi b2, oi b3, oi ((((b0 &&& (15 : Int32)) <<< ((12 : Int32) &&& 31)) ||| ((b1 &&& (63 : Int32)) <<< ((6 : Int32) &&& 31))) ||| (b2 &&& (63 : Int32))), .unset] [] _
              refine XS.iload X168.here hx rfl (hb hby at_353) rfl ?_
              show oS p e below T168 m 355 #[oi p0, oi p1, oi cp, oi (p1.toInt8.toInt32), oa b103, oi (3 : Int32), oi (3 : Int32), oi b0, oi b1, oi b2, oi b3, oi ((((b0 &&& (15 : Int32)) <<< ((12 : Int32) &&& 31)) ||| ((b1 &&& (63 : Int32)) <<< ((6 : Int32) &&& 31))) ||| (b2 &&& (63 : Int32))), .unset] [(.int ((((b0 &&& (15 : Int32)) <<< ((12 : Int32) &&& 31)) ||| ((b1 &&& (63 : Int32)) <<< ((6 : Int32) &&& 31))) ||| (b2 &&& (63 : Int32))))] _
              refine XS.iloadN X168.here hx rfl (hb hby at_355) rfl ?_
              show oS p e below T168 m 356 #[oi p0, oi p1, oi cp, oi (p1.toInt8.toInt32), oa b103, oi (3 : Int32), oi (3 : Int32), oi b0, oi b1, oi b2, oi b3, oi ((((b0 &&& (15 : Int32)) <<< ((12 : Int32) &&& 31)) ||| ((b1 &&& (63 : Int32)) <<< ((6 : Int32) &&& 31))) ||| (b2 &&& (63 : Int32))), .unset] [(.int cp), (.int ((((b0 &&& (15 : Int32)) <<< ((12 : Int32) &&& 31)) ||| ((b1 &&& (63 : Int32)) <<< ((6 : Int32) &&& 31))) ||| (b2 &&& (63 : Int32))))] _
              refine XS.icmpYes X168.here hx rfl (pc0 := 356) (pc' := 361) rfl (hb hby at_356) rfl (teq b170).1 (by decide) (by decide) ?_
              show oS p e below T168 m 361 #[oi p0, oi p1, oi cp, oi (p1.toInt8.toInt32), oa b103, oi (3 : Int32), oi (3 : Int32), oi b0, oi b1, oi b2, oi b3, oi ((((b0 &&& (15 : Int32)) <<< ((12 : Int32) &&& 31)) ||| ((b1 &&& (63 : Int32)) <<< ((6 : Int32) &&& 31))) ||| (b2 &&& (63 : Int32))), .unset] [] _
              refine XS.iload X168.here hx rfl (hb hby at_361) rfl ?_
              show oS p e below T168 m 363 #[oi p0, oi p1, oi cp, oi (p1.toInt8.toInt32), oa b103, oi (3 : Int32), oi (3 : Int32), oi b0, oi b1, oi b2, oi b3, oi ((((b0 &&& (15 : Int32)) <<< ((12 : Int32) &&& 31)) ||| ((b1 &&& (63 : Int32)) <<< ((6 : Int32) &&& 31))) ||| (b2 &&& (63 : Int32))), .unset] [(.int (3 : Int32))] _
              refine XS.iconst X168.here hx rfl (hb hby at_363) ?_
              show oS p e below T168 m 364 #[oi p0, oi p1, oi cp, oi (p1.toInt8.toInt32), oa b103, oi (3 : Int32), oi (3 : Int32), oi b0, oi b1, oi b2, oi b3, oi ((((b0 &&& (15 : Int32)) <<< ((12 : Int32) &&& 31)) ||| ((b1 &&& (63 : Int32)) <<< ((6 : Int32) &&& 31))) ||| (b2 &&& (63 : Int32))), .unset] [(.int (1 : Int32)), (.int (3 : Int32))] _
              refine XS.icmpYes X168.here hx rfl (pc0 := 364) (pc' := 375) rfl (hb hby at_364) rfl (tlt b171).2.2.1 (by decide) (by decide) ?_
              show oS p e below T168 m 375 #[oi p0, oi p1, oi cp, oi (p1.toInt8.toInt32), oa b103, oi (3 : Int32), oi (3 : Int32), oi b0, oi b1, oi b2, oi b3, oi ((((b0 &&& (15 : Int32)) <<< ((12 : Int32) &&& 31)) ||| ((b1 &&& (63 : Int32)) <<< ((6 : Int32) &&& 31))) ||| (b2 &&& (63 : Int32))), .unset] [] _
              refine XS.iload X168.here hx rfl (hb hby at_375) rfl ?_
              show oS p e below T168 m 377 #[oi p0, oi p1, oi cp, oi (p1.toInt8.toInt32), oa b103, oi (3 : Int32), oi (3 : Int32), oi b0, oi b1, oi b2, oi b3, oi ((((b0 &&& (15 : Int32)) <<< ((12 : Int32) &&& 31)) ||| ((b1 &&& (63 : Int32)) <<< ((6 : Int32) &&& 31))) ||| (b2 &&& (63 : Int32))), .unset] [(.int (3 : Int32))] _
              refine XS.iconst X168.here hx rfl (hb hby at_377) ?_
              show oS p e below T168 m 378 #[oi p0, oi p1, oi cp, oi (p1.toInt8.toInt32), oa b103, oi (3 : Int32), oi (3 : Int32), oi b0, oi b1, oi b2, oi b3, oi ((((b0 &&& (15 : Int32)) <<< ((12 : Int32) &&& 31)) ||| ((b1 &&& (63 : Int32)) <<< ((6 : Int32) &&& 31))) ||| (b2 &&& (63 : Int32))), .unset] [(.int (2 : Int32)), (.int (3 : Int32))] _
              refine XS.icmpYes X168.here hx rfl (pc0 := 378) (pc' := 389) rfl (hb hby at_378) rfl (tlt b172).2.2.1 (by decide) (by decide) ?_
              show oS p e below T168 m 389 #[oi p0, oi p1, oi cp, oi (p1.toInt8.toInt32), oa b103, oi (3 : Int32), oi (3 : Int32), oi b0, oi b1, oi b2, oi b3, oi ((((b0 &&& (15 : Int32)) <<< ((12 : Int32) &&& 31)) ||| ((b1 &&& (63 : Int32)) <<< ((6 : Int32) &&& 31))) ||| (b2 &&& (63 : Int32))), .unset] [] _
              refine XS.iload X168.here hx rfl (hb hby at_389) rfl ?_
              show oS p e below T168 m 391 #[oi p0, oi p1, oi cp, oi (p1.toInt8.toInt32), oa b103, oi (3 : Int32), oi (3 : Int32), oi b0, oi b1, oi b2, oi b3, oi ((((b0 &&& (15 : Int32)) <<< ((12 : Int32) &&& 31)) ||| ((b1 &&& (63 : Int32)) <<< ((6 : Int32) &&& 31))) ||| (b2 &&& (63 : Int32))), .unset] [(.int (3 : Int32))] _
              refine XS.iconst X168.here hx rfl (hb hby at_391) ?_
              show oS p e below T168 m 392 #[oi p0, oi p1, oi cp, oi (p1.toInt8.toInt32), oa b103, oi (3 : Int32), oi (3 : Int32), oi b0, oi b1, oi b2, oi b3, oi ((((b0 &&& (15 : Int32)) <<< ((12 : Int32) &&& 31)) ||| ((b1 &&& (63 : Int32)) <<< ((6 : Int32) &&& 31))) ||| (b2 &&& (63 : Int32))), .unset] [(.int (3 : Int32)), (.int (3 : Int32))] _
              refine XS.icmpNo X168.here hx rfl (hb hby at_392) rfl (flt b173).2.2.1 ?_
              show oS p e below T168 m 395 #[oi p0, oi p1, oi cp, oi (p1.toInt8.toInt32), oa b103, oi (3 : Int32), oi (3 : Int32), oi b0, oi b1, oi b2, oi b3, oi ((((b0 &&& (15 : Int32)) <<< ((12 : Int32) &&& 31)) ||| ((b1 &&& (63 : Int32)) <<< ((6 : Int32) &&& 31))) ||| (b2 &&& (63 : Int32))), .unset] [] _
              refine XS.aload X168.here hx rfl (hb hby at_395) rfl rfl ?_
              show oS p e below T168 m 397 #[oi p0, oi p1, oi cp, oi (p1.toInt8.toInt32), oa b103, oi (3 : Int32), oi (3 : Int32), oi b0, oi b1, oi b2, oi b3, oi ((((b0 &&& (15 : Int32)) <<< ((12 : Int32) &&& 31)) ||| ((b1 &&& (63 : Int32)) <<< ((6 : Int32) &&& 31))) ||| (b2 &&& (63 : Int32))), .unset] [(.ref b103)] _
              refine XS.iconst X168.here hx rfl (hb hby at_397) ?_
              show oS p e below T168 m 398 #[oi p0, oi p1, oi cp, oi (p1.toInt8.toInt32), oa b103, oi (3 : Int32), oi (3 : Int32), oi b0, oi b1, oi b2, oi b3, oi ((((b0 &&& (15 : Int32)) <<< ((12 : Int32) &&& 31)) ||| ((b1 &&& (63 : Int32)) <<< ((6 : Int32) &&& 31))) ||| (b2 &&& (63 : Int32))), .unset] [(.int (3 : Int32)), (.ref b103)] _
              refine oLdB X168 hx hZ eq168 Oq153_0 (v := (.int (p1.toInt8.toInt32))) ⟨by decide, by decide⟩ rfl (hb hby at_398) ?_
              show oS p e below T168 m 399 #[oi p0, oi p1, oi cp, oi (p1.toInt8.toInt32), oa b103, oi (3 : Int32), oi (3 : Int32), oi b0, oi b1, oi b2, oi b3, oi ((((b0 &&& (15 : Int32)) <<< ((12 : Int32) &&& 31)) ||| ((b1 &&& (63 : Int32)) <<< ((6 : Int32) &&& 31))) ||| (b2 &&& (63 : Int32))), .unset] [(.int (p1.toInt8.toInt32))] _
              refine XS.iloadN X168.here hx rfl (hb hby at_399) rfl ?_
              show oS p e below T168 m 400 #[oi p0, oi p1, oi cp, oi (p1.toInt8.toInt32), oa b103, oi (3 : Int32), oi (3 : Int32), oi b0, oi b1, oi b2, oi b3, oi ((((b0 &&& (15 : Int32)) <<< ((12 : Int32) &&& 31)) ||| ((b1 &&& (63 : Int32)) <<< ((6 : Int32) &&& 31))) ||| (b2 &&& (63 : Int32))), .unset] [(.int (p1.toInt8.toInt32)), (.int (p1.toInt8.toInt32))] _
              refine XS.icmpNo X168.here hx rfl (hb hby at_400) rfl (teq b174).2 ?_
              show oS p e below T168 m 403 #[oi p0, oi p1, oi cp, oi (p1.toInt8.toInt32), oa b103, oi (3 : Int32), oi (3 : Int32), oi b0, oi b1, oi b2, oi b3, oi ((((b0 &&& (15 : Int32)) <<< ((12 : Int32) &&& 31)) ||| ((b1 &&& (63 : Int32)) <<< ((6 : Int32) &&& 31))) ||| (b2 &&& (63 : Int32))), .unset] [] _
              refine XS.aload X168.here hx rfl (hb hby at_403) rfl rfl ?_
              show oS p e below T168 m 405 #[oi p0, oi p1, oi cp, oi (p1.toInt8.toInt32), oa b103, oi (3 : Int32), oi (3 : Int32), oi b0, oi b1, oi b2, oi b3, oi ((((b0 &&& (15 : Int32)) <<< ((12 : Int32) &&& 31)) ||| ((b1 &&& (63 : Int32)) <<< ((6 : Int32) &&& 31))) ||| (b2 &&& (63 : Int32))), .unset] [(.ref b103)] _
              refine XS.iconst X168.here hx rfl (hb hby at_405) ?_
              show oS p e below T168 m 406 #[oi p0, oi p1, oi cp, oi (p1.toInt8.toInt32), oa b103, oi (3 : Int32), oi (3 : Int32), oi b0, oi b1, oi b2, oi b3, oi ((((b0 &&& (15 : Int32)) <<< ((12 : Int32) &&& 31)) ||| ((b1 &&& (63 : Int32)) <<< ((6 : Int32) &&& 31))) ||| (b2 &&& (63 : Int32))), .unset] [(.int (4 : Int32)), (.ref b103)] _
              refine oLdB X168 hx hZ eq168 Oq153_0 (v := (.int (p1.toInt8.toInt32))) ⟨by decide, by decide⟩ rfl (hb hby at_406) ?_
              show oS p e below T168 m 407 #[oi p0, oi p1, oi cp, oi (p1.toInt8.toInt32), oa b103, oi (3 : Int32), oi (3 : Int32), oi b0, oi b1, oi b2, oi b3, oi ((((b0 &&& (15 : Int32)) <<< ((12 : Int32) &&& 31)) ||| ((b1 &&& (63 : Int32)) <<< ((6 : Int32) &&& 31))) ||| (b2 &&& (63 : Int32))), .unset] [(.int (p1.toInt8.toInt32))] _
              refine XS.iloadN X168.here hx rfl (hb hby at_407) rfl ?_
              show oS p e below T168 m 408 #[oi p0, oi p1, oi cp, oi (p1.toInt8.toInt32), oa b103, oi (3 : Int32), oi (3 : Int32), oi b0, oi b1, oi b2, oi b3, oi ((((b0 &&& (15 : Int32)) <<< ((12 : Int32) &&& 31)) ||| ((b1 &&& (63 : Int32)) <<< ((6 : Int32) &&& 31))) ||| (b2 &&& (63 : Int32))), .unset] [(.int (p1.toInt8.toInt32)), (.int (p1.toInt8.toInt32))] _
              refine XS.icmpNo X168.here hx rfl (hb hby at_408) rfl (teq b175).2 ?_
              show oS p e below T168 m 411 #[oi p0, oi p1, oi cp, oi (p1.toInt8.toInt32), oa b103, oi (3 : Int32), oi (3 : Int32), oi b0, oi b1, oi b2, oi b3, oi ((((b0 &&& (15 : Int32)) <<< ((12 : Int32) &&& 31)) ||| ((b1 &&& (63 : Int32)) <<< ((6 : Int32) &&& 31))) ||| (b2 &&& (63 : Int32))), .unset] [] _
              refine XS.iconst X168.here hx rfl (hb hby at_411) ?_
              show oS p e below T168 m 412 #[oi p0, oi p1, oi cp, oi (p1.toInt8.toInt32), oa b103, oi (3 : Int32), oi (3 : Int32), oi b0, oi b1, oi b2, oi b3, oi ((((b0 &&& (15 : Int32)) <<< ((12 : Int32) &&& 31)) ||| ((b1 &&& (63 : Int32)) <<< ((6 : Int32) &&& 31))) ||| (b2 &&& (63 : Int32))), .unset] [(.int (1 : Int32))] _
              refine XS.goto X168.here hx rfl (pc0 := 412) (pc' := 416) rfl (hb hby at_412) (by decide) (by decide) ?_
              show oS p e below T168 m 416 #[oi p0, oi p1, oi cp, oi (p1.toInt8.toInt32), oa b103, oi (3 : Int32), oi (3 : Int32), oi b0, oi b1, oi b2, oi b3, oi ((((b0 &&& (15 : Int32)) <<< ((12 : Int32) &&& 31)) ||| ((b1 &&& (63 : Int32)) <<< ((6 : Int32) &&& 31))) ||| (b2 &&& (63 : Int32))), .unset] [(.int (1 : Int32))] _
              refine XS.istore X168.here hx rfl (hb hby at_416) rfl (l' := #[oi p0, oi p1, oi cp, oi (p1.toInt8.toInt32), oa b103, oi (3 : Int32), oi (3 : Int32), oi b0, oi b1, oi b2, oi b3, oi ((((b0 &&& (15 : Int32)) <<< ((12 : Int32) &&& 31)) ||| ((b1 &&& (63 : Int32)) <<< ((6 : Int32) &&& 31))) ||| (b2 &&& (63 : Int32))), oi (1 : Int32)]) rfl ?_
              show oS p e below T168 m 418 #[oi p0, oi p1, oi cp, oi (p1.toInt8.toInt32), oa b103, oi (3 : Int32), oi (3 : Int32), oi b0, oi b1, oi b2, oi b3, oi ((((b0 &&& (15 : Int32)) <<< ((12 : Int32) &&& 31)) ||| ((b1 &&& (63 : Int32)) <<< ((6 : Int32) &&& 31))) ||| (b2 &&& (63 : Int32))), oi (1 : Int32)] [] _
              refine XS.iload X168.here hx rfl (hb hby at_418) rfl ?_
              show oS p e below T168 m 420 #[oi p0, oi p1, oi cp, oi (p1.toInt8.toInt32), oa b103, oi (3 : Int32), oi (3 : Int32), oi b0, oi b1, oi b2, oi b3, oi ((((b0 &&& (15 : Int32)) <<< ((12 : Int32) &&& 31)) ||| ((b1 &&& (63 : Int32)) <<< ((6 : Int32) &&& 31))) ||| (b2 &&& (63 : Int32))), oi (1 : Int32)] [(.int (1 : Int32))] _
              exact retN X168 hx (t := .boolean) Bd.returns (by simp) (hb hby at_420) hr
            · show own_Q0 Z p0 p1 h0 n0 _ T168.heap _
              rw [eq168]
              exact ⟨rfl, N168⟩
          · skip
            have mhA := hA
            have mhB := hB
            have mhC := hC
            simp only [own_ltp, Int32.reduceToInt] at mhA mhB mhC
            obtain ⟨_, _, ⟨T176, L176, k176, n176⟩, -, X176, ⟨Lc176, hQ176, l176, y176, z176⟩, st176⟩ := Jvm.LawKit.callS X113 hx (y := (⟨"com/example/godwit/godwit/link/Utf8", "encode", "(I[B)I"⟩ : MethodName)) hown (mvT hZ (hw _ (List.mem_of_getElem? (i := 4) rfl))) (mvT hZ (hw _ (List.mem_of_getElem? (i := 5) rfl))) (mvT hZ (hw _ (List.mem_of_getElem? (i := 6) rfl))) (mvT hZ (hw _ (List.mem_of_getElem? (i := 7) rfl))) (by decide) (backOf (W := 0) (own_rm1D l Z av hw [] cp b103 k103 (p1.toInt8.toInt32) h113 n0 Z113 V_114 g_b103 (hA) (hB) (hC)) hZ (hw _ (List.mem_of_getElem? (i := 7) rfl)) (hw _ (List.mem_of_getElem? (i := 6) rfl)) (by decide) (by decide)) (g := (mkF m 58 #[oi p0, oi p1, oi cp, oi (p1.toInt8.toInt32), oa b103, .unset, .unset, .unset, .unset, .unset, .unset, .unset, .unset] [(.ref b103), (.int cp)])) rfl (by rw [hml]; rfl) (argsL := [(.int cp), (.ref b103)]) (rest := []) (lenOf own_pd0 rfl) rfl (by show 2 * 0 + _ ≤ _; exact Nat.le_of_eq rfl) (hb hby at_58) (fun _ _ => ⟨rfl, e113, (by decide : 1 + 0 ≤ _), (by decide : 5 + 0 ≤ _)⟩)
            dsimp only [Pt.U, Pt.locs, Pt.cells, Pt.slots] at X176 l176 y176 z176 st176 hQ176
            have yq176 : k176 = 1 := y176
            have zq176 : n176 = 5 := z176
            subst yq176 zq176
            obtain ⟨rfl, Nq176, Kq176, Oq176_0⟩ := hQ176
            have N176 : Fr n0 L176 := by rw [l176]; exact Fr.app N113 Nq176
            have Z176 : n0 ≤ T176.heap.size := Nat.le_trans Z113 Kq176.1
            have b177 : ¬ (cp < (128 : Int32)) := hA
            have b178 : ¬ (cp < (2048 : Int32)) := hB
            have b179 : ¬ (cp < (65536 : Int32)) := hC
            have b180 : (4 : Int32) = (4 : Int32) := (by decide)
            have pre181 : ∀ t, Steps p.tables e below (T176.setTop (mkF m 115 #[oi p0, oi p1, oi cp, oi (p1.toInt8.toInt32), oa b103, oi (4 : Int32), oi (4 : Int32), .unset, .unset, .unset, .unset, .unset, .unset] [(.int ((((240 : Int32) ||| (cp >>> ((18 : Int32) &&& 31))).toInt8.toInt32) &&& (255 : Int32)))])) t → Steps p.tables e below (s₁.setTop (entryFrame m #[(.int p0), (.int p1)] maxLocals)) t := by
              intro t k
              refine pre115 t ?_
              show oS p e below T113 m 58 #[oi p0, oi p1, oi cp, oi (p1.toInt8.toInt32), oa b103, .unset, .unset, .unset, .unset, .unset, .unset, .unset, .unset] [(.ref b103), (.int cp)] _
              refine st176 _ ?_
              show oS p e below T176 m 61 #[oi p0, oi p1, oi cp, oi (p1.toInt8.toInt32), oa b103, .unset, .unset, .unset, .unset, .unset, .unset, .unset, .unset] [(.int (4 : Int32))] _
              refine XS.istore X176.here hx rfl (hb hby at_61) rfl (l' := #[oi p0, oi p1, oi cp, oi (p1.toInt8.toInt32), oa b103, oi (4 : Int32), .unset, .unset, .unset, .unset, .unset, .unset, .unset]) rfl ?_
              show oS p e below T176 m 63 #[oi p0, oi p1, oi cp, oi (p1.toInt8.toInt32), oa b103, oi (4 : Int32), .unset, .unset, .unset, .unset, .unset, .unset, .unset] [] _
              refine XS.iloadN X176.here hx rfl (hb hby at_63) rfl ?_
              show oS p e below T176 m 64 #[oi p0, oi p1, oi cp, oi (p1.toInt8.toInt32), oa b103, oi (4 : Int32), .unset, .unset, .unset, .unset, .unset, .unset, .unset] [(.int cp)] _
              refine XS.sipush X176.here hx rfl (hb hby at_64) ?_
              show oS p e below T176 m 67 #[oi p0, oi p1, oi cp, oi (p1.toInt8.toInt32), oa b103, oi (4 : Int32), .unset, .unset, .unset, .unset, .unset, .unset, .unset] [(.int (128 : Int32)), (.int cp)] _
              refine XS.icmpYes X176.here hx rfl (pc0 := 67) (pc' := 74) rfl (hb hby at_67) rfl (flt b177).2.1 (by decide) (by decide) ?_
              show oS p e below T176 m 74 #[oi p0, oi p1, oi cp, oi (p1.toInt8.toInt32), oa b103, oi (4 : Int32), .unset, .unset, .unset, .unset, .unset, .unset, .unset] [] _
              refine XS.iloadN X176.here hx rfl (hb hby at_74) rfl ?_
              show oS p e below T176 m 75 #[oi p0, oi p1, oi cp, oi (p1.toInt8.toInt32), oa b103, oi (4 : Int32), .unset, .unset, .unset, .unset, .unset, .unset, .unset] [(.int cp)] _
              refine XS.sipush X176.here hx rfl (hb hby at_75) ?_
              show oS p e below T176 m 78 #[oi p0, oi p1, oi cp, oi (p1.toInt8.toInt32), oa b103, oi (4 : Int32), .unset, .unset, .unset, .unset, .unset, .unset, .unset] [(.int (2048 : Int32)), (.int cp)] _
              refine XS.icmpYes X176.here hx rfl (pc0 := 78) (pc' := 85) rfl (hb hby at_78) rfl (flt b178).2.1 (by decide) (by decide) ?_
              show oS p e below T176 m 85 #[oi p0, oi p1, oi cp, oi (p1.toInt8.toInt32), oa b103, oi (4 : Int32), .unset, .unset, .unset, .unset, .unset, .unset, .unset] [] _
              refine XS.iloadN X176.here hx rfl (hb hby at_85) rfl ?_
              show oS p e below T176 m 86 #[oi p0, oi p1, oi cp, oi (p1.toInt8.toInt32), oa b103, oi (4 : Int32), .unset, .unset, .unset, .unset, .unset, .unset, .unset] [(.int cp)] _
              refine X176.ldcInt hx hown (mvT hZ (hw _ (List.mem_of_getElem? (i := 10) rfl))) (g := (mkF m 86 #[oi p0, oi p1, oi cp, oi (p1.toInt8.toInt32), oa b103, oi (4 : Int32), .unset, .unset, .unset, .unset, .unset, .unset, .unset] [(.int cp)])) rfl (hb hby at_86) _ ?_
              show oS p e below T176 m 88 #[oi p0, oi p1, oi cp, oi (p1.toInt8.toInt32), oa b103, oi (4 : Int32), .unset, .unset, .unset, .unset, .unset, .unset, .unset] [(.int (65536 : Int32)), (.int cp)] _
              refine XS.icmpYes X176.here hx rfl (pc0 := 88) (pc' := 95) rfl (hb hby at_88) rfl (flt b179).2.1 (by decide) (by decide) ?_
              show oS p e below T176 m 95 #[oi p0, oi p1, oi cp, oi (p1.toInt8.toInt32), oa b103, oi (4 : Int32), .unset, .unset, .unset, .unset, .unset, .unset, .unset] [] _
              refine XS.iconst X176.here hx rfl (hb hby at_95) ?_
              show oS p e below T176 m 96 #[oi p0, oi p1, oi cp, oi (p1.toInt8.toInt32), oa b103, oi (4 : Int32), .unset, .unset, .unset, .unset, .unset, .unset, .unset] [(.int (4 : Int32))] _
              refine XS.istore X176.here hx rfl (hb hby at_96) rfl (l' := #[oi p0, oi p1, oi cp, oi (p1.toInt8.toInt32), oa b103, oi (4 : Int32), oi (4 : Int32), .unset, .unset, .unset, .unset, .unset, .unset]) rfl ?_
              show oS p e below T176 m 98 #[oi p0, oi p1, oi cp, oi (p1.toInt8.toInt32), oa b103, oi (4 : Int32), oi (4 : Int32), .unset, .unset, .unset, .unset, .unset, .unset] [] _
              refine XS.iload X176.here hx rfl (hb hby at_98) rfl ?_
              show oS p e below T176 m 100 #[oi p0, oi p1, oi cp, oi (p1.toInt8.toInt32), oa b103, oi (4 : Int32), oi (4 : Int32), .unset, .unset, .unset, .unset, .unset, .unset] [(.int (4 : Int32))] _
              refine XS.iload X176.here hx rfl (hb hby at_100) rfl ?_
              show oS p e below T176 m 102 #[oi p0, oi p1, oi cp, oi (p1.toInt8.toInt32), oa b103, oi (4 : Int32), oi (4 : Int32), .unset, .unset, .unset, .unset, .unset, .unset] [(.int (4 : Int32)), (.int (4 : Int32))] _
              refine XS.icmpYes X176.here hx rfl (pc0 := 102) (pc' := 107) rfl (hb hby at_102) rfl (teq b180).1 (by decide) (by decide) ?_
              show oS p e below T176 m 107 #[oi p0, oi p1, oi cp, oi (p1.toInt8.toInt32), oa b103, oi (4 : Int32), oi (4 : Int32), .unset, .unset, .unset, .unset, .unset, .unset] [] _
              refine XS.aload X176.here hx rfl (hb hby at_107) rfl rfl ?_
              show oS p e below T176 m 109 #[oi p0, oi p1, oi cp, oi (p1.toInt8.toInt32), oa b103, oi (4 : Int32), oi (4 : Int32), .unset, .unset, .unset, .unset, .unset, .unset] [(.ref b103)] _
              refine XS.iconst X176.here hx rfl (hb hby at_109) ?_
              show oS p e below T176 m 110 #[oi p0, oi p1, oi cp, oi (p1.toInt8.toInt32), oa b103, oi (4 : Int32), oi (4 : Int32), .unset, .unset, .unset, .unset, .unset, .unset] [(.int (0 : Int32)), (.ref b103)] _
              refine oLdB X176 hx hZ rfl Oq176_0 (v := (.int (((240 : Int32) ||| (cp >>> ((18 : Int32) &&& 31))).toInt8.toInt32))) ⟨by decide, by decide⟩ rfl (hb hby at_110) ?_
              show oS p e below T176 m 111 #[oi p0, oi p1, oi cp, oi (p1.toInt8.toInt32), oa b103, oi (4 : Int32), oi (4 : Int32), .unset, .unset, .unset, .unset, .unset, .unset] [(.int (((240 : Int32) ||| (cp >>> ((18 : Int32) &&& 31))).toInt8.toInt32))] _
              refine XS.sipush X176.here hx rfl (hb hby at_111) ?_
              show oS p e below T176 m 114 #[oi p0, oi p1, oi cp, oi (p1.toInt8.toInt32), oa b103, oi (4 : Int32), oi (4 : Int32), .unset, .unset, .unset, .unset, .unset, .unset] [(.int (255 : Int32)), (.int (((240 : Int32) ||| (cp >>> ((18 : Int32) &&& 31))).toInt8.toInt32))] _
              refine XS.iand X176.here hx rfl (hb hby at_114) rfl ?_
              exact k
            obtain ⟨b0, hb0⟩ : ∃ z : Int32, z = ((((240 : Int32) ||| (cp >>> ((18 : Int32) &&& 31))).toInt8.toInt32) &&& (255 : Int32)) := ⟨_, rfl⟩
            rw [← hb0] at pre181
            have e0 : b0.toInt = 240 + cp.toInt / 262144 := by rw [hb0, own_lead _ _ (by decide) (by rw [own_s18]; omega) (by rw [own_s18, if_neg (by decide), if_neg (by decide)]; omega), own_s18]; rfl
            have pre182 : ∀ t, Steps p.tables e below (T176.setTop (mkF m 125 #[oi p0, oi p1, oi cp, oi (p1.toInt8.toInt32), oa b103, oi (4 : Int32), oi (4 : Int32), oi b0, .unset, .unset, .unset, .unset, .unset] [(.int ((((128 : Int32) ||| ((cp >>> ((12 : Int32) &&& 31)) &&& (63 : Int32))).toInt8.toInt32) &&& (255 : Int32)))])) t → Steps p.tables e below (s₁.setTop (entryFrame m #[(.int p0), (.int p1)] maxLocals)) t := by
              intro t k
              refine pre181 t ?_
              show oS p e below T176 m 115 #[oi p0, oi p1, oi cp, oi (p1.toInt8.toInt32), oa b103, oi (4 : Int32), oi (4 : Int32), .unset, .unset, .unset, .unset, .unset, .unset] [(.int b0)] _
              refine XS.istore X176.here hx rfl (hb hby at_115) rfl (l' := #[oi p0, oi p1, oi cp, oi (p1.toInt8.toInt32), oa b103, oi (4 : Int32), oi (4 : Int32), oi b0, .unset, .unset, .unset, .unset, .unset]) rfl ?_
              show oS p e below T176 m 117 #[oi p0, oi p1, oi cp, oi (p1.toInt8.toInt32), oa b103, oi (4 : Int32), oi (4 : Int32), oi b0, .unset, .unset, .unset, .unset, .unset] [] _
              refine XS.aload X176.here hx rfl (hb hby at_117) rfl rfl ?_
              show oS p e below T176 m 119 #[oi p0, oi p1, oi cp, oi (p1.toInt8.toInt32), oa b103, oi (4 : Int32), oi (4 : Int32), oi b0, .unset, .unset, .unset, .unset, .unset] [(.ref b103)] _
              refine XS.iconst X176.here hx rfl (hb hby at_119) ?_
              show oS p e below T176 m 120 #[oi p0, oi p1, oi cp, oi (p1.toInt8.toInt32), oa b103, oi (4 : Int32), oi (4 : Int32), oi b0, .unset, .unset, .unset, .unset, .unset] [(.int (1 : Int32)), (.ref b103)] _
              refine oLdB X176 hx hZ rfl Oq176_0 (v := (.int (((128 : Int32) ||| ((cp >>> ((12 : Int32) &&& 31)) &&& (63 : Int32))).toInt8.toInt32))) ⟨by decide, by decide⟩ rfl (hb hby at_120) ?_
              show oS p e below T176 m 121 #[oi p0, oi p1, oi cp, oi (p1.toInt8.toInt32), oa b103, oi (4 : Int32), oi (4 : Int32), oi b0, .unset, .unset, .unset, .unset, .unset] [(.int (((128 : Int32) ||| ((cp >>> ((12 : Int32) &&& 31)) &&& (63 : Int32))).toInt8.toInt32))] _
              refine XS.sipush X176.here hx rfl (hb hby at_121) ?_
              show oS p e below T176 m 124 #[oi p0, oi p1, oi cp, oi (p1.toInt8.toInt32), oa b103, oi (4 : Int32), oi (4 : Int32), oi b0, .unset, .unset, .unset, .unset, .unset] [(.int (255 : Int32)), (.int (((128 : Int32) ||| ((cp >>> ((12 : Int32) &&& 31)) &&& (63 : Int32))).toInt8.toInt32))] _
              refine XS.iand X176.here hx rfl (hb hby at_124) rfl ?_
              exact k
            obtain ⟨b1, hb1⟩ : ∃ z : Int32, z = ((((128 : Int32) ||| ((cp >>> ((12 : Int32) &&& 31)) &&& (63 : Int32))).toInt8.toInt32) &&& (255 : Int32)) := ⟨_, rfl⟩
            rw [← hb1] at pre182
            have e1 : b1.toInt = 128 + cp.toInt / 4096 % 64 := by rw [hb1, own_cb, own_s12]
            have pre183 : ∀ t, Steps p.tables e below (T176.setTop (mkF m 135 #[oi p0, oi p1, oi cp, oi (p1.toInt8.toInt32), oa b103, oi (4 : Int32), oi (4 : Int32), oi b0, oi b1, .unset, .unset, .unset, .unset] [(.int ((((128 : Int32) ||| ((cp >>> ((6 : Int32) &&& 31)) &&& (63 : Int32))).toInt8.toInt32) &&& (255 : Int32)))])) t → Steps p.tables e below (s₁.setTop (entryFrame m #[(.int p0), (.int p1)] maxLocals)) t := by
              intro t k
              refine pre182 t ?_
              show oS p e below T176 m 125 #[oi p0, oi p1, oi cp, oi (p1.toInt8.toInt32), oa b103, oi (4 : Int32), oi (4 : Int32), oi b0, .unset, .unset, .unset, .unset, .unset] [(.int b1)] _
              refine XS.istore X176.here hx rfl (hb hby at_125) rfl (l' := #[oi p0, oi p1, oi cp, oi (p1.toInt8.toInt32), oa b103, oi (4 : Int32), oi (4 : Int32), oi b0, oi b1, .unset, .unset, .unset, .unset]) rfl ?_
              show oS p e below T176 m 127 #[oi p0, oi p1, oi cp, oi (p1.toInt8.toInt32), oa b103, oi (4 : Int32), oi (4 : Int32), oi b0, oi b1, .unset, .unset, .unset, .unset] [] _
              refine XS.aload X176.here hx rfl (hb hby at_127) rfl rfl ?_
              show oS p e below T176 m 129 #[oi p0, oi p1, oi cp, oi (p1.toInt8.toInt32), oa b103, oi (4 : Int32), oi (4 : Int32), oi b0, oi b1, .unset, .unset, .unset, .unset] [(.ref b103)] _
              refine XS.iconst X176.here hx rfl (hb hby at_129) ?_
              show oS p e below T176 m 130 #[oi p0, oi p1, oi cp, oi (p1.toInt8.toInt32), oa b103, oi (4 : Int32), oi (4 : Int32), oi b0, oi b1, .unset, .unset, .unset, .unset] [(.int (2 : Int32)), (.ref b103)] _
              refine oLdB X176 hx hZ rfl Oq176_0 (v := (.int (((128 : Int32) ||| ((cp >>> ((6 : Int32) &&& 31)) &&& (63 : Int32))).toInt8.toInt32))) ⟨by decide, by decide⟩ rfl (hb hby at_130) ?_
              show oS p e below T176 m 131 #[oi p0, oi p1, oi cp, oi (p1.toInt8.toInt32), oa b103, oi (4 : Int32), oi (4 : Int32), oi b0, oi b1, .unset, .unset, .unset, .unset] [(.int (((128 : Int32) ||| ((cp >>> ((6 : Int32) &&& 31)) &&& (63 : Int32))).toInt8.toInt32))] _
              refine XS.sipush X176.here hx rfl (hb hby at_131) ?_
              show oS p e below T176 m 134 #[oi p0, oi p1, oi cp, oi (p1.toInt8.toInt32), oa b103, oi (4 : Int32), oi (4 : Int32), oi b0, oi b1, .unset, .unset, .unset, .unset] [(.int (255 : Int32)), (.int (((128 : Int32) ||| ((cp >>> ((6 : Int32) &&& 31)) &&& (63 : Int32))).toInt8.toInt32))] _
              refine XS.iand X176.here hx rfl (hb hby at_134) rfl ?_
              exact k
            obtain ⟨b2, hb2⟩ : ∃ z : Int32, z = ((((128 : Int32) ||| ((cp >>> ((6 : Int32) &&& 31)) &&& (63 : Int32))).toInt8.toInt32) &&& (255 : Int32)) := ⟨_, rfl⟩
            rw [← hb2] at pre183
            have e2 : b2.toInt = 128 + cp.toInt / 64 % 64 := by rw [hb2, own_cb, own_s6]
            have pre184 : ∀ t, Steps p.tables e below (T176.setTop (mkF m 145 #[oi p0, oi p1, oi cp, oi (p1.toInt8.toInt32), oa b103, oi (4 : Int32), oi (4 : Int32), oi b0, oi b1, oi b2, .unset, .unset, .unset] [(.int ((((128 : Int32) ||| (cp &&& (63 : Int32))).toInt8.toInt32) &&& (255 : Int32)))])) t → Steps p.tables e below (s₁.setTop (entryFrame m #[(.int p0), (.int p1)] maxLocals)) t := by
              intro t k
              refine pre183 t ?_
              show oS p e below T176 m 135 #[oi p0, oi p1, oi cp, oi (p1.toInt8.toInt32), oa b103, oi (4 : Int32), oi (4 : Int32), oi b0, oi b1, .unset, .unset, .unset, .unset] [(.int b2)] _
              refine XS.istore X176.here hx rfl (hb hby at_135) rfl (l' := #[oi p0, oi p1, oi cp, oi (p1.toInt8.toInt32), oa b103, oi (4 : Int32), oi (4 : Int32), oi b0, oi b1, oi b2, .unset, .unset, .unset]) rfl ?_
              show oS p e below T176 m 137 #[oi p0, oi p1, oi cp, oi (p1.toInt8.toInt32), oa b103, oi (4 : Int32), oi (4 : Int32), oi b0, oi b1, oi b2, .unset, .unset, .unset] [] _
              refine XS.aload X176.here hx rfl (hb hby at_137) rfl rfl ?_
              show oS p e below T176 m 139 #[oi p0, oi p1, oi cp, oi (p1.toInt8.toInt32), oa b103, oi (4 : Int32), oi (4 : Int32), oi b0, oi b1, oi b2, .unset, .unset, .unset] [(.ref b103)] _
              refine XS.iconst X176.here hx rfl (hb hby at_139) ?_
              show oS p e below T176 m 140 #[oi p0, oi p1, oi cp, oi (p1.toInt8.toInt32), oa b103, oi (4 : Int32), oi (4 : Int32), oi b0, oi b1, oi b2, .unset, .unset, .unset] [(.int (3 : Int32)), (.ref b103)] _
              refine oLdB X176 hx hZ rfl Oq176_0 (v := (.int (((128 : Int32) ||| (cp &&& (63 : Int32))).toInt8.toInt32))) ⟨by decide, by decide⟩ rfl (hb hby at_140) ?_
              show oS p e below T176 m 141 #[oi p0, oi p1, oi cp, oi (p1.toInt8.toInt32), oa b103, oi (4 : Int32), oi (4 : Int32), oi b0, oi b1, oi b2, .unset, .unset, .unset] [(.int (((128 : Int32) ||| (cp &&& (63 : Int32))).toInt8.toInt32))] _
              refine XS.sipush X176.here hx rfl (hb hby at_141) ?_
              show oS p e below T176 m 144 #[oi p0, oi p1, oi cp, oi (p1.toInt8.toInt32), oa b103, oi (4 : Int32), oi (4 : Int32), oi b0, oi b1, oi b2, .unset, .unset, .unset] [(.int (255 : Int32)), (.int (((128 : Int32) ||| (cp &&& (63 : Int32))).toInt8.toInt32))] _
              refine XS.iand X176.here hx rfl (hb hby at_144) rfl ?_
              exact k
            obtain ⟨b3, hb3⟩ : ∃ z : Int32, z = ((((128 : Int32) ||| (cp &&& (63 : Int32))).toInt8.toInt32) &&& (255 : Int32)) := ⟨_, rfl⟩
            rw [← hb3] at pre184
            have e3 : b3.toInt = 128 + cp.toInt % 64 := by rw [hb3, own_cb]
            have b185 : ¬ ((4 : Int32) = (1 : Int32)) := (by decide)
            have b186 : ¬ ((4 : Int32) = (2 : Int32)) := (by decide)
            have b187 : ¬ ((4 : Int32) = (3 : Int32)) := (by decide)
            have b188 : (b0 &&& (248 : Int32)) = (240 : Int32) := own_h4 (by omega) (by omega)
            obtain ⟨_, _, ⟨T189, L189, k189, n189⟩, -, X189, ⟨Lc189, hQ189, l189, y189, z189⟩, st189⟩ := Jvm.LawKit.callS X176 hx (y := (⟨"com/example/godwit/godwit/link/Utf8EncodePinLaw", "cont", "(I)Z"⟩ : MethodName)) hown (mvT hZ (hw _ (List.mem_of_getElem? (i := 11) rfl))) (mvT hZ (hw _ (List.mem_of_getElem? (i := 12) rfl))) (mvT hZ (hw _ (List.mem_of_getElem? (i := 13) rfl))) (mvT hZ (hw _ (List.mem_of_getElem? (i := 14) rfl))) (by decide) (backOf (W := 0) (own_rm2 l Z av hw [] b1 T176.heap n0 Z176 ) hZ (hw _ (List.mem_of_getElem? (i := 14) rfl)) (hw _ (List.mem_of_getElem? (i := 13) rfl)) (by decide) (by decide)) (g := (mkF m 295 #[oi p0, oi p1, oi cp, oi (p1.toInt8.toInt32), oa b103, oi (4 : Int32), oi (4 : Int32), oi b0, oi b1, oi b2, oi b3, .unset, .unset] [(.int b1)])) rfl (by rw [hml]; rfl) (argsL := [(.int b1)]) (rest := []) (lenOf own_pd1 rfl) rfl (by show 2 * 0 + _ ≤ _; exact Nat.le_of_eq rfl) (hb hby at_295) (fun _ _ => ⟨rfl, rfl, (by decide : 1 + 0 ≤ _), (by decide : 5 + 0 ≤ _)⟩)
            dsimp only [Pt.U, Pt.locs, Pt.cells, Pt.slots] at X189 l189 y189 z189 st189 hQ189
            have yq189 : k189 = 1 := y189
            have zq189 : n189 = 5 := z189
            subst yq189 zq189
            obtain ⟨rfl, Nq189, eq189⟩ := hQ189
            have N189 : Fr n0 L189 := by rw [l189]; exact Fr.app N176 Nq189
            have b190 : ¬ ((own_f2 b1) = (0 : Int32)) := own_cont (by omega) (by omega)
            obtain ⟨_, _, ⟨T191, L191, k191, n191⟩, -, X191, ⟨Lc191, hQ191, l191, y191, z191⟩, st191⟩ := Jvm.LawKit.callS X189 hx (y := (⟨"com/example/godwit/godwit/link/Utf8EncodePinLaw", "cont", "(I)Z"⟩ : MethodName)) hown (mvT hZ (hw _ (List.mem_of_getElem? (i := 11) rfl))) (mvT hZ (hw _ (List.mem_of_getElem? (i := 12) rfl))) (mvT hZ (hw _ (List.mem_of_getElem? (i := 13) rfl))) (mvT hZ (hw _ (List.mem_of_getElem? (i := 14) rfl))) (by decide) (backOf (W := 0) (own_rm2 l Z av hw [] b2 T176.heap n0 Z176 ) hZ (hw _ (List.mem_of_getElem? (i := 14) rfl)) (hw _ (List.mem_of_getElem? (i := 13) rfl)) (by decide) (by decide)) (g := (mkF m 303 #[oi p0, oi p1, oi cp, oi (p1.toInt8.toInt32), oa b103, oi (4 : Int32), oi (4 : Int32), oi b0, oi b1, oi b2, oi b3, .unset, .unset] [(.int b2)])) rfl (by rw [hml]; rfl) (argsL := [(.int b2)]) (rest := []) (lenOf own_pd1 rfl) rfl (by show 2 * 0 + _ ≤ _; exact Nat.le_of_eq rfl) (hb hby at_303) (fun _ _ => ⟨rfl, eq189, (by decide : 1 + 0 ≤ _), (by decide : 5 + 0 ≤ _)⟩)
            dsimp only [Pt.U, Pt.locs, Pt.cells, Pt.slots] at X191 l191 y191 z191 st191 hQ191
            have yq191 : k191 = 1 := y191
            have zq191 : n191 = 5 := z191
            subst yq191 zq191
            obtain ⟨rfl, Nq191, eq191⟩ := hQ191
            have N191 : Fr n0 L191 := by rw [l191]; exact Fr.app N189 Nq191
            have b192 : ¬ ((own_f2 b2) = (0 : Int32)) := own_cont (by omega) (by omega)
            obtain ⟨_, _, ⟨T193, L193, k193, n193⟩, -, X193, ⟨Lc193, hQ193, l193, y193, z193⟩, st193⟩ := Jvm.LawKit.callS X191 hx (y := (⟨"com/example/godwit/godwit/link/Utf8EncodePinLaw", "cont", "(I)Z"⟩ : MethodName)) hown (mvT hZ (hw _ (List.mem_of_getElem? (i := 11) rfl))) (mvT hZ (hw _ (List.mem_of_getElem? (i := 12) rfl))) (mvT hZ (hw _ (List.mem_of_getElem? (i := 13) rfl))) (mvT hZ (hw _ (List.mem_of_getElem? (i := 14) rfl))) (by decide) (backOf (W := 0) (own_rm2 l Z av hw [] b3 T176.heap n0 Z176 ) hZ (hw _ (List.mem_of_getElem? (i := 14) rfl)) (hw _ (List.mem_of_getElem? (i := 13) rfl)) (by decide) (by decide)) (g := (mkF m 311 #[oi p0, oi p1, oi cp, oi (p1.toInt8.toInt32), oa b103, oi (4 : Int32), oi (4 : Int32), oi b0, oi b1, oi b2, oi b3, .unset, .unset] [(.int b3)])) rfl (by rw [hml]; rfl) (argsL := [(.int b3)]) (rest := []) (lenOf own_pd1 rfl) rfl (by show 2 * 0 + _ ≤ _; exact Nat.le_of_eq rfl) (hb hby at_311) (fun _ _ => ⟨rfl, eq191, (by decide : 1 + 0 ≤ _), (by decide : 5 + 0 ≤ _)⟩)
            dsimp only [Pt.U, Pt.locs, Pt.cells, Pt.slots] at X193 l193 y193 z193 st193 hQ193
            have yq193 : k193 = 1 := y193
            have zq193 : n193 = 5 := z193
            subst yq193 zq193
            obtain ⟨rfl, Nq193, eq193⟩ := hQ193
            have N193 : Fr n0 L193 := by rw [l193]; exact Fr.app N191 Nq193
            have b194 : ¬ ((own_f2 b3) = (0 : Int32)) := own_cont (by omega) (by omega)
            have b195 : (((((b0 &&& (7 : Int32)) <<< ((18 : Int32) &&& 31)) ||| ((b1 &&& (63 : Int32)) <<< ((12 : Int32) &&& 31))) ||| ((b2 &&& (63 : Int32)) <<< ((6 : Int32) &&& 31))) ||| (b3 &&& (63 : Int32))) = cp := own_v4 e0 e1 e2 e3 rc.1 rc.2
            have b196 : (1 : Int32) < (4 : Int32) := (by decide)
            have b197 : (2 : Int32) < (4 : Int32) := (by decide)
            have b198 : (3 : Int32) < (4 : Int32) := (by decide)
            have b199 : (p1.toInt8.toInt32) = (p1.toInt8.toInt32) := rfl
            obtain ⟨fs, hr, hrun, hended, hW, hsame⟩ := X193.leave (v := (some (.int (1 : Int32)))) (fun h => by rw [Bd.returns] at h; cases h)
            refine ⟨_, _, pre184 _ ?_, hrun, hended, _, _, rfl, ?_, ⟨_, rfl⟩, hW, hsame.mono (by decide) (by decide)⟩
            · show oS p e below T176 m 145 #[oi p0, oi p1, oi cp, oi (p1.toInt8.toInt32), oa b103, oi (4 : Int32), oi (4 : Int32), oi b0, oi b1, oi b2, .unset, .unset, .unset] [(.int b3)] _
              refine XS.istore X176.here hx rfl (hb hby at_145) rfl (l' := #[oi p0, oi p1, oi cp, oi (p1.toInt8.toInt32), oa b103, oi (4 : Int32), oi (4 : Int32), oi b0, oi b1, oi b2, oi b3, .unset, .unset]) rfl ?_
              show oS p e below T176 m 147 #[oi p0, oi p1, oi cp, oi (p1.toInt8.toInt32), oa b103, oi (4 : Int32), oi (4 : Int32), oi b0, oi b1, oi b2, oi b3, .unset, .unset] [] _
              refine XS.iload X176.here hx rfl (hb hby at_147) rfl ?_
              show oS p e below T176 m 149 #[oi p0, oi p1, oi cp, oi (p1.toInt8.toInt32), oa b103, oi (4 : Int32), oi (4 : Int32), oi b0, oi b1, oi b2, oi b3, .unset, .unset] [(.int (4 : Int32))] _
              refine XS.iconst X176.here hx rfl (hb hby at_149) ?_
              show oS p e below T176 m 150 #[oi p0, oi p1, oi cp, oi (p1.toInt8.toInt32), oa b103, oi (4 : Int32), oi (4 : Int32), oi b0, oi b1, oi b2, oi b3, .unset, .unset] [(.int (1 : Int32)), (.int (4 : Int32))] _
              refine XS.icmpYes X176.here hx rfl (pc0 := 150) (pc' := 170) rfl (hb hby at_150) rfl (feq b185).2 (by decide) (by decide) ?_
              show oS p e below T176 m 170 #[oi p0, oi p1, oi cp, oi (p1.toInt8.toInt32), oa b103, oi (4 : Int32), oi (4 : Int32), oi b0, oi b1, oi b2, oi b3, .unset, .unset] [] _
              refine XS.iload X176.here hx rfl (hb hby at_170) rfl ?_
              show oS p e below T176 m 172 #[oi p0, oi p1, oi cp, oi (p1.toInt8.toInt32), oa b103, oi (4 : Int32), oi (4 : Int32), oi b0, oi b1, oi b2, oi b3, .unset, .unset] [(.int (4 : Int32))] _
              refine XS.iconst X176.here hx rfl (hb hby at_172) ?_
              show oS p e below T176 m 173 #[oi p0, oi p1, oi cp, oi (p1.toInt8.toInt32), oa b103, oi (4 : Int32), oi (4 : Int32), oi b0, oi b1, oi b2, oi b3, .unset, .unset] [(.int (2 : Int32)), (.int (4 : Int32))] _
              refine XS.icmpYes X176.here hx rfl (pc0 := 173) (pc' := 217) rfl (hb hby at_173) rfl (feq b186).2 (by decide) (by decide) ?_
              show oS p e below T176 m 217 #[oi p0, oi p1, oi cp, oi (p1.toInt8.toInt32), oa b103, oi (4 : Int32), oi (4 : Int32), oi b0, oi b1, oi b2, oi b3, .unset, .unset] [] _
              refine XS.iload X176.here hx rfl (hb hby at_217) rfl ?_
              show oS p e below T176 m 219 #[oi p0, oi p1, oi cp, oi (p1.toInt8.toInt32), oa b103, oi (4 : Int32), oi (4 : Int32), oi b0, oi b1, oi b2, oi b3, .unset, .unset] [(.int (4 : Int32))] _
              refine XS.iconst X176.here hx rfl (hb hby at_219) ?_
              show oS p e below T176 m 220 #[oi p0, oi p1, oi cp, oi (p1.toInt8.toInt32), oa b103, oi (4 : Int32), oi (4 : Int32), oi b0, oi b1, oi b2, oi b3, .unset, .unset] [(.int (3 : Int32)), (.int (4 : Int32))] _
              refine XS.icmpYes X176.here hx rfl (pc0 := 220) (pc' := 281) rfl (hb hby at_220) rfl (feq b187).2 (by decide) (by decide) ?_
              show oS p e below T176 m 281 #[oi p0, oi p1, oi cp, oi (p1.toInt8.toInt32), oa b103, oi (4 : Int32), oi (4 : Int32), oi b0, oi b1, oi b2, oi b3, .unset, .unset] [] _
              refine XS.iload X176.here hx rfl (hb hby at_281) rfl ?_
              show oS p e below T176 m 283 #[oi p0, oi p1, oi cp, oi (p1.toInt8.toInt32), oa b103, oi (4 : Int32), oi (4 : Int32), oi b0, oi b1, oi b2, oi b3, .unset, .unset] [(.int b0)] _
              refine XS.sipush X176.here hx rfl (hb hby at_283) ?_
              show oS p e below T176 m 286 #[oi p0, oi p1, oi cp, oi (p1.toInt8.toInt32), oa b103, oi (4 : Int32), oi (4 : Int32), oi b0, oi b1, oi b2, oi b3, .unset, .unset] [(.int (248 : Int32)), (.int b0)] _
              refine XS.iand X176.here hx rfl (hb hby at_286) rfl ?_
              show oS p e below T176 m 287 #[oi p0, oi p1, oi cp, oi (p1.toInt8.toInt32), oa b103, oi (4 : Int32), oi (4 : Int32), oi b0, oi b1, oi b2, oi b3, .unset, .unset] [(.int (b0 &&& (248 : Int32)))] _
              refine XS.sipush X176.here hx rfl (hb hby at_287) ?_
              show oS p e below T176 m 290 #[oi p0, oi p1, oi cp, oi (p1.toInt8.toInt32), oa b103, oi (4 : Int32), oi (4 : Int32), oi b0, oi b1, oi b2, oi b3, .unset, .unset] [(.int (240 : Int32)), (.int (b0 &&& (248 : Int32)))] _
              refine XS.icmpNo X176.here hx rfl (hb hby at_290) rfl (teq b188).2 ?_
              show oS p e below T176 m 293 #[oi p0, oi p1, oi cp, oi (p1.toInt8.toInt32), oa b103, oi (4 : Int32), oi (4 : Int32), oi b0, oi b1, oi b2, oi b3, .unset, .unset] [] _
              refine XS.iload X176.here hx rfl (hb hby at_293) rfl ?_
              show oS p e below T176 m 295 #[oi p0, oi p1, oi cp, oi (p1.toInt8.toInt32), oa b103, oi (4 : Int32), oi (4 : Int32), oi b0, oi b1, oi b2, oi b3, .unset, .unset] [(.int b1)] _
              refine st189 _ ?_
              show oS p e below T189 m 298 #[oi p0, oi p1, oi cp, oi (p1.toInt8.toInt32), oa b103, oi (4 : Int32), oi (4 : Int32), oi b0, oi b1, oi b2, oi b3, .unset, .unset] [(.int (own_f2 b1))] _
              refine XS.ifNo X189.here hx rfl (hb hby at_298) rfl ((if0 _ _).trans (feq b190).1) ?_
              show oS p e below T189 m 301 #[oi p0, oi p1, oi cp, oi (p1.toInt8.toInt32), oa b103, oi (4 : Int32), oi (4 : Int32), oi b0, oi b1, oi b2, oi b3, .unset, .unset] [] _
              refine XS.iload X189.here hx rfl (hb hby at_301) rfl ?_
              show oS p e below T189 m 303 #[oi p0, oi p1, oi cp, oi (p1.toInt8.toInt32), oa b103, oi (4 : Int32), oi (4 : Int32), oi b0, oi b1, oi b2, oi b3, .unset, .unset] [(.int b2)] _
              refine st191 _ ?_
              show oS p e below T191 m 306 #[oi p0, oi p1, oi cp, oi (p1.toInt8.toInt32), oa b103, oi (4 : Int32), oi (4 : Int32), oi b0, oi b1, oi b2, oi b3, .unset, .unset] [(.int (own_f2 b2))] _
              refine XS.ifNo X191.here hx rfl (hb hby at_306) rfl ((if0 _ _).trans (feq b192).1) ?_
              show oS p e below T191 m 309 #[oi p0, oi p1, oi cp, oi (p1.toInt8.toInt32), oa b103, oi (4 : Int32), oi (4 : Int32), oi b0, oi b1, oi b2, oi b3, .unset, .unset] [] _
              refine XS.iload X191.here hx rfl (hb hby at_309) rfl ?_
              show oS p e below T191 m 311 #[oi p0, oi p1, oi cp, oi (p1.toInt8.toInt32), oa b103, oi (4 : Int32), oi (4 : Int32), oi b0, oi b1, oi b2, oi b3, .unset, .unset] [(.int b3)] _
              refine st193 _ ?_
              show oS p e below T193 m 314 #[oi p0, oi p1, oi cp, oi (p1.toInt8.toInt32), oa b103, oi (4 : Int32), oi (4 : Int32), oi b0, oi b1, oi b2, oi b3, .unset, .unset] [(.int (own_f2 b3))] _
              refine XS.ifYes X193.here hx rfl (pc0 := 314) (pc' := 319) rfl (hb hby at_314) rfl ((if0 _ _).trans (feq b194).2) (by decide) (by decide) ?_
              show oS p e below T193 m 319 #[oi p0, oi p1, oi cp, oi (p1.toInt8.toInt32), oa b103, oi (4 : Int32), oi (4 : Int32), oi b0, oi b1, oi b2, oi b3, .unset, .unset] [] _
              refine XS.iload X193.here hx rfl (hb hby at_319) rfl ?_
              show oS p e below T193 m 321 #[oi p0, oi p1, oi cp, oi (p1.toInt8.toInt32), oa b103, oi (4 : Int32), oi (4 : Int32), oi b0, oi b1, oi b2, oi b3, .unset, .unset] [(.int b0)] _
              refine XS.bipush X193.here hx rfl (hb hby at_321) ?_
              show oS p e below T193 m 323 #[oi p0, oi p1, oi cp, oi (p1.toInt8.toInt32), oa b103, oi (4 : Int32), oi (4 : Int32), oi b0, oi b1, oi b2, oi b3, .unset, .unset] [(.int (7 : Int32)), (.int b0)] _
              refine XS.iand X193.here hx rfl (hb hby at_323) rfl ?_
              show oS p e below T193 m 324 #[oi p0, oi p1, oi cp, oi (p1.toInt8.toInt32), oa b103, oi (4 : Int32), oi (4 : Int32), oi b0, oi b1, oi b2, oi b3, .unset, .unset] [(.int (b0 &&& (7 : Int32)))] _
              refine XS.bipush X193.here hx rfl (hb hby at_324) ?_
              show oS p e below T193 m 326 #[oi p0, oi p1, oi cp, oi (p1.toInt8.toInt32), oa b103, oi (4 : Int32), oi (4 : Int32), oi b0, oi b1, oi b2, oi b3, .unset, .unset] [(.int (18 : Int32)), (.int (b0 &&& (7 : Int32)))] _
              refine XS.ishl X193.here hx rfl (hb hby at_326) rfl ?_
              show oS p e below T193 m 327 #[oi p0, oi p1, oi cp, oi (p1.toInt8.toInt32), oa b103, oi (4 : Int32), oi (4 : Int32), oi b0, oi b1, oi b2, oi b3, .unset, .unset] [(.int ((b0 &&& (7 : Int32)) <<< ((18 : Int32) &&& 31)))] _
              refine XS.iload X193.here hx rfl (hb hby at_327) rfl ?_
              show oS p e below T193 m 329 #[oi p0, oi p1, oi cp, oi (p1.toInt8.toInt32), oa b103, oi (4 : Int32), oi (4 : Int32), oi b0, oi b1, oi b2, oi b3, .unset, .unset] [(.int b1), (.int ((b0 &&& (7 : Int32)) <<< ((18 : Int32) &&& 31)))] _
              refine XS.bipush X193.here hx rfl (hb hby at_329) ?_
              show oS p e below T193 m 331 #[oi p0, oi p1, oi cp, oi (p1.toInt8.toInt32), oa b103, oi (4 : Int32), oi (4 : Int32), oi b0, oi b1, oi b2, oi b3, .unset, .unset] [(.int (63 : Int32)), (.int b1), (.int ((b0 &&& (7 : Int32)) <<< ((18 : Int32) &&& 31)))] _
              refine XS.iand X193.here hx rfl (hb hby at_331) rfl ?_
              show oS p e below T193 m 332 #[oi p0, oi p1, oi cp, oi (p1.toInt8.toInt32), oa b103, oi (4 : Int32), oi (4 : Int32), oi b0, oi b1, oi b2, oi b3, .unset, .unset] [(.int (b1 &&& (63 : Int32))), (.int ((b0 &&& (7 : Int32)) <<< ((18 : Int32) &&& 31)))] _
              refine XS.bipush X193.here hx rfl (hb hby at_332) ?_
              show oS p e below T193 m 334 #[oi p0, oi p1, oi cp, oi (p1.toInt8.toInt32), oa b103, oi (4 : Int32), oi (4 : Int32), oi b0, oi b1, oi b2, oi b3, .unset, .unset] [(.int (12 : Int32)), (.int (b1 &&& (63 : Int32))), (.int ((b0 &&& (7 : Int32)) <<< ((18 : Int32) &&& 31)))] _
              refine XS.ishl X193.here hx rfl (hb hby at_334) rfl ?_
              show oS p e below T193 m 335 #[oi p0, oi p1, oi cp, oi (p1.toInt8.toInt32), oa b103, oi (4 : Int32), oi (4 : Int32), oi b0, oi b1, oi b2, oi b3, .unset, .unset] [(.int ((b1 &&& (63 : Int32)) <<< ((12 : Int32) &&& 31))), (.int ((b0 &&& (7 : Int32)) <<< ((18 : Int32) &&& 31)))] _
              refine XS.ior X193.here hx rfl (hb hby at_335) rfl ?_
              show oS p e below T193 m 336 #[oi p0, oi p1, oi cp, oi (p1.toInt8.toInt32), oa b103, oi (4 : Int32), oi (4 : Int32), oi b0, oi b1, oi b2, oi b3, .unset, .unset] [(.int (((b0 &&& (7 : Int32)) <<< ((18 : Int32) &&& 31)) ||| ((b1 &&& (63 : Int32)) <<< ((12 : Int32) &&& 31))))] _
              refine XS.iload X193.here hx rfl (hb hby at_336) rfl ?_
              show oS p e below T193 m 338 #[oi p0, oi p1, oi cp, oi (p1.toInt8.toInt32), oa b103, oi (4 : Int32), oi (4 : Int32), oi b0, oi b1, oi b2, oi b3, .unset, .unset] [(.int b2), (.int (((b0 &&& (7 : Int32)) <<< ((18 : Int32) &&& 31)) ||| ((b1 &&& (63 : Int32)) <<< ((12 : Int32) &&& 31))))] _
              refine XS.bipush X193.here hx rfl (hb hby at_338) ?_
              show oS p e below T193 m 340 #[oi p0, oi p1, oi cp, oi (p1.toInt8.toInt32), oa b103, oi (4 : Int32), oi (4 : Int32), oi b0, oi b1, oi b2, oi b3, .unset, .unset] [(.int (63 : Int32)), (.int b2), (.int (((b0 &&& (7 : Int32)) <<< ((18 : Int32) &&& 31)) ||| ((b1 &&& (63 : Int32)) <<< ((12 : Int32) &&& 31))))] _
              refine XS.iand X193.here hx rfl (hb hby at_340) rfl ?_
              show oS p e below T193 m 341 #[oi p0, oi p1, oi cp, oi (p1.toInt8.toInt32), oa b103, oi (4 : Int32), oi (4 : Int32), oi b0, oi b1, oi b2, oi b3, .unset, .unset] [(.int (b2 &&& (63 : Int32))), (.int (((b0 &&& (7 : Int32)) <<< ((18 : Int32) &&& 31)) ||| ((b1 &&& (63 : Int32)) <<< ((12 : Int32) &&& 31))))] _
              refine XS.bipush X193.here hx rfl (hb hby at_341) ?_
              show oS p e below T193 m 343 #[oi p0, oi p1, oi cp, oi (p1.toInt8.toInt32), oa b103, oi (4 : Int32), oi (4 : Int32), oi b0, oi b1, oi b2, oi b3, .unset, .unset] [(.int (6 : Int32)), (.int (b2 &&& (63 : Int32))), (.int (((b0 &&& (7 : Int32)) <<< ((18 : Int32) &&& 31)) ||| ((b1 &&& (63 : Int32)) <<< ((12 : Int32) &&& 31))))] _
              refine XS.ishl X193.here hx rfl (hb hby at_343) rfl ?_
              show oS p e below T193 m 344 #[oi p0, oi p1, oi cp, oi (p1.toInt8.toInt32), oa b103, oi (4 : Int32), oi (4 : Int32), oi b0, oi b1, oi b2, oi b3, .unset, .unset] [(.int ((b2 &&& (63 : Int32)) <<< ((6 : Int32) &&& 31))), (.int (((b0 &&& (7 : Int32)) <<< ((18 : Int32) &&& 31)) ||| ((b1 &&& (63 : Int32)) <<< ((12 : Int32) &&& 31))))] _
              refine XS.ior X193.here hx rfl (hb hby at_344) rfl ?_
              show oS p e below T193 m 345 #[oi p0, oi p1, oi cp, oi (p1.toInt8.toInt32), oa b103, oi (4 : Int32), oi (4 : Int32), oi b0, oi b1, oi b2, oi b3, .unset, .unset] [(.int ((((b0 &&& (7 : Int32)) <<< ((18 : Int32) &&& 31)) ||| ((b1 &&& (63 : Int32)) <<< ((12 : Int32) &&& 31))) ||| ((b2 &&& (63 : Int32)) <<< ((6 : Int32) &&& 31))))] _
              refine XS.iload X193.here hx rfl (hb hby at_345) rfl ?_
              show oS p e below T193 m 347 #[oi p0, oi p1, oi cp, oi (p1.toInt8.toInt32), oa b103, oi (4 : Int32), oi (4 : Int32), oi b0, oi b1, oi b2, oi b3, .unset, .unset] [(.int b3), (.int ((((b0 &&& (7 : Int32)) <<< ((18 : Int32) &&& 31)) ||| ((b1 &&& (63 : Int32)) <<< ((12 : Int32) &&& 31))) ||| ((b2 &&& (63 : Int32)) <<< ((6 : Int32) &&& 31))))] _
              refine XS.bipush X193.here hx rfl (hb hby at_347) ?_
              show oS p e below T193 m 349 #[oi p0, oi p1, oi cp, oi (p1.toInt8.toInt32), oa b103, oi (4 : Int32), oi (4 : Int32), oi b0, oi b1, oi b2, oi b3, .unset, .unset] [(.int (63 : Int32)), (.int b3), (.int ((((b0 &&& (7 : Int32)) <<< ((18 : Int32) &&& 31)) ||| ((b1 &&& (63 : Int32)) <<< ((12 : Int32) &&& 31))) ||| ((b2 &&& (63 : Int32)) <<< ((6 : Int32) &&& 31))))] _
              refine XS.iand X193.here hx rfl (hb hby at_349) rfl ?_
              show oS p e below T193 m 350 #[oi p0, oi p1, oi cp, oi (p1.toInt8.toInt32), oa b103, oi (4 : Int32), oi (4 : Int32), oi b0, oi b1, oi b2, oi b3, .unset, .unset] [(.int (b3 &&& (63 : Int32))), (.int ((((b0 &&& (7 : Int32)) <<< ((18 : Int32) &&& 31)) ||| ((b1 &&& (63 : Int32)) <<< ((12 : Int32) &&& 31))) ||| ((b2 &&& (63 : Int32)) <<< ((6 : Int32) &&& 31))))] _
              refine XS.ior X193.here hx rfl (hb hby at_350) rfl ?_
              show oS p e below T193 m 351 #[oi p0, oi p1, oi cp, oi (p1.toInt8.toInt32), oa b103, oi (4 : Int32), oi (4 : Int32), oi b0, oi b1, oi b2, oi b3, .unset, .unset] [(.int (((((b0 &&& (7 : Int32)) <<< ((18 : Int32) &&& 31)) ||| ((b1 &&& (63 : Int32)) <<< ((12 : Int32) &&& 31))) ||| ((b2 &&& (63 : Int32)) <<< ((6 : Int32) &&& 31))) ||| (b3 &&& (63 : Int32))))] _
              refine XS.istore X193.here hx rfl (hb hby at_351) rfl (l' := #[oi p0, oi p1, oi cp, oi (p1.toInt8.toInt32), oa b103, oi (4 : Int32), oi (4 : Int32), oi b0, oi b1, oi b2, oi b3, oi (((((b0 &&& (7 : Int32)) <<< ((18 : Int32) &&& 31)) ||| ((b1 &&& (63 : Int32)) <<< ((12 : Int32) &&& 31))) ||| ((b2 &&& (63 : Int32)) <<< ((6 : Int32) &&& 31))) ||| (b3 &&& (63 : Int32))), .unset]) rfl ?_
              show oS p e below T193 m 353 #[oi p0, oi p1, oi cp, oi (p1.toInt8.toInt32), oa b103, oi (4 : Int32), oi (4 : Int32), oi b0, oi b1, oi b2, oi b3, oi (((((b0 &&& (7 : Int32)) <<< ((18 : Int32) &&& 31)) ||| ((b1 &&& (63 : Int32)) <<< ((12 : Int32) &&& 31))) ||| ((b2 &&& (63 : Int32)) <<< ((6 : Int32) &&& 31))) ||| (b3 &&& (63 : Int32))), .unset] [] _
              refine XS.iload X193.here hx rfl (hb hby at_353) rfl ?_
              show oS p e below T193 m 355 #[oi p0, oi p1, oi cp, oi (p1.toInt8.toInt32), oa b103, oi (4 : Int32), oi (4 : Int32), oi b0, oi b1, oi b2, oi b3, oi (((((b0 &&& (7 : Int32)) <<< ((18 : Int32) &&& 31)) ||| ((b1 &&& (63 : Int32)) <<< ((12 : Int32) &&& 31))) ||| ((b2 &&& (63 : Int32)) <<< ((6 : Int32) &&& 31))) ||| (b3 &&& (63 : Int32))), .unset] [(.int (((((b0 &&& (7 : Int32)) <<< ((18 : Int32) &&& 31)) ||| ((b1 &&& (63 : Int32)) <<< ((12 : Int32) &&& 31))) ||| ((b2 &&& (63 : Int32)) <<< ((6 : Int32) &&& 31))) ||| (b3 &&& (63 : Int32))))] _
              refine XS.iloadN X193.here hx rfl (hb hby at_355) rfl ?_
              show oS p e below T193 m 356 #[oi p0, oi p1, oi cp, oi (p1.toInt8.toInt32), oa b103, oi (4 : Int32), oi (4 : Int32), oi b0, oi b1, oi b2, oi b3, oi (((((b0 &&& (7 : Int32)) <<< ((18 : Int32) &&& 31)) ||| ((b1 &&& (63 : Int32)) <<< ((12 : Int32) &&& 31))) ||| ((b2 &&& (63 : Int32)) <<< ((6 : Int32) &&& 31))) ||| (b3 &&& (63 : Int32))), .unset] [(.int cp), (.int (((((b0 &&& (7 : Int32)) <<< ((18 : Int32) &&& 31)) ||| ((b1 &&& (63 : Int32)) <<< ((12 : Int32) &&& 31))) ||| ((b2 &&& (63 : Int32)) <<< ((6 : Int32) &&& 31))) ||| (b3 &&& (63 : Int32))))] _
              refine XS.icmpYes X193.here hx rfl (pc0 := 356) (pc' := 361) rfl (hb hby at_356) rfl (teq b195).1 (by decide) (by decide) ?_
              show oS p e below T193 m 361 #[oi p0, oi p1, oi cp, oi (p1.toInt8.toInt32), oa b103, oi (4 : Int32), oi (4 : Int32), oi b0, oi b1, oi b2, oi b3, oi (((((b0 &&& (7 : Int32)) <<< ((18 : Int32) &&& 31)) ||| ((b1 &&& (63 : Int32)) <<< ((12 : Int32) &&& 31))) ||| ((b2 &&& (63 : Int32)) <<< ((6 : Int32) &&& 31))) ||| (b3 &&& (63 : Int32))), .unset] [] _
              refine XS.iload X193.here hx rfl (hb hby at_361) rfl ?_
              show oS p e below T193 m 363 #[oi p0, oi p1, oi cp, oi (p1.toInt8.toInt32), oa b103, oi (4 : Int32), oi (4 : Int32), oi b0, oi b1, oi b2, oi b3, oi (((((b0 &&& (7 : Int32)) <<< ((18 : Int32) &&& 31)) ||| ((b1 &&& (63 : Int32)) <<< ((12 : Int32) &&& 31))) ||| ((b2 &&& (63 : Int32)) <<< ((6 : Int32) &&& 31))) ||| (b3 &&& (63 : Int32))), .unset] [(.int (4 : Int32))] _
              refine XS.iconst X193.here hx rfl (hb hby at_363) ?_
              show oS p e below T193 m 364 #[oi p0, oi p1, oi cp, oi (p1.toInt8.toInt32), oa b103, oi (4 : Int32), oi (4 : Int32), oi b0, oi b1, oi b2, oi b3, oi (((((b0 &&& (7 : Int32)) <<< ((18 : Int32) &&& 31)) ||| ((b1 &&& (63 : Int32)) <<< ((12 : Int32) &&& 31))) ||| ((b2 &&& (63 : Int32)) <<< ((6 : Int32) &&& 31))) ||| (b3 &&& (63 : Int32))), .unset] [(.int (1 : Int32)), (.int (4 : Int32))] _
              refine XS.icmpYes X193.here hx rfl (pc0 := 364) (pc' := 375) rfl (hb hby at_364) rfl (tlt b196).2.2.1 (by decide) (by decide) ?_
              show oS p e below T193 m 375 #[oi p0, oi p1, oi cp, oi (p1.toInt8.toInt32), oa b103, oi (4 : Int32), oi (4 : Int32), oi b0, oi b1, oi b2, oi b3, oi (((((b0 &&& (7 : Int32)) <<< ((18 : Int32) &&& 31)) ||| ((b1 &&& (63 : Int32)) <<< ((12 : Int32) &&& 31))) ||| ((b2 &&& (63 : Int32)) <<< ((6 : Int32) &&& 31))) ||| (b3 &&& (63 : Int32))), .unset] [] _
              refine XS.iload X193.here hx rfl (hb hby at_375) rfl ?_
              show oS p e below T193 m 377 #[oi p0, oi p1, oi cp, oi (p1.toInt8.toInt32), oa b103, oi (4 : Int32), oi (4 : Int32), oi b0, oi b1, oi b2, oi b3, oi (((((b0 &&& (7 : Int32)) <<< ((18 : Int32) &&& 31)) ||| ((b1 &&& (63 : Int32)) <<< ((12 : Int32) &&& 31))) ||| ((b2 &&& (63 : Int32)) <<< ((6 : Int32) &&& 31))) ||| (b3 &&& (63 : Int32))), .unset] [(.int (4 : Int32))] _
              refine XS.iconst X193.here hx rfl (hb hby at_377) ?_
              show oS p e below T193 m 378 #[oi p0, oi p1, oi cp, oi (p1.toInt8.toInt32), oa b103, oi (4 : Int32), oi (4 : Int32), oi b0, oi b1, oi b2, oi b3, oi (((((b0 &&& (7 : Int32)) <<< ((18 : Int32) &&& 31)) ||| ((b1 &&& (63 : Int32)) <<< ((12 : Int32) &&& 31))) ||| ((b2 &&& (63 : Int32)) <<< ((6 : Int32) &&& 31))) ||| (b3 &&& (63 : Int32))), .unset] [(.int (2 : Int32)), (.int (4 : Int32))] _
              refine XS.icmpYes X193.here hx rfl (pc0 := 378) (pc' := 389) rfl (hb hby at_378) rfl (tlt b197).2.2.1 (by decide) (by decide) ?_
              show oS p e below T193 m 389 #[oi p0, oi p1, oi cp, oi (p1.toInt8.toInt32), oa b103, oi (4 : Int32), oi (4 : Int32), oi b0, oi b1, oi b2, oi b3, oi (((((b0 &&& (7 : Int32)) <<< ((18 : Int32) &&& 31)) ||| ((b1 &&& (63 : Int32)) <<< ((12 : Int32) &&& 31))) ||| ((b2 &&& (63 : Int32)) <<< ((6 : Int32) &&& 31))) ||| (b3 &&& (63 : Int32))), .unset] [] _
              refine XS.iload X193.here hx rfl (hb hby at_389) rfl ?_
              show oS p e below T193 m 391 #[oi p0, oi p1, oi cp, oi (p1.toInt8.toInt32), oa b103, oi (4 : Int32), oi (4 : Int32), oi b0, oi b1, oi b2, oi b3, oi (((((b0 &&& (7 : Int32)) <<< ((18 : Int32) &&& 31)) ||| ((b1 &&& (63 : Int32)) <<< ((12 : Int32) &&& 31))) ||| ((b2 &&& (63 : Int32)) <<< ((6 : Int32) &&& 31))) ||| (b3 &&& (63 : Int32))), .unset] [(.int (4 : Int32))] _
              refine XS.iconst X193.here hx rfl (hb hby at_391) ?_
              show oS p e below T193 m 392 #[oi p0, oi p1, oi cp, oi (p1.toInt8.toInt32), oa b103, oi (4 : Int32), oi (4 : Int32), oi b0, oi b1, oi b2, oi b3, oi (((((b0 &&& (7 : Int32)) <<< ((18 : Int32) &&& 31)) ||| ((b1 &&& (63 : Int32)) <<< ((12 : Int32) &&& 31))) ||| ((b2 &&& (63 : Int32)) <<< ((6 : Int32) &&& 31))) ||| (b3 &&& (63 : Int32))), .unset] [(.int (3 : Int32)), (.int (4 : Int32))] _
              refine XS.icmpYes X193.here hx rfl (pc0 := 392) (pc' := 403) rfl (hb hby at_392) rfl (tlt b198).2.2.1 (by decide) (by decide) ?_
              show oS p e below T193 m 403 #[oi p0, oi p1, oi cp, oi (p1.toInt8.toInt32), oa b103, oi (4 : Int32), oi (4 : Int32), oi b0, oi b1, oi b2, oi b3, oi (((((b0 &&& (7 : Int32)) <<< ((18 : Int32) &&& 31)) ||| ((b1 &&& (63 : Int32)) <<< ((12 : Int32) &&& 31))) ||| ((b2 &&& (63 : Int32)) <<< ((6 : Int32) &&& 31))) ||| (b3 &&& (63 : Int32))), .unset] [] _
              refine XS.aload X193.here hx rfl (hb hby at_403) rfl rfl ?_
              show oS p e below T193 m 405 #[oi p0, oi p1, oi cp, oi (p1.toInt8.toInt32), oa b103, oi (4 : Int32), oi (4 : Int32), oi b0, oi b1, oi b2, oi b3, oi (((((b0 &&& (7 : Int32)) <<< ((18 : Int32) &&& 31)) ||| ((b1 &&& (63 : Int32)) <<< ((12 : Int32) &&& 31))) ||| ((b2 &&& (63 : Int32)) <<< ((6 : Int32) &&& 31))) ||| (b3 &&& (63 : Int32))), .unset] [(.ref b103)] _
              refine XS.iconst X193.here hx rfl (hb hby at_405) ?_
              show oS p e below T193 m 406 #[oi p0, oi p1, oi cp, oi (p1.toInt8.toInt32), oa b103, oi (4 : Int32), oi (4 : Int32), oi b0, oi b1, oi b2, oi b3, oi (((((b0 &&& (7 : Int32)) <<< ((18 : Int32) &&& 31)) ||| ((b1 &&& (63 : Int32)) <<< ((12 : Int32) &&& 31))) ||| ((b2 &&& (63 : Int32)) <<< ((6 : Int32) &&& 31))) ||| (b3 &&& (63 : Int32))), .unset] [(.int (4 : Int32)), (.ref b103)] _
              refine oLdB X193 hx hZ eq193 Oq176_0 (v := (.int (p1.toInt8.toInt32))) ⟨by decide, by decide⟩ rfl (hb hby at_406) ?_
              show oS p e below T193 m 407 #[oi p0, oi p1, oi cp, oi (p1.toInt8.toInt32), oa b103, oi (4 : Int32), oi (4 : Int32), oi b0, oi b1, oi b2, oi b3, oi (((((b0 &&& (7 : Int32)) <<< ((18 : Int32) &&& 31)) ||| ((b1 &&& (63 : Int32)) <<< ((12 : Int32) &&& 31))) ||| ((b2 &&& (63 : Int32)) <<< ((6 : Int32) &&& 31))) ||| (b3 &&& (63 : Int32))), .unset] [(.int (p1.toInt8.toInt32))] _
              refine XS.iloadN X193.here hx rfl (hb hby at_407) rfl ?_
              show oS p e below T193 m 408 #[oi p0, oi p1, oi cp, oi (p1.toInt8.toInt32), oa b103, oi (4 : Int32), oi (4 : Int32), oi b0, oi b1, oi b2, oi b3, oi (((((b0 &&& (7 : Int32)) <<< ((18 : Int32) &&& 31)) ||| ((b1 &&& (63 : Int32)) <<< ((12 : Int32) &&& 31))) ||| ((b2 &&& (63 : Int32)) <<< ((6 : Int32) &&& 31))) ||| (b3 &&& (63 : Int32))), .unset] [(.int (p1.toInt8.toInt32)), (.int (p1.toInt8.toInt32))] _
              refine XS.icmpNo X193.here hx rfl (hb hby at_408) rfl (teq b199).2 ?_
              show oS p e below T193 m 411 #[oi p0, oi p1, oi cp, oi (p1.toInt8.toInt32), oa b103, oi (4 : Int32), oi (4 : Int32), oi b0, oi b1, oi b2, oi b3, oi (((((b0 &&& (7 : Int32)) <<< ((18 : Int32) &&& 31)) ||| ((b1 &&& (63 : Int32)) <<< ((12 : Int32) &&& 31))) ||| ((b2 &&& (63 : Int32)) <<< ((6 : Int32) &&& 31))) ||| (b3 &&& (63 : Int32))), .unset] [] _
              refine XS.iconst X193.here hx rfl (hb hby at_411) ?_
              show oS p e below T193 m 412 #[oi p0, oi p1, oi cp, oi (p1.toInt8.toInt32), oa b103, oi (4 : Int32), oi (4 : Int32), oi b0, oi b1, oi b2, oi b3, oi (((((b0 &&& (7 : Int32)) <<< ((18 : Int32) &&& 31)) ||| ((b1 &&& (63 : Int32)) <<< ((12 : Int32) &&& 31))) ||| ((b2 &&& (63 : Int32)) <<< ((6 : Int32) &&& 31))) ||| (b3 &&& (63 : Int32))), .unset] [(.int (1 : Int32))] _
              refine XS.goto X193.here hx rfl (pc0 := 412) (pc' := 416) rfl (hb hby at_412) (by decide) (by decide) ?_
              show oS p e below T193 m 416 #[oi p0, oi p1, oi cp, oi (p1.toInt8.toInt32), oa b103, oi (4 : Int32), oi (4 : Int32), oi b0, oi b1, oi b2, oi b3, oi (((((b0 &&& (7 : Int32)) <<< ((18 : Int32) &&& 31)) ||| ((b1 &&& (63 : Int32)) <<< ((12 : Int32) &&& 31))) ||| ((b2 &&& (63 : Int32)) <<< ((6 : Int32) &&& 31))) ||| (b3 &&& (63 : Int32))), .unset] [(.int (1 : Int32))] _
              refine XS.istore X193.here hx rfl (hb hby at_416) rfl (l' := #[oi p0, oi p1, oi cp, oi (p1.toInt8.toInt32), oa b103, oi (4 : Int32), oi (4 : Int32), oi b0, oi b1, oi b2, oi b3, oi (((((b0 &&& (7 : Int32)) <<< ((18 : Int32) &&& 31)) ||| ((b1 &&& (63 : Int32)) <<< ((12 : Int32) &&& 31))) ||| ((b2 &&& (63 : Int32)) <<< ((6 : Int32) &&& 31))) ||| (b3 &&& (63 : Int32))), oi (1 : Int32)]) rfl ?_
              show oS p e below T193 m 418 #[oi p0, oi p1, oi cp, oi (p1.toInt8.toInt32), oa b103, oi (4 : Int32), oi (4 : Int32), oi b0, oi b1, oi b2, oi b3, oi (((((b0 &&& (7 : Int32)) <<< ((18 : Int32) &&& 31)) ||| ((b1 &&& (63 : Int32)) <<< ((12 : Int32) &&& 31))) ||| ((b2 &&& (63 : Int32)) <<< ((6 : Int32) &&& 31))) ||| (b3 &&& (63 : Int32))), oi (1 : Int32)] [] _
              refine XS.iload X193.here hx rfl (hb hby at_418) rfl ?_
              show oS p e below T193 m 420 #[oi p0, oi p1, oi cp, oi (p1.toInt8.toInt32), oa b103, oi (4 : Int32), oi (4 : Int32), oi b0, oi b1, oi b2, oi b3, oi (((((b0 &&& (7 : Int32)) <<< ((18 : Int32) &&& 31)) ||| ((b1 &&& (63 : Int32)) <<< ((12 : Int32) &&& 31))) ||| ((b2 &&& (63 : Int32)) <<< ((6 : Int32) &&& 31))) ||| (b3 &&& (63 : Int32))), oi (1 : Int32)] [(.int (1 : Int32))] _
              exact retN X193 hx (t := .boolean) Bd.returns (by simp) (hb hby at_420) hr
            · show own_Q0 Z p0 p1 h0 n0 _ T193.heap _
              rw [eq193]
              exact ⟨rfl, N193⟩
    · skip
      obtain ⟨fs, hr, hrun, hended, hW, hsame⟩ := X0.leave (v := (some (.int (1 : Int32)))) (fun h => by rw [Bd.returns] at h; cases h)
      refine ⟨_, _, pre101 _ ?_, hrun, hended, _, _, rfl, ?_, ⟨_, rfl⟩, hW, hsame.mono (by decide) (by decide)⟩
      · show oS p e below s₁ m 17 #[oi p0, oi p1, oi cp, .unset, .unset, .unset, .unset, .unset, .unset, .unset, .unset, .unset, .unset] [(.int (57343 : Int32)), (.int cp)] _
        refine XS.icmpNo X0.here hx rfl (hb hby at_17) rfl (flt c102).2.2.1 ?_
        show oS p e below s₁ m 20 #[oi p0, oi p1, oi cp, .unset, .unset, .unset, .unset, .unset, .unset, .unset, .unset, .unset, .unset] [] _
        refine XS.iconst X0.here hx rfl (hb hby at_20) ?_
        show oS p e below s₁ m 21 #[oi p0, oi p1, oi cp, .unset, .unset, .unset, .unset, .unset, .unset, .unset, .unset, .unset, .unset] [(.int (1 : Int32))] _
        exact retN X0 hx (t := .boolean) Bd.returns (by simp) (hb hby at_21) hr
      · show own_Q0 Z p0 p1 h0 n0 _ s₁.heap _
        rw [e0]
        exact ⟨rfl, N0⟩
set_option maxRecDepth 65536 in
set_option maxHeartbeats 40000000 in
theorem own_comes {Post : Tables → Env → Array Value → State → Outcome → State → Prop} (hpost : ∀ tb e args s v u, (limb_1_1.after args s (.returned v) u = true ∧ limb_1_2.after args s (.returned v) u = true ∧ True) → FrameEnd s (.returned v) u (Jvm.fieldLocs frame_1_writes args s ++ Jvm.arrayLocs frame_1_arrays args s ++ Jvm.staticLocs frame_1_statics s) 16 128 → Post tb e args s (.returned v) u) :
    ArmFor flags0 classFile x code maxLocals ret World_1 tables_1 room_1 Calls_1 rest_1 Pre_1 Post := by
  intro l hfl _ _ p e ha hc hk s m args below hf hA hF happ hP
  obtain ⟨hcalls, hrest, hpre⟩ := hP
  obtain ⟨-, -, -, hnamed, -, -, -, hat⟩ := (Spec.applies_iff hf).mp happ
  obtain ⟨hg, hn⟩ := and_e (Cond.before_iff.mp (show (Jvm.Cond.and given_1 narrow_1).before args s = true from hpre))
  obtain ⟨gv1, gv2⟩ := and_e hg
  obtain ⟨gv3, gv4⟩ := and_e gv2
  obtain ⟨w0, w1, rfl⟩ : ∃ w0 w1 : Value, args = #[w0, w1] := by
    have hs : args.size = 2 := by simpa [Cond.value, given_1] using gv1
    obtain ⟨L⟩ := args
    match L, hs with
    | [w0, w1], _ => exact ⟨w0, w1, rfl⟩
  have hw := fun d (hd : d ∈ tables_1) => atoms_spec (ws := Jvm.Cond.code x code maxLocals ret :: tables_1) hat d (List.mem_cons_of_mem _ hd)
  have hfit : Fit s := fun {y c} hc i hi => by
    obtain ⟨ha, rfl⟩ := Array.getElem?_eq_some_iff.mp hc
    have q := List.all_eq_true.mp ((Array.all_eq_true_iff_forall_mem.mp hF) _ (Array.getElem_mem ha)) i (List.mem_range.mpr hi)
    simpa [Array.getElem?_eq_getElem hi] using q
  obtain ⟨i0, ei0⟩ := is_v gv3
  obtain rfl : w0 = (.int i0) := Option.some.inj ei0
  obtain ⟨i1, ei1⟩ := is_v gv4
  obtain rfl : w1 = (.int i1) := Option.some.inj ei1
  obtain ⟨n, o, h1, h2, h3, _, L, rfl, ⟨rfl, N⟩, hq⟩ := own_rm0 l s _ hw tables_1 i0 i1  s.heap s.heap.size (Nat.le_refl _)  p e ha hc hk s m _ below hf ((Spec.applies_iff_loose hf).mp happ).1 ⟨rfl, State.Warmed39.refl s, rfl⟩ trivial
  refine ⟨n, _, h1, h2, h3, hpost _ _ _ _ _ _ ⟨Cond.after_iff.mpr rfl, Cond.after_iff.mpr (eq_i res_at (Term.int_eval (1)) rfl), trivial⟩ ⟨hq.1, hq.2.1, (hq.2.2.sift fun y hy => Or.inr (N y hy)).mono (by decide) (by decide)⟩⟩
theorem main_1_1 : Claimed_1_1 := own_comes fun _ _ _ _ _ _ h hF => ⟨h.1, hF⟩
theorem main_1_2 : Claimed_1_2 := own_comes fun _ _ _ _ _ _ h hF => ⟨h.2.1, hF⟩
end Jvm.Pilot.@@N@@
namespace Jvm.Pilot.@@N@@
open Jvm Jvm.ClassFile Sem Op Lib Jvm.Free Jvm.Stand Jvm.Pilot.@@N@@.Jvm.D
/-! MADE BY PROGRAM (witnessworld.py) out of the Statement's table words and the real class files: 9 classes; the members and pool entries that the words name. The judged class is class 1, her method 2. -/
namespace start1
open Jvm.ClassFile
def u (s : String) : CpInfo := .utf8 (stringToUtf16 s)
/-- a pool by its gaps: so many unusable entries, then the entry; so many at the end -/
def gap : Nat → List CpInfo → List CpInfo
  | 0, r => r
  | n + 1, r => .unusable :: gap n r
def poolList (es : List (Nat × CpInfo)) (last : Nat) : List CpInfo := es.foldr (fun e r => gap e.1 (e.2 :: r)) (gap last [])
def pool (es : List (Nat × CpInfo)) (last : Nat) : Array CpInfo := ⟨poolList es last⟩
def fileOf (pool : Array CpInfo) (this : Nat) (attrs : Array Attribute := #[]) (ms : Array MethodInfo := #[]) (fl : Nat := 33) (sup : Nat := 0) (ifs : Array Nat := #[]) (fds : Array FieldInfo := #[]) : ClassFile where
  minorVersion := 0
  majorVersion := 65
  constantPool := pool
  accessFlags := fl
  thisClass := this
  superClass := sup
  interfaces := ifs
  fields := fds
  methods := ms
  attributes := attrs
def plain (name : String) (sup : Option ClassId) : Class where
  name := name
  kind := .ordinary
  loader := none
  accessFlags := 33
  super := sup
  interfaces := #[]
  cf := none
  fields := #[]
  methods := #[]
  instanceTypes := #[]
  staticTypes := #[]
  resolved := #[]
  callSites := []
  init := .initialized
  statics := none
  mirror := none

def pool0 : Array CpInfo := pool [(5, u "<init>"), (0, u "()V"), (1, .class_ 10), (1, u "java/lang/Object")] 113

def k0m0 : Method := { name := "<init>", desc := "()V", sig := { parameters := [], returnType := none }, accessFlags := 1, code := none }
/-- java/lang/Object -/
def k0 : Class := { plain "java/lang/Object" none with
  accessFlags := 33
  interfaces := #[]
  cf := some (fileOf pool0 8 #[] #[{ accessFlags := 1, nameIndex := 5, descriptorIndex := 6, attributes := #[] }] 33 0 #[] #[])
  fields := #[]
  methods := #[k0m0]
  instanceTypes := #[]
  staticTypes := #[]
  resolved := Array.replicate 124 none
  statics := none }

def pool1 : Array CpInfo := pool [(2, .class_ 4), (1, u "java/lang/Object"), (0, u "<init>"), (0, u "()V"), (0, .integer 2147483647), (0, .integer 1114112), (0, .integer 55296), (0, .integer 57343), (0, .methodref 12 13), (0, .class_ 14), (0, .nameAndType 15 16), (0, u "com/example/godwit/godwit/link/Utf8"), (0, u "encode"), (0, u "(I[B)I"), (0, .integer 65536), (0, .methodref 19 20), (0, .class_ 21), (0, .nameAndType 22 23), (0, u "com/example/godwit/godwit/link/Utf8EncodePinLaw"), (0, u "cont"), (0, u "(I)Z"), (3, u "law"), (0, u "(II)Z")] 4

def k1m0 : Method := { name := "<init>", desc := "()V", sig := { parameters := [], returnType := none }, accessFlags := 2, code := none }
def k1c1 : Code := { maxStack := 2, maxLocals := 1, code := method_2_code, exceptionTable := #[], attributes := #[] }
def k1m1 : Method := { name := "cont", desc := "(I)Z", sig := { parameters := [.int], returnType := some .boolean }, accessFlags := 10, code := some k1c1 }
def k1c2 : Code := { maxStack := 3, maxLocals := 13, code := code, exceptionTable := #[], attributes := #[] }
def k1m2 : Method := { name := "law", desc := "(II)Z", sig := { parameters := [.int, .int], returnType := some .boolean }, accessFlags := 9, code := some k1c2 }
/-- com/example/godwit/godwit/link/Utf8EncodePinLaw -/
def k1 : Class := { plain "com/example/godwit/godwit/link/Utf8EncodePinLaw" (some 0) with
  accessFlags := 49
  interfaces := #[]
  cf := some (fileOf pool1 19 #[] #[{ accessFlags := 2, nameIndex := 5, descriptorIndex := 6, attributes := #[] }, { accessFlags := 10, nameIndex := 22, descriptorIndex := 23, attributes := #[] }, { accessFlags := 9, nameIndex := 27, descriptorIndex := 28, attributes := #[] }] 49 2 #[] #[])
  fields := #[]
  methods := #[k1m0, k1m1, k1m2]
  instanceTypes := #[]
  staticTypes := #[]
  resolved := Array.replicate 33 none
  statics := none }

def pool2 : Array CpInfo := pool [(2, .class_ 4), (1, u "java/lang/Object"), (0, u "<init>"), (0, u "()V"), (22, .integer 65536), (1, .class_ 33), (1, u "com/example/godwit/godwit/link/Utf8"), (0, u "LEADS"), (0, u "[I"), (12, u "HEX_DIGITS"), (0, u "[C"), (14, u "LONGEST"), (0, u "I"), (7, u "encode"), (0, u "(I[B)I")] 10

def k2m0 : Method := { name := "<init>", desc := "()V", sig := { parameters := [], returnType := none }, accessFlags := 2, code := none }
def k2c1 : Code := { maxStack := 5, maxLocals := 2, code := prog_21_method_3_code, exceptionTable := #[], attributes := #[] }
def k2m1 : Method := { name := "encode", desc := "(I[B)I", sig := { parameters := [.int, (.array .byte)], returnType := some .int }, accessFlags := 8, code := some k2c1 }
/-- com/example/godwit/godwit/link/Utf8 -/
def k2 : Class := { plain "com/example/godwit/godwit/link/Utf8" (some 0) with
  accessFlags := 48
  interfaces := #[]
  cf := some (fileOf pool2 31 #[] #[{ accessFlags := 2, nameIndex := 5, descriptorIndex := 6, attributes := #[] }, { accessFlags := 8, nameIndex := 73, descriptorIndex := 74, attributes := #[] }] 48 2 #[] #[{ accessFlags := 24, nameIndex := 64, descriptorIndex := 65, attributes := #[] }, { accessFlags := 26, nameIndex := 48, descriptorIndex := 49, attributes := #[] }, { accessFlags := 26, nameIndex := 34, descriptorIndex := 35, attributes := #[] }])
  fields := #[{ name := "LONGEST", type := .int, accessFlags := 24, slot := 0, constantValue := 0 }, { name := "HEX_DIGITS", type := (.array .char), accessFlags := 26, slot := 1, constantValue := 0 }, { name := "LEADS", type := (.array .int), accessFlags := 26, slot := 2, constantValue := 0 }]
  methods := #[k2m0, k2m1]
  instanceTypes := #[]
  staticTypes := #[.int, (.array .char), (.array .int)]
  resolved := Array.replicate 85 none
  statics := none }

def pool3 : Array CpInfo := pool [(1, u "java/lang/Cloneable"), (0, .class_ 1), (0, u "java/lang/Object"), (0, .class_ 3)] 3

/-- java/lang/Cloneable -/
def k3 : Class := { plain "java/lang/Cloneable" (some 0) with
  accessFlags := 1537
  interfaces := #[]
  cf := some (fileOf pool3 2 #[] #[] 1537 4 #[] #[])
  fields := #[]
  methods := #[]
  instanceTypes := #[]
  staticTypes := #[]
  resolved := Array.replicate 8 none
  statics := none }

def pool4 : Array CpInfo := pool [(1, u "java/io/Serializable"), (0, .class_ 1), (0, u "java/lang/Object"), (0, .class_ 3)] 3

/-- java/io/Serializable -/
def k4 : Class := { plain "java/io/Serializable" (some 0) with
  accessFlags := 1537
  interfaces := #[]
  cf := some (fileOf pool4 2 #[] #[] 1537 4 #[] #[])
  fields := #[]
  methods := #[]
  instanceTypes := #[]
  staticTypes := #[]
  resolved := Array.replicate 8 none
  statics := none }

/-- the primitive byte -/
def k5 : Class := { plain "byte" none with kind := .primitive 'B', accessFlags := 0x411 }
/-- [B -/
def k6 : Class := { plain "[B" (some 0) with kind := .array 5 .byte, interfaces := #[3, 4], accessFlags := 1041 }

/-- the primitive int -/
def k7 : Class := { plain "int" none with kind := .primitive 'I', accessFlags := 0x411 }
/-- [I -/
def k8 : Class := { plain "[I" (some 0) with kind := .array 7 .int, interfaces := #[3, 4], accessFlags := 1041 }

def heap : Heap := #[]
def classes : Array Class := #[k0, k1, k2, k3, k4, k5, k6, k7, k8]
def interned : List (Array UInt16 × Addr) := []
def slotsUsed : Nat := 0
def theMethod : MethodId := ⟨1, 2⟩
def args0 : Array Value := #[.int 233, .int 7]
def aboutOver (below : List Frame) : State where
  vm := { classes := classes, interned := interned.toArray }
  heap := heap
  slotsUsed := slotsUsed
  threads := #[{ frames := .invoking theMethod args0 :: below }]
def below0 : List Frame := [.native { method := ⟨0, 0⟩, args := #[] }]
def about1 : State := aboutOver below0
def p0 : Program := .bare "" "" ""
def e0 : Env := launch0.env 0 0 0
theorem w_frames : about1.frames = Frame.invoking theMethod args0 :: below0 := rfl
set_option maxRecDepth 65536 in
theorem w_args : argsFit about1.vm theMethod args0 = true := by decide +kernel
set_option maxRecDepth 65536 in
theorem w_heap : heapFits about1 = true := by decide +kernel
set_option maxRecDepth 65536 in
theorem w_runnable : about1.curStatus? = some .runnable := by decide +kernel
set_option maxRecDepth 65536 in
theorem w_alone : about1.alone = true := by decide +kernel
set_option maxRecDepth 65536 in
theorem w_named : about1.methodNamed? x = some theMethod := by decide +kernel
set_option maxRecDepth 65536 in
theorem w_hears : about1.hears theMethod below0 = true := by decide +kernel
set_option maxRecDepth 65536 in
theorem w_ripe : about1.ripe theMethod args0 below0 = true := by decide +kernel
theorem w_running : about1.status = .running := rfl
set_option maxRecDepth 65536 in
theorem w_room : about1.hasRoom e0.platform room_1 = true :=
  launch0.hasRoom_least _ room_1 (by decide +kernel) (by decide +kernel) (by decide +kernel) (by decide +kernel) (by decide +kernel) (by decide +kernel)
theorem allAtoms_all (ts : List Jvm.Cond) (a : Array Jvm.Value) (st : Jvm.State) : (allAtoms ts).before a st = ts.all (fun c => c.before a st) := by
  induction ts with
  | nil => rfl
  | cons c t ih =>
    show (Jvm.Cond.and c (allAtoms t)).before a st = _
    rw [Jvm.Cond.before_and, ih, List.all_cons]
def words1 : List Jvm.Cond := Jvm.Cond.code x code maxLocals ret :: tables_1
/-- a 'code' word, met by the world's own term for the bytes: nothing is compared byte by byte -/
theorem code_word {y : MethodName} {bytes : ByteArray} {mx : Nat} {rt : Option FieldType} {a : Array Value} {s : State} {m : MethodId} {meth : Method} {c : Code} (h1 : s.methodNamed? y = some m) (h2 : s.vm.method? m = some meth) (h3 : meth.code = some c) (h4 : c.code = bytes)
    (h5 : (c.maxLocals == mx && c.exceptionTable.isEmpty && decide (c.maxStack ≤ mostOperands) && decide (meth.sig.returnType = rt) && !meth.locks && decide (parseMethodDescriptor y.desc = some meth.sig)) = true) : (Jvm.Cond.code y bytes mx rt).before a s = true := by
  simp only [Bool.and_eq_true, beq_iff_eq, Bool.not_eq_true', decide_eq_true_eq] at h5
  obtain ⟨⟨⟨⟨⟨g1, g2⟩, g3⟩, g4⟩, g5⟩, g6⟩ := h5
  simp [Cond.before, Cond.holds, Cond.value, h1, h2, h3, h4, g1, g2, g3, g4, g5, g6]
def isCode : Jvm.Cond → Bool
  | .code _ _ _ _ => true
  | _ => false
theorem all_split {L : List Jvm.Cond} {P : Jvm.Cond → Bool} (h1 : L.all (fun c => isCode c || P c) = true) (h2 : ∀ c ∈ L.filter isCode, P c = true) : L.all P = true := by
  refine List.all_eq_true.mpr fun c hc => ?_
  have h := List.all_eq_true.mp h1 c hc
  rcases Bool.eq_false_or_eq_true (isCode c) with hi | hi
  · exact h2 c (List.mem_filter.mpr ⟨hc, hi⟩)
  · simpa [hi] using h
set_option maxRecDepth 65536 in
theorem w_c0 : (Jvm.Cond.code x code maxLocals ret).before args0 about1 = true := code_word (m := ⟨1, 2⟩) (meth := k1m2) (c := k1c2) (by decide +kernel) rfl rfl rfl (by decide +kernel)
set_option maxRecDepth 65536 in
theorem w_c1 : (Jvm.Cond.code ({ cls := "com/example/godwit/godwit/link/Utf8", name := "encode", desc := "(I[B)I" } : Jvm.MethodName) prog_21_method_3_code (2 : Nat) (Option.some Jvm.ClassFile.FieldType.int)).before args0 about1 = true := code_word (m := ⟨2, 1⟩) (meth := k2m1) (c := k2c1) (by decide +kernel) rfl rfl rfl (by decide +kernel)
set_option maxRecDepth 65536 in
theorem w_c2 : (Jvm.Cond.code ({ cls := "com/example/godwit/godwit/link/Utf8EncodePinLaw", name := "cont", desc := "(I)Z" } : Jvm.MethodName) method_2_code (1 : Nat) (Option.some Jvm.ClassFile.FieldType.boolean)).before args0 about1 = true := code_word (m := ⟨1, 1⟩) (meth := k1m1) (c := k1c1) (by decide +kernel) rfl rfl rfl (by decide +kernel)
def codes1 : List Jvm.Cond := [Jvm.Cond.code x code maxLocals ret, Jvm.Cond.code ({ cls := "com/example/godwit/godwit/link/Utf8", name := "encode", desc := "(I[B)I" } : Jvm.MethodName) prog_21_method_3_code (2 : Nat) (Option.some Jvm.ClassFile.FieldType.int), Jvm.Cond.code ({ cls := "com/example/godwit/godwit/link/Utf8EncodePinLaw", name := "cont", desc := "(I)Z" } : Jvm.MethodName) method_2_code (1 : Nat) (Option.some Jvm.ClassFile.FieldType.boolean)]
set_option maxRecDepth 65536 in
theorem codes_eq : words1.filter isCode = codes1 := rfl
theorem w_codes : ∀ c ∈ words1.filter isCode, c.before args0 about1 = true := by
  rw [codes_eq]
  intro c hc
  simp only [codes1, List.mem_cons, List.not_mem_nil, or_false] at hc
  rcases hc with rfl | rfl | rfl
  · exact w_c0
  · exact w_c1
  · exact w_c2
set_option maxRecDepth 65536 in
theorem w_t1 : words1.all (fun c => isCode c || c.before args0 about1) = true := by decide +kernel
theorem w_tables : (allAtoms (Jvm.Cond.code x code maxLocals ret :: tables_1)).before args0 about1 = true := by
  rw [allAtoms_all]
  show words1.all (fun c => c.before args0 about1) = true
  refine all_split ?_ w_codes
  rw [w_t1]
set_option maxRecDepth 65536 in
theorem w_case : (Jvm.Cond.and given_1 narrow_1).before args0 about1 = true := by decide +kernel
theorem w_applies : (headSpec (Jvm.Cond.code x code maxLocals ret :: tables_1) room_1).applies x e0.platform about1 = true :=
  (Spec.applies_iff w_frames).mpr ⟨w_running, w_runnable, w_alone, w_named, w_hears, w_ripe, w_room, w_tables⟩
theorem atStart : AtStart classFile x code maxLocals ret World_1 tables_1 room_1 Calls_1 rest_1 Pre_1 launch0 p0 e0 about1 theMethod args0 below0 :=
  ⟨lists_1, trivial, launch0.admits_env _ _ _, launch0.least_env, fairChoices_fair.cas, fairChoices_fair.clock, w_frames, w_args, w_heap, w_applies, trivial, trivial, w_case⟩
end start1
theorem witness_1 : WitnessClaimed_1 := ⟨start1.p0, start1.e0, start1.about1, start1.theMethod, start1.args0, start1.below0, start1.atStart⟩
end Jvm.Pilot.@@N@@
