import JvmDerived
import JvmDerived.Pilot.@@N@@Statement
import JvmDerived.Pilot.@@N@@Code
set_option linter.unusedVariables false
set_option linter.unusedSimpArgs false
namespace Jvm.Pilot.@@N@@
open Jvm Jvm.ClassFile Sem Op Lib Jvm.Free Jvm.Stand Jvm.LawKit Jvm.RoadKit Bundle Jvm.Pilot.@@N@@.Jvm.D
section OwnKit
variable {p : Program} {l : Launch} {e : Env} {R : Room} {s : State} {m : MethodId} {args : Array Value} {below : List Frame} {meth : Method} {c : Code} {T : State} {locs : List Loc} {cells slots : Nat} {Z : State} {h : Heap} {a : Addr} {k : ClassId} {z : Int32} {vs : List Value} {dv : Value}
theorem oLen (X : Stand p l e R s m args below meth c T locs cells slots) (hx : p.tables.exec = Jvm.exec) (hZ : Z.Warmed39 s.vm) (eT : T.heap = h) {ty : FieldType} (F : Arv Z h a k ty z vs dv) {pc : Nat} {Ls : Array Slot} {rest : List Value} (hd : decode c.code pc = .ok (.arraylength, 1)) {target : State}
    (hr : Steps p.tables e below (T.setTop (mkF m (pc + 1) Ls (.int z :: rest))) target) : Steps p.tables e below (T.setTop (mkF m pc Ls (.ref a :: rest))) target := by
  obtain ⟨cl, A, -, S, M, -, -⟩ := F
  refine X.arraylength hx (by rw [eT]; exact A.1) (State.isArrayOf_alike hZ.alike A.2.1) (g := mkF m pc Ls (.ref a :: rest)) rfl rfl hd target ?_
  rw [len_of S M]
  exact hr
theorem oLdI (X : Stand p l e R s m args below meth c T locs cells slots) (hx : p.tables.exec = Jvm.exec) (hZ : Z.Warmed39 s.vm) (eT : T.heap = h) (F : Arv Z h a k .int z vs dv) {j : Int32} {v : Value} (hj : ¬ j < 0 ∧ j < z) (hv : vs.getD j.toNatClampNeg dv = v) {pc : Nat} {Ls : Array Slot} {rest : List Value} (hd : decode c.code pc = .ok (.iaload, 1)) {target : State}
    (hr : Steps p.tables e below (T.setTop (mkF m (pc + 1) Ls (v :: rest))) target) : Steps p.tables e below (T.setTop (mkF m pc Ls (.int j :: .ref a :: rest))) target := by
  obtain ⟨cl, A, -, S, -, H, -⟩ := F
  have hin := inb_of S hj
  exact X.iaload hx (by rw [eT]; exact A.1) (State.isArrayOf_alike hZ.alike A.2.1) A.2.2 hin (Has.at H hin hv) (g := mkF m pc Ls (.int j :: .ref a :: rest)) rfl rfl hd target hr
theorem oLdB (X : Stand p l e R s m args below meth c T locs cells slots) (hx : p.tables.exec = Jvm.exec) (hZ : Z.Warmed39 s.vm) (eT : T.heap = h) (F : Arv Z h a k .byte z vs dv) {j : Int32} {v : Value} (hj : ¬ j < 0 ∧ j < z) (hv : vs.getD j.toNatClampNeg dv = v) {pc : Nat} {Ls : Array Slot} {rest : List Value} (hd : decode c.code pc = .ok (.baload, 1)) {target : State}
    (hr : Steps p.tables e below (T.setTop (mkF m (pc + 1) Ls (v :: rest))) target) : Steps p.tables e below (T.setTop (mkF m pc Ls (.int j :: .ref a :: rest))) target := by
  obtain ⟨cl, A, -, S, -, H, -⟩ := F
  have hin := inb_of S hj
  exact X.baloadBytes hx (by rw [eT]; exact A.1) (State.isArrayOf_alike hZ.alike A.2.1) A.2.2 hin (Has.at H hin hv) (g := mkF m pc Ls (.int j :: .ref a :: rest)) rfl rfl hd target hr
theorem oLdJ (X : Stand p l e R s m args below meth c T locs cells slots) (hx : p.tables.exec = Jvm.exec) (hZ : Z.Warmed39 s.vm) (eT : T.heap = h) (F : Arv Z h a k .long z vs dv) {j : Int32} {v : Value} (hj : ¬ j < 0 ∧ j < z) (hv : vs.getD j.toNatClampNeg dv = v) {pc : Nat} {Ls : Array Slot} {rest : List Value} (hd : decode c.code pc = .ok (.laload, 1)) {target : State}
    (hr : Steps p.tables e below (T.setTop (mkF m (pc + 1) Ls (v :: rest))) target) : Steps p.tables e below (T.setTop (mkF m pc Ls (.int j :: .ref a :: rest))) target := by
  obtain ⟨cl, A, -, S, -, H, -⟩ := F
  have hin := inb_of S hj
  exact X.laload hx (by rw [eT]; exact A.1) (State.isArrayOf_alike hZ.alike A.2.1) A.2.2 hin (Has.at H hin hv) (g := mkF m pc Ls (.int j :: .ref a :: rest)) rfl rfl hd target hr
theorem oLdD (X : Stand p l e R s m args below meth c T locs cells slots) (hx : p.tables.exec = Jvm.exec) (hZ : Z.Warmed39 s.vm) (eT : T.heap = h) (F : Arv Z h a k .double z vs dv) {j : Int32} {v : Value} (hj : ¬ j < 0 ∧ j < z) (hv : vs.getD j.toNatClampNeg dv = v) {pc : Nat} {Ls : Array Slot} {rest : List Value} (hd : decode c.code pc = .ok (.daload, 1)) {target : State}
    (hr : Steps p.tables e below (T.setTop (mkF m (pc + 1) Ls (v :: rest))) target) : Steps p.tables e below (T.setTop (mkF m pc Ls (.int j :: .ref a :: rest))) target := by
  obtain ⟨cl, A, -, S, -, H, -⟩ := F
  have hin := inb_of S hj
  exact X.daload hx (by rw [eT]; exact A.1) (State.isArrayOf_alike hZ.alike A.2.1) A.2.2 hin (Has.at H hin hv) (g := mkF m pc Ls (.int j :: .ref a :: rest)) rfl rfl hd target hr
theorem oStI (X : Stand p l e R s m args below meth c T locs cells slots) (hx : p.tables.exec = Jvm.exec) (hZ : Z.Warmed39 s.vm) (eT : T.heap = h) (F : Arv Z h a k .int z vs dv) {j : Int32} {x : Int32} (hj : ¬ j < 0 ∧ j < z) (i : Nat) (hi : j.toNatClampNeg = i) (hl : i < vs.length) {g : JFrame} (hg : g.method = m) {rest : List Value} (hs : g.stack = .int x :: .int j :: .ref a :: rest) (hd : decode c.code g.pc = .ok (.iastore, 1)) :
    ∃ T' h', Stand p l e R s m args below meth c T' (locs ++ [⟨a, j.toNatClampNeg⟩]) cells slots ∧ T'.heap = h' ∧ Wr h h' a j.toNatClampNeg (.int x) ∧ Arv Z h' a k .int z (vs.set i (.int x)) dv ∧ ∀ target, Steps p.tables e below (T'.setTop { g with pc := g.pc + 1, stack := rest }) target → Steps p.tables e below (T.setTop g) target := by
  obtain ⟨cl, A, q1, S, M, H, G⟩ := F
  obtain ⟨T', h', X', e', W, st⟩ := stI X hx hZ eT A (j := j) (inb_of S hj) hg hs hd
  exact ⟨T', h', X', e', W, Arv.set A q1 S M H G rfl W i hi hl, st⟩
theorem oStB (X : Stand p l e R s m args below meth c T locs cells slots) (hx : p.tables.exec = Jvm.exec) (hZ : Z.Warmed39 s.vm) (eT : T.heap = h) (F : Arv Z h a k .byte z vs dv) {j : Int32} {x : Int32} (hj : ¬ j < 0 ∧ j < z) (i : Nat) (hi : j.toNatClampNeg = i) (hl : i < vs.length) {g : JFrame} (hg : g.method = m) {rest : List Value} (hs : g.stack = .int x :: .int j :: .ref a :: rest) (hd : decode c.code g.pc = .ok (.bastore, 1)) :
    ∃ T' h', Stand p l e R s m args below meth c T' (locs ++ [⟨a, j.toNatClampNeg⟩]) cells slots ∧ T'.heap = h' ∧ Wr h h' a j.toNatClampNeg (.int (nar .byte x)) ∧ Arv Z h' a k .byte z (vs.set i (.int (nar .byte x))) dv ∧ ∀ target, Steps p.tables e below (T'.setTop { g with pc := g.pc + 1, stack := rest }) target → Steps p.tables e below (T.setTop g) target := by
  obtain ⟨cl, A, q1, S, M, H, G⟩ := F
  obtain ⟨T', h', X', e', W, st⟩ := stB X hx hZ eT A (j := j) (inb_of S hj) hg hs hd
  exact ⟨T', h', X', e', W, Arv.set A q1 S M H G (fits_nar_byte x) W i hi hl, st⟩
theorem oStJ (X : Stand p l e R s m args below meth c T locs cells slots) (hx : p.tables.exec = Jvm.exec) (hZ : Z.Warmed39 s.vm) (eT : T.heap = h) (F : Arv Z h a k .long z vs dv) {j : Int32} {x : Int64} (hj : ¬ j < 0 ∧ j < z) (i : Nat) (hi : j.toNatClampNeg = i) (hl : i < vs.length) {g : JFrame} (hg : g.method = m) {rest : List Value} (hs : g.stack = .long x :: .int j :: .ref a :: rest) (hd : decode c.code g.pc = .ok (.lastore, 1)) :
    ∃ T' h', Stand p l e R s m args below meth c T' (locs ++ [⟨a, j.toNatClampNeg⟩]) cells slots ∧ T'.heap = h' ∧ Wr h h' a j.toNatClampNeg (.long x) ∧ Arv Z h' a k .long z (vs.set i (.long x)) dv ∧ ∀ target, Steps p.tables e below (T'.setTop { g with pc := g.pc + 1, stack := rest }) target → Steps p.tables e below (T.setTop g) target := by
  obtain ⟨cl, A, q1, S, M, H, G⟩ := F
  obtain ⟨T', h', X', e', W, st⟩ := stJ X hx hZ eT A (j := j) (inb_of S hj) hg hs hd
  exact ⟨T', h', X', e', W, Arv.set A q1 S M H G rfl W i hi hl, st⟩
theorem oStD (X : Stand p l e R s m args below meth c T locs cells slots) (hx : p.tables.exec = Jvm.exec) (hZ : Z.Warmed39 s.vm) (eT : T.heap = h) (F : Arv Z h a k .double z vs dv) {j : Int32} {x : UInt64} (hj : ¬ j < 0 ∧ j < z) (i : Nat) (hi : j.toNatClampNeg = i) (hl : i < vs.length) {g : JFrame} (hg : g.method = m) {rest : List Value} (hs : g.stack = .double x :: .int j :: .ref a :: rest) (hd : decode c.code g.pc = .ok (.dastore, 1)) :
    ∃ T' h', Stand p l e R s m args below meth c T' (locs ++ [⟨a, j.toNatClampNeg⟩]) cells slots ∧ T'.heap = h' ∧ Wr h h' a j.toNatClampNeg (.double x) ∧ Arv Z h' a k .double z (vs.set i (.double x)) dv ∧ ∀ target, Steps p.tables e below (T'.setTop { g with pc := g.pc + 1, stack := rest }) target → Steps p.tables e below (T.setTop g) target := by
  obtain ⟨cl, A, q1, S, M, H, G⟩ := F
  obtain ⟨T', h', X', e', W, st⟩ := stD X hx hZ eT A (j := j) (inb_of S hj) hg hs hd
  exact ⟨T', h', X', e', W, Arv.set A q1 S M H G rfl W i hi hl, st⟩
theorem oOpq {n0 : Nat} (X : Stand p l e R s m args below meth c T locs cells slots) (N : Fr n0 locs) : ∃ L, Stand p l e R s m args below meth c T L cells slots ∧ Fr n0 L := ⟨_, X, N⟩
end OwnKit
abbrev oi (x : Int32) : Slot := .val (.int x)
abbrev oj (x : Int64) : Slot := .val (.long x)
abbrev oa (x : Addr) : Slot := .val (.ref x)
abbrev od (x : UInt64) : Slot := .val (.double x)
abbrev oS (p : Program) (e : Env) (below : List Frame) (T : State) (m : MethodId) (pc : Nat) (L : Array Slot) (S : List Value) (t : State) : Prop := Steps p.tables e below (T.setTop (mkF m pc L S)) t
theorem own_ltp (x k : Int32) : (x < k) = (x.toInt < k.toInt) := propext Int32.lt_iff_toInt_lt
theorem own_eqp (x k : Int32) : (x = k) = (x.toInt = k.toInt) := propext Int32.toInt_inj.symm
theorem own_ltpL (x k : Int64) : (x < k) = (x.toInt < k.toInt) := propext Int64.lt_iff_toInt_lt
theorem own_eqpL (x k : Int64) : (x = k) = (x.toInt = k.toInt) := propext Int64.toInt_inj.symm
theorem own_of_range {P : Int32 → Prop} (n : Nat) (h : ∀ i : Fin n, P (Int32.ofNat i.1)) (x : Int32) (h0 : 0 ≤ x.toInt) (h1 : x.toInt < (n : Int)) : P x := by
  have e : Int32.ofNat x.toInt.toNat = x := by
    rw [← Int32.ofInt_eq_ofNat, Int.toNat_of_nonneg h0, Int32.ofInt_toInt]
  have q := h ⟨x.toInt.toNat, by omega⟩
  rwa [e] at q
theorem own_getD (ws : List Int32) (n : Nat) : (ws.map Value.int).getD n (.int (0 : Int32)) = .int (ws.getD n 0) := by
  simp only [List.getD_eq_getElem?_getD, List.getElem?_map]
  cases ws[n]? <;> rfl

def own_x0 (q0 q1 : Int64) : Int64 := ((((q0.toUInt64 >>> ((32 : Int32) &&& 0x3f).toInt64.toUInt64).toInt64) * ((q1.toUInt64 >>> ((32 : Int32) &&& 0x3f).toInt64.toUInt64).toInt64)) + (((((((q0.toUInt64 >>> ((32 : Int32) &&& 0x3f).toInt64.toUInt64).toInt64) * (q1 &&& (4294967295 : Int64))) + ((q0 &&& (4294967295 : Int64)) * ((q1.toUInt64 >>> ((32 : Int32) &&& 0x3f).toInt64.toUInt64).toInt64))) + ((((q0 &&& (4294967295 : Int64)) * (q1 &&& (4294967295 : Int64))).toUInt64 >>> ((32 : Int32) &&& 0x3f).toInt64.toUInt64).toInt64)).toUInt64 >>> ((32 : Int32) &&& 0x3f).toInt64.toUInt64).toInt64))
def own_x1 (q0 q1 : Int64) : Int64 := ((((((q0.toUInt64 >>> ((32 : Int32) &&& 0x3f).toInt64.toUInt64).toInt64) * (q1 &&& (4294967295 : Int64))) + ((q0 &&& (4294967295 : Int64)) * ((q1.toUInt64 >>> ((32 : Int32) &&& 0x3f).toInt64.toUInt64).toInt64))) + ((((q0 &&& (4294967295 : Int64)) * (q1 &&& (4294967295 : Int64))).toUInt64 >>> ((32 : Int32) &&& 0x3f).toInt64.toUInt64).toInt64)) &&& (4294967295 : Int64))
def own_x2 (q0 q1 : Int64) : Int64 := (((q0 &&& (4294967295 : Int64)) * (q1 &&& (4294967295 : Int64))) &&& (4294967295 : Int64))
theorem own_pn0 : plainName "com/example/strict_anon/strictanon/util/ProductsComparePinLaw" = true := by first | (simp [plainName, overriddenIn]; done) | decide +kernel
theorem own_d1_0 : decode method_2_code 0 = .ok (.lload_n 0, 1) := by decide +kernel
theorem own_d1_1 : decode method_2_code 1 = .ok (.bipush 32, 2) := by decide +kernel
theorem own_d1_3 : decode method_2_code 3 = .ok (.lushr, 1) := by decide +kernel
theorem own_d1_4 : decode method_2_code 4 = .ok (.lstore 5, 2) := by decide +kernel
theorem own_d1_6 : decode method_2_code 6 = .ok (.lload_n 0, 1) := by decide +kernel
theorem own_d1_7 : decode method_2_code 7 = .ok (.ldc2_w 7, 3) := by decide +kernel
theorem own_d1_10 : decode method_2_code 10 = .ok (.land, 1) := by decide +kernel
theorem own_d1_11 : decode method_2_code 11 = .ok (.lstore 7, 2) := by decide +kernel
theorem own_d1_13 : decode method_2_code 13 = .ok (.lload_n 2, 1) := by decide +kernel
theorem own_d1_14 : decode method_2_code 14 = .ok (.bipush 32, 2) := by decide +kernel
theorem own_d1_16 : decode method_2_code 16 = .ok (.lushr, 1) := by decide +kernel
theorem own_d1_17 : decode method_2_code 17 = .ok (.lstore 9, 2) := by decide +kernel
theorem own_d1_19 : decode method_2_code 19 = .ok (.lload_n 2, 1) := by decide +kernel
theorem own_d1_20 : decode method_2_code 20 = .ok (.ldc2_w 7, 3) := by decide +kernel
theorem own_d1_23 : decode method_2_code 23 = .ok (.land, 1) := by decide +kernel
theorem own_d1_24 : decode method_2_code 24 = .ok (.lstore 11, 2) := by decide +kernel
theorem own_d1_26 : decode method_2_code 26 = .ok (.lload 7, 2) := by decide +kernel
theorem own_d1_28 : decode method_2_code 28 = .ok (.lload 11, 2) := by decide +kernel
theorem own_d1_30 : decode method_2_code 30 = .ok (.lmul, 1) := by decide +kernel
theorem own_d1_31 : decode method_2_code 31 = .ok (.lstore 13, 2) := by decide +kernel
theorem own_d1_33 : decode method_2_code 33 = .ok (.lload 5, 2) := by decide +kernel
theorem own_d1_35 : decode method_2_code 35 = .ok (.lload 11, 2) := by decide +kernel
theorem own_d1_37 : decode method_2_code 37 = .ok (.lmul, 1) := by decide +kernel
theorem own_d1_38 : decode method_2_code 38 = .ok (.lload 7, 2) := by decide +kernel
theorem own_d1_40 : decode method_2_code 40 = .ok (.lload 9, 2) := by decide +kernel
theorem own_d1_42 : decode method_2_code 42 = .ok (.lmul, 1) := by decide +kernel
theorem own_d1_43 : decode method_2_code 43 = .ok (.ladd, 1) := by decide +kernel
theorem own_d1_44 : decode method_2_code 44 = .ok (.lload 13, 2) := by decide +kernel
theorem own_d1_46 : decode method_2_code 46 = .ok (.bipush 32, 2) := by decide +kernel
theorem own_d1_48 : decode method_2_code 48 = .ok (.lushr, 1) := by decide +kernel
theorem own_d1_49 : decode method_2_code 49 = .ok (.ladd, 1) := by decide +kernel
theorem own_d1_50 : decode method_2_code 50 = .ok (.lstore 15, 2) := by decide +kernel
theorem own_d1_52 : decode method_2_code 52 = .ok (.aload 4, 2) := by decide +kernel
theorem own_d1_54 : decode method_2_code 54 = .ok (.iconst 0, 1) := by decide +kernel
theorem own_d1_55 : decode method_2_code 55 = .ok (.lload 5, 2) := by decide +kernel
theorem own_d1_57 : decode method_2_code 57 = .ok (.lload 9, 2) := by decide +kernel
theorem own_d1_59 : decode method_2_code 59 = .ok (.lmul, 1) := by decide +kernel
theorem own_d1_60 : decode method_2_code 60 = .ok (.lload 15, 2) := by decide +kernel
theorem own_d1_62 : decode method_2_code 62 = .ok (.bipush 32, 2) := by decide +kernel
theorem own_d1_64 : decode method_2_code 64 = .ok (.lushr, 1) := by decide +kernel
theorem own_d1_65 : decode method_2_code 65 = .ok (.ladd, 1) := by decide +kernel
theorem own_d1_66 : decode method_2_code 66 = .ok (.lastore, 1) := by decide +kernel
theorem own_d1_67 : decode method_2_code 67 = .ok (.aload 4, 2) := by decide +kernel
theorem own_d1_69 : decode method_2_code 69 = .ok (.iconst 1, 1) := by decide +kernel
theorem own_d1_70 : decode method_2_code 70 = .ok (.lload 15, 2) := by decide +kernel
theorem own_d1_72 : decode method_2_code 72 = .ok (.ldc2_w 7, 3) := by decide +kernel
theorem own_d1_75 : decode method_2_code 75 = .ok (.land, 1) := by decide +kernel
theorem own_d1_76 : decode method_2_code 76 = .ok (.lastore, 1) := by decide +kernel
theorem own_d1_77 : decode method_2_code 77 = .ok (.aload 4, 2) := by decide +kernel
theorem own_d1_79 : decode method_2_code 79 = .ok (.iconst 2, 1) := by decide +kernel
theorem own_d1_80 : decode method_2_code 80 = .ok (.lload 13, 2) := by decide +kernel
theorem own_d1_82 : decode method_2_code 82 = .ok (.ldc2_w 7, 3) := by decide +kernel
theorem own_d1_85 : decode method_2_code 85 = .ok (.land, 1) := by decide +kernel
theorem own_d1_86 : decode method_2_code 86 = .ok (.lastore, 1) := by decide +kernel
theorem own_d1_87 : decode method_2_code 87 = .ok (.return_, 1) := by decide +kernel
theorem own_ef1 (m : MethodId) (q0 : Int64) (q1 : Int64) (a2 : Addr) : entryFrame m #[(.long q0), (.long q1), (.ref a2)] 17 = mkF m 0 #[oj q0, .second, oj q1, .second, oa a2, .unset, .unset, .unset, .unset, .unset, .unset, .unset, .unset, .unset, .unset, .unset, .unset] [] := by first | (simp [entryFrame, mkF, argsToLocals, Value.category]; done) | rfl
def own_Q1 (Z : State) (q0 : Int64) (q1 : Int64) (a2 : Addr) (k_a2 : ClassId) (h0 : Heap) (n0 : Nat) (v : Option Value) (h : Heap) (L : List Loc) : Prop := v = none ∧ Fr n0 L ∧ Keep h0 h [a2] ∧ Arv Z h a2 k_a2 .long (3 : Int32) [(.long (own_x0 q0 q1)), (.long (own_x1 q0 q1)), (.long (own_x2 q0 q1))] (.long (0 : Int64))
set_option maxRecDepth 65536 in
set_option maxHeartbeats 40000000 in
theorem own_rm1 (l : Launch) (Z : State) (av : Array Value) (hw : ∀ d ∈ tables_1, d.before av Z = true) (ws : List Jvm.Cond) (q0 : Int64) (q1 : Int64) (a2 : Addr) (k_a2 : ClassId) (h0 : Heap) (n0 : Nat) (Z0 : n0 ≤ h0.size) (V_a2 : Arv Z h0 a2 k_a2 .long (3 : Int32) [(.long (0 : Int64)), (.long (0 : Int64)), (.long (0 : Int64))] (.long (0 : Int64))) (g_a2 : n0 ≤ a2) :
    MetFree l (⟨"com/example/strict_anon/strictanon/util/ProductsComparePinLaw", "limbs", "(JJ[J)V"⟩ : MethodName) (head1 (Jvm.Cond.code (⟨"com/example/strict_anon/strictanon/util/ProductsComparePinLaw", "limbs", "(JJ[J)V"⟩ : MethodName) method_2_code 17 none :: ws) ({ frames := 0, cells := 0, slots := 0, locals := 0 } : Room)) (fun a U => a = #[(.long q0), (.long q1), (.ref a2)] ∧ Z.Warmed39 U.vm ∧ U.heap = h0) (fun _ _ _ _ _ => True) (fun _ U o U' => ∃ v L, o = .returned v ∧ own_Q1 Z q0 q1 a2 k_a2 h0 n0 v U'.heap L ∧ FrameEnd U o U' L ({ frames := 0, cells := 0, slots := 0, locals := 0 } : Room).cells ({ frames := 0, cells := 0, slots := 0, locals := 0 } : Room).slots) := by
  refine MetFree.of_bodySF (plainFor_of_name own_pn0) hisR ?_
  intro p e s m args below meth c s₁ Bd hml0 hP hK
  obtain ⟨rfl, hZ, hh⟩ := hP
  have hx := Bd.exec
  have hby := Bd.bytes
  have hml : c.maxLocals = 17 := hml0
  have hown : s.vm.findClass "com/example/strict_anon/strictanon/util/ProductsComparePinLaw" = some m.cls := findClass_of_methodNamed Bd.named
  have hnm := (name_of_methodNamed Bd.named Bd.method).1
  have X0 : Stand p l e ({ frames := 0, cells := 0, slots := 0, locals := 0 } : Room) s m #[(.long q0), (.long q1), (.ref a2)] below meth c s₁ [] 0 0 := Stand.of_body Bd
  have e0 : s₁.heap = h0 := by rw [← hh, Bd.state]; rfl
  have N0 := Fr.nil n0
  have pre0 : ∀ t, Steps p.tables e below (s₁.setTop (mkF m 0 #[oj q0, .second, oj q1, .second, oa a2, .unset, .unset, .unset, .unset, .unset, .unset, .unset, .unset, .unset, .unset, .unset, .unset] [])) t → Steps p.tables e below (s₁.setTop (entryFrame m #[(.long q0), (.long q1), (.ref a2)] 17)) t := fun t k => castTop (own_ef1 m q0 q1 a2) k
  obtain ⟨T1, h1, X1, e1, W1, V1, st1⟩ := oStJ X0 hx hZ e0 V_a2 (j := (0 : Int32)) ⟨by decide, by decide⟩ 0 rfl (Nat.le_of_ble_eq_true rfl) (g := (mkF m 66 #[oj q0, .second, oj q1, .second, oa a2, oj ((q0.toUInt64 >>> ((32 : Int32) &&& 0x3f).toInt64.toUInt64).toInt64), .second, oj (q0 &&& (4294967295 : Int64)), .second, oj ((q1.toUInt64 >>> ((32 : Int32) &&& 0x3f).toInt64.toUInt64).toInt64), .second, oj (q1 &&& (4294967295 : Int64)), .second, oj ((q0 &&& (4294967295 : Int64)) * (q1 &&& (4294967295 : Int64))), .second, oj (((((q0.toUInt64 >>> ((32 : Int32) &&& 0x3f).toInt64.toUInt64).toInt64) * (q1 &&& (4294967295 : Int64))) + ((q0 &&& (4294967295 : Int64)) * ((q1.toUInt64 >>> ((32 : Int32) &&& 0x3f).toInt64.toUInt64).toInt64))) + ((((q0 &&& (4294967295 : Int64)) * (q1 &&& (4294967295 : Int64))).toUInt64 >>> ((32 : Int32) &&& 0x3f).toInt64.toUInt64).toInt64)), .second] [(.long ((((q0.toUInt64 >>> ((32 : Int32) &&& 0x3f).toInt64.toUInt64).toInt64) * ((q1.toUInt64 >>> ((32 : Int32) &&& 0x3f).toInt64.toUInt64).toInt64)) + (((((((q0.toUInt64 >>> ((32 : Int32) &&& 0x3f).toInt64.toUInt64).toInt64) * (q1 &&& (4294967295 : Int64))) + ((q0 &&& (4294967295 : Int64)) * ((q1.toUInt64 >>> ((32 : Int32) &&& 0x3f).toInt64.toUInt64).toInt64))) + ((((q0 &&& (4294967295 : Int64)) * (q1 &&& (4294967295 : Int64))).toUInt64 >>> ((32 : Int32) &&& 0x3f).toInt64.toUInt64).toInt64)).toUInt64 >>> ((32 : Int32) &&& 0x3f).toInt64.toUInt64).toInt64))), (.int (0 : Int32)), (.ref a2)])) rfl rfl (hb hby own_d1_66)
  obtain ⟨Lo1, X1, N1⟩ := oOpq X1 (Fr.snoc X1 N0 g_a2)
  have Z1 := Nat.le_trans Z0 (Keep.of_wr W1).1
  have V_2 : Arv Z h1 a2 k_a2 .long (3 : Int32) [(.long ((((q0.toUInt64 >>> ((32 : Int32) &&& 0x3f).toInt64.toUInt64).toInt64) * ((q1.toUInt64 >>> ((32 : Int32) &&& 0x3f).toInt64.toUInt64).toInt64)) + (((((((q0.toUInt64 >>> ((32 : Int32) &&& 0x3f).toInt64.toUInt64).toInt64) * (q1 &&& (4294967295 : Int64))) + ((q0 &&& (4294967295 : Int64)) * ((q1.toUInt64 >>> ((32 : Int32) &&& 0x3f).toInt64.toUInt64).toInt64))) + ((((q0 &&& (4294967295 : Int64)) * (q1 &&& (4294967295 : Int64))).toUInt64 >>> ((32 : Int32) &&& 0x3f).toInt64.toUInt64).toInt64)).toUInt64 >>> ((32 : Int32) &&& 0x3f).toInt64.toUInt64).toInt64))), (.long (0 : Int64)), (.long (0 : Int64))] (.long (0 : Int64)) := V1
  have K_3 : Keep h0 h1 [a2] := (Keep.refl h0 [a2]).wr W1 (Or.inl (List.mem_of_getElem? (i := 0) rfl))
  obtain ⟨T4, h4, X4, e4, W4, V4, st4⟩ := oStJ X1 hx hZ e1 V_2 (j := (1 : Int32)) ⟨by decide, by decide⟩ 1 rfl (Nat.le_of_ble_eq_true rfl) (g := (mkF m 76 #[oj q0, .second, oj q1, .second, oa a2, oj ((q0.toUInt64 >>> ((32 : Int32) &&& 0x3f).toInt64.toUInt64).toInt64), .second, oj (q0 &&& (4294967295 : Int64)), .second, oj ((q1.toUInt64 >>> ((32 : Int32) &&& 0x3f).toInt64.toUInt64).toInt64), .second, oj (q1 &&& (4294967295 : Int64)), .second, oj ((q0 &&& (4294967295 : Int64)) * (q1 &&& (4294967295 : Int64))), .second, oj (((((q0.toUInt64 >>> ((32 : Int32) &&& 0x3f).toInt64.toUInt64).toInt64) * (q1 &&& (4294967295 : Int64))) + ((q0 &&& (4294967295 : Int64)) * ((q1.toUInt64 >>> ((32 : Int32) &&& 0x3f).toInt64.toUInt64).toInt64))) + ((((q0 &&& (4294967295 : Int64)) * (q1 &&& (4294967295 : Int64))).toUInt64 >>> ((32 : Int32) &&& 0x3f).toInt64.toUInt64).toInt64)), .second] [(.long ((((((q0.toUInt64 >>> ((32 : Int32) &&& 0x3f).toInt64.toUInt64).toInt64) * (q1 &&& (4294967295 : Int64))) + ((q0 &&& (4294967295 : Int64)) * ((q1.toUInt64 >>> ((32 : Int32) &&& 0x3f).toInt64.toUInt64).toInt64))) + ((((q0 &&& (4294967295 : Int64)) * (q1 &&& (4294967295 : Int64))).toUInt64 >>> ((32 : Int32) &&& 0x3f).toInt64.toUInt64).toInt64)) &&& (4294967295 : Int64))), (.int (1 : Int32)), (.ref a2)])) rfl rfl (hb hby own_d1_76)
  obtain ⟨Lo4, X4, N4⟩ := oOpq X4 (Fr.snoc X4 N1 g_a2)
  have Z4 := Nat.le_trans Z1 (Keep.of_wr W4).1
  have V_5 : Arv Z h4 a2 k_a2 .long (3 : Int32) [(.long ((((q0.toUInt64 >>> ((32 : Int32) &&& 0x3f).toInt64.toUInt64).toInt64) * ((q1.toUInt64 >>> ((32 : Int32) &&& 0x3f).toInt64.toUInt64).toInt64)) + (((((((q0.toUInt64 >>> ((32 : Int32) &&& 0x3f).toInt64.toUInt64).toInt64) * (q1 &&& (4294967295 : Int64))) + ((q0 &&& (4294967295 : Int64)) * ((q1.toUInt64 >>> ((32 : Int32) &&& 0x3f).toInt64.toUInt64).toInt64))) + ((((q0 &&& (4294967295 : Int64)) * (q1 &&& (4294967295 : Int64))).toUInt64 >>> ((32 : Int32) &&& 0x3f).toInt64.toUInt64).toInt64)).toUInt64 >>> ((32 : Int32) &&& 0x3f).toInt64.toUInt64).toInt64))), (.long ((((((q0.toUInt64 >>> ((32 : Int32) &&& 0x3f).toInt64.toUInt64).toInt64) * (q1 &&& (4294967295 : Int64))) + ((q0 &&& (4294967295 : Int64)) * ((q1.toUInt64 >>> ((32 : Int32) &&& 0x3f).toInt64.toUInt64).toInt64))) + ((((q0 &&& (4294967295 : Int64)) * (q1 &&& (4294967295 : Int64))).toUInt64 >>> ((32 : Int32) &&& 0x3f).toInt64.toUInt64).toInt64)) &&& (4294967295 : Int64))), (.long (0 : Int64))] (.long (0 : Int64)) := V4
  have K_6 : Keep h0 h4 [a2] := K_3.wr W4 (Or.inl (List.mem_of_getElem? (i := 0) rfl))
  obtain ⟨T7, h7, X7, e7, W7, V7, st7⟩ := oStJ X4 hx hZ e4 V_5 (j := (2 : Int32)) ⟨by decide, by decide⟩ 2 rfl (Nat.le_of_ble_eq_true rfl) (g := (mkF m 86 #[oj q0, .second, oj q1, .second, oa a2, oj ((q0.toUInt64 >>> ((32 : Int32) &&& 0x3f).toInt64.toUInt64).toInt64), .second, oj (q0 &&& (4294967295 : Int64)), .second, oj ((q1.toUInt64 >>> ((32 : Int32) &&& 0x3f).toInt64.toUInt64).toInt64), .second, oj (q1 &&& (4294967295 : Int64)), .second, oj ((q0 &&& (4294967295 : Int64)) * (q1 &&& (4294967295 : Int64))), .second, oj (((((q0.toUInt64 >>> ((32 : Int32) &&& 0x3f).toInt64.toUInt64).toInt64) * (q1 &&& (4294967295 : Int64))) + ((q0 &&& (4294967295 : Int64)) * ((q1.toUInt64 >>> ((32 : Int32) &&& 0x3f).toInt64.toUInt64).toInt64))) + ((((q0 &&& (4294967295 : Int64)) * (q1 &&& (4294967295 : Int64))).toUInt64 >>> ((32 : Int32) &&& 0x3f).toInt64.toUInt64).toInt64)), .second] [(.long (((q0 &&& (4294967295 : Int64)) * (q1 &&& (4294967295 : Int64))) &&& (4294967295 : Int64))), (.int (2 : Int32)), (.ref a2)])) rfl rfl (hb hby own_d1_86)
  obtain ⟨Lo7, X7, N7⟩ := oOpq X7 (Fr.snoc X7 N4 g_a2)
  have Z7 := Nat.le_trans Z4 (Keep.of_wr W7).1
  have V_8 : Arv Z h7 a2 k_a2 .long (3 : Int32) [(.long ((((q0.toUInt64 >>> ((32 : Int32) &&& 0x3f).toInt64.toUInt64).toInt64) * ((q1.toUInt64 >>> ((32 : Int32) &&& 0x3f).toInt64.toUInt64).toInt64)) + (((((((q0.toUInt64 >>> ((32 : Int32) &&& 0x3f).toInt64.toUInt64).toInt64) * (q1 &&& (4294967295 : Int64))) + ((q0 &&& (4294967295 : Int64)) * ((q1.toUInt64 >>> ((32 : Int32) &&& 0x3f).toInt64.toUInt64).toInt64))) + ((((q0 &&& (4294967295 : Int64)) * (q1 &&& (4294967295 : Int64))).toUInt64 >>> ((32 : Int32) &&& 0x3f).toInt64.toUInt64).toInt64)).toUInt64 >>> ((32 : Int32) &&& 0x3f).toInt64.toUInt64).toInt64))), (.long ((((((q0.toUInt64 >>> ((32 : Int32) &&& 0x3f).toInt64.toUInt64).toInt64) * (q1 &&& (4294967295 : Int64))) + ((q0 &&& (4294967295 : Int64)) * ((q1.toUInt64 >>> ((32 : Int32) &&& 0x3f).toInt64.toUInt64).toInt64))) + ((((q0 &&& (4294967295 : Int64)) * (q1 &&& (4294967295 : Int64))).toUInt64 >>> ((32 : Int32) &&& 0x3f).toInt64.toUInt64).toInt64)) &&& (4294967295 : Int64))), (.long (((q0 &&& (4294967295 : Int64)) * (q1 &&& (4294967295 : Int64))) &&& (4294967295 : Int64)))] (.long (0 : Int64)) := V7
  have K_9 : Keep h0 h7 [a2] := K_6.wr W7 (Or.inl (List.mem_of_getElem? (i := 0) rfl))
  obtain ⟨fs, hr, hrun, hended, hW, hsame⟩ := X7.leave (v := none) (fun _ => rfl) (hlocks := by first | exact BodyLoose.notSynchronized Bd | exact Body.notSynchronized Bd)
  refine ⟨_, _, pre0 _ ?_, hrun, hended, _, _, rfl, ?_, ⟨_, rfl⟩, hW, hsame.mono (by decide) (by decide)⟩
  · show oS p e below s₁ m 0 #[oj q0, .second, oj q1, .second, oa a2, .unset, .unset, .unset, .unset, .unset, .unset, .unset, .unset, .unset, .unset, .unset, .unset] [] _
    refine XS.lloadN X0.here hx rfl (hb hby own_d1_0) rfl ?_
    show oS p e below s₁ m 1 #[oj q0, .second, oj q1, .second, oa a2, .unset, .unset, .unset, .unset, .unset, .unset, .unset, .unset, .unset, .unset, .unset, .unset] [(.long q0)] _
    refine XS.bipush X0.here hx rfl (hb hby own_d1_1) ?_
    show oS p e below s₁ m 3 #[oj q0, .second, oj q1, .second, oa a2, .unset, .unset, .unset, .unset, .unset, .unset, .unset, .unset, .unset, .unset, .unset, .unset] [(.int (32 : Int32)), (.long q0)] _
    refine XS.lushr X0.here hx rfl (hb hby own_d1_3) rfl ?_
    show oS p e below s₁ m 4 #[oj q0, .second, oj q1, .second, oa a2, .unset, .unset, .unset, .unset, .unset, .unset, .unset, .unset, .unset, .unset, .unset, .unset] [(.long ((q0.toUInt64 >>> ((32 : Int32) &&& 0x3f).toInt64.toUInt64).toInt64))] _
    refine XS.lstore X0.here hx rfl (hb hby own_d1_4) rfl (l' := #[oj q0, .second, oj q1, .second, oa a2, oj ((q0.toUInt64 >>> ((32 : Int32) &&& 0x3f).toInt64.toUInt64).toInt64), .second, .unset, .unset, .unset, .unset, .unset, .unset, .unset, .unset, .unset, .unset]) rfl ?_
    show oS p e below s₁ m 6 #[oj q0, .second, oj q1, .second, oa a2, oj ((q0.toUInt64 >>> ((32 : Int32) &&& 0x3f).toInt64.toUInt64).toInt64), .second, .unset, .unset, .unset, .unset, .unset, .unset, .unset, .unset, .unset, .unset] [] _
    refine XS.lloadN X0.here hx rfl (hb hby own_d1_6) rfl ?_
    show oS p e below s₁ m 7 #[oj q0, .second, oj q1, .second, oa a2, oj ((q0.toUInt64 >>> ((32 : Int32) &&& 0x3f).toInt64.toUInt64).toInt64), .second, .unset, .unset, .unset, .unset, .unset, .unset, .unset, .unset, .unset, .unset] [(.long q0)] _
    refine X0.ldc2Long hx hown (mvT hZ (hw _ (List.mem_of_getElem? (i := 1) rfl))) (g := (mkF m 7 #[oj q0, .second, oj q1, .second, oa a2, oj ((q0.toUInt64 >>> ((32 : Int32) &&& 0x3f).toInt64.toUInt64).toInt64), .second, .unset, .unset, .unset, .unset, .unset, .unset, .unset, .unset, .unset, .unset] [(.long q0)])) rfl (hb hby own_d1_7) _ ?_
    show oS p e below s₁ m 10 #[oj q0, .second, oj q1, .second, oa a2, oj ((q0.toUInt64 >>> ((32 : Int32) &&& 0x3f).toInt64.toUInt64).toInt64), .second, .unset, .unset, .unset, .unset, .unset, .unset, .unset, .unset, .unset, .unset] [(.long (4294967295 : Int64)), (.long q0)] _
    refine XS.land X0.here hx rfl (hb hby own_d1_10) rfl ?_
    show oS p e below s₁ m 11 #[oj q0, .second, oj q1, .second, oa a2, oj ((q0.toUInt64 >>> ((32 : Int32) &&& 0x3f).toInt64.toUInt64).toInt64), .second, .unset, .unset, .unset, .unset, .unset, .unset, .unset, .unset, .unset, .unset] [(.long (q0 &&& (4294967295 : Int64)))] _
    refine XS.lstore X0.here hx rfl (hb hby own_d1_11) rfl (l' := #[oj q0, .second, oj q1, .second, oa a2, oj ((q0.toUInt64 >>> ((32 : Int32) &&& 0x3f).toInt64.toUInt64).toInt64), .second, oj (q0 &&& (4294967295 : Int64)), .second, .unset, .unset, .unset, .unset, .unset, .unset, .unset, .unset]) rfl ?_
    show oS p e below s₁ m 13 #[oj q0, .second, oj q1, .second, oa a2, oj ((q0.toUInt64 >>> ((32 : Int32) &&& 0x3f).toInt64.toUInt64).toInt64), .second, oj (q0 &&& (4294967295 : Int64)), .second, .unset, .unset, .unset, .unset, .unset, .unset, .unset, .unset] [] _
    refine XS.lloadN X0.here hx rfl (hb hby own_d1_13) rfl ?_
    show oS p e below s₁ m 14 #[oj q0, .second, oj q1, .second, oa a2, oj ((q0.toUInt64 >>> ((32 : Int32) &&& 0x3f).toInt64.toUInt64).toInt64), .second, oj (q0 &&& (4294967295 : Int64)), .second, .unset, .unset, .unset, .unset, .unset, .unset, .unset, .unset] [(.long q1)] _
    refine XS.bipush X0.here hx rfl (hb hby own_d1_14) ?_
    show oS p e below s₁ m 16 #[oj q0, .second, oj q1, .second, oa a2, oj ((q0.toUInt64 >>> ((32 : Int32) &&& 0x3f).toInt64.toUInt64).toInt64), .second, oj (q0 &&& (4294967295 : Int64)), .second, .unset, .unset, .unset, .unset, .unset, .unset, .unset, .unset] [(.int (32 : Int32)), (.long q1)] _
    refine XS.lushr X0.here hx rfl (hb hby own_d1_16) rfl ?_
    show oS p e below s₁ m 17 #[oj q0, .second, oj q1, .second, oa a2, oj ((q0.toUInt64 >>> ((32 : Int32) &&& 0x3f).toInt64.toUInt64).toInt64), .second, oj (q0 &&& (4294967295 : Int64)), .second, .unset, .unset, .unset, .unset, .unset, .unset, .unset, .unset] [(.long ((q1.toUInt64 >>> ((32 : Int32) &&& 0x3f).toInt64.toUInt64).toInt64))] _
    refine XS.lstore X0.here hx rfl (hb hby own_d1_17) rfl (l' := #[oj q0, .second, oj q1, .second, oa a2, oj ((q0.toUInt64 >>> ((32 : Int32) &&& 0x3f).toInt64.toUInt64).toInt64), .second, oj (q0 &&& (4294967295 : Int64)), .second, oj ((q1.toUInt64 >>> ((32 : Int32) &&& 0x3f).toInt64.toUInt64).toInt64), .second, .unset, .unset, .unset, .unset, .unset, .unset]) rfl ?_
    show oS p e below s₁ m 19 #[oj q0, .second, oj q1, .second, oa a2, oj ((q0.toUInt64 >>> ((32 : Int32) &&& 0x3f).toInt64.toUInt64).toInt64), .second, oj (q0 &&& (4294967295 : Int64)), .second, oj ((q1.toUInt64 >>> ((32 : Int32) &&& 0x3f).toInt64.toUInt64).toInt64), .second, .unset, .unset, .unset, .unset, .unset, .unset] [] _
    refine XS.lloadN X0.here hx rfl (hb hby own_d1_19) rfl ?_
    show oS p e below s₁ m 20 #[oj q0, .second, oj q1, .second, oa a2, oj ((q0.toUInt64 >>> ((32 : Int32) &&& 0x3f).toInt64.toUInt64).toInt64), .second, oj (q0 &&& (4294967295 : Int64)), .second, oj ((q1.toUInt64 >>> ((32 : Int32) &&& 0x3f).toInt64.toUInt64).toInt64), .second, .unset, .unset, .unset, .unset, .unset, .unset] [(.long q1)] _
    refine X0.ldc2Long hx hown (mvT hZ (hw _ (List.mem_of_getElem? (i := 1) rfl))) (g := (mkF m 20 #[oj q0, .second, oj q1, .second, oa a2, oj ((q0.toUInt64 >>> ((32 : Int32) &&& 0x3f).toInt64.toUInt64).toInt64), .second, oj (q0 &&& (4294967295 : Int64)), .second, oj ((q1.toUInt64 >>> ((32 : Int32) &&& 0x3f).toInt64.toUInt64).toInt64), .second, .unset, .unset, .unset, .unset, .unset, .unset] [(.long q1)])) rfl (hb hby own_d1_20) _ ?_
    show oS p e below s₁ m 23 #[oj q0, .second, oj q1, .second, oa a2, oj ((q0.toUInt64 >>> ((32 : Int32) &&& 0x3f).toInt64.toUInt64).toInt64), .second, oj (q0 &&& (4294967295 : Int64)), .second, oj ((q1.toUInt64 >>> ((32 : Int32) &&& 0x3f).toInt64.toUInt64).toInt64), .second, .unset, .unset, .unset, .unset, .unset, .unset] [(.long (4294967295 : Int64)), (.long q1)] _
    refine XS.land X0.here hx rfl (hb hby own_d1_23) rfl ?_
    show oS p e below s₁ m 24 #[oj q0, .second, oj q1, .second, oa a2, oj ((q0.toUInt64 >>> ((32 : Int32) &&& 0x3f).toInt64.toUInt64).toInt64), .second, oj (q0 &&& (4294967295 : Int64)), .second, oj ((q1.toUInt64 >>> ((32 : Int32) &&& 0x3f).toInt64.toUInt64).toInt64), .second, .unset, .unset, .unset, .unset, .unset, .unset] [(.long (q1 &&& (4294967295 : Int64)))] _
    refine XS.lstore X0.here hx rfl (hb hby own_d1_24) rfl (l' := #[oj q0, .second, oj q1, .second, oa a2, oj ((q0.toUInt64 >>> ((32 : Int32) &&& 0x3f).toInt64.toUInt64).toInt64), .second, oj (q0 &&& (4294967295 : Int64)), .second, oj ((q1.toUInt64 >>> ((32 : Int32) &&& 0x3f).toInt64.toUInt64).toInt64), .second, oj (q1 &&& (4294967295 : Int64)), .second, .unset, .unset, .unset, .unset]) rfl ?_
    show oS p e below s₁ m 26 #[oj q0, .second, oj q1, .second, oa a2, oj ((q0.toUInt64 >>> ((32 : Int32) &&& 0x3f).toInt64.toUInt64).toInt64), .second, oj (q0 &&& (4294967295 : Int64)), .second, oj ((q1.toUInt64 >>> ((32 : Int32) &&& 0x3f).toInt64.toUInt64).toInt64), .second, oj (q1 &&& (4294967295 : Int64)), .second, .unset, .unset, .unset, .unset] [] _
    refine XS.lload X0.here hx rfl (hb hby own_d1_26) rfl ?_
    show oS p e below s₁ m 28 #[oj q0, .second, oj q1, .second, oa a2, oj ((q0.toUInt64 >>> ((32 : Int32) &&& 0x3f).toInt64.toUInt64).toInt64), .second, oj (q0 &&& (4294967295 : Int64)), .second, oj ((q1.toUInt64 >>> ((32 : Int32) &&& 0x3f).toInt64.toUInt64).toInt64), .second, oj (q1 &&& (4294967295 : Int64)), .second, .unset, .unset, .unset, .unset] [(.long (q0 &&& (4294967295 : Int64)))] _
    refine XS.lload X0.here hx rfl (hb hby own_d1_28) rfl ?_
    show oS p e below s₁ m 30 #[oj q0, .second, oj q1, .second, oa a2, oj ((q0.toUInt64 >>> ((32 : Int32) &&& 0x3f).toInt64.toUInt64).toInt64), .second, oj (q0 &&& (4294967295 : Int64)), .second, oj ((q1.toUInt64 >>> ((32 : Int32) &&& 0x3f).toInt64.toUInt64).toInt64), .second, oj (q1 &&& (4294967295 : Int64)), .second, .unset, .unset, .unset, .unset] [(.long (q1 &&& (4294967295 : Int64))), (.long (q0 &&& (4294967295 : Int64)))] _
    refine XS.lmul X0.here hx rfl (hb hby own_d1_30) rfl ?_
    show oS p e below s₁ m 31 #[oj q0, .second, oj q1, .second, oa a2, oj ((q0.toUInt64 >>> ((32 : Int32) &&& 0x3f).toInt64.toUInt64).toInt64), .second, oj (q0 &&& (4294967295 : Int64)), .second, oj ((q1.toUInt64 >>> ((32 : Int32) &&& 0x3f).toInt64.toUInt64).toInt64), .second, oj (q1 &&& (4294967295 : Int64)), .second, .unset, .unset, .unset, .unset] [(.long ((q0 &&& (4294967295 : Int64)) * (q1 &&& (4294967295 : Int64))))] _
    refine XS.lstore X0.here hx rfl (hb hby own_d1_31) rfl (l' := #[oj q0, .second, oj q1, .second, oa a2, oj ((q0.toUInt64 >>> ((32 : Int32) &&& 0x3f).toInt64.toUInt64).toInt64), .second, oj (q0 &&& (4294967295 : Int64)), .second, oj ((q1.toUInt64 >>> ((32 : Int32) &&& 0x3f).toInt64.toUInt64).toInt64), .second, oj (q1 &&& (4294967295 : Int64)), .second, oj ((q0 &&& (4294967295 : Int64)) * (q1 &&& (4294967295 : Int64))), .second, .unset, .unset]) rfl ?_
    show oS p e below s₁ m 33 #[oj q0, .second, oj q1, .second, oa a2, oj ((q0.toUInt64 >>> ((32 : Int32) &&& 0x3f).toInt64.toUInt64).toInt64), .second, oj (q0 &&& (4294967295 : Int64)), .second, oj ((q1.toUInt64 >>> ((32 : Int32) &&& 0x3f).toInt64.toUInt64).toInt64), .second, oj (q1 &&& (4294967295 : Int64)), .second, oj ((q0 &&& (4294967295 : Int64)) * (q1 &&& (4294967295 : Int64))), .second, .unset, .unset] [] _
    refine XS.lload X0.here hx rfl (hb hby own_d1_33) rfl ?_
    show oS p e below s₁ m 35 #[oj q0, .second, oj q1, .second, oa a2, oj ((q0.toUInt64 >>> ((32 : Int32) &&& 0x3f).toInt64.toUInt64).toInt64), .second, oj (q0 &&& (4294967295 : Int64)), .second, oj ((q1.toUInt64 >>> ((32 : Int32) &&& 0x3f).toInt64.toUInt64).toInt64), .second, oj (q1 &&& (4294967295 : Int64)), .second, oj ((q0 &&& (4294967295 : Int64)) * (q1 &&& (4294967295 : Int64))), .second, .unset, .unset] [(.long ((q0.toUInt64 >>> ((32 : Int32) &&& 0x3f).toInt64.toUInt64).toInt64))] _
    refine XS.lload X0.here hx rfl (hb hby own_d1_35) rfl ?_
    show oS p e below s₁ m 37 #[oj q0, .second, oj q1, .second, oa a2, oj ((q0.toUInt64 >>> ((32 : Int32) &&& 0x3f).toInt64.toUInt64).toInt64), .second, oj (q0 &&& (4294967295 : Int64)), .second, oj ((q1.toUInt64 >>> ((32 : Int32) &&& 0x3f).toInt64.toUInt64).toInt64), .second, oj (q1 &&& (4294967295 : Int64)), .second, oj ((q0 &&& (4294967295 : Int64)) * (q1 &&& (4294967295 : Int64))), .second, .unset, .unset] [(.long (q1 &&& (4294967295 : Int64))), (.long ((q0.toUInt64 >>> ((32 : Int32) &&& 0x3f).toInt64.toUInt64).toInt64))] _
    refine XS.lmul X0.here hx rfl (hb hby own_d1_37) rfl ?_
    show oS p e below s₁ m 38 #[oj q0, .second, oj q1, .second, oa a2, oj ((q0.toUInt64 >>> ((32 : Int32) &&& 0x3f).toInt64.toUInt64).toInt64), .second, oj (q0 &&& (4294967295 : Int64)), .second, oj ((q1.toUInt64 >>> ((32 : Int32) &&& 0x3f).toInt64.toUInt64).toInt64), .second, oj (q1 &&& (4294967295 : Int64)), .second, oj ((q0 &&& (4294967295 : Int64)) * (q1 &&& (4294967295 : Int64))), .second, .unset, .unset] [(.long (((q0.toUInt64 >>> ((32 : Int32) &&& 0x3f).toInt64.toUInt64).toInt64) * (q1 &&& (4294967295 : Int64))))] _
    refine XS.lload X0.here hx rfl (hb hby own_d1_38) rfl ?_
    show oS p e below s₁ m 40 #[oj q0, .second, oj q1, .second, oa a2, oj ((q0.toUInt64 >>> ((32 : Int32) &&& 0x3f).toInt64.toUInt64).toInt64), .second, oj (q0 &&& (4294967295 : Int64)), .second, oj ((q1.toUInt64 >>> ((32 : Int32) &&& 0x3f).toInt64.toUInt64).toInt64), .second, oj (q1 &&& (4294967295 : Int64)), .second, oj ((q0 &&& (4294967295 : Int64)) * (q1 &&& (4294967295 : Int64))), .second, .unset, .unset] [(.long (q0 &&& (4294967295 : Int64))), (.long (((q0.toUInt64 >>> ((32 : Int32) &&& 0x3f).toInt64.toUInt64).toInt64) * (q1 &&& (4294967295 : Int64))))] _
    refine XS.lload X0.here hx rfl (hb hby own_d1_40) rfl ?_
    show oS p e below s₁ m 42 #[oj q0, .second, oj q1, .second, oa a2, oj ((q0.toUInt64 >>> ((32 : Int32) &&& 0x3f).toInt64.toUInt64).toInt64), .second, oj (q0 &&& (4294967295 : Int64)), .second, oj ((q1.toUInt64 >>> ((32 : Int32) &&& 0x3f).toInt64.toUInt64).toInt64), .second, oj (q1 &&& (4294967295 : Int64)), .second, oj ((q0 &&& (4294967295 : Int64)) * (q1 &&& (4294967295 : Int64))), .second, .unset, .unset] [(.long ((q1.toUInt64 >>> ((32 : Int32) &&& 0x3f).toInt64.toUInt64).toInt64)), (.long (q0 &&& (4294967295 : Int64))), (.long (((q0.toUInt64 >>> ((32 : Int32) &&& 0x3f).toInt64.toUInt64).toInt64) * (q1 &&& (4294967295 : Int64))))] _
    refine XS.lmul X0.here hx rfl (hb hby own_d1_42) rfl ?_
    show oS p e below s₁ m 43 #[oj q0, .second, oj q1, .second, oa a2, oj ((q0.toUInt64 >>> ((32 : Int32) &&& 0x3f).toInt64.toUInt64).toInt64), .second, oj (q0 &&& (4294967295 : Int64)), .second, oj ((q1.toUInt64 >>> ((32 : Int32) &&& 0x3f).toInt64.toUInt64).toInt64), .second, oj (q1 &&& (4294967295 : Int64)), .second, oj ((q0 &&& (4294967295 : Int64)) * (q1 &&& (4294967295 : Int64))), .second, .unset, .unset] [(.long ((q0 &&& (4294967295 : Int64)) * ((q1.toUInt64 >>> ((32 : Int32) &&& 0x3f).toInt64.toUInt64).toInt64))), (.long (((q0.toUInt64 >>> ((32 : Int32) &&& 0x3f).toInt64.toUInt64).toInt64) * (q1 &&& (4294967295 : Int64))))] _
    refine XS.ladd X0.here hx rfl (hb hby own_d1_43) rfl ?_
    show oS p e below s₁ m 44 #[oj q0, .second, oj q1, .second, oa a2, oj ((q0.toUInt64 >>> ((32 : Int32) &&& 0x3f).toInt64.toUInt64).toInt64), .second, oj (q0 &&& (4294967295 : Int64)), .second, oj ((q1.toUInt64 >>> ((32 : Int32) &&& 0x3f).toInt64.toUInt64).toInt64), .second, oj (q1 &&& (4294967295 : Int64)), .second, oj ((q0 &&& (4294967295 : Int64)) * (q1 &&& (4294967295 : Int64))), .second, .unset, .unset] [(.long ((((q0.toUInt64 >>> ((32 : Int32) &&& 0x3f).toInt64.toUInt64).toInt64) * (q1 &&& (4294967295 : Int64))) + ((q0 &&& (4294967295 : Int64)) * ((q1.toUInt64 >>> ((32 : Int32) &&& 0x3f).toInt64.toUInt64).toInt64))))] _
    refine XS.lload X0.here hx rfl (hb hby own_d1_44) rfl ?_
    show oS p e below s₁ m 46 #[oj q0, .second, oj q1, .second, oa a2, oj ((q0.toUInt64 >>> ((32 : Int32) &&& 0x3f).toInt64.toUInt64).toInt64), .second, oj (q0 &&& (4294967295 : Int64)), .second, oj ((q1.toUInt64 >>> ((32 : Int32) &&& 0x3f).toInt64.toUInt64).toInt64), .second, oj (q1 &&& (4294967295 : Int64)), .second, oj ((q0 &&& (4294967295 : Int64)) * (q1 &&& (4294967295 : Int64))), .second, .unset, .unset] [(.long ((q0 &&& (4294967295 : Int64)) * (q1 &&& (4294967295 : Int64)))), (.long ((((q0.toUInt64 >>> ((32 : Int32) &&& 0x3f).toInt64.toUInt64).toInt64) * (q1 &&& (4294967295 : Int64))) + ((q0 &&& (4294967295 : Int64)) * ((q1.toUInt64 >>> ((32 : Int32) &&& 0x3f).toInt64.toUInt64).toInt64))))] _
    refine XS.bipush X0.here hx rfl (hb hby own_d1_46) ?_
    show oS p e below s₁ m 48 #[oj q0, .second, oj q1, .second, oa a2, oj ((q0.toUInt64 >>> ((32 : Int32) &&& 0x3f).toInt64.toUInt64).toInt64), .second, oj (q0 &&& (4294967295 : Int64)), .second, oj ((q1.toUInt64 >>> ((32 : Int32) &&& 0x3f).toInt64.toUInt64).toInt64), .second, oj (q1 &&& (4294967295 : Int64)), .second, oj ((q0 &&& (4294967295 : Int64)) * (q1 &&& (4294967295 : Int64))), .second, .unset, .unset] [(.int (32 : Int32)), (.long ((q0 &&& (4294967295 : Int64)) * (q1 &&& (4294967295 : Int64)))), (.long ((((q0.toUInt64 >>> ((32 : Int32) &&& 0x3f).toInt64.toUInt64).toInt64) * (q1 &&& (4294967295 : Int64))) + ((q0 &&& (4294967295 : Int64)) * ((q1.toUInt64 >>> ((32 : Int32) &&& 0x3f).toInt64.toUInt64).toInt64))))] _
    refine XS.lushr X0.here hx rfl (hb hby own_d1_48) rfl ?_
    show oS p e below s₁ m 49 #[oj q0, .second, oj q1, .second, oa a2, oj ((q0.toUInt64 >>> ((32 : Int32) &&& 0x3f).toInt64.toUInt64).toInt64), .second, oj (q0 &&& (4294967295 : Int64)), .second, oj ((q1.toUInt64 >>> ((32 : Int32) &&& 0x3f).toInt64.toUInt64).toInt64), .second, oj (q1 &&& (4294967295 : Int64)), .second, oj ((q0 &&& (4294967295 : Int64)) * (q1 &&& (4294967295 : Int64))), .second, .unset, .unset] [(.long ((((q0 &&& (4294967295 : Int64)) * (q1 &&& (4294967295 : Int64))).toUInt64 >>> ((32 : Int32) &&& 0x3f).toInt64.toUInt64).toInt64)), (.long ((((q0.toUInt64 >>> ((32 : Int32) &&& 0x3f).toInt64.toUInt64).toInt64) * (q1 &&& (4294967295 : Int64))) + ((q0 &&& (4294967295 : Int64)) * ((q1.toUInt64 >>> ((32 : Int32) &&& 0x3f).toInt64.toUInt64).toInt64))))] _
    refine XS.ladd X0.here hx rfl (hb hby own_d1_49) rfl ?_
    show oS p e below s₁ m 50 #[oj q0, .second, oj q1, .second, oa a2, oj ((q0.toUInt64 >>> ((32 : Int32) &&& 0x3f).toInt64.toUInt64).toInt64), .second, oj (q0 &&& (4294967295 : Int64)), .second, oj ((q1.toUInt64 >>> ((32 : Int32) &&& 0x3f).toInt64.toUInt64).toInt64), .second, oj (q1 &&& (4294967295 : Int64)), .second, oj ((q0 &&& (4294967295 : Int64)) * (q1 &&& (4294967295 : Int64))), .second, .unset, .unset] [(.long (((((q0.toUInt64 >>> ((32 : Int32) &&& 0x3f).toInt64.toUInt64).toInt64) * (q1 &&& (4294967295 : Int64))) + ((q0 &&& (4294967295 : Int64)) * ((q1.toUInt64 >>> ((32 : Int32) &&& 0x3f).toInt64.toUInt64).toInt64))) + ((((q0 &&& (4294967295 : Int64)) * (q1 &&& (4294967295 : Int64))).toUInt64 >>> ((32 : Int32) &&& 0x3f).toInt64.toUInt64).toInt64)))] _
    refine XS.lstore X0.here hx rfl (hb hby own_d1_50) rfl (l' := #[oj q0, .second, oj q1, .second, oa a2, oj ((q0.toUInt64 >>> ((32 : Int32) &&& 0x3f).toInt64.toUInt64).toInt64), .second, oj (q0 &&& (4294967295 : Int64)), .second, oj ((q1.toUInt64 >>> ((32 : Int32) &&& 0x3f).toInt64.toUInt64).toInt64), .second, oj (q1 &&& (4294967295 : Int64)), .second, oj ((q0 &&& (4294967295 : Int64)) * (q1 &&& (4294967295 : Int64))), .second, oj (((((q0.toUInt64 >>> ((32 : Int32) &&& 0x3f).toInt64.toUInt64).toInt64) * (q1 &&& (4294967295 : Int64))) + ((q0 &&& (4294967295 : Int64)) * ((q1.toUInt64 >>> ((32 : Int32) &&& 0x3f).toInt64.toUInt64).toInt64))) + ((((q0 &&& (4294967295 : Int64)) * (q1 &&& (4294967295 : Int64))).toUInt64 >>> ((32 : Int32) &&& 0x3f).toInt64.toUInt64).toInt64)), .second]) rfl ?_
    show oS p e below s₁ m 52 #[oj q0, .second, oj q1, .second, oa a2, oj ((q0.toUInt64 >>> ((32 : Int32) &&& 0x3f).toInt64.toUInt64).toInt64), .second, oj (q0 &&& (4294967295 : Int64)), .second, oj ((q1.toUInt64 >>> ((32 : Int32) &&& 0x3f).toInt64.toUInt64).toInt64), .second, oj (q1 &&& (4294967295 : Int64)), .second, oj ((q0 &&& (4294967295 : Int64)) * (q1 &&& (4294967295 : Int64))), .second, oj (((((q0.toUInt64 >>> ((32 : Int32) &&& 0x3f).toInt64.toUInt64).toInt64) * (q1 &&& (4294967295 : Int64))) + ((q0 &&& (4294967295 : Int64)) * ((q1.toUInt64 >>> ((32 : Int32) &&& 0x3f).toInt64.toUInt64).toInt64))) + ((((q0 &&& (4294967295 : Int64)) * (q1 &&& (4294967295 : Int64))).toUInt64 >>> ((32 : Int32) &&& 0x3f).toInt64.toUInt64).toInt64)), .second] [] _
    refine XS.aload X0.here hx rfl (hb hby own_d1_52) rfl rfl ?_
    show oS p e below s₁ m 54 #[oj q0, .second, oj q1, .second, oa a2, oj ((q0.toUInt64 >>> ((32 : Int32) &&& 0x3f).toInt64.toUInt64).toInt64), .second, oj (q0 &&& (4294967295 : Int64)), .second, oj ((q1.toUInt64 >>> ((32 : Int32) &&& 0x3f).toInt64.toUInt64).toInt64), .second, oj (q1 &&& (4294967295 : Int64)), .second, oj ((q0 &&& (4294967295 : Int64)) * (q1 &&& (4294967295 : Int64))), .second, oj (((((q0.toUInt64 >>> ((32 : Int32) &&& 0x3f).toInt64.toUInt64).toInt64) * (q1 &&& (4294967295 : Int64))) + ((q0 &&& (4294967295 : Int64)) * ((q1.toUInt64 >>> ((32 : Int32) &&& 0x3f).toInt64.toUInt64).toInt64))) + ((((q0 &&& (4294967295 : Int64)) * (q1 &&& (4294967295 : Int64))).toUInt64 >>> ((32 : Int32) &&& 0x3f).toInt64.toUInt64).toInt64)), .second] [(.ref a2)] _
    refine XS.iconst X0.here hx rfl (hb hby own_d1_54) ?_
    show oS p e below s₁ m 55 #[oj q0, .second, oj q1, .second, oa a2, oj ((q0.toUInt64 >>> ((32 : Int32) &&& 0x3f).toInt64.toUInt64).toInt64), .second, oj (q0 &&& (4294967295 : Int64)), .second, oj ((q1.toUInt64 >>> ((32 : Int32) &&& 0x3f).toInt64.toUInt64).toInt64), .second, oj (q1 &&& (4294967295 : Int64)), .second, oj ((q0 &&& (4294967295 : Int64)) * (q1 &&& (4294967295 : Int64))), .second, oj (((((q0.toUInt64 >>> ((32 : Int32) &&& 0x3f).toInt64.toUInt64).toInt64) * (q1 &&& (4294967295 : Int64))) + ((q0 &&& (4294967295 : Int64)) * ((q1.toUInt64 >>> ((32 : Int32) &&& 0x3f).toInt64.toUInt64).toInt64))) + ((((q0 &&& (4294967295 : Int64)) * (q1 &&& (4294967295 : Int64))).toUInt64 >>> ((32 : Int32) &&& 0x3f).toInt64.toUInt64).toInt64)), .second] [(.int (0 : Int32)), (.ref a2)] _
    refine XS.lload X0.here hx rfl (hb hby own_d1_55) rfl ?_
    show oS p e below s₁ m 57 #[oj q0, .second, oj q1, .second, oa a2, oj ((q0.toUInt64 >>> ((32 : Int32) &&& 0x3f).toInt64.toUInt64).toInt64), .second, oj (q0 &&& (4294967295 : Int64)), .second, oj ((q1.toUInt64 >>> ((32 : Int32) &&& 0x3f).toInt64.toUInt64).toInt64), .second, oj (q1 &&& (4294967295 : Int64)), .second, oj ((q0 &&& (4294967295 : Int64)) * (q1 &&& (4294967295 : Int64))), .second, oj (((((q0.toUInt64 >>> ((32 : Int32) &&& 0x3f).toInt64.toUInt64).toInt64) * (q1 &&& (4294967295 : Int64))) + ((q0 &&& (4294967295 : Int64)) * ((q1.toUInt64 >>> ((32 : Int32) &&& 0x3f).toInt64.toUInt64).toInt64))) + ((((q0 &&& (4294967295 : Int64)) * (q1 &&& (4294967295 : Int64))).toUInt64 >>> ((32 : Int32) &&& 0x3f).toInt64.toUInt64).toInt64)), .second] [(.long ((q0.toUInt64 >>> ((32 : Int32) &&& 0x3f).toInt64.toUInt64).toInt64)), (.int (0 : Int32)), (.ref a2)] _
    refine XS.lload X0.here hx rfl (hb hby own_d1_57) rfl ?_
    show oS p e below s₁ m 59 #[oj q0, .second, oj q1, .second, oa a2, oj ((q0.toUInt64 >>> ((32 : Int32) &&& 0x3f).toInt64.toUInt64).toInt64), .second, oj (q0 &&& (4294967295 : Int64)), .second, oj ((q1.toUInt64 >>> ((32 : Int32) &&& 0x3f).toInt64.toUInt64).toInt64), .second, oj (q1 &&& (4294967295 : Int64)), .second, oj ((q0 &&& (4294967295 : Int64)) * (q1 &&& (4294967295 : Int64))), .second, oj (((((q0.toUInt64 >>> ((32 : Int32) &&& 0x3f).toInt64.toUInt64).toInt64) * (q1 &&& (4294967295 : Int64))) + ((q0 &&& (4294967295 : Int64)) * ((q1.toUInt64 >>> ((32 : Int32) &&& 0x3f).toInt64.toUInt64).toInt64))) + ((((q0 &&& (4294967295 : Int64)) * (q1 &&& (4294967295 : Int64))).toUInt64 >>> ((32 : Int32) &&& 0x3f).toInt64.toUInt64).toInt64)), .second] [(.long ((q1.toUInt64 >>> ((32 : Int32) &&& 0x3f).toInt64.toUInt64).toInt64)), (.long ((q0.toUInt64 >>> ((32 : Int32) &&& 0x3f).toInt64.toUInt64).toInt64)), (.int (0 : Int32)), (.ref a2)] _
    refine XS.lmul X0.here hx rfl (hb hby own_d1_59) rfl ?_
    show oS p e below s₁ m 60 #[oj q0, .second, oj q1, .second, oa a2, oj ((q0.toUInt64 >>> ((32 : Int32) &&& 0x3f).toInt64.toUInt64).toInt64), .second, oj (q0 &&& (4294967295 : Int64)), .second, oj ((q1.toUInt64 >>> ((32 : Int32) &&& 0x3f).toInt64.toUInt64).toInt64), .second, oj (q1 &&& (4294967295 : Int64)), .second, oj ((q0 &&& (4294967295 : Int64)) * (q1 &&& (4294967295 : Int64))), .second, oj (((((q0.toUInt64 >>> ((32 : Int32) &&& 0x3f).toInt64.toUInt64).toInt64) * (q1 &&& (4294967295 : Int64))) + ((q0 &&& (4294967295 : Int64)) * ((q1.toUInt64 >>> ((32 : Int32) &&& 0x3f).toInt64.toUInt64).toInt64))) + ((((q0 &&& (4294967295 : Int64)) * (q1 &&& (4294967295 : Int64))).toUInt64 >>> ((32 : Int32) &&& 0x3f).toInt64.toUInt64).toInt64)), .second] [(.long (((q0.toUInt64 >>> ((32 : Int32) &&& 0x3f).toInt64.toUInt64).toInt64) * ((q1.toUInt64 >>> ((32 : Int32) &&& 0x3f).toInt64.toUInt64).toInt64))), (.int (0 : Int32)), (.ref a2)] _
    refine XS.lload X0.here hx rfl (hb hby own_d1_60) rfl ?_
    show oS p e below s₁ m 62 #[oj q0, .second, oj q1, .second, oa a2, oj ((q0.toUInt64 >>> ((32 : Int32) &&& 0x3f).toInt64.toUInt64).toInt64), .second, oj (q0 &&& (4294967295 : Int64)), .second, oj ((q1.toUInt64 >>> ((32 : Int32) &&& 0x3f).toInt64.toUInt64).toInt64), .second, oj (q1 &&& (4294967295 : Int64)), .second, oj ((q0 &&& (4294967295 : Int64)) * (q1 &&& (4294967295 : Int64))), .second, oj (((((q0.toUInt64 >>> ((32 : Int32) &&& 0x3f).toInt64.toUInt64).toInt64) * (q1 &&& (4294967295 : Int64))) + ((q0 &&& (4294967295 : Int64)) * ((q1.toUInt64 >>> ((32 : Int32) &&& 0x3f).toInt64.toUInt64).toInt64))) + ((((q0 &&& (4294967295 : Int64)) * (q1 &&& (4294967295 : Int64))).toUInt64 >>> ((32 : Int32) &&& 0x3f).toInt64.toUInt64).toInt64)), .second] [(.long (((((q0.toUInt64 >>> ((32 : Int32) &&& 0x3f).toInt64.toUInt64).toInt64) * (q1 &&& (4294967295 : Int64))) + ((q0 &&& (4294967295 : Int64)) * ((q1.toUInt64 >>> ((32 : Int32) &&& 0x3f).toInt64.toUInt64).toInt64))) + ((((q0 &&& (4294967295 : Int64)) * (q1 &&& (4294967295 : Int64))).toUInt64 >>> ((32 : Int32) &&& 0x3f).toInt64.toUInt64).toInt64))), (.long (((q0.toUInt64 >>> ((32 : Int32) &&& 0x3f).toInt64.toUInt64).toInt64) * ((q1.toUInt64 >>> ((32 : Int32) &&& 0x3f).toInt64.toUInt64).toInt64))), (.int (0 : Int32)), (.ref a2)] _
    refine XS.bipush X0.here hx rfl (hb hby own_d1_62) ?_
    show oS p e below s₁ m 64 #[oj q0, .second, oj q1, .second, oa a2, oj ((q0.toUInt64 >>> ((32 : Int32) &&& 0x3f).toInt64.toUInt64).toInt64), .second, oj (q0 &&& (4294967295 : Int64)), .second, oj ((q1.toUInt64 >>> ((32 : Int32) &&& 0x3f).toInt64.toUInt64).toInt64), .second, oj (q1 &&& (4294967295 : Int64)), .second, oj ((q0 &&& (4294967295 : Int64)) * (q1 &&& (4294967295 : Int64))), .second, oj (((((q0.toUInt64 >>> ((32 : Int32) &&& 0x3f).toInt64.toUInt64).toInt64) * (q1 &&& (4294967295 : Int64))) + ((q0 &&& (4294967295 : Int64)) * ((q1.toUInt64 >>> ((32 : Int32) &&& 0x3f).toInt64.toUInt64).toInt64))) + ((((q0 &&& (4294967295 : Int64)) * (q1 &&& (4294967295 : Int64))).toUInt64 >>> ((32 : Int32) &&& 0x3f).toInt64.toUInt64).toInt64)), .second] [(.int (32 : Int32)), (.long (((((q0.toUInt64 >>> ((32 : Int32) &&& 0x3f).toInt64.toUInt64).toInt64) * (q1 &&& (4294967295 : Int64))) + ((q0 &&& (4294967295 : Int64)) * ((q1.toUInt64 >>> ((32 : Int32) &&& 0x3f).toInt64.toUInt64).toInt64))) + ((((q0 &&& (4294967295 : Int64)) * (q1 &&& (4294967295 : Int64))).toUInt64 >>> ((32 : Int32) &&& 0x3f).toInt64.toUInt64).toInt64))), (.long (((q0.toUInt64 >>> ((32 : Int32) &&& 0x3f).toInt64.toUInt64).toInt64) * ((q1.toUInt64 >>> ((32 : Int32) &&& 0x3f).toInt64.toUInt64).toInt64))), (.int (0 : Int32)), (.ref a2)] _
    refine XS.lushr X0.here hx rfl (hb hby own_d1_64) rfl ?_
    show oS p e below s₁ m 65 #[oj q0, .second, oj q1, .second, oa a2, oj ((q0.toUInt64 >>> ((32 : Int32) &&& 0x3f).toInt64.toUInt64).toInt64), .second, oj (q0 &&& (4294967295 : Int64)), .second, oj ((q1.toUInt64 >>> ((32 : Int32) &&& 0x3f).toInt64.toUInt64).toInt64), .second, oj (q1 &&& (4294967295 : Int64)), .second, oj ((q0 &&& (4294967295 : Int64)) * (q1 &&& (4294967295 : Int64))), .second, oj (((((q0.toUInt64 >>> ((32 : Int32) &&& 0x3f).toInt64.toUInt64).toInt64) * (q1 &&& (4294967295 : Int64))) + ((q0 &&& (4294967295 : Int64)) * ((q1.toUInt64 >>> ((32 : Int32) &&& 0x3f).toInt64.toUInt64).toInt64))) + ((((q0 &&& (4294967295 : Int64)) * (q1 &&& (4294967295 : Int64))).toUInt64 >>> ((32 : Int32) &&& 0x3f).toInt64.toUInt64).toInt64)), .second] [(.long (((((((q0.toUInt64 >>> ((32 : Int32) &&& 0x3f).toInt64.toUInt64).toInt64) * (q1 &&& (4294967295 : Int64))) + ((q0 &&& (4294967295 : Int64)) * ((q1.toUInt64 >>> ((32 : Int32) &&& 0x3f).toInt64.toUInt64).toInt64))) + ((((q0 &&& (4294967295 : Int64)) * (q1 &&& (4294967295 : Int64))).toUInt64 >>> ((32 : Int32) &&& 0x3f).toInt64.toUInt64).toInt64)).toUInt64 >>> ((32 : Int32) &&& 0x3f).toInt64.toUInt64).toInt64)), (.long (((q0.toUInt64 >>> ((32 : Int32) &&& 0x3f).toInt64.toUInt64).toInt64) * ((q1.toUInt64 >>> ((32 : Int32) &&& 0x3f).toInt64.toUInt64).toInt64))), (.int (0 : Int32)), (.ref a2)] _
    refine XS.ladd X0.here hx rfl (hb hby own_d1_65) rfl ?_
    show oS p e below s₁ m 66 #[oj q0, .second, oj q1, .second, oa a2, oj ((q0.toUInt64 >>> ((32 : Int32) &&& 0x3f).toInt64.toUInt64).toInt64), .second, oj (q0 &&& (4294967295 : Int64)), .second, oj ((q1.toUInt64 >>> ((32 : Int32) &&& 0x3f).toInt64.toUInt64).toInt64), .second, oj (q1 &&& (4294967295 : Int64)), .second, oj ((q0 &&& (4294967295 : Int64)) * (q1 &&& (4294967295 : Int64))), .second, oj (((((q0.toUInt64 >>> ((32 : Int32) &&& 0x3f).toInt64.toUInt64).toInt64) * (q1 &&& (4294967295 : Int64))) + ((q0 &&& (4294967295 : Int64)) * ((q1.toUInt64 >>> ((32 : Int32) &&& 0x3f).toInt64.toUInt64).toInt64))) + ((((q0 &&& (4294967295 : Int64)) * (q1 &&& (4294967295 : Int64))).toUInt64 >>> ((32 : Int32) &&& 0x3f).toInt64.toUInt64).toInt64)), .second] [(.long ((((q0.toUInt64 >>> ((32 : Int32) &&& 0x3f).toInt64.toUInt64).toInt64) * ((q1.toUInt64 >>> ((32 : Int32) &&& 0x3f).toInt64.toUInt64).toInt64)) + (((((((q0.toUInt64 >>> ((32 : Int32) &&& 0x3f).toInt64.toUInt64).toInt64) * (q1 &&& (4294967295 : Int64))) + ((q0 &&& (4294967295 : Int64)) * ((q1.toUInt64 >>> ((32 : Int32) &&& 0x3f).toInt64.toUInt64).toInt64))) + ((((q0 &&& (4294967295 : Int64)) * (q1 &&& (4294967295 : Int64))).toUInt64 >>> ((32 : Int32) &&& 0x3f).toInt64.toUInt64).toInt64)).toUInt64 >>> ((32 : Int32) &&& 0x3f).toInt64.toUInt64).toInt64))), (.int (0 : Int32)), (.ref a2)] _
    refine st1 _ ?_
    show oS p e below T1 m 67 #[oj q0, .second, oj q1, .second, oa a2, oj ((q0.toUInt64 >>> ((32 : Int32) &&& 0x3f).toInt64.toUInt64).toInt64), .second, oj (q0 &&& (4294967295 : Int64)), .second, oj ((q1.toUInt64 >>> ((32 : Int32) &&& 0x3f).toInt64.toUInt64).toInt64), .second, oj (q1 &&& (4294967295 : Int64)), .second, oj ((q0 &&& (4294967295 : Int64)) * (q1 &&& (4294967295 : Int64))), .second, oj (((((q0.toUInt64 >>> ((32 : Int32) &&& 0x3f).toInt64.toUInt64).toInt64) * (q1 &&& (4294967295 : Int64))) + ((q0 &&& (4294967295 : Int64)) * ((q1.toUInt64 >>> ((32 : Int32) &&& 0x3f).toInt64.toUInt64).toInt64))) + ((((q0 &&& (4294967295 : Int64)) * (q1 &&& (4294967295 : Int64))).toUInt64 >>> ((32 : Int32) &&& 0x3f).toInt64.toUInt64).toInt64)), .second] [] _
    refine XS.aload X1.here hx rfl (hb hby own_d1_67) rfl rfl ?_
    show oS p e below T1 m 69 #[oj q0, .second, oj q1, .second, oa a2, oj ((q0.toUInt64 >>> ((32 : Int32) &&& 0x3f).toInt64.toUInt64).toInt64), .second, oj (q0 &&& (4294967295 : Int64)), .second, oj ((q1.toUInt64 >>> ((32 : Int32) &&& 0x3f).toInt64.toUInt64).toInt64), .second, oj (q1 &&& (4294967295 : Int64)), .second, oj ((q0 &&& (4294967295 : Int64)) * (q1 &&& (4294967295 : Int64))), .second, oj (((((q0.toUInt64 >>> ((32 : Int32) &&& 0x3f).toInt64.toUInt64).toInt64) * (q1 &&& (4294967295 : Int64))) + ((q0 &&& (4294967295 : Int64)) * ((q1.toUInt64 >>> ((32 : Int32) &&& 0x3f).toInt64.toUInt64).toInt64))) + ((((q0 &&& (4294967295 : Int64)) * (q1 &&& (4294967295 : Int64))).toUInt64 >>> ((32 : Int32) &&& 0x3f).toInt64.toUInt64).toInt64)), .second] [(.ref a2)] _
    refine XS.iconst X1.here hx rfl (hb hby own_d1_69) ?_
    show oS p e below T1 m 70 #[oj q0, .second, oj q1, .second, oa a2, oj ((q0.toUInt64 >>> ((32 : Int32) &&& 0x3f).toInt64.toUInt64).toInt64), .second, oj (q0 &&& (4294967295 : Int64)), .second, oj ((q1.toUInt64 >>> ((32 : Int32) &&& 0x3f).toInt64.toUInt64).toInt64), .second, oj (q1 &&& (4294967295 : Int64)), .second, oj ((q0 &&& (4294967295 : Int64)) * (q1 &&& (4294967295 : Int64))), .second, oj (((((q0.toUInt64 >>> ((32 : Int32) &&& 0x3f).toInt64.toUInt64).toInt64) * (q1 &&& (4294967295 : Int64))) + ((q0 &&& (4294967295 : Int64)) * ((q1.toUInt64 >>> ((32 : Int32) &&& 0x3f).toInt64.toUInt64).toInt64))) + ((((q0 &&& (4294967295 : Int64)) * (q1 &&& (4294967295 : Int64))).toUInt64 >>> ((32 : Int32) &&& 0x3f).toInt64.toUInt64).toInt64)), .second] [(.int (1 : Int32)), (.ref a2)] _
    refine XS.lload X1.here hx rfl (hb hby own_d1_70) rfl ?_
    show oS p e below T1 m 72 #[oj q0, .second, oj q1, .second, oa a2, oj ((q0.toUInt64 >>> ((32 : Int32) &&& 0x3f).toInt64.toUInt64).toInt64), .second, oj (q0 &&& (4294967295 : Int64)), .second, oj ((q1.toUInt64 >>> ((32 : Int32) &&& 0x3f).toInt64.toUInt64).toInt64), .second, oj (q1 &&& (4294967295 : Int64)), .second, oj ((q0 &&& (4294967295 : Int64)) * (q1 &&& (4294967295 : Int64))), .second, oj (((((q0.toUInt64 >>> ((32 : Int32) &&& 0x3f).toInt64.toUInt64).toInt64) * (q1 &&& (4294967295 : Int64))) + ((q0 &&& (4294967295 : Int64)) * ((q1.toUInt64 >>> ((32 : Int32) &&& 0x3f).toInt64.toUInt64).toInt64))) + ((((q0 &&& (4294967295 : Int64)) * (q1 &&& (4294967295 : Int64))).toUInt64 >>> ((32 : Int32) &&& 0x3f).toInt64.toUInt64).toInt64)), .second] [(.long (((((q0.toUInt64 >>> ((32 : Int32) &&& 0x3f).toInt64.toUInt64).toInt64) * (q1 &&& (4294967295 : Int64))) + ((q0 &&& (4294967295 : Int64)) * ((q1.toUInt64 >>> ((32 : Int32) &&& 0x3f).toInt64.toUInt64).toInt64))) + ((((q0 &&& (4294967295 : Int64)) * (q1 &&& (4294967295 : Int64))).toUInt64 >>> ((32 : Int32) &&& 0x3f).toInt64.toUInt64).toInt64))), (.int (1 : Int32)), (.ref a2)] _
    refine X1.ldc2Long hx hown (mvT hZ (hw _ (List.mem_of_getElem? (i := 1) rfl))) (g := (mkF m 72 #[oj q0, .second, oj q1, .second, oa a2, oj ((q0.toUInt64 >>> ((32 : Int32) &&& 0x3f).toInt64.toUInt64).toInt64), .second, oj (q0 &&& (4294967295 : Int64)), .second, oj ((q1.toUInt64 >>> ((32 : Int32) &&& 0x3f).toInt64.toUInt64).toInt64), .second, oj (q1 &&& (4294967295 : Int64)), .second, oj ((q0 &&& (4294967295 : Int64)) * (q1 &&& (4294967295 : Int64))), .second, oj (((((q0.toUInt64 >>> ((32 : Int32) &&& 0x3f).toInt64.toUInt64).toInt64) * (q1 &&& (4294967295 : Int64))) + ((q0 &&& (4294967295 : Int64)) * ((q1.toUInt64 >>> ((32 : Int32) &&& 0x3f).toInt64.toUInt64).toInt64))) + ((((q0 &&& (4294967295 : Int64)) * (q1 &&& (4294967295 : Int64))).toUInt64 >>> ((32 : Int32) &&& 0x3f).toInt64.toUInt64).toInt64)), .second] [(.long (((((q0.toUInt64 >>> ((32 : Int32) &&& 0x3f).toInt64.toUInt64).toInt64) * (q1 &&& (4294967295 : Int64))) + ((q0 &&& (4294967295 : Int64)) * ((q1.toUInt64 >>> ((32 : Int32) &&& 0x3f).toInt64.toUInt64).toInt64))) + ((((q0 &&& (4294967295 : Int64)) * (q1 &&& (4294967295 : Int64))).toUInt64 >>> ((32 : Int32) &&& 0x3f).toInt64.toUInt64).toInt64))), (.int (1 : Int32)), (.ref a2)])) rfl (hb hby own_d1_72) _ ?_
    show oS p e below T1 m 75 #[oj q0, .second, oj q1, .second, oa a2, oj ((q0.toUInt64 >>> ((32 : Int32) &&& 0x3f).toInt64.toUInt64).toInt64), .second, oj (q0 &&& (4294967295 : Int64)), .second, oj ((q1.toUInt64 >>> ((32 : Int32) &&& 0x3f).toInt64.toUInt64).toInt64), .second, oj (q1 &&& (4294967295 : Int64)), .second, oj ((q0 &&& (4294967295 : Int64)) * (q1 &&& (4294967295 : Int64))), .second, oj (((((q0.toUInt64 >>> ((32 : Int32) &&& 0x3f).toInt64.toUInt64).toInt64) * (q1 &&& (4294967295 : Int64))) + ((q0 &&& (4294967295 : Int64)) * ((q1.toUInt64 >>> ((32 : Int32) &&& 0x3f).toInt64.toUInt64).toInt64))) + ((((q0 &&& (4294967295 : Int64)) * (q1 &&& (4294967295 : Int64))).toUInt64 >>> ((32 : Int32) &&& 0x3f).toInt64.toUInt64).toInt64)), .second] [(.long (4294967295 : Int64)), (.long (((((q0.toUInt64 >>> ((32 : Int32) &&& 0x3f).toInt64.toUInt64).toInt64) * (q1 &&& (4294967295 : Int64))) + ((q0 &&& (4294967295 : Int64)) * ((q1.toUInt64 >>> ((32 : Int32) &&& 0x3f).toInt64.toUInt64).toInt64))) + ((((q0 &&& (4294967295 : Int64)) * (q1 &&& (4294967295 : Int64))).toUInt64 >>> ((32 : Int32) &&& 0x3f).toInt64.toUInt64).toInt64))), (.int (1 : Int32)), (.ref a2)] _
    refine XS.land X1.here hx rfl (hb hby own_d1_75) rfl ?_
    show oS p e below T1 m 76 #[oj q0, .second, oj q1, .second, oa a2, oj ((q0.toUInt64 >>> ((32 : Int32) &&& 0x3f).toInt64.toUInt64).toInt64), .second, oj (q0 &&& (4294967295 : Int64)), .second, oj ((q1.toUInt64 >>> ((32 : Int32) &&& 0x3f).toInt64.toUInt64).toInt64), .second, oj (q1 &&& (4294967295 : Int64)), .second, oj ((q0 &&& (4294967295 : Int64)) * (q1 &&& (4294967295 : Int64))), .second, oj (((((q0.toUInt64 >>> ((32 : Int32) &&& 0x3f).toInt64.toUInt64).toInt64) * (q1 &&& (4294967295 : Int64))) + ((q0 &&& (4294967295 : Int64)) * ((q1.toUInt64 >>> ((32 : Int32) &&& 0x3f).toInt64.toUInt64).toInt64))) + ((((q0 &&& (4294967295 : Int64)) * (q1 &&& (4294967295 : Int64))).toUInt64 >>> ((32 : Int32) &&& 0x3f).toInt64.toUInt64).toInt64)), .second] [(.long ((((((q0.toUInt64 >>> ((32 : Int32) &&& 0x3f).toInt64.toUInt64).toInt64) * (q1 &&& (4294967295 : Int64))) + ((q0 &&& (4294967295 : Int64)) * ((q1.toUInt64 >>> ((32 : Int32) &&& 0x3f).toInt64.toUInt64).toInt64))) + ((((q0 &&& (4294967295 : Int64)) * (q1 &&& (4294967295 : Int64))).toUInt64 >>> ((32 : Int32) &&& 0x3f).toInt64.toUInt64).toInt64)) &&& (4294967295 : Int64))), (.int (1 : Int32)), (.ref a2)] _
    refine st4 _ ?_
    show oS p e below T4 m 77 #[oj q0, .second, oj q1, .second, oa a2, oj ((q0.toUInt64 >>> ((32 : Int32) &&& 0x3f).toInt64.toUInt64).toInt64), .second, oj (q0 &&& (4294967295 : Int64)), .second, oj ((q1.toUInt64 >>> ((32 : Int32) &&& 0x3f).toInt64.toUInt64).toInt64), .second, oj (q1 &&& (4294967295 : Int64)), .second, oj ((q0 &&& (4294967295 : Int64)) * (q1 &&& (4294967295 : Int64))), .second, oj (((((q0.toUInt64 >>> ((32 : Int32) &&& 0x3f).toInt64.toUInt64).toInt64) * (q1 &&& (4294967295 : Int64))) + ((q0 &&& (4294967295 : Int64)) * ((q1.toUInt64 >>> ((32 : Int32) &&& 0x3f).toInt64.toUInt64).toInt64))) + ((((q0 &&& (4294967295 : Int64)) * (q1 &&& (4294967295 : Int64))).toUInt64 >>> ((32 : Int32) &&& 0x3f).toInt64.toUInt64).toInt64)), .second] [] _
    refine XS.aload X4.here hx rfl (hb hby own_d1_77) rfl rfl ?_
    show oS p e below T4 m 79 #[oj q0, .second, oj q1, .second, oa a2, oj ((q0.toUInt64 >>> ((32 : Int32) &&& 0x3f).toInt64.toUInt64).toInt64), .second, oj (q0 &&& (4294967295 : Int64)), .second, oj ((q1.toUInt64 >>> ((32 : Int32) &&& 0x3f).toInt64.toUInt64).toInt64), .second, oj (q1 &&& (4294967295 : Int64)), .second, oj ((q0 &&& (4294967295 : Int64)) * (q1 &&& (4294967295 : Int64))), .second, oj (((((q0.toUInt64 >>> ((32 : Int32) &&& 0x3f).toInt64.toUInt64).toInt64) * (q1 &&& (4294967295 : Int64))) + ((q0 &&& (4294967295 : Int64)) * ((q1.toUInt64 >>> ((32 : Int32) &&& 0x3f).toInt64.toUInt64).toInt64))) + ((((q0 &&& (4294967295 : Int64)) * (q1 &&& (4294967295 : Int64))).toUInt64 >>> ((32 : Int32) &&& 0x3f).toInt64.toUInt64).toInt64)), .second] [(.ref a2)] _
    refine XS.iconst X4.here hx rfl (hb hby own_d1_79) ?_
    show oS p e below T4 m 80 #[oj q0, .second, oj q1, .second, oa a2, oj ((q0.toUInt64 >>> ((32 : Int32) &&& 0x3f).toInt64.toUInt64).toInt64), .second, oj (q0 &&& (4294967295 : Int64)), .second, oj ((q1.toUInt64 >>> ((32 : Int32) &&& 0x3f).toInt64.toUInt64).toInt64), .second, oj (q1 &&& (4294967295 : Int64)), .second, oj ((q0 &&& (4294967295 : Int64)) * (q1 &&& (4294967295 : Int64))), .second, oj (((((q0.toUInt64 >>> ((32 : Int32) &&& 0x3f).toInt64.toUInt64).toInt64) * (q1 &&& (4294967295 : Int64))) + ((q0 &&& (4294967295 : Int64)) * ((q1.toUInt64 >>> ((32 : Int32) &&& 0x3f).toInt64.toUInt64).toInt64))) + ((((q0 &&& (4294967295 : Int64)) * (q1 &&& (4294967295 : Int64))).toUInt64 >>> ((32 : Int32) &&& 0x3f).toInt64.toUInt64).toInt64)), .second] [(.int (2 : Int32)), (.ref a2)] _
    refine XS.lload X4.here hx rfl (hb hby own_d1_80) rfl ?_
    show oS p e below T4 m 82 #[oj q0, .second, oj q1, .second, oa a2, oj ((q0.toUInt64 >>> ((32 : Int32) &&& 0x3f).toInt64.toUInt64).toInt64), .second, oj (q0 &&& (4294967295 : Int64)), .second, oj ((q1.toUInt64 >>> ((32 : Int32) &&& 0x3f).toInt64.toUInt64).toInt64), .second, oj (q1 &&& (4294967295 : Int64)), .second, oj ((q0 &&& (4294967295 : Int64)) * (q1 &&& (4294967295 : Int64))), .second, oj (((((q0.toUInt64 >>> ((32 : Int32) &&& 0x3f).toInt64.toUInt64).toInt64) * (q1 &&& (4294967295 : Int64))) + ((q0 &&& (4294967295 : Int64)) * ((q1.toUInt64 >>> ((32 : Int32) &&& 0x3f).toInt64.toUInt64).toInt64))) + ((((q0 &&& (4294967295 : Int64)) * (q1 &&& (4294967295 : Int64))).toUInt64 >>> ((32 : Int32) &&& 0x3f).toInt64.toUInt64).toInt64)), .second] [(.long ((q0 &&& (4294967295 : Int64)) * (q1 &&& (4294967295 : Int64)))), (.int (2 : Int32)), (.ref a2)] _
    refine X4.ldc2Long hx hown (mvT hZ (hw _ (List.mem_of_getElem? (i := 1) rfl))) (g := (mkF m 82 #[oj q0, .second, oj q1, .second, oa a2, oj ((q0.toUInt64 >>> ((32 : Int32) &&& 0x3f).toInt64.toUInt64).toInt64), .second, oj (q0 &&& (4294967295 : Int64)), .second, oj ((q1.toUInt64 >>> ((32 : Int32) &&& 0x3f).toInt64.toUInt64).toInt64), .second, oj (q1 &&& (4294967295 : Int64)), .second, oj ((q0 &&& (4294967295 : Int64)) * (q1 &&& (4294967295 : Int64))), .second, oj (((((q0.toUInt64 >>> ((32 : Int32) &&& 0x3f).toInt64.toUInt64).toInt64) * (q1 &&& (4294967295 : Int64))) + ((q0 &&& (4294967295 : Int64)) * ((q1.toUInt64 >>> ((32 : Int32) &&& 0x3f).toInt64.toUInt64).toInt64))) + ((((q0 &&& (4294967295 : Int64)) * (q1 &&& (4294967295 : Int64))).toUInt64 >>> ((32 : Int32) &&& 0x3f).toInt64.toUInt64).toInt64)), .second] [(.long ((q0 &&& (4294967295 : Int64)) * (q1 &&& (4294967295 : Int64)))), (.int (2 : Int32)), (.ref a2)])) rfl (hb hby own_d1_82) _ ?_
    show oS p e below T4 m 85 #[oj q0, .second, oj q1, .second, oa a2, oj ((q0.toUInt64 >>> ((32 : Int32) &&& 0x3f).toInt64.toUInt64).toInt64), .second, oj (q0 &&& (4294967295 : Int64)), .second, oj ((q1.toUInt64 >>> ((32 : Int32) &&& 0x3f).toInt64.toUInt64).toInt64), .second, oj (q1 &&& (4294967295 : Int64)), .second, oj ((q0 &&& (4294967295 : Int64)) * (q1 &&& (4294967295 : Int64))), .second, oj (((((q0.toUInt64 >>> ((32 : Int32) &&& 0x3f).toInt64.toUInt64).toInt64) * (q1 &&& (4294967295 : Int64))) + ((q0 &&& (4294967295 : Int64)) * ((q1.toUInt64 >>> ((32 : Int32) &&& 0x3f).toInt64.toUInt64).toInt64))) + ((((q0 &&& (4294967295 : Int64)) * (q1 &&& (4294967295 : Int64))).toUInt64 >>> ((32 : Int32) &&& 0x3f).toInt64.toUInt64).toInt64)), .second] [(.long (4294967295 : Int64)), (.long ((q0 &&& (4294967295 : Int64)) * (q1 &&& (4294967295 : Int64)))), (.int (2 : Int32)), (.ref a2)] _
    refine XS.land X4.here hx rfl (hb hby own_d1_85) rfl ?_
    show oS p e below T4 m 86 #[oj q0, .second, oj q1, .second, oa a2, oj ((q0.toUInt64 >>> ((32 : Int32) &&& 0x3f).toInt64.toUInt64).toInt64), .second, oj (q0 &&& (4294967295 : Int64)), .second, oj ((q1.toUInt64 >>> ((32 : Int32) &&& 0x3f).toInt64.toUInt64).toInt64), .second, oj (q1 &&& (4294967295 : Int64)), .second, oj ((q0 &&& (4294967295 : Int64)) * (q1 &&& (4294967295 : Int64))), .second, oj (((((q0.toUInt64 >>> ((32 : Int32) &&& 0x3f).toInt64.toUInt64).toInt64) * (q1 &&& (4294967295 : Int64))) + ((q0 &&& (4294967295 : Int64)) * ((q1.toUInt64 >>> ((32 : Int32) &&& 0x3f).toInt64.toUInt64).toInt64))) + ((((q0 &&& (4294967295 : Int64)) * (q1 &&& (4294967295 : Int64))).toUInt64 >>> ((32 : Int32) &&& 0x3f).toInt64.toUInt64).toInt64)), .second] [(.long (((q0 &&& (4294967295 : Int64)) * (q1 &&& (4294967295 : Int64))) &&& (4294967295 : Int64))), (.int (2 : Int32)), (.ref a2)] _
    refine st7 _ ?_
    show oS p e below T7 m 87 #[oj q0, .second, oj q1, .second, oa a2, oj ((q0.toUInt64 >>> ((32 : Int32) &&& 0x3f).toInt64.toUInt64).toInt64), .second, oj (q0 &&& (4294967295 : Int64)), .second, oj ((q1.toUInt64 >>> ((32 : Int32) &&& 0x3f).toInt64.toUInt64).toInt64), .second, oj (q1 &&& (4294967295 : Int64)), .second, oj ((q0 &&& (4294967295 : Int64)) * (q1 &&& (4294967295 : Int64))), .second, oj (((((q0.toUInt64 >>> ((32 : Int32) &&& 0x3f).toInt64.toUInt64).toInt64) * (q1 &&& (4294967295 : Int64))) + ((q0 &&& (4294967295 : Int64)) * ((q1.toUInt64 >>> ((32 : Int32) &&& 0x3f).toInt64.toUInt64).toInt64))) + ((((q0 &&& (4294967295 : Int64)) * (q1 &&& (4294967295 : Int64))).toUInt64 >>> ((32 : Int32) &&& 0x3f).toInt64.toUInt64).toInt64)), .second] [] _
    exact X7.returnOut hx Bd.returns (hb hby own_d1_87) hr
  · show own_Q1 Z q0 q1 a2 k_a2 h0 n0 _ T7.heap _
    rw [e7]
    exact ⟨rfl, N7, K_9, V_8⟩
theorem own_d2_0 : decode method_3_code 0 = .ok (.lload_n 0, 1) := by decide +kernel
theorem own_d2_1 : decode method_3_code 1 = .ok (.lload_n 2, 1) := by decide +kernel
theorem own_d2_2 : decode method_3_code 2 = .ok (.lcmp, 1) := by decide +kernel
theorem own_d2_3 : decode method_3_code 3 = .ok (.ifCond .ge 5, 3) := by decide +kernel
theorem own_d2_6 : decode method_3_code 6 = .ok (.iconst (-1), 1) := by decide +kernel
theorem own_d2_7 : decode method_3_code 7 = .ok (.ireturn, 1) := by decide +kernel
theorem own_d2_8 : decode method_3_code 8 = .ok (.lload_n 0, 1) := by decide +kernel
theorem own_d2_9 : decode method_3_code 9 = .ok (.lload_n 2, 1) := by decide +kernel
theorem own_d2_10 : decode method_3_code 10 = .ok (.lcmp, 1) := by decide +kernel
theorem own_d2_11 : decode method_3_code 11 = .ok (.ifCond .le 5, 3) := by decide +kernel
theorem own_d2_14 : decode method_3_code 14 = .ok (.iconst 1, 1) := by decide +kernel
theorem own_d2_15 : decode method_3_code 15 = .ok (.ireturn, 1) := by decide +kernel
theorem own_d2_16 : decode method_3_code 16 = .ok (.iconst 0, 1) := by decide +kernel
theorem own_d2_17 : decode method_3_code 17 = .ok (.ireturn, 1) := by decide +kernel
theorem own_ef2 (m : MethodId) (q0 : Int64) (q1 : Int64) : entryFrame m #[(.long q0), (.long q1)] 4 = mkF m 0 #[oj q0, .second, oj q1, .second] [] := by first | (simp [entryFrame, mkF, argsToLocals, Value.category]; done) | rfl
def own_f2 (q0 : Int64) (q1 : Int64) : Int32 := (if q0 < q1 then (-1 : Int32) else (if q1 < q0 then (1 : Int32) else (0 : Int32)))
def own_Q2 (Z : State) (q0 : Int64) (q1 : Int64) (h0 : Heap) (n0 : Nat) (v : Option Value) (h : Heap) (L : List Loc) : Prop := v = some (Value.int (own_f2 q0 q1)) ∧ Fr n0 L ∧ h = h0
set_option maxRecDepth 65536 in
set_option maxHeartbeats 40000000 in
theorem own_rm2 (l : Launch) (Z : State) (av : Array Value) (hw : ∀ d ∈ tables_1, d.before av Z = true) (ws : List Jvm.Cond) (q0 : Int64) (q1 : Int64) (h0 : Heap) (n0 : Nat) (Z0 : n0 ≤ h0.size) :
    MetFree l (⟨"com/example/strict_anon/strictanon/util/ProductsComparePinLaw", "cmp", "(JJ)I"⟩ : MethodName) (head1 (Jvm.Cond.code (⟨"com/example/strict_anon/strictanon/util/ProductsComparePinLaw", "cmp", "(JJ)I"⟩ : MethodName) method_3_code 4 (some .int) :: ws) ({ frames := 0, cells := 0, slots := 0, locals := 0 } : Room)) (fun a U => a = #[(.long q0), (.long q1)] ∧ Z.Warmed39 U.vm ∧ U.heap = h0) (fun _ _ _ _ _ => True) (fun _ U o U' => ∃ v L, o = .returned v ∧ own_Q2 Z q0 q1 h0 n0 v U'.heap L ∧ FrameEnd U o U' L ({ frames := 0, cells := 0, slots := 0, locals := 0 } : Room).cells ({ frames := 0, cells := 0, slots := 0, locals := 0 } : Room).slots) := by
  refine MetFree.of_bodySF (plainFor_of_name own_pn0) hisR ?_
  intro p e s m args below meth c s₁ Bd hml0 hP hK
  obtain ⟨rfl, hZ, hh⟩ := hP
  have hx := Bd.exec
  have hby := Bd.bytes
  have hml : c.maxLocals = 4 := hml0
  have hown : s.vm.findClass "com/example/strict_anon/strictanon/util/ProductsComparePinLaw" = some m.cls := findClass_of_methodNamed Bd.named
  have hnm := (name_of_methodNamed Bd.named Bd.method).1
  have X0 : Stand p l e ({ frames := 0, cells := 0, slots := 0, locals := 0 } : Room) s m #[(.long q0), (.long q1)] below meth c s₁ [] 0 0 := Stand.of_body Bd
  have e0 : s₁.heap = h0 := by rw [← hh, Bd.state]; rfl
  have N0 := Fr.nil n0
  have pre0 : ∀ t, Steps p.tables e below (s₁.setTop (mkF m 0 #[oj q0, .second, oj q1, .second] [])) t → Steps p.tables e below (s₁.setTop (entryFrame m #[(.long q0), (.long q1)] 4)) t := fun t k => castTop (own_ef2 m q0 q1) k
  have pre1 : ∀ t, Steps p.tables e below (s₁.setTop (mkF m 3 #[oj q0, .second, oj q1, .second] [(.int (lcmpW q0 q1))])) t → Steps p.tables e below (s₁.setTop (entryFrame m #[(.long q0), (.long q1)] 4)) t := by
    intro t k
    refine pre0 t ?_
    show oS p e below s₁ m 0 #[oj q0, .second, oj q1, .second] [] _
    refine XS.lloadN X0.here hx rfl (hb hby own_d2_0) rfl ?_
    show oS p e below s₁ m 1 #[oj q0, .second, oj q1, .second] [(.long q0)] _
    refine XS.lloadN X0.here hx rfl (hb hby own_d2_1) rfl ?_
    show oS p e below s₁ m 2 #[oj q0, .second, oj q1, .second] [(.long q1), (.long q0)] _
    refine XS.lcmp X0.here hx rfl (hb hby own_d2_2) rfl ?_
    exact k
  by_cases c2 : q0 < q1
  · skip
    obtain ⟨fs, hr, hrun, hended, hW, hsame⟩ := X0.leave (v := (some (.int (-1 : Int32)))) (fun h => by rw [Bd.returns] at h; cases h) (hlocks := by first | exact BodyLoose.notSynchronized Bd | exact Body.notSynchronized Bd)
    refine ⟨_, _, pre1 _ ?_, hrun, hended, _, _, rfl, ?_, ⟨_, rfl⟩, hW, hsame.mono (by decide) (by decide)⟩
    · show oS p e below s₁ m 3 #[oj q0, .second, oj q1, .second] [(.int (lcmpW q0 q1))] _
      refine XS.ifNo X0.here hx rfl (hb hby own_d2_3) rfl ((if0 _ _).trans (tlt ((lw_lt q0 q1).mpr c2)).2.1) ?_
      show oS p e below s₁ m 6 #[oj q0, .second, oj q1, .second] [] _
      refine XS.iconst X0.here hx rfl (hb hby own_d2_6) ?_
      show oS p e below s₁ m 7 #[oj q0, .second, oj q1, .second] [(.int (-1 : Int32))] _
      exact retOut X0 hx Bd.returns rfl (Or.inl ⟨rfl, Or.inl rfl, _, rfl⟩) (hb hby own_d2_7) hr
    · show own_Q2 Z q0 q1 h0 n0 _ s₁.heap _
      rw [e0]
      exact ⟨congrArg (fun z => some (Value.int z)) (by rw [own_f2, if_pos c2]), N0, rfl⟩
  · skip
    have pre3 : ∀ t, Steps p.tables e below (s₁.setTop (mkF m 11 #[oj q0, .second, oj q1, .second] [(.int (lcmpW q0 q1))])) t → Steps p.tables e below (s₁.setTop (entryFrame m #[(.long q0), (.long q1)] 4)) t := by
      intro t k
      refine pre1 t ?_
      show oS p e below s₁ m 3 #[oj q0, .second, oj q1, .second] [(.int (lcmpW q0 q1))] _
      refine XS.ifYes X0.here hx rfl (pc0 := 3) (pc' := 8) rfl (hb hby own_d2_3) rfl ((if0 _ _).trans (flt (fun q => c2 ((lw_lt q0 q1).mp q))).2.1) (by decide) (by decide) ?_
      show oS p e below s₁ m 8 #[oj q0, .second, oj q1, .second] [] _
      refine XS.lloadN X0.here hx rfl (hb hby own_d2_8) rfl ?_
      show oS p e below s₁ m 9 #[oj q0, .second, oj q1, .second] [(.long q0)] _
      refine XS.lloadN X0.here hx rfl (hb hby own_d2_9) rfl ?_
      show oS p e below s₁ m 10 #[oj q0, .second, oj q1, .second] [(.long q1), (.long q0)] _
      refine XS.lcmp X0.here hx rfl (hb hby own_d2_10) rfl ?_
      exact k
    by_cases c4 : q1 < q0
    · skip
      obtain ⟨fs, hr, hrun, hended, hW, hsame⟩ := X0.leave (v := (some (.int (1 : Int32)))) (fun h => by rw [Bd.returns] at h; cases h) (hlocks := by first | exact BodyLoose.notSynchronized Bd | exact Body.notSynchronized Bd)
      refine ⟨_, _, pre3 _ ?_, hrun, hended, _, _, rfl, ?_, ⟨_, rfl⟩, hW, hsame.mono (by decide) (by decide)⟩
      · show oS p e below s₁ m 11 #[oj q0, .second, oj q1, .second] [(.int (lcmpW q0 q1))] _
        refine XS.ifNo X0.here hx rfl (hb hby own_d2_11) rfl ((if0 _ _).trans (tlt ((lw_gt q0 q1).mpr c4)).2.2.2) ?_
        show oS p e below s₁ m 14 #[oj q0, .second, oj q1, .second] [] _
        refine XS.iconst X0.here hx rfl (hb hby own_d2_14) ?_
        show oS p e below s₁ m 15 #[oj q0, .second, oj q1, .second] [(.int (1 : Int32))] _
        exact retOut X0 hx Bd.returns rfl (Or.inl ⟨rfl, Or.inl rfl, _, rfl⟩) (hb hby own_d2_15) hr
      · show own_Q2 Z q0 q1 h0 n0 _ s₁.heap _
        rw [e0]
        exact ⟨congrArg (fun z => some (Value.int z)) (by rw [own_f2, if_neg c2, if_pos c4]), N0, rfl⟩
    · skip
      obtain ⟨fs, hr, hrun, hended, hW, hsame⟩ := X0.leave (v := (some (.int (0 : Int32)))) (fun h => by rw [Bd.returns] at h; cases h) (hlocks := by first | exact BodyLoose.notSynchronized Bd | exact Body.notSynchronized Bd)
      refine ⟨_, _, pre3 _ ?_, hrun, hended, _, _, rfl, ?_, ⟨_, rfl⟩, hW, hsame.mono (by decide) (by decide)⟩
      · show oS p e below s₁ m 11 #[oj q0, .second, oj q1, .second] [(.int (lcmpW q0 q1))] _
        refine XS.ifYes X0.here hx rfl (pc0 := 11) (pc' := 16) rfl (hb hby own_d2_11) rfl ((if0 _ _).trans (flt (fun q => c4 ((lw_gt q0 q1).mp q))).2.2.2) (by decide) (by decide) ?_
        show oS p e below s₁ m 16 #[oj q0, .second, oj q1, .second] [] _
        refine XS.iconst X0.here hx rfl (hb hby own_d2_16) ?_
        show oS p e below s₁ m 17 #[oj q0, .second, oj q1, .second] [(.int (0 : Int32))] _
        exact retOut X0 hx Bd.returns rfl (Or.inl ⟨rfl, Or.inl rfl, _, rfl⟩) (hb hby own_d2_17) hr
      · show own_Q2 Z q0 q1 h0 n0 _ s₁.heap _
        rw [e0]
        exact ⟨congrArg (fun z => some (Value.int z)) (by rw [own_f2, if_neg c2, if_neg c4]), N0, rfl⟩
theorem own_d4_0 : decode jdk_29_method_45_code 0 = .ok (.lload_n 0, 1) := by decide +kernel
theorem own_d4_1 : decode jdk_29_method_45_code 1 = .ok (.bipush 32, 2) := by decide +kernel
theorem own_d4_3 : decode jdk_29_method_45_code 3 = .ok (.lshr, 1) := by decide +kernel
theorem own_d4_4 : decode jdk_29_method_45_code 4 = .ok (.lstore 4, 2) := by decide +kernel
theorem own_d4_6 : decode jdk_29_method_45_code 6 = .ok (.lload_n 0, 1) := by decide +kernel
theorem own_d4_7 : decode jdk_29_method_45_code 7 = .ok (.ldc2_w 138, 3) := by decide +kernel
theorem own_d4_10 : decode jdk_29_method_45_code 10 = .ok (.land, 1) := by decide +kernel
theorem own_d4_11 : decode jdk_29_method_45_code 11 = .ok (.lstore 6, 2) := by decide +kernel
theorem own_d4_13 : decode jdk_29_method_45_code 13 = .ok (.lload_n 2, 1) := by decide +kernel
theorem own_d4_14 : decode jdk_29_method_45_code 14 = .ok (.bipush 32, 2) := by decide +kernel
theorem own_d4_16 : decode jdk_29_method_45_code 16 = .ok (.lshr, 1) := by decide +kernel
theorem own_d4_17 : decode jdk_29_method_45_code 17 = .ok (.lstore 8, 2) := by decide +kernel
theorem own_d4_19 : decode jdk_29_method_45_code 19 = .ok (.lload_n 2, 1) := by decide +kernel
theorem own_d4_20 : decode jdk_29_method_45_code 20 = .ok (.ldc2_w 138, 3) := by decide +kernel
theorem own_d4_23 : decode jdk_29_method_45_code 23 = .ok (.land, 1) := by decide +kernel
theorem own_d4_24 : decode jdk_29_method_45_code 24 = .ok (.lstore 10, 2) := by decide +kernel
theorem own_d4_26 : decode jdk_29_method_45_code 26 = .ok (.lload 6, 2) := by decide +kernel
theorem own_d4_28 : decode jdk_29_method_45_code 28 = .ok (.lload 10, 2) := by decide +kernel
theorem own_d4_30 : decode jdk_29_method_45_code 30 = .ok (.lmul, 1) := by decide +kernel
theorem own_d4_31 : decode jdk_29_method_45_code 31 = .ok (.lstore 12, 2) := by decide +kernel
theorem own_d4_33 : decode jdk_29_method_45_code 33 = .ok (.lload 4, 2) := by decide +kernel
theorem own_d4_35 : decode jdk_29_method_45_code 35 = .ok (.lload 10, 2) := by decide +kernel
theorem own_d4_37 : decode jdk_29_method_45_code 37 = .ok (.lmul, 1) := by decide +kernel
theorem own_d4_38 : decode jdk_29_method_45_code 38 = .ok (.lload 12, 2) := by decide +kernel
theorem own_d4_40 : decode jdk_29_method_45_code 40 = .ok (.bipush 32, 2) := by decide +kernel
theorem own_d4_42 : decode jdk_29_method_45_code 42 = .ok (.lushr, 1) := by decide +kernel
theorem own_d4_43 : decode jdk_29_method_45_code 43 = .ok (.ladd, 1) := by decide +kernel
theorem own_d4_44 : decode jdk_29_method_45_code 44 = .ok (.lstore 14, 2) := by decide +kernel
theorem own_d4_46 : decode jdk_29_method_45_code 46 = .ok (.lload 14, 2) := by decide +kernel
theorem own_d4_48 : decode jdk_29_method_45_code 48 = .ok (.ldc2_w 138, 3) := by decide +kernel
theorem own_d4_51 : decode jdk_29_method_45_code 51 = .ok (.land, 1) := by decide +kernel
theorem own_d4_52 : decode jdk_29_method_45_code 52 = .ok (.lstore 16, 2) := by decide +kernel
theorem own_d4_54 : decode jdk_29_method_45_code 54 = .ok (.lload 14, 2) := by decide +kernel
theorem own_d4_56 : decode jdk_29_method_45_code 56 = .ok (.bipush 32, 2) := by decide +kernel
theorem own_d4_58 : decode jdk_29_method_45_code 58 = .ok (.lshr, 1) := by decide +kernel
theorem own_d4_59 : decode jdk_29_method_45_code 59 = .ok (.lstore 18, 2) := by decide +kernel
theorem own_d4_61 : decode jdk_29_method_45_code 61 = .ok (.lload 16, 2) := by decide +kernel
theorem own_d4_63 : decode jdk_29_method_45_code 63 = .ok (.lload 6, 2) := by decide +kernel
theorem own_d4_65 : decode jdk_29_method_45_code 65 = .ok (.lload 8, 2) := by decide +kernel
theorem own_d4_67 : decode jdk_29_method_45_code 67 = .ok (.lmul, 1) := by decide +kernel
theorem own_d4_68 : decode jdk_29_method_45_code 68 = .ok (.ladd, 1) := by decide +kernel
theorem own_d4_69 : decode jdk_29_method_45_code 69 = .ok (.lstore 16, 2) := by decide +kernel
theorem own_d4_71 : decode jdk_29_method_45_code 71 = .ok (.lload 4, 2) := by decide +kernel
theorem own_d4_73 : decode jdk_29_method_45_code 73 = .ok (.lload 8, 2) := by decide +kernel
theorem own_d4_75 : decode jdk_29_method_45_code 75 = .ok (.lmul, 1) := by decide +kernel
theorem own_d4_76 : decode jdk_29_method_45_code 76 = .ok (.lload 18, 2) := by decide +kernel
theorem own_d4_78 : decode jdk_29_method_45_code 78 = .ok (.ladd, 1) := by decide +kernel
theorem own_d4_79 : decode jdk_29_method_45_code 79 = .ok (.lload 16, 2) := by decide +kernel
theorem own_d4_81 : decode jdk_29_method_45_code 81 = .ok (.bipush 32, 2) := by decide +kernel
theorem own_d4_83 : decode jdk_29_method_45_code 83 = .ok (.lshr, 1) := by decide +kernel
theorem own_d4_84 : decode jdk_29_method_45_code 84 = .ok (.ladd, 1) := by decide +kernel
theorem own_d4_85 : decode jdk_29_method_45_code 85 = .ok (.lreturn, 1) := by decide +kernel
theorem own_ef4 (m : MethodId) (q0 : Int64) (q1 : Int64) : entryFrame m #[(.long q0), (.long q1)] 20 = mkF m 0 #[oj q0, .second, oj q1, .second, .unset, .unset, .unset, .unset, .unset, .unset, .unset, .unset, .unset, .unset, .unset, .unset, .unset, .unset, .unset, .unset] [] := by first | (simp [entryFrame, mkF, argsToLocals, Value.category]; done) | rfl
def own_f4 (q0 : Int64) (q1 : Int64) : Int64 := ((((q0 >>> ((32 : Int32) &&& 0x3f).toInt64) * (q1 >>> ((32 : Int32) &&& 0x3f).toInt64)) + ((((q0 >>> ((32 : Int32) &&& 0x3f).toInt64) * (q1 &&& (4294967295 : Int64))) + ((((q0 &&& (4294967295 : Int64)) * (q1 &&& (4294967295 : Int64))).toUInt64 >>> ((32 : Int32) &&& 0x3f).toInt64.toUInt64).toInt64)) >>> ((32 : Int32) &&& 0x3f).toInt64)) + ((((((q0 >>> ((32 : Int32) &&& 0x3f).toInt64) * (q1 &&& (4294967295 : Int64))) + ((((q0 &&& (4294967295 : Int64)) * (q1 &&& (4294967295 : Int64))).toUInt64 >>> ((32 : Int32) &&& 0x3f).toInt64.toUInt64).toInt64)) &&& (4294967295 : Int64)) + ((q0 &&& (4294967295 : Int64)) * (q1 >>> ((32 : Int32) &&& 0x3f).toInt64))) >>> ((32 : Int32) &&& 0x3f).toInt64))
def own_Q4 (Z : State) (q0 : Int64) (q1 : Int64) (h0 : Heap) (n0 : Nat) (v : Option Value) (h : Heap) (L : List Loc) : Prop := v = some (Value.long (own_f4 q0 q1)) ∧ Fr n0 L ∧ h = h0
set_option maxRecDepth 65536 in
set_option maxHeartbeats 40000000 in
theorem own_rm4 (l : Launch) (Z : State) (av : Array Value) (hw : ∀ d ∈ tables_1, d.before av Z = true) (ws : List Jvm.Cond) (q0 : Int64) (q1 : Int64) (h0 : Heap) (n0 : Nat) (Z0 : n0 ≤ h0.size) :
    MetFree l (⟨"java/lang/Math", "multiplyHigh", "(JJ)J"⟩ : MethodName) (head1 (Jvm.Cond.code (⟨"java/lang/Math", "multiplyHigh", "(JJ)J"⟩ : MethodName) jdk_29_method_45_code 20 (some .long) :: ws) ({ frames := 0, cells := 0, slots := 0, locals := 0 } : Room)) (fun a U => a = #[(.long q0), (.long q1)] ∧ Z.Warmed39 U.vm ∧ U.heap = h0) (fun _ _ _ _ _ => True) (fun _ U o U' => ∃ v L, o = .returned v ∧ own_Q4 Z q0 q1 h0 n0 v U'.heap L ∧ FrameEnd U o U' L ({ frames := 0, cells := 0, slots := 0, locals := 0 } : Room).cells ({ frames := 0, cells := 0, slots := 0, locals := 0 } : Room).slots) := by
  refine MetFree.of_bodySF (Jvm.Free.JP.mathPlain rfl (by decide +kernel)) hisR ?_
  intro p e s m args below meth c s₁ Bd hml0 hP hK
  obtain ⟨rfl, hZ, hh⟩ := hP
  have hx := Bd.exec
  have hby := Bd.bytes
  have hml : c.maxLocals = 20 := hml0
  have hown : s.vm.findClass "java/lang/Math" = some m.cls := findClass_of_methodNamed Bd.named
  have hnm := (name_of_methodNamed Bd.named Bd.method).1
  have X0 : Stand p l e ({ frames := 0, cells := 0, slots := 0, locals := 0 } : Room) s m #[(.long q0), (.long q1)] below meth c s₁ [] 0 0 := Stand.of_body Bd
  have e0 : s₁.heap = h0 := by rw [← hh, Bd.state]; rfl
  have N0 := Fr.nil n0
  have pre0 : ∀ t, Steps p.tables e below (s₁.setTop (mkF m 0 #[oj q0, .second, oj q1, .second, .unset, .unset, .unset, .unset, .unset, .unset, .unset, .unset, .unset, .unset, .unset, .unset, .unset, .unset, .unset, .unset] [])) t → Steps p.tables e below (s₁.setTop (entryFrame m #[(.long q0), (.long q1)] 20)) t := fun t k => castTop (own_ef4 m q0 q1) k
  obtain ⟨fs, hr, hrun, hended, hW, hsame⟩ := X0.leave (v := (some (.long ((((q0 >>> ((32 : Int32) &&& 0x3f).toInt64) * (q1 >>> ((32 : Int32) &&& 0x3f).toInt64)) + ((((q0 >>> ((32 : Int32) &&& 0x3f).toInt64) * (q1 &&& (4294967295 : Int64))) + ((((q0 &&& (4294967295 : Int64)) * (q1 &&& (4294967295 : Int64))).toUInt64 >>> ((32 : Int32) &&& 0x3f).toInt64.toUInt64).toInt64)) >>> ((32 : Int32) &&& 0x3f).toInt64)) + ((((((q0 >>> ((32 : Int32) &&& 0x3f).toInt64) * (q1 &&& (4294967295 : Int64))) + ((((q0 &&& (4294967295 : Int64)) * (q1 &&& (4294967295 : Int64))).toUInt64 >>> ((32 : Int32) &&& 0x3f).toInt64.toUInt64).toInt64)) &&& (4294967295 : Int64)) + ((q0 &&& (4294967295 : Int64)) * (q1 >>> ((32 : Int32) &&& 0x3f).toInt64))) >>> ((32 : Int32) &&& 0x3f).toInt64))))) (fun h => by rw [Bd.returns] at h; cases h) (hlocks := by first | exact BodyLoose.notSynchronized Bd | exact Body.notSynchronized Bd)
  refine ⟨_, _, pre0 _ ?_, hrun, hended, _, _, rfl, ?_, ⟨_, rfl⟩, hW, hsame.mono (by decide) (by decide)⟩
  · show oS p e below s₁ m 0 #[oj q0, .second, oj q1, .second, .unset, .unset, .unset, .unset, .unset, .unset, .unset, .unset, .unset, .unset, .unset, .unset, .unset, .unset, .unset, .unset] [] _
    refine XS.lloadN X0.here hx rfl (hb hby own_d4_0) rfl ?_
    show oS p e below s₁ m 1 #[oj q0, .second, oj q1, .second, .unset, .unset, .unset, .unset, .unset, .unset, .unset, .unset, .unset, .unset, .unset, .unset, .unset, .unset, .unset, .unset] [(.long q0)] _
    refine XS.bipush X0.here hx rfl (hb hby own_d4_1) ?_
    show oS p e below s₁ m 3 #[oj q0, .second, oj q1, .second, .unset, .unset, .unset, .unset, .unset, .unset, .unset, .unset, .unset, .unset, .unset, .unset, .unset, .unset, .unset, .unset] [(.int (32 : Int32)), (.long q0)] _
    refine XS.lshr X0.here hx rfl (hb hby own_d4_3) rfl ?_
    show oS p e below s₁ m 4 #[oj q0, .second, oj q1, .second, .unset, .unset, .unset, .unset, .unset, .unset, .unset, .unset, .unset, .unset, .unset, .unset, .unset, .unset, .unset, .unset] [(.long (q0 >>> ((32 : Int32) &&& 0x3f).toInt64))] _
    refine XS.lstore X0.here hx rfl (hb hby own_d4_4) rfl (l' := #[oj q0, .second, oj q1, .second, oj (q0 >>> ((32 : Int32) &&& 0x3f).toInt64), .second, .unset, .unset, .unset, .unset, .unset, .unset, .unset, .unset, .unset, .unset, .unset, .unset, .unset, .unset]) rfl ?_
    show oS p e below s₁ m 6 #[oj q0, .second, oj q1, .second, oj (q0 >>> ((32 : Int32) &&& 0x3f).toInt64), .second, .unset, .unset, .unset, .unset, .unset, .unset, .unset, .unset, .unset, .unset, .unset, .unset, .unset, .unset] [] _
    refine XS.lloadN X0.here hx rfl (hb hby own_d4_6) rfl ?_
    show oS p e below s₁ m 7 #[oj q0, .second, oj q1, .second, oj (q0 >>> ((32 : Int32) &&& 0x3f).toInt64), .second, .unset, .unset, .unset, .unset, .unset, .unset, .unset, .unset, .unset, .unset, .unset, .unset, .unset, .unset] [(.long q0)] _
    refine X0.ldc2Long hx hown (mvT hZ (hw _ (List.mem_of_getElem? (i := 18) rfl))) (g := (mkF m 7 #[oj q0, .second, oj q1, .second, oj (q0 >>> ((32 : Int32) &&& 0x3f).toInt64), .second, .unset, .unset, .unset, .unset, .unset, .unset, .unset, .unset, .unset, .unset, .unset, .unset, .unset, .unset] [(.long q0)])) rfl (hb hby own_d4_7) _ ?_
    show oS p e below s₁ m 10 #[oj q0, .second, oj q1, .second, oj (q0 >>> ((32 : Int32) &&& 0x3f).toInt64), .second, .unset, .unset, .unset, .unset, .unset, .unset, .unset, .unset, .unset, .unset, .unset, .unset, .unset, .unset] [(.long (4294967295 : Int64)), (.long q0)] _
    refine XS.land X0.here hx rfl (hb hby own_d4_10) rfl ?_
    show oS p e below s₁ m 11 #[oj q0, .second, oj q1, .second, oj (q0 >>> ((32 : Int32) &&& 0x3f).toInt64), .second, .unset, .unset, .unset, .unset, .unset, .unset, .unset, .unset, .unset, .unset, .unset, .unset, .unset, .unset] [(.long (q0 &&& (4294967295 : Int64)))] _
    refine XS.lstore X0.here hx rfl (hb hby own_d4_11) rfl (l' := #[oj q0, .second, oj q1, .second, oj (q0 >>> ((32 : Int32) &&& 0x3f).toInt64), .second, oj (q0 &&& (4294967295 : Int64)), .second, .unset, .unset, .unset, .unset, .unset, .unset, .unset, .unset, .unset, .unset, .unset, .unset]) rfl ?_
    show oS p e below s₁ m 13 #[oj q0, .second, oj q1, .second, oj (q0 >>> ((32 : Int32) &&& 0x3f).toInt64), .second, oj (q0 &&& (4294967295 : Int64)), .second, .unset, .unset, .unset, .unset, .unset, .unset, .unset, .unset, .unset, .unset, .unset, .unset] [] _
    refine XS.lloadN X0.here hx rfl (hb hby own_d4_13) rfl ?_
    show oS p e below s₁ m 14 #[oj q0, .second, oj q1, .second, oj (q0 >>> ((32 : Int32) &&& 0x3f).toInt64), .second, oj (q0 &&& (4294967295 : Int64)), .second, .unset, .unset, .unset, .unset, .unset, .unset, .unset, .unset, .unset, .unset, .unset, .unset] [(.long q1)] _
    refine XS.bipush X0.here hx rfl (hb hby own_d4_14) ?_
    show oS p e below s₁ m 16 #[oj q0, .second, oj q1, .second, oj (q0 >>> ((32 : Int32) &&& 0x3f).toInt64), .second, oj (q0 &&& (4294967295 : Int64)), .second, .unset, .unset, .unset, .unset, .unset, .unset, .unset, .unset, .unset, .unset, .unset, .unset] [(.int (32 : Int32)), (.long q1)] _
    refine XS.lshr X0.here hx rfl (hb hby own_d4_16) rfl ?_
    show oS p e below s₁ m 17 #[oj q0, .second, oj q1, .second, oj (q0 >>> ((32 : Int32) &&& 0x3f).toInt64), .second, oj (q0 &&& (4294967295 : Int64)), .second, .unset, .unset, .unset, .unset, .unset, .unset, .unset, .unset, .unset, .unset, .unset, .unset] [(.long (q1 >>> ((32 : Int32) &&& 0x3f).toInt64))] _
    refine XS.lstore X0.here hx rfl (hb hby own_d4_17) rfl (l' := #[oj q0, .second, oj q1, .second, oj (q0 >>> ((32 : Int32) &&& 0x3f).toInt64), .second, oj (q0 &&& (4294967295 : Int64)), .second, oj (q1 >>> ((32 : Int32) &&& 0x3f).toInt64), .second, .unset, .unset, .unset, .unset, .unset, .unset, .unset, .unset, .unset, .unset]) rfl ?_
    show oS p e below s₁ m 19 #[oj q0, .second, oj q1, .second, oj (q0 >>> ((32 : Int32) &&& 0x3f).toInt64), .second, oj (q0 &&& (4294967295 : Int64)), .second, oj (q1 >>> ((32 : Int32) &&& 0x3f).toInt64), .second, .unset, .unset, .unset, .unset, .unset, .unset, .unset, .unset, .unset, .unset] [] _
    refine XS.lloadN X0.here hx rfl (hb hby own_d4_19) rfl ?_
    show oS p e below s₁ m 20 #[oj q0, .second, oj q1, .second, oj (q0 >>> ((32 : Int32) &&& 0x3f).toInt64), .second, oj (q0 &&& (4294967295 : Int64)), .second, oj (q1 >>> ((32 : Int32) &&& 0x3f).toInt64), .second, .unset, .unset, .unset, .unset, .unset, .unset, .unset, .unset, .unset, .unset] [(.long q1)] _
    refine X0.ldc2Long hx hown (mvT hZ (hw _ (List.mem_of_getElem? (i := 18) rfl))) (g := (mkF m 20 #[oj q0, .second, oj q1, .second, oj (q0 >>> ((32 : Int32) &&& 0x3f).toInt64), .second, oj (q0 &&& (4294967295 : Int64)), .second, oj (q1 >>> ((32 : Int32) &&& 0x3f).toInt64), .second, .unset, .unset, .unset, .unset, .unset, .unset, .unset, .unset, .unset, .unset] [(.long q1)])) rfl (hb hby own_d4_20) _ ?_
    show oS p e below s₁ m 23 #[oj q0, .second, oj q1, .second, oj (q0 >>> ((32 : Int32) &&& 0x3f).toInt64), .second, oj (q0 &&& (4294967295 : Int64)), .second, oj (q1 >>> ((32 : Int32) &&& 0x3f).toInt64), .second, .unset, .unset, .unset, .unset, .unset, .unset, .unset, .unset, .unset, .unset] [(.long (4294967295 : Int64)), (.long q1)] _
    refine XS.land X0.here hx rfl (hb hby own_d4_23) rfl ?_
    show oS p e below s₁ m 24 #[oj q0, .second, oj q1, .second, oj (q0 >>> ((32 : Int32) &&& 0x3f).toInt64), .second, oj (q0 &&& (4294967295 : Int64)), .second, oj (q1 >>> ((32 : Int32) &&& 0x3f).toInt64), .second, .unset, .unset, .unset, .unset, .unset, .unset, .unset, .unset, .unset, .unset] [(.long (q1 &&& (4294967295 : Int64)))] _
    refine XS.lstore X0.here hx rfl (hb hby own_d4_24) rfl (l' := #[oj q0, .second, oj q1, .second, oj (q0 >>> ((32 : Int32) &&& 0x3f).toInt64), .second, oj (q0 &&& (4294967295 : Int64)), .second, oj (q1 >>> ((32 : Int32) &&& 0x3f).toInt64), .second, oj (q1 &&& (4294967295 : Int64)), .second, .unset, .unset, .unset, .unset, .unset, .unset, .unset, .unset]) rfl ?_
    show oS p e below s₁ m 26 #[oj q0, .second, oj q1, .second, oj (q0 >>> ((32 : Int32) &&& 0x3f).toInt64), .second, oj (q0 &&& (4294967295 : Int64)), .second, oj (q1 >>> ((32 : Int32) &&& 0x3f).toInt64), .second, oj (q1 &&& (4294967295 : Int64)), .second, .unset, .unset, .unset, .unset, .unset, .unset, .unset, .unset] [] _
    refine XS.lload X0.here hx rfl (hb hby own_d4_26) rfl ?_
    show oS p e below s₁ m 28 #[oj q0, .second, oj q1, .second, oj (q0 >>> ((32 : Int32) &&& 0x3f).toInt64), .second, oj (q0 &&& (4294967295 : Int64)), .second, oj (q1 >>> ((32 : Int32) &&& 0x3f).toInt64), .second, oj (q1 &&& (4294967295 : Int64)), .second, .unset, .unset, .unset, .unset, .unset, .unset, .unset, .unset] [(.long (q0 &&& (4294967295 : Int64)))] _
    refine XS.lload X0.here hx rfl (hb hby own_d4_28) rfl ?_
    show oS p e below s₁ m 30 #[oj q0, .second, oj q1, .second, oj (q0 >>> ((32 : Int32) &&& 0x3f).toInt64), .second, oj (q0 &&& (4294967295 : Int64)), .second, oj (q1 >>> ((32 : Int32) &&& 0x3f).toInt64), .second, oj (q1 &&& (4294967295 : Int64)), .second, .unset, .unset, .unset, .unset, .unset, .unset, .unset, .unset] [(.long (q1 &&& (4294967295 : Int64))), (.long (q0 &&& (4294967295 : Int64)))] _
    refine XS.lmul X0.here hx rfl (hb hby own_d4_30) rfl ?_
    show oS p e below s₁ m 31 #[oj q0, .second, oj q1, .second, oj (q0 >>> ((32 : Int32) &&& 0x3f).toInt64), .second, oj (q0 &&& (4294967295 : Int64)), .second, oj (q1 >>> ((32 : Int32) &&& 0x3f).toInt64), .second, oj (q1 &&& (4294967295 : Int64)), .second, .unset, .unset, .unset, .unset, .unset, .unset, .unset, .unset] [(.long ((q0 &&& (4294967295 : Int64)) * (q1 &&& (4294967295 : Int64))))] _
    refine XS.lstore X0.here hx rfl (hb hby own_d4_31) rfl (l' := #[oj q0, .second, oj q1, .second, oj (q0 >>> ((32 : Int32) &&& 0x3f).toInt64), .second, oj (q0 &&& (4294967295 : Int64)), .second, oj (q1 >>> ((32 : Int32) &&& 0x3f).toInt64), .second, oj (q1 &&& (4294967295 : Int64)), .second, oj ((q0 &&& (4294967295 : Int64)) * (q1 &&& (4294967295 : Int64))), .second, .unset, .unset, .unset, .unset, .unset, .unset]) rfl ?_
    show oS p e below s₁ m 33 #[oj q0, .second, oj q1, .second, oj (q0 >>> ((32 : Int32) &&& 0x3f).toInt64), .second, oj (q0 &&& (4294967295 : Int64)), .second, oj (q1 >>> ((32 : Int32) &&& 0x3f).toInt64), .second, oj (q1 &&& (4294967295 : Int64)), .second, oj ((q0 &&& (4294967295 : Int64)) * (q1 &&& (4294967295 : Int64))), .second, .unset, .unset, .unset, .unset, .unset, .unset] [] _
    refine XS.lload X0.here hx rfl (hb hby own_d4_33) rfl ?_
    show oS p e below s₁ m 35 #[oj q0, .second, oj q1, .second, oj (q0 >>> ((32 : Int32) &&& 0x3f).toInt64), .second, oj (q0 &&& (4294967295 : Int64)), .second, oj (q1 >>> ((32 : Int32) &&& 0x3f).toInt64), .second, oj (q1 &&& (4294967295 : Int64)), .second, oj ((q0 &&& (4294967295 : Int64)) * (q1 &&& (4294967295 : Int64))), .second, .unset, .unset, .unset, .unset, .unset, .unset] [(.long (q0 >>> ((32 : Int32) &&& 0x3f).toInt64))] _
    refine XS.lload X0.here hx rfl (hb hby own_d4_35) rfl ?_
    show oS p e below s₁ m 37 #[oj q0, .second, oj q1, .second, oj (q0 >>> ((32 : Int32) &&& 0x3f).toInt64), .second, oj (q0 &&& (4294967295 : Int64)), .second, oj (q1 >>> ((32 : Int32) &&& 0x3f).toInt64), .second, oj (q1 &&& (4294967295 : Int64)), .second, oj ((q0 &&& (4294967295 : Int64)) * (q1 &&& (4294967295 : Int64))), .second, .unset, .unset, .unset, .unset, .unset, .unset] [(.long (q1 &&& (4294967295 : Int64))), (.long (q0 >>> ((32 : Int32) &&& 0x3f).toInt64))] _
    refine XS.lmul X0.here hx rfl (hb hby own_d4_37) rfl ?_
    show oS p e below s₁ m 38 #[oj q0, .second, oj q1, .second, oj (q0 >>> ((32 : Int32) &&& 0x3f).toInt64), .second, oj (q0 &&& (4294967295 : Int64)), .second, oj (q1 >>> ((32 : Int32) &&& 0x3f).toInt64), .second, oj (q1 &&& (4294967295 : Int64)), .second, oj ((q0 &&& (4294967295 : Int64)) * (q1 &&& (4294967295 : Int64))), .second, .unset, .unset, .unset, .unset, .unset, .unset] [(.long ((q0 >>> ((32 : Int32) &&& 0x3f).toInt64) * (q1 &&& (4294967295 : Int64))))] _
    refine XS.lload X0.here hx rfl (hb hby own_d4_38) rfl ?_
    show oS p e below s₁ m 40 #[oj q0, .second, oj q1, .second, oj (q0 >>> ((32 : Int32) &&& 0x3f).toInt64), .second, oj (q0 &&& (4294967295 : Int64)), .second, oj (q1 >>> ((32 : Int32) &&& 0x3f).toInt64), .second, oj (q1 &&& (4294967295 : Int64)), .second, oj ((q0 &&& (4294967295 : Int64)) * (q1 &&& (4294967295 : Int64))), .second, .unset, .unset, .unset, .unset, .unset, .unset] [(.long ((q0 &&& (4294967295 : Int64)) * (q1 &&& (4294967295 : Int64)))), (.long ((q0 >>> ((32 : Int32) &&& 0x3f).toInt64) * (q1 &&& (4294967295 : Int64))))] _
    refine XS.bipush X0.here hx rfl (hb hby own_d4_40) ?_
    show oS p e below s₁ m 42 #[oj q0, .second, oj q1, .second, oj (q0 >>> ((32 : Int32) &&& 0x3f).toInt64), .second, oj (q0 &&& (4294967295 : Int64)), .second, oj (q1 >>> ((32 : Int32) &&& 0x3f).toInt64), .second, oj (q1 &&& (4294967295 : Int64)), .second, oj ((q0 &&& (4294967295 : Int64)) * (q1 &&& (4294967295 : Int64))), .second, .unset, .unset, .unset, .unset, .unset, .unset] [(.int (32 : Int32)), (.long ((q0 &&& (4294967295 : Int64)) * (q1 &&& (4294967295 : Int64)))), (.long ((q0 >>> ((32 : Int32) &&& 0x3f).toInt64) * (q1 &&& (4294967295 : Int64))))] _
    refine XS.lushr X0.here hx rfl (hb hby own_d4_42) rfl ?_
    show oS p e below s₁ m 43 #[oj q0, .second, oj q1, .second, oj (q0 >>> ((32 : Int32) &&& 0x3f).toInt64), .second, oj (q0 &&& (4294967295 : Int64)), .second, oj (q1 >>> ((32 : Int32) &&& 0x3f).toInt64), .second, oj (q1 &&& (4294967295 : Int64)), .second, oj ((q0 &&& (4294967295 : Int64)) * (q1 &&& (4294967295 : Int64))), .second, .unset, .unset, .unset, .unset, .unset, .unset] [(.long ((((q0 &&& (4294967295 : Int64)) * (q1 &&& (4294967295 : Int64))).toUInt64 >>> ((32 : Int32) &&& 0x3f).toInt64.toUInt64).toInt64)), (.long ((q0 >>> ((32 : Int32) &&& 0x3f).toInt64) * (q1 &&& (4294967295 : Int64))))] _
    refine XS.ladd X0.here hx rfl (hb hby own_d4_43) rfl ?_
    show oS p e below s₁ m 44 #[oj q0, .second, oj q1, .second, oj (q0 >>> ((32 : Int32) &&& 0x3f).toInt64), .second, oj (q0 &&& (4294967295 : Int64)), .second, oj (q1 >>> ((32 : Int32) &&& 0x3f).toInt64), .second, oj (q1 &&& (4294967295 : Int64)), .second, oj ((q0 &&& (4294967295 : Int64)) * (q1 &&& (4294967295 : Int64))), .second, .unset, .unset, .unset, .unset, .unset, .unset] [(.long (((q0 >>> ((32 : Int32) &&& 0x3f).toInt64) * (q1 &&& (4294967295 : Int64))) + ((((q0 &&& (4294967295 : Int64)) * (q1 &&& (4294967295 : Int64))).toUInt64 >>> ((32 : Int32) &&& 0x3f).toInt64.toUInt64).toInt64)))] _
    refine XS.lstore X0.here hx rfl (hb hby own_d4_44) rfl (l' := #[oj q0, .second, oj q1, .second, oj (q0 >>> ((32 : Int32) &&& 0x3f).toInt64), .second, oj (q0 &&& (4294967295 : Int64)), .second, oj (q1 >>> ((32 : Int32) &&& 0x3f).toInt64), .second, oj (q1 &&& (4294967295 : Int64)), .second, oj ((q0 &&& (4294967295 : Int64)) * (q1 &&& (4294967295 : Int64))), .second, oj (((q0 >>> ((32 : Int32) &&& 0x3f).toInt64) * (q1 &&& (4294967295 : Int64))) + ((((q0 &&& (4294967295 : Int64)) * (q1 &&& (4294967295 : Int64))).toUInt64 >>> ((32 : Int32) &&& 0x3f).toInt64.toUInt64).toInt64)), .second, .unset, .unset, .unset, .unset]) rfl ?_
    show oS p e below s₁ m 46 #[oj q0, .second, oj q1, .second, oj (q0 >>> ((32 : Int32) &&& 0x3f).toInt64), .second, oj (q0 &&& (4294967295 : Int64)), .second, oj (q1 >>> ((32 : Int32) &&& 0x3f).toInt64), .second, oj (q1 &&& (4294967295 : Int64)), .second, oj ((q0 &&& (4294967295 : Int64)) * (q1 &&& (4294967295 : Int64))), .second, oj (((q0 >>> ((32 : Int32) &&& 0x3f).toInt64) * (q1 &&& (4294967295 : Int64))) + ((((q0 &&& (4294967295 : Int64)) * (q1 &&& (4294967295 : Int64))).toUInt64 >>> ((32 : Int32) &&& 0x3f).toInt64.toUInt64).toInt64)), .second, .unset, .unset, .unset, .unset] [] _
    refine XS.lload X0.here hx rfl (hb hby own_d4_46) rfl ?_
    show oS p e below s₁ m 48 #[oj q0, .second, oj q1, .second, oj (q0 >>> ((32 : Int32) &&& 0x3f).toInt64), .second, oj (q0 &&& (4294967295 : Int64)), .second, oj (q1 >>> ((32 : Int32) &&& 0x3f).toInt64), .second, oj (q1 &&& (4294967295 : Int64)), .second, oj ((q0 &&& (4294967295 : Int64)) * (q1 &&& (4294967295 : Int64))), .second, oj (((q0 >>> ((32 : Int32) &&& 0x3f).toInt64) * (q1 &&& (4294967295 : Int64))) + ((((q0 &&& (4294967295 : Int64)) * (q1 &&& (4294967295 : Int64))).toUInt64 >>> ((32 : Int32) &&& 0x3f).toInt64.toUInt64).toInt64)), .second, .unset, .unset, .unset, .unset] [(.long (((q0 >>> ((32 : Int32) &&& 0x3f).toInt64) * (q1 &&& (4294967295 : Int64))) + ((((q0 &&& (4294967295 : Int64)) * (q1 &&& (4294967295 : Int64))).toUInt64 >>> ((32 : Int32) &&& 0x3f).toInt64.toUInt64).toInt64)))] _
    refine X0.ldc2Long hx hown (mvT hZ (hw _ (List.mem_of_getElem? (i := 18) rfl))) (g := (mkF m 48 #[oj q0, .second, oj q1, .second, oj (q0 >>> ((32 : Int32) &&& 0x3f).toInt64), .second, oj (q0 &&& (4294967295 : Int64)), .second, oj (q1 >>> ((32 : Int32) &&& 0x3f).toInt64), .second, oj (q1 &&& (4294967295 : Int64)), .second, oj ((q0 &&& (4294967295 : Int64)) * (q1 &&& (4294967295 : Int64))), .second, oj (((q0 >>> ((32 : Int32) &&& 0x3f).toInt64) * (q1 &&& (4294967295 : Int64))) + ((((q0 &&& (4294967295 : Int64)) * (q1 &&& (4294967295 : Int64))).toUInt64 >>> ((32 : Int32) &&& 0x3f).toInt64.toUInt64).toInt64)), .second, .unset, .unset, .unset, .unset] [(.long (((q0 >>> ((32 : Int32) &&& 0x3f).toInt64) * (q1 &&& (4294967295 : Int64))) + ((((q0 &&& (4294967295 : Int64)) * (q1 &&& (4294967295 : Int64))).toUInt64 >>> ((32 : Int32) &&& 0x3f).toInt64.toUInt64).toInt64)))])) rfl (hb hby own_d4_48) _ ?_
    show oS p e below s₁ m 51 #[oj q0, .second, oj q1, .second, oj (q0 >>> ((32 : Int32) &&& 0x3f).toInt64), .second, oj (q0 &&& (4294967295 : Int64)), .second, oj (q1 >>> ((32 : Int32) &&& 0x3f).toInt64), .second, oj (q1 &&& (4294967295 : Int64)), .second, oj ((q0 &&& (4294967295 : Int64)) * (q1 &&& (4294967295 : Int64))), .second, oj (((q0 >>> ((32 : Int32) &&& 0x3f).toInt64) * (q1 &&& (4294967295 : Int64))) + ((((q0 &&& (4294967295 : Int64)) * (q1 &&& (4294967295 : Int64))).toUInt64 >>> ((32 : Int32) &&& 0x3f).toInt64.toUInt64).toInt64)), .second, .unset, .unset, .unset, .unset] [(.long (4294967295 : Int64)), (.long (((q0 >>> ((32 : Int32) &&& 0x3f).toInt64) * (q1 &&& (4294967295 : Int64))) + ((((q0 &&& (4294967295 : Int64)) * (q1 &&& (4294967295 : Int64))).toUInt64 >>> ((32 : Int32) &&& 0x3f).toInt64.toUInt64).toInt64)))] _
    refine XS.land X0.here hx rfl (hb hby own_d4_51) rfl ?_
    show oS p e below s₁ m 52 #[oj q0, .second, oj q1, .second, oj (q0 >>> ((32 : Int32) &&& 0x3f).toInt64), .second, oj (q0 &&& (4294967295 : Int64)), .second, oj (q1 >>> ((32 : Int32) &&& 0x3f).toInt64), .second, oj (q1 &&& (4294967295 : Int64)), .second, oj ((q0 &&& (4294967295 : Int64)) * (q1 &&& (4294967295 : Int64))), .second, oj (((q0 >>> ((32 : Int32) &&& 0x3f).toInt64) * (q1 &&& (4294967295 : Int64))) + ((((q0 &&& (4294967295 : Int64)) * (q1 &&& (4294967295 : Int64))).toUInt64 >>> ((32 : Int32) &&& 0x3f).toInt64.toUInt64).toInt64)), .second, .unset, .unset, .unset, .unset] [(.long ((((q0 >>> ((32 : Int32) &&& 0x3f).toInt64) * (q1 &&& (4294967295 : Int64))) + ((((q0 &&& (4294967295 : Int64)) * (q1 &&& (4294967295 : Int64))).toUInt64 >>> ((32 : Int32) &&& 0x3f).toInt64.toUInt64).toInt64)) &&& (4294967295 : Int64)))] _
    refine XS.lstore X0.here hx rfl (hb hby own_d4_52) rfl (l' := #[oj q0, .second, oj q1, .second, oj (q0 >>> ((32 : Int32) &&& 0x3f).toInt64), .second, oj (q0 &&& (4294967295 : Int64)), .second, oj (q1 >>> ((32 : Int32) &&& 0x3f).toInt64), .second, oj (q1 &&& (4294967295 : Int64)), .second, oj ((q0 &&& (4294967295 : Int64)) * (q1 &&& (4294967295 : Int64))), .second, oj (((q0 >>> ((32 : Int32) &&& 0x3f).toInt64) * (q1 &&& (4294967295 : Int64))) + ((((q0 &&& (4294967295 : Int64)) * (q1 &&& (4294967295 : Int64))).toUInt64 >>> ((32 : Int32) &&& 0x3f).toInt64.toUInt64).toInt64)), .second, oj ((((q0 >>> ((32 : Int32) &&& 0x3f).toInt64) * (q1 &&& (4294967295 : Int64))) + ((((q0 &&& (4294967295 : Int64)) * (q1 &&& (4294967295 : Int64))).toUInt64 >>> ((32 : Int32) &&& 0x3f).toInt64.toUInt64).toInt64)) &&& (4294967295 : Int64)), .second, .unset, .unset]) rfl ?_
    show oS p e below s₁ m 54 #[oj q0, .second, oj q1, .second, oj (q0 >>> ((32 : Int32) &&& 0x3f).toInt64), .second, oj (q0 &&& (4294967295 : Int64)), .second, oj (q1 >>> ((32 : Int32) &&& 0x3f).toInt64), .second, oj (q1 &&& (4294967295 : Int64)), .second, oj ((q0 &&& (4294967295 : Int64)) * (q1 &&& (4294967295 : Int64))), .second, oj (((q0 >>> ((32 : Int32) &&& 0x3f).toInt64) * (q1 &&& (4294967295 : Int64))) + ((((q0 &&& (4294967295 : Int64)) * (q1 &&& (4294967295 : Int64))).toUInt64 >>> ((32 : Int32) &&& 0x3f).toInt64.toUInt64).toInt64)), .second, oj ((((q0 >>> ((32 : Int32) &&& 0x3f).toInt64) * (q1 &&& (4294967295 : Int64))) + ((((q0 &&& (4294967295 : Int64)) * (q1 &&& (4294967295 : Int64))).toUInt64 >>> ((32 : Int32) &&& 0x3f).toInt64.toUInt64).toInt64)) &&& (4294967295 : Int64)), .second, .unset, .unset] [] _
    refine XS.lload X0.here hx rfl (hb hby own_d4_54) rfl ?_
    show oS p e below s₁ m 56 #[oj q0, .second, oj q1, .second, oj (q0 >>> ((32 : Int32) &&& 0x3f).toInt64), .second, oj (q0 &&& (4294967295 : Int64)), .second, oj (q1 >>> ((32 : Int32) &&& 0x3f).toInt64), .second, oj (q1 &&& (4294967295 : Int64)), .second, oj ((q0 &&& (4294967295 : Int64)) * (q1 &&& (4294967295 : Int64))), .second, oj (((q0 >>> ((32 : Int32) &&& 0x3f).toInt64) * (q1 &&& (4294967295 : Int64))) + ((((q0 &&& (4294967295 : Int64)) * (q1 &&& (4294967295 : Int64))).toUInt64 >>> ((32 : Int32) &&& 0x3f).toInt64.toUInt64).toInt64)), .second, oj ((((q0 >>> ((32 : Int32) &&& 0x3f).toInt64) * (q1 &&& (4294967295 : Int64))) + ((((q0 &&& (4294967295 : Int64)) * (q1 &&& (4294967295 : Int64))).toUInt64 >>> ((32 : Int32) &&& 0x3f).toInt64.toUInt64).toInt64)) &&& (4294967295 : Int64)), .second, .unset, .unset] [(.long (((q0 >>> ((32 : Int32) &&& 0x3f).toInt64) * (q1 &&& (4294967295 : Int64))) + ((((q0 &&& (4294967295 : Int64)) * (q1 &&& (4294967295 : Int64))).toUInt64 >>> ((32 : Int32) &&& 0x3f).toInt64.toUInt64).toInt64)))] _
    refine XS.bipush X0.here hx rfl (hb hby own_d4_56) ?_
    show oS p e below s₁ m 58 #[oj q0, .second, oj q1, .second, oj (q0 >>> ((32 : Int32) &&& 0x3f).toInt64), .second, oj (q0 &&& (4294967295 : Int64)), .second, oj (q1 >>> ((32 : Int32) &&& 0x3f).toInt64), .second, oj (q1 &&& (4294967295 : Int64)), .second, oj ((q0 &&& (4294967295 : Int64)) * (q1 &&& (4294967295 : Int64))), .second, oj (((q0 >>> ((32 : Int32) &&& 0x3f).toInt64) * (q1 &&& (4294967295 : Int64))) + ((((q0 &&& (4294967295 : Int64)) * (q1 &&& (4294967295 : Int64))).toUInt64 >>> ((32 : Int32) &&& 0x3f).toInt64.toUInt64).toInt64)), .second, oj ((((q0 >>> ((32 : Int32) &&& 0x3f).toInt64) * (q1 &&& (4294967295 : Int64))) + ((((q0 &&& (4294967295 : Int64)) * (q1 &&& (4294967295 : Int64))).toUInt64 >>> ((32 : Int32) &&& 0x3f).toInt64.toUInt64).toInt64)) &&& (4294967295 : Int64)), .second, .unset, .unset] [(.int (32 : Int32)), (.long (((q0 >>> ((32 : Int32) &&& 0x3f).toInt64) * (q1 &&& (4294967295 : Int64))) + ((((q0 &&& (4294967295 : Int64)) * (q1 &&& (4294967295 : Int64))).toUInt64 >>> ((32 : Int32) &&& 0x3f).toInt64.toUInt64).toInt64)))] _
    refine XS.lshr X0.here hx rfl (hb hby own_d4_58) rfl ?_
    show oS p e below s₁ m 59 #[oj q0, .second, oj q1, .second, oj (q0 >>> ((32 : Int32) &&& 0x3f).toInt64), .second, oj (q0 &&& (4294967295 : Int64)), .second, oj (q1 >>> ((32 : Int32) &&& 0x3f).toInt64), .second, oj (q1 &&& (4294967295 : Int64)), .second, oj ((q0 &&& (4294967295 : Int64)) * (q1 &&& (4294967295 : Int64))), .second, oj (((q0 >>> ((32 : Int32) &&& 0x3f).toInt64) * (q1 &&& (4294967295 : Int64))) + ((((q0 &&& (4294967295 : Int64)) * (q1 &&& (4294967295 : Int64))).toUInt64 >>> ((32 : Int32) &&& 0x3f).toInt64.toUInt64).toInt64)), .second, oj ((((q0 >>> ((32 : Int32) &&& 0x3f).toInt64) * (q1 &&& (4294967295 : Int64))) + ((((q0 &&& (4294967295 : Int64)) * (q1 &&& (4294967295 : Int64))).toUInt64 >>> ((32 : Int32) &&& 0x3f).toInt64.toUInt64).toInt64)) &&& (4294967295 : Int64)), .second, .unset, .unset] [(.long ((((q0 >>> ((32 : Int32) &&& 0x3f).toInt64) * (q1 &&& (4294967295 : Int64))) + ((((q0 &&& (4294967295 : Int64)) * (q1 &&& (4294967295 : Int64))).toUInt64 >>> ((32 : Int32) &&& 0x3f).toInt64.toUInt64).toInt64)) >>> ((32 : Int32) &&& 0x3f).toInt64))] _
    refine XS.lstore X0.here hx rfl (hb hby own_d4_59) rfl (l' := #[oj q0, .second, oj q1, .second, oj (q0 >>> ((32 : Int32) &&& 0x3f).toInt64), .second, oj (q0 &&& (4294967295 : Int64)), .second, oj (q1 >>> ((32 : Int32) &&& 0x3f).toInt64), .second, oj (q1 &&& (4294967295 : Int64)), .second, oj ((q0 &&& (4294967295 : Int64)) * (q1 &&& (4294967295 : Int64))), .second, oj (((q0 >>> ((32 : Int32) &&& 0x3f).toInt64) * (q1 &&& (4294967295 : Int64))) + ((((q0 &&& (4294967295 : Int64)) * (q1 &&& (4294967295 : Int64))).toUInt64 >>> ((32 : Int32) &&& 0x3f).toInt64.toUInt64).toInt64)), .second, oj ((((q0 >>> ((32 : Int32) &&& 0x3f).toInt64) * (q1 &&& (4294967295 : Int64))) + ((((q0 &&& (4294967295 : Int64)) * (q1 &&& (4294967295 : Int64))).toUInt64 >>> ((32 : Int32) &&& 0x3f).toInt64.toUInt64).toInt64)) &&& (4294967295 : Int64)), .second, oj ((((q0 >>> ((32 : Int32) &&& 0x3f).toInt64) * (q1 &&& (4294967295 : Int64))) + ((((q0 &&& (4294967295 : Int64)) * (q1 &&& (4294967295 : Int64))).toUInt64 >>> ((32 : Int32) &&& 0x3f).toInt64.toUInt64).toInt64)) >>> ((32 : Int32) &&& 0x3f).toInt64), .second]) rfl ?_
    show oS p e below s₁ m 61 #[oj q0, .second, oj q1, .second, oj (q0 >>> ((32 : Int32) &&& 0x3f).toInt64), .second, oj (q0 &&& (4294967295 : Int64)), .second, oj (q1 >>> ((32 : Int32) &&& 0x3f).toInt64), .second, oj (q1 &&& (4294967295 : Int64)), .second, oj ((q0 &&& (4294967295 : Int64)) * (q1 &&& (4294967295 : Int64))), .second, oj (((q0 >>> ((32 : Int32) &&& 0x3f).toInt64) * (q1 &&& (4294967295 : Int64))) + ((((q0 &&& (4294967295 : Int64)) * (q1 &&& (4294967295 : Int64))).toUInt64 >>> ((32 : Int32) &&& 0x3f).toInt64.toUInt64).toInt64)), .second, oj ((((q0 >>> ((32 : Int32) &&& 0x3f).toInt64) * (q1 &&& (4294967295 : Int64))) + ((((q0 &&& (4294967295 : Int64)) * (q1 &&& (4294967295 : Int64))).toUInt64 >>> ((32 : Int32) &&& 0x3f).toInt64.toUInt64).toInt64)) &&& (4294967295 : Int64)), .second, oj ((((q0 >>> ((32 : Int32) &&& 0x3f).toInt64) * (q1 &&& (4294967295 : Int64))) + ((((q0 &&& (4294967295 : Int64)) * (q1 &&& (4294967295 : Int64))).toUInt64 >>> ((32 : Int32) &&& 0x3f).toInt64.toUInt64).toInt64)) >>> ((32 : Int32) &&& 0x3f).toInt64), .second] [] _
    refine XS.lload X0.here hx rfl (hb hby own_d4_61) rfl ?_
    show oS p e below s₁ m 63 #[oj q0, .second, oj q1, .second, oj (q0 >>> ((32 : Int32) &&& 0x3f).toInt64), .second, oj (q0 &&& (4294967295 : Int64)), .second, oj (q1 >>> ((32 : Int32) &&& 0x3f).toInt64), .second, oj (q1 &&& (4294967295 : Int64)), .second, oj ((q0 &&& (4294967295 : Int64)) * (q1 &&& (4294967295 : Int64))), .second, oj (((q0 >>> ((32 : Int32) &&& 0x3f).toInt64) * (q1 &&& (4294967295 : Int64))) + ((((q0 &&& (4294967295 : Int64)) * (q1 &&& (4294967295 : Int64))).toUInt64 >>> ((32 : Int32) &&& 0x3f).toInt64.toUInt64).toInt64)), .second, oj ((((q0 >>> ((32 : Int32) &&& 0x3f).toInt64) * (q1 &&& (4294967295 : Int64))) + ((((q0 &&& (4294967295 : Int64)) * (q1 &&& (4294967295 : Int64))).toUInt64 >>> ((32 : Int32) &&& 0x3f).toInt64.toUInt64).toInt64)) &&& (4294967295 : Int64)), .second, oj ((((q0 >>> ((32 : Int32) &&& 0x3f).toInt64) * (q1 &&& (4294967295 : Int64))) + ((((q0 &&& (4294967295 : Int64)) * (q1 &&& (4294967295 : Int64))).toUInt64 >>> ((32 : Int32) &&& 0x3f).toInt64.toUInt64).toInt64)) >>> ((32 : Int32) &&& 0x3f).toInt64), .second] [(.long ((((q0 >>> ((32 : Int32) &&& 0x3f).toInt64) * (q1 &&& (4294967295 : Int64))) + ((((q0 &&& (4294967295 : Int64)) * (q1 &&& (4294967295 : Int64))).toUInt64 >>> ((32 : Int32) &&& 0x3f).toInt64.toUInt64).toInt64)) &&& (4294967295 : Int64)))] _
    refine XS.lload X0.here hx rfl (hb hby own_d4_63) rfl ?_
    show oS p e below s₁ m 65 #[oj q0, .second, oj q1, .second, oj (q0 >>> ((32 : Int32) &&& 0x3f).toInt64), .second, oj (q0 &&& (4294967295 : Int64)), .second, oj (q1 >>> ((32 : Int32) &&& 0x3f).toInt64), .second, oj (q1 &&& (4294967295 : Int64)), .second, oj ((q0 &&& (4294967295 : Int64)) * (q1 &&& (4294967295 : Int64))), .second, oj (((q0 >>> ((32 : Int32) &&& 0x3f).toInt64) * (q1 &&& (4294967295 : Int64))) + ((((q0 &&& (4294967295 : Int64)) * (q1 &&& (4294967295 : Int64))).toUInt64 >>> ((32 : Int32) &&& 0x3f).toInt64.toUInt64).toInt64)), .second, oj ((((q0 >>> ((32 : Int32) &&& 0x3f).toInt64) * (q1 &&& (4294967295 : Int64))) + ((((q0 &&& (4294967295 : Int64)) * (q1 &&& (4294967295 : Int64))).toUInt64 >>> ((32 : Int32) &&& 0x3f).toInt64.toUInt64).toInt64)) &&& (4294967295 : Int64)), .second, oj ((((q0 >>> ((32 : Int32) &&& 0x3f).toInt64) * (q1 &&& (4294967295 : Int64))) + ((((q0 &&& (4294967295 : Int64)) * (q1 &&& (4294967295 : Int64))).toUInt64 >>> ((32 : Int32) &&& 0x3f).toInt64.toUInt64).toInt64)) >>> ((32 : Int32) &&& 0x3f).toInt64), .second] [(.long (q0 &&& (4294967295 : Int64))), (.long ((((q0 >>> ((32 : Int32) &&& 0x3f).toInt64) * (q1 &&& (4294967295 : Int64))) + ((((q0 &&& (4294967295 : Int64)) * (q1 &&& (4294967295 : Int64))).toUInt64 >>> ((32 : Int32) &&& 0x3f).toInt64.toUInt64).toInt64)) &&& (4294967295 : Int64)))] _
    refine XS.lload X0.here hx rfl (hb hby own_d4_65) rfl ?_
    show oS p e below s₁ m 67 #[oj q0, .second, oj q1, .second, oj (q0 >>> ((32 : Int32) &&& 0x3f).toInt64), .second, oj (q0 &&& (4294967295 : Int64)), .second, oj (q1 >>> ((32 : Int32) &&& 0x3f).toInt64), .second, oj (q1 &&& (4294967295 : Int64)), .second, oj ((q0 &&& (4294967295 : Int64)) * (q1 &&& (4294967295 : Int64))), .second, oj (((q0 >>> ((32 : Int32) &&& 0x3f).toInt64) * (q1 &&& (4294967295 : Int64))) + ((((q0 &&& (4294967295 : Int64)) * (q1 &&& (4294967295 : Int64))).toUInt64 >>> ((32 : Int32) &&& 0x3f).toInt64.toUInt64).toInt64)), .second, oj ((((q0 >>> ((32 : Int32) &&& 0x3f).toInt64) * (q1 &&& (4294967295 : Int64))) + ((((q0 &&& (4294967295 : Int64)) * (q1 &&& (4294967295 : Int64))).toUInt64 >>> ((32 : Int32) &&& 0x3f).toInt64.toUInt64).toInt64)) &&& (4294967295 : Int64)), .second, oj ((((q0 >>> ((32 : Int32) &&& 0x3f).toInt64) * (q1 &&& (4294967295 : Int64))) + ((((q0 &&& (4294967295 : Int64)) * (q1 &&& (4294967295 : Int64))).toUInt64 >>> ((32 : Int32) &&& 0x3f).toInt64.toUInt64).toInt64)) >>> ((32 : Int32) &&& 0x3f).toInt64), .second] [(.long (q1 >>> ((32 : Int32) &&& 0x3f).toInt64)), (.long (q0 &&& (4294967295 : Int64))), (.long ((((q0 >>> ((32 : Int32) &&& 0x3f).toInt64) * (q1 &&& (4294967295 : Int64))) + ((((q0 &&& (4294967295 : Int64)) * (q1 &&& (4294967295 : Int64))).toUInt64 >>> ((32 : Int32) &&& 0x3f).toInt64.toUInt64).toInt64)) &&& (4294967295 : Int64)))] _
    refine XS.lmul X0.here hx rfl (hb hby own_d4_67) rfl ?_
    show oS p e below s₁ m 68 #[oj q0, .second, oj q1, .second, oj (q0 >>> ((32 : Int32) &&& 0x3f).toInt64), .second, oj (q0 &&& (4294967295 : Int64)), .second, oj (q1 >>> ((32 : Int32) &&& 0x3f).toInt64), .second, oj (q1 &&& (4294967295 : Int64)), .second, oj ((q0 &&& (4294967295 : Int64)) * (q1 &&& (4294967295 : Int64))), .second, oj (((q0 >>> ((32 : Int32) &&& 0x3f).toInt64) * (q1 &&& (4294967295 : Int64))) + ((((q0 &&& (4294967295 : Int64)) * (q1 &&& (4294967295 : Int64))).toUInt64 >>> ((32 : Int32) &&& 0x3f).toInt64.toUInt64).toInt64)), .second, oj ((((q0 >>> ((32 : Int32) &&& 0x3f).toInt64) * (q1 &&& (4294967295 : Int64))) + ((((q0 &&& (4294967295 : Int64)) * (q1 &&& (4294967295 : Int64))).toUInt64 >>> ((32 : Int32) &&& 0x3f).toInt64.toUInt64).toInt64)) &&& (4294967295 : Int64)), .second, oj ((((q0 >>> ((32 : Int32) &&& 0x3f).toInt64) * (q1 &&& (4294967295 : Int64))) + ((((q0 &&& (4294967295 : Int64)) * (q1 &&& (4294967295 : Int64))).toUInt64 >>> ((32 : Int32) &&& 0x3f).toInt64.toUInt64).toInt64)) >>> ((32 : Int32) &&& 0x3f).toInt64), .second] [(.long ((q0 &&& (4294967295 : Int64)) * (q1 >>> ((32 : Int32) &&& 0x3f).toInt64))), (.long ((((q0 >>> ((32 : Int32) &&& 0x3f).toInt64) * (q1 &&& (4294967295 : Int64))) + ((((q0 &&& (4294967295 : Int64)) * (q1 &&& (4294967295 : Int64))).toUInt64 >>> ((32 : Int32) &&& 0x3f).toInt64.toUInt64).toInt64)) &&& (4294967295 : Int64)))] _
    refine XS.ladd X0.here hx rfl (hb hby own_d4_68) rfl ?_
    show oS p e below s₁ m 69 #[oj q0, .second, oj q1, .second, oj (q0 >>> ((32 : Int32) &&& 0x3f).toInt64), .second, oj (q0 &&& (4294967295 : Int64)), .second, oj (q1 >>> ((32 : Int32) &&& 0x3f).toInt64), .second, oj (q1 &&& (4294967295 : Int64)), .second, oj ((q0 &&& (4294967295 : Int64)) * (q1 &&& (4294967295 : Int64))), .second, oj (((q0 >>> ((32 : Int32) &&& 0x3f).toInt64) * (q1 &&& (4294967295 : Int64))) + ((((q0 &&& (4294967295 : Int64)) * (q1 &&& (4294967295 : Int64))).toUInt64 >>> ((32 : Int32) &&& 0x3f).toInt64.toUInt64).toInt64)), .second, oj ((((q0 >>> ((32 : Int32) &&& 0x3f).toInt64) * (q1 &&& (4294967295 : Int64))) + ((((q0 &&& (4294967295 : Int64)) * (q1 &&& (4294967295 : Int64))).toUInt64 >>> ((32 : Int32) &&& 0x3f).toInt64.toUInt64).toInt64)) &&& (4294967295 : Int64)), .second, oj ((((q0 >>> ((32 : Int32) &&& 0x3f).toInt64) * (q1 &&& (4294967295 : Int64))) + ((((q0 &&& (4294967295 : Int64)) * (q1 &&& (4294967295 : Int64))).toUInt64 >>> ((32 : Int32) &&& 0x3f).toInt64.toUInt64).toInt64)) >>> ((32 : Int32) &&& 0x3f).toInt64), .second] [(.long (((((q0 >>> ((32 : Int32) &&& 0x3f).toInt64) * (q1 &&& (4294967295 : Int64))) + ((((q0 &&& (4294967295 : Int64)) * (q1 &&& (4294967295 : Int64))).toUInt64 >>> ((32 : Int32) &&& 0x3f).toInt64.toUInt64).toInt64)) &&& (4294967295 : Int64)) + ((q0 &&& (4294967295 : Int64)) * (q1 >>> ((32 : Int32) &&& 0x3f).toInt64))))] _
    refine XS.lstore X0.here hx rfl (hb hby own_d4_69) rfl (l' := #[oj q0, .second, oj q1, .second, oj (q0 >>> ((32 : Int32) &&& 0x3f).toInt64), .second, oj (q0 &&& (4294967295 : Int64)), .second, oj (q1 >>> ((32 : Int32) &&& 0x3f).toInt64), .second, oj (q1 &&& (4294967295 : Int64)), .second, oj ((q0 &&& (4294967295 : Int64)) * (q1 &&& (4294967295 : Int64))), .second, oj (((q0 >>> ((32 : Int32) &&& 0x3f).toInt64) * (q1 &&& (4294967295 : Int64))) + ((((q0 &&& (4294967295 : Int64)) * (q1 &&& (4294967295 : Int64))).toUInt64 >>> ((32 : Int32) &&& 0x3f).toInt64.toUInt64).toInt64)), .second, oj (((((q0 >>> ((32 : Int32) &&& 0x3f).toInt64) * (q1 &&& (4294967295 : Int64))) + ((((q0 &&& (4294967295 : Int64)) * (q1 &&& (4294967295 : Int64))).toUInt64 >>> ((32 : Int32) &&& 0x3f).toInt64.toUInt64).toInt64)) &&& (4294967295 : Int64)) + ((q0 &&& (4294967295 : Int64)) * (q1 >>> ((32 : Int32) &&& 0x3f).toInt64))), .second, oj ((((q0 >>> ((32 : Int32) &&& 0x3f).toInt64) * (q1 &&& (4294967295 : Int64))) + ((((q0 &&& (4294967295 : Int64)) * (q1 &&& (4294967295 : Int64))).toUInt64 >>> ((32 : Int32) &&& 0x3f).toInt64.toUInt64).toInt64)) >>> ((32 : Int32) &&& 0x3f).toInt64), .second]) rfl ?_
    show oS p e below s₁ m 71 #[oj q0, .second, oj q1, .second, oj (q0 >>> ((32 : Int32) &&& 0x3f).toInt64), .second, oj (q0 &&& (4294967295 : Int64)), .second, oj (q1 >>> ((32 : Int32) &&& 0x3f).toInt64), .second, oj (q1 &&& (4294967295 : Int64)), .second, oj ((q0 &&& (4294967295 : Int64)) * (q1 &&& (4294967295 : Int64))), .second, oj (((q0 >>> ((32 : Int32) &&& 0x3f).toInt64) * (q1 &&& (4294967295 : Int64))) + ((((q0 &&& (4294967295 : Int64)) * (q1 &&& (4294967295 : Int64))).toUInt64 >>> ((32 : Int32) &&& 0x3f).toInt64.toUInt64).toInt64)), .second, oj (((((q0 >>> ((32 : Int32) &&& 0x3f).toInt64) * (q1 &&& (4294967295 : Int64))) + ((((q0 &&& (4294967295 : Int64)) * (q1 &&& (4294967295 : Int64))).toUInt64 >>> ((32 : Int32) &&& 0x3f).toInt64.toUInt64).toInt64)) &&& (4294967295 : Int64)) + ((q0 &&& (4294967295 : Int64)) * (q1 >>> ((32 : Int32) &&& 0x3f).toInt64))), .second, oj ((((q0 >>> ((32 : Int32) &&& 0x3f).toInt64) * (q1 &&& (4294967295 : Int64))) + ((((q0 &&& (4294967295 : Int64)) * (q1 &&& (4294967295 : Int64))).toUInt64 >>> ((32 : Int32) &&& 0x3f).toInt64.toUInt64).toInt64)) >>> ((32 : Int32) &&& 0x3f).toInt64), .second] [] _
    refine XS.lload X0.here hx rfl (hb hby own_d4_71) rfl ?_
    show oS p e below s₁ m 73 #[oj q0, .second, oj q1, .second, oj (q0 >>> ((32 : Int32) &&& 0x3f).toInt64), .second, oj (q0 &&& (4294967295 : Int64)), .second, oj (q1 >>> ((32 : Int32) &&& 0x3f).toInt64), .second, oj (q1 &&& (4294967295 : Int64)), .second, oj ((q0 &&& (4294967295 : Int64)) * (q1 &&& (4294967295 : Int64))), .second, oj (((q0 >>> ((32 : Int32) &&& 0x3f).toInt64) * (q1 &&& (4294967295 : Int64))) + ((((q0 &&& (4294967295 : Int64)) * (q1 &&& (4294967295 : Int64))).toUInt64 >>> ((32 : Int32) &&& 0x3f).toInt64.toUInt64).toInt64)), .second, oj (((((q0 >>> ((32 : Int32) &&& 0x3f).toInt64) * (q1 &&& (4294967295 : Int64))) + ((((q0 &&& (4294967295 : Int64)) * (q1 &&& (4294967295 : Int64))).toUInt64 >>> ((32 : Int32) &&& 0x3f).toInt64.toUInt64).toInt64)) &&& (4294967295 : Int64)) + ((q0 &&& (4294967295 : Int64)) * (q1 >>> ((32 : Int32) &&& 0x3f).toInt64))), .second, oj ((((q0 >>> ((32 : Int32) &&& 0x3f).toInt64) * (q1 &&& (4294967295 : Int64))) + ((((q0 &&& (4294967295 : Int64)) * (q1 &&& (4294967295 : Int64))).toUInt64 >>> ((32 : Int32) &&& 0x3f).toInt64.toUInt64).toInt64)) >>> ((32 : Int32) &&& 0x3f).toInt64), .second] [(.long (q0 >>> ((32 : Int32) &&& 0x3f).toInt64))] _
    refine XS.lload X0.here hx rfl (hb hby own_d4_73) rfl ?_
    show oS p e below s₁ m 75 #[oj q0, .second, oj q1, .second, oj (q0 >>> ((32 : Int32) &&& 0x3f).toInt64), .second, oj (q0 &&& (4294967295 : Int64)), .second, oj (q1 >>> ((32 : Int32) &&& 0x3f).toInt64), .second, oj (q1 &&& (4294967295 : Int64)), .second, oj ((q0 &&& (4294967295 : Int64)) * (q1 &&& (4294967295 : Int64))), .second, oj (((q0 >>> ((32 : Int32) &&& 0x3f).toInt64) * (q1 &&& (4294967295 : Int64))) + ((((q0 &&& (4294967295 : Int64)) * (q1 &&& (4294967295 : Int64))).toUInt64 >>> ((32 : Int32) &&& 0x3f).toInt64.toUInt64).toInt64)), .second, oj (((((q0 >>> ((32 : Int32) &&& 0x3f).toInt64) * (q1 &&& (4294967295 : Int64))) + ((((q0 &&& (4294967295 : Int64)) * (q1 &&& (4294967295 : Int64))).toUInt64 >>> ((32 : Int32) &&& 0x3f).toInt64.toUInt64).toInt64)) &&& (4294967295 : Int64)) + ((q0 &&& (4294967295 : Int64)) * (q1 >>> ((32 : Int32) &&& 0x3f).toInt64))), .second, oj ((((q0 >>> ((32 : Int32) &&& 0x3f).toInt64) * (q1 &&& (4294967295 : Int64))) + ((((q0 &&& (4294967295 : Int64)) * (q1 &&& (4294967295 : Int64))).toUInt64 >>> ((32 : Int32) &&& 0x3f).toInt64.toUInt64).toInt64)) >>> ((32 : Int32) &&& 0x3f).toInt64), .second] [(.long (q1 >>> ((32 : Int32) &&& 0x3f).toInt64)), (.long (q0 >>> ((32 : Int32) &&& 0x3f).toInt64))] _
    refine XS.lmul X0.here hx rfl (hb hby own_d4_75) rfl ?_
    show oS p e below s₁ m 76 #[oj q0, .second, oj q1, .second, oj (q0 >>> ((32 : Int32) &&& 0x3f).toInt64), .second, oj (q0 &&& (4294967295 : Int64)), .second, oj (q1 >>> ((32 : Int32) &&& 0x3f).toInt64), .second, oj (q1 &&& (4294967295 : Int64)), .second, oj ((q0 &&& (4294967295 : Int64)) * (q1 &&& (4294967295 : Int64))), .second, oj (((q0 >>> ((32 : Int32) &&& 0x3f).toInt64) * (q1 &&& (4294967295 : Int64))) + ((((q0 &&& (4294967295 : Int64)) * (q1 &&& (4294967295 : Int64))).toUInt64 >>> ((32 : Int32) &&& 0x3f).toInt64.toUInt64).toInt64)), .second, oj (((((q0 >>> ((32 : Int32) &&& 0x3f).toInt64) * (q1 &&& (4294967295 : Int64))) + ((((q0 &&& (4294967295 : Int64)) * (q1 &&& (4294967295 : Int64))).toUInt64 >>> ((32 : Int32) &&& 0x3f).toInt64.toUInt64).toInt64)) &&& (4294967295 : Int64)) + ((q0 &&& (4294967295 : Int64)) * (q1 >>> ((32 : Int32) &&& 0x3f).toInt64))), .second, oj ((((q0 >>> ((32 : Int32) &&& 0x3f).toInt64) * (q1 &&& (4294967295 : Int64))) + ((((q0 &&& (4294967295 : Int64)) * (q1 &&& (4294967295 : Int64))).toUInt64 >>> ((32 : Int32) &&& 0x3f).toInt64.toUInt64).toInt64)) >>> ((32 : Int32) &&& 0x3f).toInt64), .second] [(.long ((q0 >>> ((32 : Int32) &&& 0x3f).toInt64) * (q1 >>> ((32 : Int32) &&& 0x3f).toInt64)))] _
    refine XS.lload X0.here hx rfl (hb hby own_d4_76) rfl ?_
    show oS p e below s₁ m 78 #[oj q0, .second, oj q1, .second, oj (q0 >>> ((32 : Int32) &&& 0x3f).toInt64), .second, oj (q0 &&& (4294967295 : Int64)), .second, oj (q1 >>> ((32 : Int32) &&& 0x3f).toInt64), .second, oj (q1 &&& (4294967295 : Int64)), .second, oj ((q0 &&& (4294967295 : Int64)) * (q1 &&& (4294967295 : Int64))), .second, oj (((q0 >>> ((32 : Int32) &&& 0x3f).toInt64) * (q1 &&& (4294967295 : Int64))) + ((((q0 &&& (4294967295 : Int64)) * (q1 &&& (4294967295 : Int64))).toUInt64 >>> ((32 : Int32) &&& 0x3f).toInt64.toUInt64).toInt64)), .second, oj (((((q0 >>> ((32 : Int32) &&& 0x3f).toInt64) * (q1 &&& (4294967295 : Int64))) + ((((q0 &&& (4294967295 : Int64)) * (q1 &&& (4294967295 : Int64))).toUInt64 >>> ((32 : Int32) &&& 0x3f).toInt64.toUInt64).toInt64)) &&& (4294967295 : Int64)) + ((q0 &&& (4294967295 : Int64)) * (q1 >>> ((32 : Int32) &&& 0x3f).toInt64))), .second, oj ((((q0 >>> ((32 : Int32) &&& 0x3f).toInt64) * (q1 &&& (4294967295 : Int64))) + ((((q0 &&& (4294967295 : Int64)) * (q1 &&& (4294967295 : Int64))).toUInt64 >>> ((32 : Int32) &&& 0x3f).toInt64.toUInt64).toInt64)) >>> ((32 : Int32) &&& 0x3f).toInt64), .second] [(.long ((((q0 >>> ((32 : Int32) &&& 0x3f).toInt64) * (q1 &&& (4294967295 : Int64))) + ((((q0 &&& (4294967295 : Int64)) * (q1 &&& (4294967295 : Int64))).toUInt64 >>> ((32 : Int32) &&& 0x3f).toInt64.toUInt64).toInt64)) >>> ((32 : Int32) &&& 0x3f).toInt64)), (.long ((q0 >>> ((32 : Int32) &&& 0x3f).toInt64) * (q1 >>> ((32 : Int32) &&& 0x3f).toInt64)))] _
    refine XS.ladd X0.here hx rfl (hb hby own_d4_78) rfl ?_
    show oS p e below s₁ m 79 #[oj q0, .second, oj q1, .second, oj (q0 >>> ((32 : Int32) &&& 0x3f).toInt64), .second, oj (q0 &&& (4294967295 : Int64)), .second, oj (q1 >>> ((32 : Int32) &&& 0x3f).toInt64), .second, oj (q1 &&& (4294967295 : Int64)), .second, oj ((q0 &&& (4294967295 : Int64)) * (q1 &&& (4294967295 : Int64))), .second, oj (((q0 >>> ((32 : Int32) &&& 0x3f).toInt64) * (q1 &&& (4294967295 : Int64))) + ((((q0 &&& (4294967295 : Int64)) * (q1 &&& (4294967295 : Int64))).toUInt64 >>> ((32 : Int32) &&& 0x3f).toInt64.toUInt64).toInt64)), .second, oj (((((q0 >>> ((32 : Int32) &&& 0x3f).toInt64) * (q1 &&& (4294967295 : Int64))) + ((((q0 &&& (4294967295 : Int64)) * (q1 &&& (4294967295 : Int64))).toUInt64 >>> ((32 : Int32) &&& 0x3f).toInt64.toUInt64).toInt64)) &&& (4294967295 : Int64)) + ((q0 &&& (4294967295 : Int64)) * (q1 >>> ((32 : Int32) &&& 0x3f).toInt64))), .second, oj ((((q0 >>> ((32 : Int32) &&& 0x3f).toInt64) * (q1 &&& (4294967295 : Int64))) + ((((q0 &&& (4294967295 : Int64)) * (q1 &&& (4294967295 : Int64))).toUInt64 >>> ((32 : Int32) &&& 0x3f).toInt64.toUInt64).toInt64)) >>> ((32 : Int32) &&& 0x3f).toInt64), .second] [(.long (((q0 >>> ((32 : Int32) &&& 0x3f).toInt64) * (q1 >>> ((32 : Int32) &&& 0x3f).toInt64)) + ((((q0 >>> ((32 : Int32) &&& 0x3f).toInt64) * (q1 &&& (4294967295 : Int64))) + ((((q0 &&& (4294967295 : Int64)) * (q1 &&& (4294967295 : Int64))).toUInt64 >>> ((32 : Int32) &&& 0x3f).toInt64.toUInt64).toInt64)) >>> ((32 : Int32) &&& 0x3f).toInt64)))] _
    refine XS.lload X0.here hx rfl (hb hby own_d4_79) rfl ?_
    show oS p e below s₁ m 81 #[oj q0, .second, oj q1, .second, oj (q0 >>> ((32 : Int32) &&& 0x3f).toInt64), .second, oj (q0 &&& (4294967295 : Int64)), .second, oj (q1 >>> ((32 : Int32) &&& 0x3f).toInt64), .second, oj (q1 &&& (4294967295 : Int64)), .second, oj ((q0 &&& (4294967295 : Int64)) * (q1 &&& (4294967295 : Int64))), .second, oj (((q0 >>> ((32 : Int32) &&& 0x3f).toInt64) * (q1 &&& (4294967295 : Int64))) + ((((q0 &&& (4294967295 : Int64)) * (q1 &&& (4294967295 : Int64))).toUInt64 >>> ((32 : Int32) &&& 0x3f).toInt64.toUInt64).toInt64)), .second, oj (((((q0 >>> ((32 : Int32) &&& 0x3f).toInt64) * (q1 &&& (4294967295 : Int64))) + ((((q0 &&& (4294967295 : Int64)) * (q1 &&& (4294967295 : Int64))).toUInt64 >>> ((32 : Int32) &&& 0x3f).toInt64.toUInt64).toInt64)) &&& (4294967295 : Int64)) + ((q0 &&& (4294967295 : Int64)) * (q1 >>> ((32 : Int32) &&& 0x3f).toInt64))), .second, oj ((((q0 >>> ((32 : Int32) &&& 0x3f).toInt64) * (q1 &&& (4294967295 : Int64))) + ((((q0 &&& (4294967295 : Int64)) * (q1 &&& (4294967295 : Int64))).toUInt64 >>> ((32 : Int32) &&& 0x3f).toInt64.toUInt64).toInt64)) >>> ((32 : Int32) &&& 0x3f).toInt64), .second] [(.long (((((q0 >>> ((32 : Int32) &&& 0x3f).toInt64) * (q1 &&& (4294967295 : Int64))) + ((((q0 &&& (4294967295 : Int64)) * (q1 &&& (4294967295 : Int64))).toUInt64 >>> ((32 : Int32) &&& 0x3f).toInt64.toUInt64).toInt64)) &&& (4294967295 : Int64)) + ((q0 &&& (4294967295 : Int64)) * (q1 >>> ((32 : Int32) &&& 0x3f).toInt64)))), (.long (((q0 >>> ((32 : Int32) &&& 0x3f).toInt64) * (q1 >>> ((32 : Int32) &&& 0x3f).toInt64)) + ((((q0 >>> ((32 : Int32) &&& 0x3f).toInt64) * (q1 &&& (4294967295 : Int64))) + ((((q0 &&& (4294967295 : Int64)) * (q1 &&& (4294967295 : Int64))).toUInt64 >>> ((32 : Int32) &&& 0x3f).toInt64.toUInt64).toInt64)) >>> ((32 : Int32) &&& 0x3f).toInt64)))] _
    refine XS.bipush X0.here hx rfl (hb hby own_d4_81) ?_
    show oS p e below s₁ m 83 #[oj q0, .second, oj q1, .second, oj (q0 >>> ((32 : Int32) &&& 0x3f).toInt64), .second, oj (q0 &&& (4294967295 : Int64)), .second, oj (q1 >>> ((32 : Int32) &&& 0x3f).toInt64), .second, oj (q1 &&& (4294967295 : Int64)), .second, oj ((q0 &&& (4294967295 : Int64)) * (q1 &&& (4294967295 : Int64))), .second, oj (((q0 >>> ((32 : Int32) &&& 0x3f).toInt64) * (q1 &&& (4294967295 : Int64))) + ((((q0 &&& (4294967295 : Int64)) * (q1 &&& (4294967295 : Int64))).toUInt64 >>> ((32 : Int32) &&& 0x3f).toInt64.toUInt64).toInt64)), .second, oj (((((q0 >>> ((32 : Int32) &&& 0x3f).toInt64) * (q1 &&& (4294967295 : Int64))) + ((((q0 &&& (4294967295 : Int64)) * (q1 &&& (4294967295 : Int64))).toUInt64 >>> ((32 : Int32) &&& 0x3f).toInt64.toUInt64).toInt64)) &&& (4294967295 : Int64)) + ((q0 &&& (4294967295 : Int64)) * (q1 >>> ((32 : Int32) &&& 0x3f).toInt64))), .second, oj ((((q0 >>> ((32 : Int32) &&& 0x3f).toInt64) * (q1 &&& (4294967295 : Int64))) + ((((q0 &&& (4294967295 : Int64)) * (q1 &&& (4294967295 : Int64))).toUInt64 >>> ((32 : Int32) &&& 0x3f).toInt64.toUInt64).toInt64)) >>> ((32 : Int32) &&& 0x3f).toInt64), .second] [(.int (32 : Int32)), (.long (((((q0 >>> ((32 : Int32) &&& 0x3f).toInt64) * (q1 &&& (4294967295 : Int64))) + ((((q0 &&& (4294967295 : Int64)) * (q1 &&& (4294967295 : Int64))).toUInt64 >>> ((32 : Int32) &&& 0x3f).toInt64.toUInt64).toInt64)) &&& (4294967295 : Int64)) + ((q0 &&& (4294967295 : Int64)) * (q1 >>> ((32 : Int32) &&& 0x3f).toInt64)))), (.long (((q0 >>> ((32 : Int32) &&& 0x3f).toInt64) * (q1 >>> ((32 : Int32) &&& 0x3f).toInt64)) + ((((q0 >>> ((32 : Int32) &&& 0x3f).toInt64) * (q1 &&& (4294967295 : Int64))) + ((((q0 &&& (4294967295 : Int64)) * (q1 &&& (4294967295 : Int64))).toUInt64 >>> ((32 : Int32) &&& 0x3f).toInt64.toUInt64).toInt64)) >>> ((32 : Int32) &&& 0x3f).toInt64)))] _
    refine XS.lshr X0.here hx rfl (hb hby own_d4_83) rfl ?_
    show oS p e below s₁ m 84 #[oj q0, .second, oj q1, .second, oj (q0 >>> ((32 : Int32) &&& 0x3f).toInt64), .second, oj (q0 &&& (4294967295 : Int64)), .second, oj (q1 >>> ((32 : Int32) &&& 0x3f).toInt64), .second, oj (q1 &&& (4294967295 : Int64)), .second, oj ((q0 &&& (4294967295 : Int64)) * (q1 &&& (4294967295 : Int64))), .second, oj (((q0 >>> ((32 : Int32) &&& 0x3f).toInt64) * (q1 &&& (4294967295 : Int64))) + ((((q0 &&& (4294967295 : Int64)) * (q1 &&& (4294967295 : Int64))).toUInt64 >>> ((32 : Int32) &&& 0x3f).toInt64.toUInt64).toInt64)), .second, oj (((((q0 >>> ((32 : Int32) &&& 0x3f).toInt64) * (q1 &&& (4294967295 : Int64))) + ((((q0 &&& (4294967295 : Int64)) * (q1 &&& (4294967295 : Int64))).toUInt64 >>> ((32 : Int32) &&& 0x3f).toInt64.toUInt64).toInt64)) &&& (4294967295 : Int64)) + ((q0 &&& (4294967295 : Int64)) * (q1 >>> ((32 : Int32) &&& 0x3f).toInt64))), .second, oj ((((q0 >>> ((32 : Int32) &&& 0x3f).toInt64) * (q1 &&& (4294967295 : Int64))) + ((((q0 &&& (4294967295 : Int64)) * (q1 &&& (4294967295 : Int64))).toUInt64 >>> ((32 : Int32) &&& 0x3f).toInt64.toUInt64).toInt64)) >>> ((32 : Int32) &&& 0x3f).toInt64), .second] [(.long ((((((q0 >>> ((32 : Int32) &&& 0x3f).toInt64) * (q1 &&& (4294967295 : Int64))) + ((((q0 &&& (4294967295 : Int64)) * (q1 &&& (4294967295 : Int64))).toUInt64 >>> ((32 : Int32) &&& 0x3f).toInt64.toUInt64).toInt64)) &&& (4294967295 : Int64)) + ((q0 &&& (4294967295 : Int64)) * (q1 >>> ((32 : Int32) &&& 0x3f).toInt64))) >>> ((32 : Int32) &&& 0x3f).toInt64)), (.long (((q0 >>> ((32 : Int32) &&& 0x3f).toInt64) * (q1 >>> ((32 : Int32) &&& 0x3f).toInt64)) + ((((q0 >>> ((32 : Int32) &&& 0x3f).toInt64) * (q1 &&& (4294967295 : Int64))) + ((((q0 &&& (4294967295 : Int64)) * (q1 &&& (4294967295 : Int64))).toUInt64 >>> ((32 : Int32) &&& 0x3f).toInt64.toUInt64).toInt64)) >>> ((32 : Int32) &&& 0x3f).toInt64)))] _
    refine XS.ladd X0.here hx rfl (hb hby own_d4_84) rfl ?_
    show oS p e below s₁ m 85 #[oj q0, .second, oj q1, .second, oj (q0 >>> ((32 : Int32) &&& 0x3f).toInt64), .second, oj (q0 &&& (4294967295 : Int64)), .second, oj (q1 >>> ((32 : Int32) &&& 0x3f).toInt64), .second, oj (q1 &&& (4294967295 : Int64)), .second, oj ((q0 &&& (4294967295 : Int64)) * (q1 &&& (4294967295 : Int64))), .second, oj (((q0 >>> ((32 : Int32) &&& 0x3f).toInt64) * (q1 &&& (4294967295 : Int64))) + ((((q0 &&& (4294967295 : Int64)) * (q1 &&& (4294967295 : Int64))).toUInt64 >>> ((32 : Int32) &&& 0x3f).toInt64.toUInt64).toInt64)), .second, oj (((((q0 >>> ((32 : Int32) &&& 0x3f).toInt64) * (q1 &&& (4294967295 : Int64))) + ((((q0 &&& (4294967295 : Int64)) * (q1 &&& (4294967295 : Int64))).toUInt64 >>> ((32 : Int32) &&& 0x3f).toInt64.toUInt64).toInt64)) &&& (4294967295 : Int64)) + ((q0 &&& (4294967295 : Int64)) * (q1 >>> ((32 : Int32) &&& 0x3f).toInt64))), .second, oj ((((q0 >>> ((32 : Int32) &&& 0x3f).toInt64) * (q1 &&& (4294967295 : Int64))) + ((((q0 &&& (4294967295 : Int64)) * (q1 &&& (4294967295 : Int64))).toUInt64 >>> ((32 : Int32) &&& 0x3f).toInt64.toUInt64).toInt64)) >>> ((32 : Int32) &&& 0x3f).toInt64), .second] [(.long ((((q0 >>> ((32 : Int32) &&& 0x3f).toInt64) * (q1 >>> ((32 : Int32) &&& 0x3f).toInt64)) + ((((q0 >>> ((32 : Int32) &&& 0x3f).toInt64) * (q1 &&& (4294967295 : Int64))) + ((((q0 &&& (4294967295 : Int64)) * (q1 &&& (4294967295 : Int64))).toUInt64 >>> ((32 : Int32) &&& 0x3f).toInt64.toUInt64).toInt64)) >>> ((32 : Int32) &&& 0x3f).toInt64)) + ((((((q0 >>> ((32 : Int32) &&& 0x3f).toInt64) * (q1 &&& (4294967295 : Int64))) + ((((q0 &&& (4294967295 : Int64)) * (q1 &&& (4294967295 : Int64))).toUInt64 >>> ((32 : Int32) &&& 0x3f).toInt64.toUInt64).toInt64)) &&& (4294967295 : Int64)) + ((q0 &&& (4294967295 : Int64)) * (q1 >>> ((32 : Int32) &&& 0x3f).toInt64))) >>> ((32 : Int32) &&& 0x3f).toInt64)))] _
    exact retOut X0 hx Bd.returns rfl (Or.inr (Or.inl ⟨rfl, rfl, _, rfl⟩)) (hb hby own_d4_85) hr
  · show own_Q4 Z q0 q1 h0 n0 _ s₁.heap _
    rw [e0]
    exact ⟨congrArg (fun z => some (Value.long z)) (by rw [own_f4]), N0, rfl⟩
theorem own_pn1 : plainName "java/lang/Long" = true := by first | (simp [plainName, overriddenIn]; done) | decide +kernel
theorem own_d5_0 : decode jdk_35_method_42_code 0 = .ok (.lload_n 0, 1) := by decide +kernel
theorem own_d5_1 : decode jdk_35_method_42_code 1 = .ok (.lload_n 2, 1) := by decide +kernel
theorem own_d5_2 : decode jdk_35_method_42_code 2 = .ok (.lcmp, 1) := by decide +kernel
theorem own_d5_3 : decode jdk_35_method_42_code 3 = .ok (.ifCond .ge 7, 3) := by decide +kernel
theorem own_d5_6 : decode jdk_35_method_42_code 6 = .ok (.iconst (-1), 1) := by decide +kernel
theorem own_d5_7 : decode jdk_35_method_42_code 7 = .ok (.goto 14, 3) := by decide +kernel
theorem own_d5_10 : decode jdk_35_method_42_code 10 = .ok (.lload_n 0, 1) := by decide +kernel
theorem own_d5_11 : decode jdk_35_method_42_code 11 = .ok (.lload_n 2, 1) := by decide +kernel
theorem own_d5_12 : decode jdk_35_method_42_code 12 = .ok (.lcmp, 1) := by decide +kernel
theorem own_d5_13 : decode jdk_35_method_42_code 13 = .ok (.ifCond .ne 7, 3) := by decide +kernel
theorem own_d5_16 : decode jdk_35_method_42_code 16 = .ok (.iconst 0, 1) := by decide +kernel
theorem own_d5_17 : decode jdk_35_method_42_code 17 = .ok (.goto 4, 3) := by decide +kernel
theorem own_d5_20 : decode jdk_35_method_42_code 20 = .ok (.iconst 1, 1) := by decide +kernel
theorem own_d5_21 : decode jdk_35_method_42_code 21 = .ok (.ireturn, 1) := by decide +kernel
theorem own_ef5 (m : MethodId) (q0 : Int64) (q1 : Int64) : entryFrame m #[(.long q0), (.long q1)] 4 = mkF m 0 #[oj q0, .second, oj q1, .second] [] := by first | (simp [entryFrame, mkF, argsToLocals, Value.category]; done) | rfl
def own_f5 (q0 : Int64) (q1 : Int64) : Int32 := (if q0 < q1 then (-1 : Int32) else (if q0 = q1 then (0 : Int32) else (1 : Int32)))
def own_Q5 (Z : State) (q0 : Int64) (q1 : Int64) (h0 : Heap) (n0 : Nat) (v : Option Value) (h : Heap) (L : List Loc) : Prop := v = some (Value.int (own_f5 q0 q1)) ∧ Fr n0 L ∧ h = h0
set_option maxRecDepth 65536 in
set_option maxHeartbeats 40000000 in
theorem own_rm5 (l : Launch) (Z : State) (av : Array Value) (hw : ∀ d ∈ tables_1, d.before av Z = true) (ws : List Jvm.Cond) (q0 : Int64) (q1 : Int64) (h0 : Heap) (n0 : Nat) (Z0 : n0 ≤ h0.size) :
    MetFree l (⟨"java/lang/Long", "compare", "(JJ)I"⟩ : MethodName) (head1 (Jvm.Cond.code (⟨"java/lang/Long", "compare", "(JJ)I"⟩ : MethodName) jdk_35_method_42_code 4 (some .int) :: ws) ({ frames := 0, cells := 0, slots := 0, locals := 0 } : Room)) (fun a U => a = #[(.long q0), (.long q1)] ∧ Z.Warmed39 U.vm ∧ U.heap = h0) (fun _ _ _ _ _ => True) (fun _ U o U' => ∃ v L, o = .returned v ∧ own_Q5 Z q0 q1 h0 n0 v U'.heap L ∧ FrameEnd U o U' L ({ frames := 0, cells := 0, slots := 0, locals := 0 } : Room).cells ({ frames := 0, cells := 0, slots := 0, locals := 0 } : Room).slots) := by
  refine MetFree.of_bodySF (plainFor_of_name own_pn1) hisR ?_
  intro p e s m args below meth c s₁ Bd hml0 hP hK
  obtain ⟨rfl, hZ, hh⟩ := hP
  have hx := Bd.exec
  have hby := Bd.bytes
  have hml : c.maxLocals = 4 := hml0
  have hown : s.vm.findClass "java/lang/Long" = some m.cls := findClass_of_methodNamed Bd.named
  have hnm := (name_of_methodNamed Bd.named Bd.method).1
  have X0 : Stand p l e ({ frames := 0, cells := 0, slots := 0, locals := 0 } : Room) s m #[(.long q0), (.long q1)] below meth c s₁ [] 0 0 := Stand.of_body Bd
  have e0 : s₁.heap = h0 := by rw [← hh, Bd.state]; rfl
  have N0 := Fr.nil n0
  have pre0 : ∀ t, Steps p.tables e below (s₁.setTop (mkF m 0 #[oj q0, .second, oj q1, .second] [])) t → Steps p.tables e below (s₁.setTop (entryFrame m #[(.long q0), (.long q1)] 4)) t := fun t k => castTop (own_ef5 m q0 q1) k
  have pre1 : ∀ t, Steps p.tables e below (s₁.setTop (mkF m 3 #[oj q0, .second, oj q1, .second] [(.int (lcmpW q0 q1))])) t → Steps p.tables e below (s₁.setTop (entryFrame m #[(.long q0), (.long q1)] 4)) t := by
    intro t k
    refine pre0 t ?_
    show oS p e below s₁ m 0 #[oj q0, .second, oj q1, .second] [] _
    refine XS.lloadN X0.here hx rfl (hb hby own_d5_0) rfl ?_
    show oS p e below s₁ m 1 #[oj q0, .second, oj q1, .second] [(.long q0)] _
    refine XS.lloadN X0.here hx rfl (hb hby own_d5_1) rfl ?_
    show oS p e below s₁ m 2 #[oj q0, .second, oj q1, .second] [(.long q1), (.long q0)] _
    refine XS.lcmp X0.here hx rfl (hb hby own_d5_2) rfl ?_
    exact k
  by_cases c2 : q0 < q1
  · skip
    obtain ⟨fs, hr, hrun, hended, hW, hsame⟩ := X0.leave (v := (some (.int (-1 : Int32)))) (fun h => by rw [Bd.returns] at h; cases h) (hlocks := by first | exact BodyLoose.notSynchronized Bd | exact Body.notSynchronized Bd)
    refine ⟨_, _, pre1 _ ?_, hrun, hended, _, _, rfl, ?_, ⟨_, rfl⟩, hW, hsame.mono (by decide) (by decide)⟩
    · show oS p e below s₁ m 3 #[oj q0, .second, oj q1, .second] [(.int (lcmpW q0 q1))] _
      refine XS.ifNo X0.here hx rfl (hb hby own_d5_3) rfl ((if0 _ _).trans (tlt ((lw_lt q0 q1).mpr c2)).2.1) ?_
      show oS p e below s₁ m 6 #[oj q0, .second, oj q1, .second] [] _
      refine XS.iconst X0.here hx rfl (hb hby own_d5_6) ?_
      show oS p e below s₁ m 7 #[oj q0, .second, oj q1, .second] [(.int (-1 : Int32))] _
      refine XS.goto X0.here hx rfl (pc0 := 7) (pc' := 21) rfl (hb hby own_d5_7) (by decide) (by decide) ?_
      show oS p e below s₁ m 21 #[oj q0, .second, oj q1, .second] [(.int (-1 : Int32))] _
      exact retOut X0 hx Bd.returns rfl (Or.inl ⟨rfl, Or.inl rfl, _, rfl⟩) (hb hby own_d5_21) hr
    · show own_Q5 Z q0 q1 h0 n0 _ s₁.heap _
      rw [e0]
      exact ⟨congrArg (fun z => some (Value.int z)) (by rw [own_f5, if_pos c2]), N0, rfl⟩
  · skip
    have pre3 : ∀ t, Steps p.tables e below (s₁.setTop (mkF m 13 #[oj q0, .second, oj q1, .second] [(.int (lcmpW q0 q1))])) t → Steps p.tables e below (s₁.setTop (entryFrame m #[(.long q0), (.long q1)] 4)) t := by
      intro t k
      refine pre1 t ?_
      show oS p e below s₁ m 3 #[oj q0, .second, oj q1, .second] [(.int (lcmpW q0 q1))] _
      refine XS.ifYes X0.here hx rfl (pc0 := 3) (pc' := 10) rfl (hb hby own_d5_3) rfl ((if0 _ _).trans (flt (fun q => c2 ((lw_lt q0 q1).mp q))).2.1) (by decide) (by decide) ?_
      show oS p e below s₁ m 10 #[oj q0, .second, oj q1, .second] [] _
      refine XS.lloadN X0.here hx rfl (hb hby own_d5_10) rfl ?_
      show oS p e below s₁ m 11 #[oj q0, .second, oj q1, .second] [(.long q0)] _
      refine XS.lloadN X0.here hx rfl (hb hby own_d5_11) rfl ?_
      show oS p e below s₁ m 12 #[oj q0, .second, oj q1, .second] [(.long q1), (.long q0)] _
      refine XS.lcmp X0.here hx rfl (hb hby own_d5_12) rfl ?_
      exact k
    by_cases c4 : q0 = q1
    · skip
      obtain ⟨fs, hr, hrun, hended, hW, hsame⟩ := X0.leave (v := (some (.int (0 : Int32)))) (fun h => by rw [Bd.returns] at h; cases h) (hlocks := by first | exact BodyLoose.notSynchronized Bd | exact Body.notSynchronized Bd)
      refine ⟨_, _, pre3 _ ?_, hrun, hended, _, _, rfl, ?_, ⟨_, rfl⟩, hW, hsame.mono (by decide) (by decide)⟩
      · show oS p e below s₁ m 13 #[oj q0, .second, oj q1, .second] [(.int (lcmpW q0 q1))] _
        refine XS.ifNo X0.here hx rfl (hb hby own_d5_13) rfl ((if0 _ _).trans (teq ((lw_eq q0 q1).mpr c4)).2) ?_
        show oS p e below s₁ m 16 #[oj q0, .second, oj q1, .second] [] _
        refine XS.iconst X0.here hx rfl (hb hby own_d5_16) ?_
        show oS p e below s₁ m 17 #[oj q0, .second, oj q1, .second] [(.int (0 : Int32))] _
        refine XS.goto X0.here hx rfl (pc0 := 17) (pc' := 21) rfl (hb hby own_d5_17) (by decide) (by decide) ?_
        show oS p e below s₁ m 21 #[oj q0, .second, oj q1, .second] [(.int (0 : Int32))] _
        exact retOut X0 hx Bd.returns rfl (Or.inl ⟨rfl, Or.inl rfl, _, rfl⟩) (hb hby own_d5_21) hr
      · show own_Q5 Z q0 q1 h0 n0 _ s₁.heap _
        rw [e0]
        exact ⟨congrArg (fun z => some (Value.int z)) (by rw [own_f5, if_neg c2, if_pos c4]), N0, rfl⟩
    · skip
      obtain ⟨fs, hr, hrun, hended, hW, hsame⟩ := X0.leave (v := (some (.int (1 : Int32)))) (fun h => by rw [Bd.returns] at h; cases h) (hlocks := by first | exact BodyLoose.notSynchronized Bd | exact Body.notSynchronized Bd)
      refine ⟨_, _, pre3 _ ?_, hrun, hended, _, _, rfl, ?_, ⟨_, rfl⟩, hW, hsame.mono (by decide) (by decide)⟩
      · show oS p e below s₁ m 13 #[oj q0, .second, oj q1, .second] [(.int (lcmpW q0 q1))] _
        refine XS.ifYes X0.here hx rfl (pc0 := 13) (pc' := 20) rfl (hb hby own_d5_13) rfl ((if0 _ _).trans (feq (fun q => c4 ((lw_eq q0 q1).mp q))).2) (by decide) (by decide) ?_
        show oS p e below s₁ m 20 #[oj q0, .second, oj q1, .second] [] _
        refine XS.iconst X0.here hx rfl (hb hby own_d5_20) ?_
        show oS p e below s₁ m 21 #[oj q0, .second, oj q1, .second] [(.int (1 : Int32))] _
        exact retOut X0 hx Bd.returns rfl (Or.inl ⟨rfl, Or.inl rfl, _, rfl⟩) (hb hby own_d5_21) hr
      · show own_Q5 Z q0 q1 h0 n0 _ s₁.heap _
        rw [e0]
        exact ⟨congrArg (fun z => some (Value.int z)) (by rw [own_f5, if_neg c2, if_neg c4]), N0, rfl⟩
theorem own_pd0 : parseMethodDescriptor "(JJ)I" = some ⟨[.long, .long], some .int⟩ := by decide +kernel
theorem own_d6_0 : decode jdk_35_method_43_code 0 = .ok (.lload_n 0, 1) := by decide +kernel
theorem own_d6_1 : decode jdk_35_method_43_code 1 = .ok (.ldc2_w 168, 3) := by decide +kernel
theorem own_d6_4 : decode jdk_35_method_43_code 4 = .ok (.ladd, 1) := by decide +kernel
theorem own_d6_5 : decode jdk_35_method_43_code 5 = .ok (.lload_n 2, 1) := by decide +kernel
theorem own_d6_6 : decode jdk_35_method_43_code 6 = .ok (.ldc2_w 168, 3) := by decide +kernel
theorem own_d6_9 : decode jdk_35_method_43_code 9 = .ok (.ladd, 1) := by decide +kernel
theorem own_d6_10 : decode jdk_35_method_43_code 10 = .ok (.invokestatic 302, 3) := by decide +kernel
theorem own_d6_13 : decode jdk_35_method_43_code 13 = .ok (.ireturn, 1) := by decide +kernel
theorem own_ef6 (m : MethodId) (q0 : Int64) (q1 : Int64) : entryFrame m #[(.long q0), (.long q1)] 4 = mkF m 0 #[oj q0, .second, oj q1, .second] [] := by first | (simp [entryFrame, mkF, argsToLocals, Value.category]; done) | rfl
def own_f6 (q0 : Int64) (q1 : Int64) : Int32 := (own_f5 (q0 + (-9223372036854775808 : Int64)) (q1 + (-9223372036854775808 : Int64)))
def own_Q6 (Z : State) (q0 : Int64) (q1 : Int64) (h0 : Heap) (n0 : Nat) (v : Option Value) (h : Heap) (L : List Loc) : Prop := v = some (Value.int (own_f6 q0 q1)) ∧ Fr n0 L ∧ h = h0
set_option maxRecDepth 65536 in
set_option maxHeartbeats 40000000 in
theorem own_rm6 (l : Launch) (Z : State) (av : Array Value) (hw : ∀ d ∈ tables_1, d.before av Z = true) (ws : List Jvm.Cond) (q0 : Int64) (q1 : Int64) (h0 : Heap) (n0 : Nat) (Z0 : n0 ≤ h0.size) :
    MetFree l (⟨"java/lang/Long", "compareUnsigned", "(JJ)I"⟩ : MethodName) (head1 (Jvm.Cond.code (⟨"java/lang/Long", "compareUnsigned", "(JJ)I"⟩ : MethodName) jdk_35_method_43_code 4 (some .int) :: ws) ({ frames := 1, cells := 0, slots := 0, locals := 15 } : Room)) (fun a U => a = #[(.long q0), (.long q1)] ∧ Z.Warmed39 U.vm ∧ U.heap = h0) (fun _ _ _ _ _ => True) (fun _ U o U' => ∃ v L, o = .returned v ∧ own_Q6 Z q0 q1 h0 n0 v U'.heap L ∧ FrameEnd U o U' L ({ frames := 1, cells := 0, slots := 0, locals := 15 } : Room).cells ({ frames := 1, cells := 0, slots := 0, locals := 15 } : Room).slots) := by
  refine MetFree.of_bodySF (plainFor_of_name own_pn1) hisR ?_
  intro p e s m args below meth c s₁ Bd hml0 hP hK
  obtain ⟨rfl, hZ, hh⟩ := hP
  have hx := Bd.exec
  have hby := Bd.bytes
  have hml : c.maxLocals = 4 := hml0
  have hown : s.vm.findClass "java/lang/Long" = some m.cls := findClass_of_methodNamed Bd.named
  have hnm := (name_of_methodNamed Bd.named Bd.method).1
  have X0 : Stand p l e ({ frames := 1, cells := 0, slots := 0, locals := 15 } : Room) s m #[(.long q0), (.long q1)] below meth c s₁ [] 0 0 := Stand.of_body Bd
  have e0 : s₁.heap = h0 := by rw [← hh, Bd.state]; rfl
  have N0 := Fr.nil n0
  have pre0 : ∀ t, Steps p.tables e below (s₁.setTop (mkF m 0 #[oj q0, .second, oj q1, .second] [])) t → Steps p.tables e below (s₁.setTop (entryFrame m #[(.long q0), (.long q1)] 4)) t := fun t k => castTop (own_ef6 m q0 q1) k
  obtain ⟨_, _, ⟨T1, L1, k1, n1⟩, -, X1, ⟨Lc1, hQ1, l1, y1, z1⟩, st1⟩ := Jvm.LawKit.callS X0 hx (y := (⟨"java/lang/Long", "compare", "(JJ)I"⟩ : MethodName)) hown (mvT hZ (hw _ (List.mem_of_getElem? (i := 27) rfl))) (mvT hZ (hw _ (List.mem_of_getElem? (i := 20) rfl))) (mvT hZ (hw _ (List.mem_of_getElem? (i := 21) rfl))) (mvT hZ (hw _ (List.mem_of_getElem? (i := 22) rfl))) (by decide) (backOf (W := 0) (own_rm5 l Z av hw [] (q0 + (-9223372036854775808 : Int64)) (q1 + (-9223372036854775808 : Int64)) h0 n0 Z0 ) hZ (hw _ (List.mem_of_getElem? (i := 22) rfl)) (hw _ (List.mem_of_getElem? (i := 21) rfl)) (by decide) (by decide)) (g := (mkF m 10 #[oj q0, .second, oj q1, .second] [(.long (q1 + (-9223372036854775808 : Int64))), (.long (q0 + (-9223372036854775808 : Int64)))])) rfl (by rw [hml]; rfl) (argsL := [(.long (q0 + (-9223372036854775808 : Int64))), (.long (q1 + (-9223372036854775808 : Int64)))]) (rest := []) (lenOf own_pd0 rfl) rfl (by show 2 * 0 + _ ≤ _; exact Nat.le_of_eq rfl) (hb hby own_d6_10) (fun _ _ => ⟨rfl, e0, (by decide : 0 + 0 ≤ _), (by decide : 0 + 0 ≤ _)⟩)
  dsimp only [Pt.U, Pt.locs, Pt.cells, Pt.slots] at X1 l1 y1 z1 st1 hQ1
  have yq1 : k1 = 0 := y1
  have zq1 : n1 = 0 := z1
  subst yq1 zq1
  obtain ⟨rfl, Nq1, eq1⟩ := hQ1
  have N1 : Fr n0 L1 := by rw [l1]; exact Fr.app N0 Nq1
  obtain ⟨fs, hr, hrun, hended, hW, hsame⟩ := X1.leave (v := (some (.int (own_f5 (q0 + (-9223372036854775808 : Int64)) (q1 + (-9223372036854775808 : Int64)))))) (fun h => by rw [Bd.returns] at h; cases h) (hlocks := by first | exact BodyLoose.notSynchronized Bd | exact Body.notSynchronized Bd)
  refine ⟨_, _, pre0 _ ?_, hrun, hended, _, _, rfl, ?_, ⟨_, rfl⟩, hW, hsame.mono (by decide) (by decide)⟩
  · show oS p e below s₁ m 0 #[oj q0, .second, oj q1, .second] [] _
    refine XS.lloadN X0.here hx rfl (hb hby own_d6_0) rfl ?_
    show oS p e below s₁ m 1 #[oj q0, .second, oj q1, .second] [(.long q0)] _
    refine X0.ldc2Long hx hown (mvT hZ (hw _ (List.mem_of_getElem? (i := 26) rfl))) (g := (mkF m 1 #[oj q0, .second, oj q1, .second] [(.long q0)])) rfl (hb hby own_d6_1) _ ?_
    show oS p e below s₁ m 4 #[oj q0, .second, oj q1, .second] [(.long (-9223372036854775808 : Int64)), (.long q0)] _
    refine XS.ladd X0.here hx rfl (hb hby own_d6_4) rfl ?_
    show oS p e below s₁ m 5 #[oj q0, .second, oj q1, .second] [(.long (q0 + (-9223372036854775808 : Int64)))] _
    refine XS.lloadN X0.here hx rfl (hb hby own_d6_5) rfl ?_
    show oS p e below s₁ m 6 #[oj q0, .second, oj q1, .second] [(.long q1), (.long (q0 + (-9223372036854775808 : Int64)))] _
    refine X0.ldc2Long hx hown (mvT hZ (hw _ (List.mem_of_getElem? (i := 26) rfl))) (g := (mkF m 6 #[oj q0, .second, oj q1, .second] [(.long q1), (.long (q0 + (-9223372036854775808 : Int64)))])) rfl (hb hby own_d6_6) _ ?_
    show oS p e below s₁ m 9 #[oj q0, .second, oj q1, .second] [(.long (-9223372036854775808 : Int64)), (.long q1), (.long (q0 + (-9223372036854775808 : Int64)))] _
    refine XS.ladd X0.here hx rfl (hb hby own_d6_9) rfl ?_
    show oS p e below s₁ m 10 #[oj q0, .second, oj q1, .second] [(.long (q1 + (-9223372036854775808 : Int64))), (.long (q0 + (-9223372036854775808 : Int64)))] _
    refine st1 _ ?_
    show oS p e below T1 m 13 #[oj q0, .second, oj q1, .second] [(.int (own_f5 (q0 + (-9223372036854775808 : Int64)) (q1 + (-9223372036854775808 : Int64))))] _
    exact retOut X1 hx Bd.returns rfl (Or.inl ⟨rfl, Or.inl rfl, _, rfl⟩) (hb hby own_d6_13) hr
  · show own_Q6 Z q0 q1 h0 n0 _ T1.heap _
    rw [eq1]
    exact ⟨congrArg (fun z => some (Value.int z)) (by rw [own_f6]), N1, rfl⟩
theorem own_pd1 : parseMethodDescriptor "(JJ)J" = some ⟨[.long, .long], some .long⟩ := by decide +kernel
theorem own_pn2 : plainName "com/example/strict_anon/strictanon/util/Products" = true := by first | (simp [plainName, overriddenIn]; done) | decide +kernel
theorem own_d3_0 : decode prog_31_method_2_code 0 = .ok (.lload_n 0, 1) := by decide +kernel
theorem own_d3_1 : decode prog_31_method_2_code 1 = .ok (.lload_n 2, 1) := by decide +kernel
theorem own_d3_2 : decode prog_31_method_2_code 2 = .ok (.invokestatic 7, 3) := by decide +kernel
theorem own_d3_5 : decode prog_31_method_2_code 5 = .ok (.lload 4, 2) := by decide +kernel
theorem own_d3_7 : decode prog_31_method_2_code 7 = .ok (.lload 6, 2) := by decide +kernel
theorem own_d3_9 : decode prog_31_method_2_code 9 = .ok (.invokestatic 7, 3) := by decide +kernel
theorem own_d3_12 : decode prog_31_method_2_code 12 = .ok (.invokestatic 13, 3) := by decide +kernel
theorem own_d3_15 : decode prog_31_method_2_code 15 = .ok (.istore 8, 2) := by decide +kernel
theorem own_d3_17 : decode prog_31_method_2_code 17 = .ok (.iload 8, 2) := by decide +kernel
theorem own_d3_19 : decode prog_31_method_2_code 19 = .ok (.ifCond .eq 8, 3) := by decide +kernel
theorem own_d3_22 : decode prog_31_method_2_code 22 = .ok (.iload 8, 2) := by decide +kernel
theorem own_d3_24 : decode prog_31_method_2_code 24 = .ok (.goto 14, 3) := by decide +kernel
theorem own_d3_27 : decode prog_31_method_2_code 27 = .ok (.lload_n 0, 1) := by decide +kernel
theorem own_d3_28 : decode prog_31_method_2_code 28 = .ok (.lload_n 2, 1) := by decide +kernel
theorem own_d3_29 : decode prog_31_method_2_code 29 = .ok (.lmul, 1) := by decide +kernel
theorem own_d3_30 : decode prog_31_method_2_code 30 = .ok (.lload 4, 2) := by decide +kernel
theorem own_d3_32 : decode prog_31_method_2_code 32 = .ok (.lload 6, 2) := by decide +kernel
theorem own_d3_34 : decode prog_31_method_2_code 34 = .ok (.lmul, 1) := by decide +kernel
theorem own_d3_35 : decode prog_31_method_2_code 35 = .ok (.invokestatic 19, 3) := by decide +kernel
theorem own_d3_38 : decode prog_31_method_2_code 38 = .ok (.ireturn, 1) := by decide +kernel
theorem own_ef3 (m : MethodId) (q0 : Int64) (q1 : Int64) (q2 : Int64) (q3 : Int64) : entryFrame m #[(.long q0), (.long q1), (.long q2), (.long q3)] 9 = mkF m 0 #[oj q0, .second, oj q1, .second, oj q2, .second, oj q3, .second, .unset] [] := by first | (simp [entryFrame, mkF, argsToLocals, Value.category]; done) | rfl
def own_f3 (q0 : Int64) (q1 : Int64) (q2 : Int64) (q3 : Int64) : Int32 := (if (own_f5 (own_f4 q0 q1) (own_f4 q2 q3)) = (0 : Int32) then (own_f6 (q0 * q1) (q2 * q3)) else (own_f5 (own_f4 q0 q1) (own_f4 q2 q3)))
def own_Q3 (Z : State) (q0 : Int64) (q1 : Int64) (q2 : Int64) (q3 : Int64) (h0 : Heap) (n0 : Nat) (v : Option Value) (h : Heap) (L : List Loc) : Prop := v = some (Value.int (own_f3 q0 q1 q2 q3)) ∧ Fr n0 L ∧ h = h0
set_option maxRecDepth 65536 in
set_option maxHeartbeats 40000000 in
theorem own_rm3 (l : Launch) (Z : State) (av : Array Value) (hw : ∀ d ∈ tables_1, d.before av Z = true) (ws : List Jvm.Cond) (q0 : Int64) (q1 : Int64) (q2 : Int64) (q3 : Int64) (h0 : Heap) (n0 : Nat) (Z0 : n0 ≤ h0.size) :
    MetFree l (⟨"com/example/strict_anon/strictanon/util/Products", "compare", "(JJJJ)I"⟩ : MethodName) (head1 (Jvm.Cond.code (⟨"com/example/strict_anon/strictanon/util/Products", "compare", "(JJJJ)I"⟩ : MethodName) prog_31_method_2_code 9 (some .int) :: ws) ({ frames := 2, cells := 0, slots := 0, locals := 33 } : Room)) (fun a U => a = #[(.long q0), (.long q1), (.long q2), (.long q3)] ∧ Z.Warmed39 U.vm ∧ U.heap = h0) (fun _ _ _ _ _ => True) (fun _ U o U' => ∃ v L, o = .returned v ∧ own_Q3 Z q0 q1 q2 q3 h0 n0 v U'.heap L ∧ FrameEnd U o U' L ({ frames := 2, cells := 0, slots := 0, locals := 33 } : Room).cells ({ frames := 2, cells := 0, slots := 0, locals := 33 } : Room).slots) := by
  refine MetFree.of_bodySF (plainFor_of_name own_pn2) hisR ?_
  intro p e s m args below meth c s₁ Bd hml0 hP hK
  obtain ⟨rfl, hZ, hh⟩ := hP
  have hx := Bd.exec
  have hby := Bd.bytes
  have hml : c.maxLocals = 9 := hml0
  have hown : s.vm.findClass "com/example/strict_anon/strictanon/util/Products" = some m.cls := findClass_of_methodNamed Bd.named
  have hnm := (name_of_methodNamed Bd.named Bd.method).1
  have X0 : Stand p l e ({ frames := 2, cells := 0, slots := 0, locals := 33 } : Room) s m #[(.long q0), (.long q1), (.long q2), (.long q3)] below meth c s₁ [] 0 0 := Stand.of_body Bd
  have e0 : s₁.heap = h0 := by rw [← hh, Bd.state]; rfl
  have N0 := Fr.nil n0
  have pre0 : ∀ t, Steps p.tables e below (s₁.setTop (mkF m 0 #[oj q0, .second, oj q1, .second, oj q2, .second, oj q3, .second, .unset] [])) t → Steps p.tables e below (s₁.setTop (entryFrame m #[(.long q0), (.long q1), (.long q2), (.long q3)] 9)) t := fun t k => castTop (own_ef3 m q0 q1 q2 q3) k
  obtain ⟨_, _, ⟨T1, L1, k1, n1⟩, -, X1, ⟨Lc1, hQ1, l1, y1, z1⟩, st1⟩ := Jvm.LawKit.callS X0 hx (y := (⟨"java/lang/Math", "multiplyHigh", "(JJ)J"⟩ : MethodName)) hown (mvT hZ (hw _ (List.mem_of_getElem? (i := 14) rfl))) (mvT hZ (hw _ (List.mem_of_getElem? (i := 15) rfl))) (mvT hZ (hw _ (List.mem_of_getElem? (i := 16) rfl))) (mvT hZ (hw _ (List.mem_of_getElem? (i := 17) rfl))) (by decide) (backOf (W := 0) (own_rm4 l Z av hw [] q0 q1 h0 n0 Z0 ) hZ (hw _ (List.mem_of_getElem? (i := 17) rfl)) (hw _ (List.mem_of_getElem? (i := 16) rfl)) (by decide) (by decide)) (g := (mkF m 2 #[oj q0, .second, oj q1, .second, oj q2, .second, oj q3, .second, .unset] [(.long q1), (.long q0)])) rfl (by rw [hml]; rfl) (argsL := [(.long q0), (.long q1)]) (rest := []) (lenOf own_pd1 rfl) rfl (by show 2 * 0 + _ ≤ _; exact Nat.le_of_eq rfl) (hb hby own_d3_2) (fun _ _ => ⟨rfl, e0, (by decide : 0 + 0 ≤ _), (by decide : 0 + 0 ≤ _)⟩)
  dsimp only [Pt.U, Pt.locs, Pt.cells, Pt.slots] at X1 l1 y1 z1 st1 hQ1
  have yq1 : k1 = 0 := y1
  have zq1 : n1 = 0 := z1
  subst yq1 zq1
  obtain ⟨rfl, Nq1, eq1⟩ := hQ1
  have N1 : Fr n0 L1 := by rw [l1]; exact Fr.app N0 Nq1
  obtain ⟨_, _, ⟨T2, L2, k2, n2⟩, -, X2, ⟨Lc2, hQ2, l2, y2, z2⟩, st2⟩ := Jvm.LawKit.callS X1 hx (y := (⟨"java/lang/Math", "multiplyHigh", "(JJ)J"⟩ : MethodName)) hown (mvT hZ (hw _ (List.mem_of_getElem? (i := 14) rfl))) (mvT hZ (hw _ (List.mem_of_getElem? (i := 15) rfl))) (mvT hZ (hw _ (List.mem_of_getElem? (i := 16) rfl))) (mvT hZ (hw _ (List.mem_of_getElem? (i := 17) rfl))) (by decide) (backOf (W := 2) (own_rm4 l Z av hw [] q2 q3 h0 n0 Z0 ) hZ (hw _ (List.mem_of_getElem? (i := 17) rfl)) (hw _ (List.mem_of_getElem? (i := 16) rfl)) (by decide) (by decide)) (g := (mkF m 9 #[oj q0, .second, oj q1, .second, oj q2, .second, oj q3, .second, .unset] [(.long q3), (.long q2), (.long (own_f4 q0 q1))])) rfl (by rw [hml]; rfl) (argsL := [(.long q2), (.long q3)]) (rest := [(.long (own_f4 q0 q1))]) (lenOf own_pd1 rfl) rfl (by show 2 * 0 + _ ≤ _; exact Nat.le_of_eq rfl) (hb hby own_d3_9) (fun _ _ => ⟨rfl, eq1, (by decide : 0 + 0 ≤ _), (by decide : 0 + 0 ≤ _)⟩)
  dsimp only [Pt.U, Pt.locs, Pt.cells, Pt.slots] at X2 l2 y2 z2 st2 hQ2
  have yq2 : k2 = 0 := y2
  have zq2 : n2 = 0 := z2
  subst yq2 zq2
  obtain ⟨rfl, Nq2, eq2⟩ := hQ2
  have N2 : Fr n0 L2 := by rw [l2]; exact Fr.app N1 Nq2
  obtain ⟨_, _, ⟨T3, L3, k3, n3⟩, -, X3, ⟨Lc3, hQ3, l3, y3, z3⟩, st3⟩ := Jvm.LawKit.callS X2 hx (y := (⟨"java/lang/Long", "compare", "(JJ)I"⟩ : MethodName)) hown (mvT hZ (hw _ (List.mem_of_getElem? (i := 19) rfl))) (mvT hZ (hw _ (List.mem_of_getElem? (i := 20) rfl))) (mvT hZ (hw _ (List.mem_of_getElem? (i := 21) rfl))) (mvT hZ (hw _ (List.mem_of_getElem? (i := 22) rfl))) (by decide) (backOf (W := 0) (own_rm5 l Z av hw [] (own_f4 q0 q1) (own_f4 q2 q3) h0 n0 Z0 ) hZ (hw _ (List.mem_of_getElem? (i := 22) rfl)) (hw _ (List.mem_of_getElem? (i := 21) rfl)) (by decide) (by decide)) (g := (mkF m 12 #[oj q0, .second, oj q1, .second, oj q2, .second, oj q3, .second, .unset] [(.long (own_f4 q2 q3)), (.long (own_f4 q0 q1))])) rfl (by rw [hml]; rfl) (argsL := [(.long (own_f4 q0 q1)), (.long (own_f4 q2 q3))]) (rest := []) (lenOf own_pd0 rfl) rfl (by show 2 * 0 + _ ≤ _; exact Nat.le_of_eq rfl) (hb hby own_d3_12) (fun _ _ => ⟨rfl, eq2, (by decide : 0 + 0 ≤ _), (by decide : 0 + 0 ≤ _)⟩)
  dsimp only [Pt.U, Pt.locs, Pt.cells, Pt.slots] at X3 l3 y3 z3 st3 hQ3
  have yq3 : k3 = 0 := y3
  have zq3 : n3 = 0 := z3
  subst yq3 zq3
  obtain ⟨rfl, Nq3, eq3⟩ := hQ3
  have N3 : Fr n0 L3 := by rw [l3]; exact Fr.app N2 Nq3
  have pre4 : ∀ t, Steps p.tables e below (T3.setTop (mkF m 19 #[oj q0, .second, oj q1, .second, oj q2, .second, oj q3, .second, oi (own_f5 (own_f4 q0 q1) (own_f4 q2 q3))] [(.int (own_f5 (own_f4 q0 q1) (own_f4 q2 q3)))])) t → Steps p.tables e below (s₁.setTop (entryFrame m #[(.long q0), (.long q1), (.long q2), (.long q3)] 9)) t := by
    intro t k
    refine pre0 t ?_
    show oS p e below s₁ m 0 #[oj q0, .second, oj q1, .second, oj q2, .second, oj q3, .second, .unset] [] _
    refine XS.lloadN X0.here hx rfl (hb hby own_d3_0) rfl ?_
    show oS p e below s₁ m 1 #[oj q0, .second, oj q1, .second, oj q2, .second, oj q3, .second, .unset] [(.long q0)] _
    refine XS.lloadN X0.here hx rfl (hb hby own_d3_1) rfl ?_
    show oS p e below s₁ m 2 #[oj q0, .second, oj q1, .second, oj q2, .second, oj q3, .second, .unset] [(.long q1), (.long q0)] _
    refine st1 _ ?_
    show oS p e below T1 m 5 #[oj q0, .second, oj q1, .second, oj q2, .second, oj q3, .second, .unset] [(.long (own_f4 q0 q1))] _
    refine XS.lload X1.here hx rfl (hb hby own_d3_5) rfl ?_
    show oS p e below T1 m 7 #[oj q0, .second, oj q1, .second, oj q2, .second, oj q3, .second, .unset] [(.long q2), (.long (own_f4 q0 q1))] _
    refine XS.lload X1.here hx rfl (hb hby own_d3_7) rfl ?_
    show oS p e below T1 m 9 #[oj q0, .second, oj q1, .second, oj q2, .second, oj q3, .second, .unset] [(.long q3), (.long q2), (.long (own_f4 q0 q1))] _
    refine st2 _ ?_
    show oS p e below T2 m 12 #[oj q0, .second, oj q1, .second, oj q2, .second, oj q3, .second, .unset] [(.long (own_f4 q2 q3)), (.long (own_f4 q0 q1))] _
    refine st3 _ ?_
    show oS p e below T3 m 15 #[oj q0, .second, oj q1, .second, oj q2, .second, oj q3, .second, .unset] [(.int (own_f5 (own_f4 q0 q1) (own_f4 q2 q3)))] _
    refine XS.istore X3.here hx rfl (hb hby own_d3_15) rfl (l' := #[oj q0, .second, oj q1, .second, oj q2, .second, oj q3, .second, oi (own_f5 (own_f4 q0 q1) (own_f4 q2 q3))]) rfl ?_
    show oS p e below T3 m 17 #[oj q0, .second, oj q1, .second, oj q2, .second, oj q3, .second, oi (own_f5 (own_f4 q0 q1) (own_f4 q2 q3))] [] _
    refine XS.iload X3.here hx rfl (hb hby own_d3_17) rfl ?_
    exact k
  by_cases c5 : (own_f5 (own_f4 q0 q1) (own_f4 q2 q3)) = (0 : Int32)
  · skip
    obtain ⟨_, _, ⟨T6, L6, k6, n6⟩, -, X6, ⟨Lc6, hQ6, l6, y6, z6⟩, st6⟩ := Jvm.LawKit.callS X3 hx (y := (⟨"java/lang/Long", "compareUnsigned", "(JJ)I"⟩ : MethodName)) hown (mvT hZ (hw _ (List.mem_of_getElem? (i := 23) rfl))) (mvT hZ (hw _ (List.mem_of_getElem? (i := 24) rfl))) (mvT hZ (hw _ (List.mem_of_getElem? (i := 21) rfl))) (mvT hZ (hw _ (List.mem_of_getElem? (i := 25) rfl))) (by decide) (backOf (W := 0) (own_rm6 l Z av hw [] (q0 * q1) (q2 * q3) h0 n0 Z0 ) hZ (hw _ (List.mem_of_getElem? (i := 25) rfl)) (hw _ (List.mem_of_getElem? (i := 21) rfl)) (by decide) (by decide)) (g := (mkF m 35 #[oj q0, .second, oj q1, .second, oj q2, .second, oj q3, .second, oi (own_f5 (own_f4 q0 q1) (own_f4 q2 q3))] [(.long (q2 * q3)), (.long (q0 * q1))])) rfl (by rw [hml]; rfl) (argsL := [(.long (q0 * q1)), (.long (q2 * q3))]) (rest := []) (lenOf own_pd0 rfl) rfl (by show 2 * 0 + _ ≤ _; exact Nat.le_of_eq rfl) (hb hby own_d3_35) (fun _ _ => ⟨rfl, eq3, (by decide : 0 + 0 ≤ _), (by decide : 0 + 0 ≤ _)⟩)
    dsimp only [Pt.U, Pt.locs, Pt.cells, Pt.slots] at X6 l6 y6 z6 st6 hQ6
    have yq6 : k6 = 0 := y6
    have zq6 : n6 = 0 := z6
    subst yq6 zq6
    obtain ⟨rfl, Nq6, eq6⟩ := hQ6
    have N6 : Fr n0 L6 := by rw [l6]; exact Fr.app N3 Nq6
    obtain ⟨fs, hr, hrun, hended, hW, hsame⟩ := X6.leave (v := (some (.int (own_f6 (q0 * q1) (q2 * q3))))) (fun h => by rw [Bd.returns] at h; cases h) (hlocks := by first | exact BodyLoose.notSynchronized Bd | exact Body.notSynchronized Bd)
    refine ⟨_, _, pre4 _ ?_, hrun, hended, _, _, rfl, ?_, ⟨_, rfl⟩, hW, hsame.mono (by decide) (by decide)⟩
    · show oS p e below T3 m 19 #[oj q0, .second, oj q1, .second, oj q2, .second, oj q3, .second, oi (own_f5 (own_f4 q0 q1) (own_f4 q2 q3))] [(.int (own_f5 (own_f4 q0 q1) (own_f4 q2 q3)))] _
      refine XS.ifYes X3.here hx rfl (pc0 := 19) (pc' := 27) rfl (hb hby own_d3_19) rfl ((if0 _ _).trans (teq c5).1) (by decide) (by decide) ?_
      show oS p e below T3 m 27 #[oj q0, .second, oj q1, .second, oj q2, .second, oj q3, .second, oi (own_f5 (own_f4 q0 q1) (own_f4 q2 q3))] [] _
      refine XS.lloadN X3.here hx rfl (hb hby own_d3_27) rfl ?_
      show oS p e below T3 m 28 #[oj q0, .second, oj q1, .second, oj q2, .second, oj q3, .second, oi (own_f5 (own_f4 q0 q1) (own_f4 q2 q3))] [(.long q0)] _
      refine XS.lloadN X3.here hx rfl (hb hby own_d3_28) rfl ?_
      show oS p e below T3 m 29 #[oj q0, .second, oj q1, .second, oj q2, .second, oj q3, .second, oi (own_f5 (own_f4 q0 q1) (own_f4 q2 q3))] [(.long q1), (.long q0)] _
      refine XS.lmul X3.here hx rfl (hb hby own_d3_29) rfl ?_
      show oS p e below T3 m 30 #[oj q0, .second, oj q1, .second, oj q2, .second, oj q3, .second, oi (own_f5 (own_f4 q0 q1) (own_f4 q2 q3))] [(.long (q0 * q1))] _
      refine XS.lload X3.here hx rfl (hb hby own_d3_30) rfl ?_
      show oS p e below T3 m 32 #[oj q0, .second, oj q1, .second, oj q2, .second, oj q3, .second, oi (own_f5 (own_f4 q0 q1) (own_f4 q2 q3))] [(.long q2), (.long (q0 * q1))] _
      refine XS.lload X3.here hx rfl (hb hby own_d3_32) rfl ?_
      show oS p e below T3 m 34 #[oj q0, .second, oj q1, .second, oj q2, .second, oj q3, .second, oi (own_f5 (own_f4 q0 q1) (own_f4 q2 q3))] [(.long q3), (.long q2), (.long (q0 * q1))] _
      refine XS.lmul X3.here hx rfl (hb hby own_d3_34) rfl ?_
      show oS p e below T3 m 35 #[oj q0, .second, oj q1, .second, oj q2, .second, oj q3, .second, oi (own_f5 (own_f4 q0 q1) (own_f4 q2 q3))] [(.long (q2 * q3)), (.long (q0 * q1))] _
      refine st6 _ ?_
      show oS p e below T6 m 38 #[oj q0, .second, oj q1, .second, oj q2, .second, oj q3, .second, oi (own_f5 (own_f4 q0 q1) (own_f4 q2 q3))] [(.int (own_f6 (q0 * q1) (q2 * q3)))] _
      exact retOut X6 hx Bd.returns rfl (Or.inl ⟨rfl, Or.inl rfl, _, rfl⟩) (hb hby own_d3_38) hr
    · show own_Q3 Z q0 q1 q2 q3 h0 n0 _ T6.heap _
      rw [eq6]
      exact ⟨congrArg (fun z => some (Value.int z)) (by rw [own_f3, if_pos c5]), N6, rfl⟩
  · skip
    obtain ⟨fs, hr, hrun, hended, hW, hsame⟩ := X3.leave (v := (some (.int (own_f5 (own_f4 q0 q1) (own_f4 q2 q3))))) (fun h => by rw [Bd.returns] at h; cases h) (hlocks := by first | exact BodyLoose.notSynchronized Bd | exact Body.notSynchronized Bd)
    refine ⟨_, _, pre4 _ ?_, hrun, hended, _, _, rfl, ?_, ⟨_, rfl⟩, hW, hsame.mono (by decide) (by decide)⟩
    · show oS p e below T3 m 19 #[oj q0, .second, oj q1, .second, oj q2, .second, oj q3, .second, oi (own_f5 (own_f4 q0 q1) (own_f4 q2 q3))] [(.int (own_f5 (own_f4 q0 q1) (own_f4 q2 q3)))] _
      refine XS.ifNo X3.here hx rfl (hb hby own_d3_19) rfl ((if0 _ _).trans (feq c5).1) ?_
      show oS p e below T3 m 22 #[oj q0, .second, oj q1, .second, oj q2, .second, oj q3, .second, oi (own_f5 (own_f4 q0 q1) (own_f4 q2 q3))] [] _
      refine XS.iload X3.here hx rfl (hb hby own_d3_22) rfl ?_
      show oS p e below T3 m 24 #[oj q0, .second, oj q1, .second, oj q2, .second, oj q3, .second, oi (own_f5 (own_f4 q0 q1) (own_f4 q2 q3))] [(.int (own_f5 (own_f4 q0 q1) (own_f4 q2 q3)))] _
      refine XS.goto X3.here hx rfl (pc0 := 24) (pc' := 38) rfl (hb hby own_d3_24) (by decide) (by decide) ?_
      show oS p e below T3 m 38 #[oj q0, .second, oj q1, .second, oj q2, .second, oj q3, .second, oi (own_f5 (own_f4 q0 q1) (own_f4 q2 q3))] [(.int (own_f5 (own_f4 q0 q1) (own_f4 q2 q3)))] _
      exact retOut X3 hx Bd.returns rfl (Or.inl ⟨rfl, Or.inl rfl, _, rfl⟩) (hb hby own_d3_38) hr
    · show own_Q3 Z q0 q1 q2 q3 h0 n0 _ T3.heap _
      rw [eq3]
      exact ⟨congrArg (fun z => some (Value.int z)) (by rw [own_f3, if_neg c5]), N3, rfl⟩
theorem own_d7_0 : decode method_4_code 0 = .ok (.iload_n 0, 1) := by decide +kernel
theorem own_d7_1 : decode method_4_code 1 = .ok (.ifCond .ge 5, 3) := by decide +kernel
theorem own_d7_4 : decode method_4_code 4 = .ok (.iconst (-1), 1) := by decide +kernel
theorem own_d7_5 : decode method_4_code 5 = .ok (.ireturn, 1) := by decide +kernel
theorem own_d7_6 : decode method_4_code 6 = .ok (.iload_n 0, 1) := by decide +kernel
theorem own_d7_7 : decode method_4_code 7 = .ok (.ifCond .le 5, 3) := by decide +kernel
theorem own_d7_10 : decode method_4_code 10 = .ok (.iconst 1, 1) := by decide +kernel
theorem own_d7_11 : decode method_4_code 11 = .ok (.ireturn, 1) := by decide +kernel
theorem own_d7_12 : decode method_4_code 12 = .ok (.iconst 0, 1) := by decide +kernel
theorem own_d7_13 : decode method_4_code 13 = .ok (.ireturn, 1) := by decide +kernel
theorem own_ef7 (m : MethodId) (p0 : Int32) : entryFrame m #[(.int p0)] 1 = mkF m 0 #[oi p0] [] := by first | (simp [entryFrame, mkF, argsToLocals, Value.category]; done) | rfl
def own_f7 (p0 : Int32) : Int32 := (if p0 < (0 : Int32) then (-1 : Int32) else (if (0 : Int32) < p0 then (1 : Int32) else (0 : Int32)))
def own_Q7 (Z : State) (p0 : Int32) (h0 : Heap) (n0 : Nat) (v : Option Value) (h : Heap) (L : List Loc) : Prop := v = some (Value.int (own_f7 p0)) ∧ Fr n0 L ∧ h = h0
set_option maxRecDepth 65536 in
set_option maxHeartbeats 40000000 in
theorem own_rm7 (l : Launch) (Z : State) (av : Array Value) (hw : ∀ d ∈ tables_1, d.before av Z = true) (ws : List Jvm.Cond) (p0 : Int32) (h0 : Heap) (n0 : Nat) (Z0 : n0 ≤ h0.size) :
    MetFree l (⟨"com/example/strict_anon/strictanon/util/ProductsComparePinLaw", "sign", "(I)I"⟩ : MethodName) (head1 (Jvm.Cond.code (⟨"com/example/strict_anon/strictanon/util/ProductsComparePinLaw", "sign", "(I)I"⟩ : MethodName) method_4_code 1 (some .int) :: ws) ({ frames := 0, cells := 0, slots := 0, locals := 0 } : Room)) (fun a U => a = #[(.int p0)] ∧ Z.Warmed39 U.vm ∧ U.heap = h0) (fun _ _ _ _ _ => True) (fun _ U o U' => ∃ v L, o = .returned v ∧ own_Q7 Z p0 h0 n0 v U'.heap L ∧ FrameEnd U o U' L ({ frames := 0, cells := 0, slots := 0, locals := 0 } : Room).cells ({ frames := 0, cells := 0, slots := 0, locals := 0 } : Room).slots) := by
  refine MetFree.of_bodySF (plainFor_of_name own_pn0) hisR ?_
  intro p e s m args below meth c s₁ Bd hml0 hP hK
  obtain ⟨rfl, hZ, hh⟩ := hP
  have hx := Bd.exec
  have hby := Bd.bytes
  have hml : c.maxLocals = 1 := hml0
  have hown : s.vm.findClass "com/example/strict_anon/strictanon/util/ProductsComparePinLaw" = some m.cls := findClass_of_methodNamed Bd.named
  have hnm := (name_of_methodNamed Bd.named Bd.method).1
  have X0 : Stand p l e ({ frames := 0, cells := 0, slots := 0, locals := 0 } : Room) s m #[(.int p0)] below meth c s₁ [] 0 0 := Stand.of_body Bd
  have e0 : s₁.heap = h0 := by rw [← hh, Bd.state]; rfl
  have N0 := Fr.nil n0
  have pre0 : ∀ t, Steps p.tables e below (s₁.setTop (mkF m 0 #[oi p0] [])) t → Steps p.tables e below (s₁.setTop (entryFrame m #[(.int p0)] 1)) t := fun t k => castTop (own_ef7 m p0) k
  have pre1 : ∀ t, Steps p.tables e below (s₁.setTop (mkF m 1 #[oi p0] [(.int p0)])) t → Steps p.tables e below (s₁.setTop (entryFrame m #[(.int p0)] 1)) t := by
    intro t k
    refine pre0 t ?_
    show oS p e below s₁ m 0 #[oi p0] [] _
    refine XS.iloadN X0.here hx rfl (hb hby own_d7_0) rfl ?_
    exact k
  by_cases c2 : p0 < (0 : Int32)
  · skip
    obtain ⟨fs, hr, hrun, hended, hW, hsame⟩ := X0.leave (v := (some (.int (-1 : Int32)))) (fun h => by rw [Bd.returns] at h; cases h) (hlocks := by first | exact BodyLoose.notSynchronized Bd | exact Body.notSynchronized Bd)
    refine ⟨_, _, pre1 _ ?_, hrun, hended, _, _, rfl, ?_, ⟨_, rfl⟩, hW, hsame.mono (by decide) (by decide)⟩
    · show oS p e below s₁ m 1 #[oi p0] [(.int p0)] _
      refine XS.ifNo X0.here hx rfl (hb hby own_d7_1) rfl ((if0 _ _).trans (tlt c2).2.1) ?_
      show oS p e below s₁ m 4 #[oi p0] [] _
      refine XS.iconst X0.here hx rfl (hb hby own_d7_4) ?_
      show oS p e below s₁ m 5 #[oi p0] [(.int (-1 : Int32))] _
      exact retOut X0 hx Bd.returns rfl (Or.inl ⟨rfl, Or.inl rfl, _, rfl⟩) (hb hby own_d7_5) hr
    · show own_Q7 Z p0 h0 n0 _ s₁.heap _
      rw [e0]
      exact ⟨congrArg (fun z => some (Value.int z)) (by rw [own_f7, if_pos c2]), N0, rfl⟩
  · skip
    have pre3 : ∀ t, Steps p.tables e below (s₁.setTop (mkF m 7 #[oi p0] [(.int p0)])) t → Steps p.tables e below (s₁.setTop (entryFrame m #[(.int p0)] 1)) t := by
      intro t k
      refine pre1 t ?_
      show oS p e below s₁ m 1 #[oi p0] [(.int p0)] _
      refine XS.ifYes X0.here hx rfl (pc0 := 1) (pc' := 6) rfl (hb hby own_d7_1) rfl ((if0 _ _).trans (flt c2).2.1) (by decide) (by decide) ?_
      show oS p e below s₁ m 6 #[oi p0] [] _
      refine XS.iloadN X0.here hx rfl (hb hby own_d7_6) rfl ?_
      exact k
    by_cases c4 : (0 : Int32) < p0
    · skip
      obtain ⟨fs, hr, hrun, hended, hW, hsame⟩ := X0.leave (v := (some (.int (1 : Int32)))) (fun h => by rw [Bd.returns] at h; cases h) (hlocks := by first | exact BodyLoose.notSynchronized Bd | exact Body.notSynchronized Bd)
      refine ⟨_, _, pre3 _ ?_, hrun, hended, _, _, rfl, ?_, ⟨_, rfl⟩, hW, hsame.mono (by decide) (by decide)⟩
      · show oS p e below s₁ m 7 #[oi p0] [(.int p0)] _
        refine XS.ifNo X0.here hx rfl (hb hby own_d7_7) rfl ((if0 _ _).trans (tlt c4).2.2.2) ?_
        show oS p e below s₁ m 10 #[oi p0] [] _
        refine XS.iconst X0.here hx rfl (hb hby own_d7_10) ?_
        show oS p e below s₁ m 11 #[oi p0] [(.int (1 : Int32))] _
        exact retOut X0 hx Bd.returns rfl (Or.inl ⟨rfl, Or.inl rfl, _, rfl⟩) (hb hby own_d7_11) hr
      · show own_Q7 Z p0 h0 n0 _ s₁.heap _
        rw [e0]
        exact ⟨congrArg (fun z => some (Value.int z)) (by rw [own_f7, if_neg c2, if_pos c4]), N0, rfl⟩
    · skip
      obtain ⟨fs, hr, hrun, hended, hW, hsame⟩ := X0.leave (v := (some (.int (0 : Int32)))) (fun h => by rw [Bd.returns] at h; cases h) (hlocks := by first | exact BodyLoose.notSynchronized Bd | exact Body.notSynchronized Bd)
      refine ⟨_, _, pre3 _ ?_, hrun, hended, _, _, rfl, ?_, ⟨_, rfl⟩, hW, hsame.mono (by decide) (by decide)⟩
      · show oS p e below s₁ m 7 #[oi p0] [(.int p0)] _
        refine XS.ifYes X0.here hx rfl (pc0 := 7) (pc' := 12) rfl (hb hby own_d7_7) rfl ((if0 _ _).trans (flt c4).2.2.2) (by decide) (by decide) ?_
        show oS p e below s₁ m 12 #[oi p0] [] _
        refine XS.iconst X0.here hx rfl (hb hby own_d7_12) ?_
        show oS p e below s₁ m 13 #[oi p0] [(.int (0 : Int32))] _
        exact retOut X0 hx Bd.returns rfl (Or.inl ⟨rfl, Or.inl rfl, _, rfl⟩) (hb hby own_d7_13) hr
      · show own_Q7 Z p0 h0 n0 _ s₁.heap _
        rw [e0]
        exact ⟨congrArg (fun z => some (Value.int z)) (by rw [own_f7, if_neg c2, if_neg c4]), N0, rfl⟩
theorem own_expand (x y z w K : Int) : (x * K + y) * (z * K + w) = (x * z) * (K * K) + (x * w + y * z) * K + y * w := by
  rw [Int.add_mul, Int.mul_add, Int.mul_add, Int.add_mul]
  have h1 : x * K * (z * K) = x * z * (K * K) := by ac_rfl
  have h2 : x * K * w = x * w * K := by ac_rfl
  have h3 : y * (z * K) = y * z * K := by ac_rfl
  rw [h1, h2, h3]
  omega

theorem own_bd {ah al bh bl : Int} (rah : 0 ≤ ah ∧ ah ≤ 2147483647) (rbh : 0 ≤ bh ∧ bh ≤ 2147483647) (ral : 0 ≤ al ∧ al ≤ 4294967295) (rbl : 0 ≤ bl ∧ bl ≤ 4294967295) : 0 ≤ ah * bh ∧ ah * bh ≤ 4611686014132420609 ∧ 0 ≤ ah * bl ∧ ah * bl ≤ 9223372030412324865 ∧ 0 ≤ al * bh ∧ al * bh ≤ 9223372030412324865 ∧ 0 ≤ al * bl ∧ al * bl ≤ 18446744065119617025 :=
  ⟨Int.mul_nonneg rah.1 rbh.1, Int.le_trans (Int.mul_le_mul rah.2 rbh.2 rbh.1 (by decide)) (by decide), Int.mul_nonneg rah.1 rbl.1, Int.le_trans (Int.mul_le_mul rah.2 rbl.2 rbl.1 (by decide)) (by decide), Int.mul_nonneg ral.1 rbh.1, Int.le_trans (Int.mul_le_mul ral.2 rbh.2 rbh.1 (by decide)) (by decide), Int.mul_nonneg ral.1 rbl.1, Int.le_trans (Int.mul_le_mul ral.2 rbl.2 rbl.1 (by decide)) (by decide)⟩
theorem own_e1 {t q : Int} (h : (t - q) % 18446744073709551616 = 0) (h0 : 0 ≤ q) (h1 : q < 18446744073709551616) : t % 18446744073709551616 = q := by omega
theorem own_e2 {t q : Int} (h : (t - q) % 18446744073709551616 = 0) (h0 : 0 ≤ q) (h1 : q < 9223372036854775808) (r : -9223372036854775808 ≤ t ∧ t < 9223372036854775808) : t = q := by omega
theorem own_e3 {m s t x y z : Int} (h5 : (s - (x + y)) % 18446744073709551616 = 0) (h7 : (m - (s + t)) % 18446744073709551616 = 0) (ht : t = z) (h0 : 0 ≤ x + y + z) (h1 : x + y + z < 18446744073709551616) : m % 18446744073709551616 = x + y + z := by
  subst ht; omega
theorem own_g0 {S1 S2 T : Int} (h2 : 0 ≤ S1) (h2' : S1 ≤ 9223372030412324865) (h3 : 0 ≤ S2) (h3' : S2 ≤ 9223372030412324865) (h4 : 0 ≤ T) (h4' : T ≤ 18446744065119617025) : 0 ≤ S1 + S2 + T / 4294967296 ∧ S1 + S2 + T / 4294967296 < 18446744073709551616 := by omega
theorem own_g1 {S T : Int} (h2 : 0 ≤ S) (h2' : S ≤ 9223372030412324865) (h4 : 0 ≤ T) (h4' : T ≤ 18446744065119617025) : 0 ≤ S + T / 4294967296 ∧ S + T / 4294967296 < 9223372036854775808 := by omega
theorem own_g2 {t S : Int} (h2 : 0 ≤ S) (h2' : S ≤ 9223372030412324865) : 0 ≤ t % 4294967296 + S ∧ t % 4294967296 + S < 9223372036854775808 := by omega
theorem own_g3 {H t : Int} (h1 : 0 ≤ H) (h1' : H ≤ 4611686014132420609) (k : 0 ≤ t ∧ t < 9223372036854775808) : 0 ≤ H + t / 4294967296 ∧ H + t / 4294967296 ≤ 4611686016279904256 := by omega
theorem own_g4 {f z : Int} (h1 : 0 ≤ f ∧ f ≤ 4611686016279904256) (k : 0 ≤ z ∧ z < 9223372036854775808) : 0 ≤ f + z / 4294967296 ∧ f + z / 4294967296 < 9223372036854775808 := by omega
theorem own_g5 {H m : Int} (h1 : 0 ≤ H) (h1' : H ≤ 4611686014132420609) (k : 0 ≤ m ∧ m < 18446744073709551616) : 0 ≤ H + m / 4294967296 ∧ H + m / 4294967296 < 9223372036854775808 := by omega
theorem own_i0 (H S1 S2 T : Int) : H + (S1 + S2 + T / 4294967296) / 4294967296 = (H * (4294967296 * 4294967296) + (S1 + S2) * 4294967296 + T) / 18446744073709551616 := by omega
theorem own_i1 {m : Int} (H S1 S2 T : Int) (h : m % 18446744073709551616 = S1 + S2 + T / 4294967296) : m % 4294967296 = (H * (4294967296 * 4294967296) + (S1 + S2) * 4294967296 + T) / 4294967296 % 4294967296 := by
  have e : m % 4294967296 = m % 18446744073709551616 % 4294967296 := by clear h; omega
  rw [e, h]; clear e h; omega
theorem own_i2 {t : Int} (H S1 S2 T : Int) (h : t % 18446744073709551616 = T) : t % 4294967296 = (H * (4294967296 * 4294967296) + (S1 + S2) * 4294967296 + T) % 4294967296 := by
  have e : t % 4294967296 = t % 18446744073709551616 % 4294967296 := by clear h; omega
  rw [e, h]; clear e h; omega
theorem own_i3 (H S1 S2 T : Int) : H + (S1 + T / 4294967296) / 4294967296 + ((S1 + T / 4294967296) % 4294967296 + S2) / 4294967296 = (H * (4294967296 * 4294967296) + (S1 + S2) * 4294967296 + T) / 18446744073709551616 := by omega
theorem own_l0 {a b : Int64} {ah al bh bl : Int} (kah : ((a.toUInt64 >>> ((32 : Int32) &&& 0x3f).toInt64.toUInt64).toInt64).toInt = ah) (kbh : ((b.toUInt64 >>> ((32 : Int32) &&& 0x3f).toInt64.toUInt64).toInt64).toInt = bh) (kal : (a &&& (4294967295 : Int64)).toInt = al) (kbl : (b &&& (4294967295 : Int64)).toInt = bl) (rah : 0 ≤ ah ∧ ah ≤ 2147483647) (rbh : 0 ≤ bh ∧ bh ≤ 2147483647) (ral : 0 ≤ al ∧ al ≤ 4294967295) (rbl : 0 ≤ bl ∧ bl ≤ 4294967295) : (own_x0 a b).toInt = ((ah * bh) * (4294967296 * 4294967296) + (ah * bl + al * bh) * 4294967296 + al * bl) / 18446744073709551616 := by
  obtain ⟨b1, b1', b2, b2', b3, b3', b4, b4'⟩ := own_bd rah rbh ral rbl
  have p1 := c_lmul (a &&& (4294967295 : Int64)) (b &&& (4294967295 : Int64))
  rw [kal, kbl] at p1
  have q0 := own_e1 p1 b4 (Int.lt_of_le_of_lt b4' (by decide))
  have p2 := c_lmul ((a.toUInt64 >>> ((32 : Int32) &&& 0x3f).toInt64.toUInt64).toInt64) (b &&& (4294967295 : Int64))
  rw [kah, kbl] at p2
  have q2 := own_e2 p2 b2 (Int.lt_of_le_of_lt b2' (by decide)) (rng64 _)
  have p3 := c_lmul (a &&& (4294967295 : Int64)) ((b.toUInt64 >>> ((32 : Int32) &&& 0x3f).toInt64.toUInt64).toInt64)
  rw [kal, kbh] at p3
  have q3 := own_e2 p3 b3 (Int.lt_of_le_of_lt b3' (by decide)) (rng64 _)
  have p5 := c_ladd (((a.toUInt64 >>> ((32 : Int32) &&& 0x3f).toInt64.toUInt64).toInt64) * (b &&& (4294967295 : Int64))) ((a &&& (4294967295 : Int64)) * ((b.toUInt64 >>> ((32 : Int32) &&& 0x3f).toInt64.toUInt64).toInt64))
  rw [q2, q3] at p5
  have p6 : (((((a &&& (4294967295 : Int64)) * (b &&& (4294967295 : Int64))).toUInt64 >>> ((32 : Int32) &&& 0x3f).toInt64.toUInt64).toInt64)).toInt = ((((a &&& (4294967295 : Int64)) * (b &&& (4294967295 : Int64)))).toInt % 18446744073709551616) / 4294967296 := c_lushr ((a &&& (4294967295 : Int64)) * (b &&& (4294967295 : Int64))) 32 32 (by decide) (by decide)
  rw [q0] at p6
  have p7 := c_ladd ((((a.toUInt64 >>> ((32 : Int32) &&& 0x3f).toInt64.toUInt64).toInt64) * (b &&& (4294967295 : Int64))) + ((a &&& (4294967295 : Int64)) * ((b.toUInt64 >>> ((32 : Int32) &&& 0x3f).toInt64.toUInt64).toInt64))) ((((a &&& (4294967295 : Int64)) * (b &&& (4294967295 : Int64))).toUInt64 >>> ((32 : Int32) &&& 0x3f).toInt64.toUInt64).toInt64)
  have g0 := own_g0 b2 b2' b3 b3' b4 b4'
  have q7 := own_e3 p5 p7 p6 g0.1 g0.2
  have p4 := c_lmul ((a.toUInt64 >>> ((32 : Int32) &&& 0x3f).toInt64.toUInt64).toInt64) ((b.toUInt64 >>> ((32 : Int32) &&& 0x3f).toInt64.toUInt64).toInt64)
  rw [kah, kbh] at p4
  have q4 := own_e2 p4 b1 (Int.lt_of_le_of_lt b1' (by decide)) (rng64 _)
  have p8 : ((((((((a.toUInt64 >>> ((32 : Int32) &&& 0x3f).toInt64.toUInt64).toInt64) * (b &&& (4294967295 : Int64))) + ((a &&& (4294967295 : Int64)) * ((b.toUInt64 >>> ((32 : Int32) &&& 0x3f).toInt64.toUInt64).toInt64))) + ((((a &&& (4294967295 : Int64)) * (b &&& (4294967295 : Int64))).toUInt64 >>> ((32 : Int32) &&& 0x3f).toInt64.toUInt64).toInt64)).toUInt64 >>> ((32 : Int32) &&& 0x3f).toInt64.toUInt64).toInt64)).toInt = (((((((a.toUInt64 >>> ((32 : Int32) &&& 0x3f).toInt64.toUInt64).toInt64) * (b &&& (4294967295 : Int64))) + ((a &&& (4294967295 : Int64)) * ((b.toUInt64 >>> ((32 : Int32) &&& 0x3f).toInt64.toUInt64).toInt64))) + ((((a &&& (4294967295 : Int64)) * (b &&& (4294967295 : Int64))).toUInt64 >>> ((32 : Int32) &&& 0x3f).toInt64.toUInt64).toInt64))).toInt % 18446744073709551616) / 4294967296 := c_lushr (((((a.toUInt64 >>> ((32 : Int32) &&& 0x3f).toInt64.toUInt64).toInt64) * (b &&& (4294967295 : Int64))) + ((a &&& (4294967295 : Int64)) * ((b.toUInt64 >>> ((32 : Int32) &&& 0x3f).toInt64.toUInt64).toInt64))) + ((((a &&& (4294967295 : Int64)) * (b &&& (4294967295 : Int64))).toUInt64 >>> ((32 : Int32) &&& 0x3f).toInt64.toUInt64).toInt64)) 32 32 (by decide) (by decide)
  rw [q7] at p8
  have p11 := c_ladd (((a.toUInt64 >>> ((32 : Int32) &&& 0x3f).toInt64.toUInt64).toInt64) * ((b.toUInt64 >>> ((32 : Int32) &&& 0x3f).toInt64.toUInt64).toInt64)) (((((((a.toUInt64 >>> ((32 : Int32) &&& 0x3f).toInt64.toUInt64).toInt64) * (b &&& (4294967295 : Int64))) + ((a &&& (4294967295 : Int64)) * ((b.toUInt64 >>> ((32 : Int32) &&& 0x3f).toInt64.toUInt64).toInt64))) + ((((a &&& (4294967295 : Int64)) * (b &&& (4294967295 : Int64))).toUInt64 >>> ((32 : Int32) &&& 0x3f).toInt64.toUInt64).toInt64)).toUInt64 >>> ((32 : Int32) &&& 0x3f).toInt64.toUInt64).toInt64)
  rw [q4, p8] at p11
  have g5 := own_g5 b1 b1' g0
  exact (own_e2 p11 g5.1 g5.2 (rng64 _)).trans (own_i0 _ _ _ _)
theorem own_l1 {a b : Int64} {ah al bh bl : Int} (kah : ((a.toUInt64 >>> ((32 : Int32) &&& 0x3f).toInt64.toUInt64).toInt64).toInt = ah) (kbh : ((b.toUInt64 >>> ((32 : Int32) &&& 0x3f).toInt64.toUInt64).toInt64).toInt = bh) (kal : (a &&& (4294967295 : Int64)).toInt = al) (kbl : (b &&& (4294967295 : Int64)).toInt = bl) (rah : 0 ≤ ah ∧ ah ≤ 2147483647) (rbh : 0 ≤ bh ∧ bh ≤ 2147483647) (ral : 0 ≤ al ∧ al ≤ 4294967295) (rbl : 0 ≤ bl ∧ bl ≤ 4294967295) : (own_x1 a b).toInt = ((ah * bh) * (4294967296 * 4294967296) + (ah * bl + al * bh) * 4294967296 + al * bl) / 4294967296 % 4294967296 := by
  obtain ⟨b1, b1', b2, b2', b3, b3', b4, b4'⟩ := own_bd rah rbh ral rbl
  have p1 := c_lmul (a &&& (4294967295 : Int64)) (b &&& (4294967295 : Int64))
  rw [kal, kbl] at p1
  have q0 := own_e1 p1 b4 (Int.lt_of_le_of_lt b4' (by decide))
  have p2 := c_lmul ((a.toUInt64 >>> ((32 : Int32) &&& 0x3f).toInt64.toUInt64).toInt64) (b &&& (4294967295 : Int64))
  rw [kah, kbl] at p2
  have q2 := own_e2 p2 b2 (Int.lt_of_le_of_lt b2' (by decide)) (rng64 _)
  have p3 := c_lmul (a &&& (4294967295 : Int64)) ((b.toUInt64 >>> ((32 : Int32) &&& 0x3f).toInt64.toUInt64).toInt64)
  rw [kal, kbh] at p3
  have q3 := own_e2 p3 b3 (Int.lt_of_le_of_lt b3' (by decide)) (rng64 _)
  have p5 := c_ladd (((a.toUInt64 >>> ((32 : Int32) &&& 0x3f).toInt64.toUInt64).toInt64) * (b &&& (4294967295 : Int64))) ((a &&& (4294967295 : Int64)) * ((b.toUInt64 >>> ((32 : Int32) &&& 0x3f).toInt64.toUInt64).toInt64))
  rw [q2, q3] at p5
  have p6 : (((((a &&& (4294967295 : Int64)) * (b &&& (4294967295 : Int64))).toUInt64 >>> ((32 : Int32) &&& 0x3f).toInt64.toUInt64).toInt64)).toInt = ((((a &&& (4294967295 : Int64)) * (b &&& (4294967295 : Int64)))).toInt % 18446744073709551616) / 4294967296 := c_lushr ((a &&& (4294967295 : Int64)) * (b &&& (4294967295 : Int64))) 32 32 (by decide) (by decide)
  rw [q0] at p6
  have p7 := c_ladd ((((a.toUInt64 >>> ((32 : Int32) &&& 0x3f).toInt64.toUInt64).toInt64) * (b &&& (4294967295 : Int64))) + ((a &&& (4294967295 : Int64)) * ((b.toUInt64 >>> ((32 : Int32) &&& 0x3f).toInt64.toUInt64).toInt64))) ((((a &&& (4294967295 : Int64)) * (b &&& (4294967295 : Int64))).toUInt64 >>> ((32 : Int32) &&& 0x3f).toInt64.toUInt64).toInt64)
  have g0 := own_g0 b2 b2' b3 b3' b4 b4'
  have q7 := own_e3 p5 p7 p6 g0.1 g0.2
  have p9 : (((((((a.toUInt64 >>> ((32 : Int32) &&& 0x3f).toInt64.toUInt64).toInt64) * (b &&& (4294967295 : Int64))) + ((a &&& (4294967295 : Int64)) * ((b.toUInt64 >>> ((32 : Int32) &&& 0x3f).toInt64.toUInt64).toInt64))) + ((((a &&& (4294967295 : Int64)) * (b &&& (4294967295 : Int64))).toUInt64 >>> ((32 : Int32) &&& 0x3f).toInt64.toUInt64).toInt64)) &&& (4294967295 : Int64))).toInt = ((((((a.toUInt64 >>> ((32 : Int32) &&& 0x3f).toInt64.toUInt64).toInt64) * (b &&& (4294967295 : Int64))) + ((a &&& (4294967295 : Int64)) * ((b.toUInt64 >>> ((32 : Int32) &&& 0x3f).toInt64.toUInt64).toInt64))) + ((((a &&& (4294967295 : Int64)) * (b &&& (4294967295 : Int64))).toUInt64 >>> ((32 : Int32) &&& 0x3f).toInt64.toUInt64).toInt64))).toInt % 4294967296 := c_maskL _ 4294967295 32 (by decide) (by decide)
  exact p9.trans (own_i1 _ _ _ _ q7)
theorem own_l2 {a b : Int64} {ah al bh bl : Int} (kah : ((a.toUInt64 >>> ((32 : Int32) &&& 0x3f).toInt64.toUInt64).toInt64).toInt = ah) (kbh : ((b.toUInt64 >>> ((32 : Int32) &&& 0x3f).toInt64.toUInt64).toInt64).toInt = bh) (kal : (a &&& (4294967295 : Int64)).toInt = al) (kbl : (b &&& (4294967295 : Int64)).toInt = bl) (rah : 0 ≤ ah ∧ ah ≤ 2147483647) (rbh : 0 ≤ bh ∧ bh ≤ 2147483647) (ral : 0 ≤ al ∧ al ≤ 4294967295) (rbl : 0 ≤ bl ∧ bl ≤ 4294967295) : (own_x2 a b).toInt = ((ah * bh) * (4294967296 * 4294967296) + (ah * bl + al * bh) * 4294967296 + al * bl) % 4294967296 := by
  obtain ⟨b1, b1', b2, b2', b3, b3', b4, b4'⟩ := own_bd rah rbh ral rbl
  have p1 := c_lmul (a &&& (4294967295 : Int64)) (b &&& (4294967295 : Int64))
  rw [kal, kbl] at p1
  have q0 := own_e1 p1 b4 (Int.lt_of_le_of_lt b4' (by decide))
  have p10 : ((((a &&& (4294967295 : Int64)) * (b &&& (4294967295 : Int64))) &&& (4294967295 : Int64))).toInt = (((a &&& (4294967295 : Int64)) * (b &&& (4294967295 : Int64)))).toInt % 4294967296 := c_maskL _ 4294967295 32 (by decide) (by decide)
  exact p10.trans (own_i2 _ _ _ _ q0)
theorem own_mh {a b : Int64} {ah al bh bl : Int} (kah : (a >>> ((32 : Int32) &&& 0x3f).toInt64).toInt = ah) (kbh : (b >>> ((32 : Int32) &&& 0x3f).toInt64).toInt = bh) (kal : (a &&& (4294967295 : Int64)).toInt = al) (kbl : (b &&& (4294967295 : Int64)).toInt = bl) (rah : 0 ≤ ah ∧ ah ≤ 2147483647) (rbh : 0 ≤ bh ∧ bh ≤ 2147483647) (ral : 0 ≤ al ∧ al ≤ 4294967295) (rbl : 0 ≤ bl ∧ bl ≤ 4294967295) : (own_f4 a b).toInt = ((ah * bh) * (4294967296 * 4294967296) + (ah * bl + al * bh) * 4294967296 + al * bl) / 18446744073709551616 := by
  obtain ⟨b1, b1', b2, b2', b3, b3', b4, b4'⟩ := own_bd rah rbh ral rbl
  have p1 := c_lmul (a &&& (4294967295 : Int64)) (b &&& (4294967295 : Int64))
  rw [kal, kbl] at p1
  have q0 := own_e1 p1 b4 (Int.lt_of_le_of_lt b4' (by decide))
  have p2 := c_lmul (a >>> ((32 : Int32) &&& 0x3f).toInt64) (b &&& (4294967295 : Int64))
  rw [kah, kbl] at p2
  have q2 := own_e2 p2 b2 (Int.lt_of_le_of_lt b2' (by decide)) (rng64 _)
  have p3 := c_lmul (a &&& (4294967295 : Int64)) (b >>> ((32 : Int32) &&& 0x3f).toInt64)
  rw [kal, kbh] at p3
  have q3 := own_e2 p3 b3 (Int.lt_of_le_of_lt b3' (by decide)) (rng64 _)
  have p4 := c_lmul (a >>> ((32 : Int32) &&& 0x3f).toInt64) (b >>> ((32 : Int32) &&& 0x3f).toInt64)
  rw [kah, kbh] at p4
  have q4 := own_e2 p4 b1 (Int.lt_of_le_of_lt b1' (by decide)) (rng64 _)
  have p5 : (((((a &&& (4294967295 : Int64)) * (b &&& (4294967295 : Int64))).toUInt64 >>> ((32 : Int32) &&& 0x3f).toInt64.toUInt64).toInt64)).toInt = ((((a &&& (4294967295 : Int64)) * (b &&& (4294967295 : Int64)))).toInt % 18446744073709551616) / 4294967296 := c_lushr ((a &&& (4294967295 : Int64)) * (b &&& (4294967295 : Int64))) 32 32 (by decide) (by decide)
  rw [q0] at p5
  have p6 := c_ladd ((a >>> ((32 : Int32) &&& 0x3f).toInt64) * (b &&& (4294967295 : Int64))) ((((a &&& (4294967295 : Int64)) * (b &&& (4294967295 : Int64))).toUInt64 >>> ((32 : Int32) &&& 0x3f).toInt64.toUInt64).toInt64)
  rw [q2, p5] at p6
  have g1 := own_g1 b2 b2' b4 b4'
  have q6 := own_e2 p6 g1.1 g1.2 (rng64 _)
  have p7 : (((((a >>> ((32 : Int32) &&& 0x3f).toInt64) * (b &&& (4294967295 : Int64))) + ((((a &&& (4294967295 : Int64)) * (b &&& (4294967295 : Int64))).toUInt64 >>> ((32 : Int32) &&& 0x3f).toInt64.toUInt64).toInt64)) &&& (4294967295 : Int64))).toInt = ((((a >>> ((32 : Int32) &&& 0x3f).toInt64) * (b &&& (4294967295 : Int64))) + ((((a &&& (4294967295 : Int64)) * (b &&& (4294967295 : Int64))).toUInt64 >>> ((32 : Int32) &&& 0x3f).toInt64.toUInt64).toInt64))).toInt % 4294967296 := c_maskL _ 4294967295 32 (by decide) (by decide)
  rw [q6] at p7
  have p8 : (((((a >>> ((32 : Int32) &&& 0x3f).toInt64) * (b &&& (4294967295 : Int64))) + ((((a &&& (4294967295 : Int64)) * (b &&& (4294967295 : Int64))).toUInt64 >>> ((32 : Int32) &&& 0x3f).toInt64.toUInt64).toInt64)) >>> ((32 : Int32) &&& 0x3f).toInt64)).toInt = ((((a >>> ((32 : Int32) &&& 0x3f).toInt64) * (b &&& (4294967295 : Int64))) + ((((a &&& (4294967295 : Int64)) * (b &&& (4294967295 : Int64))).toUInt64 >>> ((32 : Int32) &&& 0x3f).toInt64.toUInt64).toInt64))).toInt / 4294967296 := c_lshr _ 32 32 (by decide)
  rw [q6] at p8
  have p9 := c_ladd ((((a >>> ((32 : Int32) &&& 0x3f).toInt64) * (b &&& (4294967295 : Int64))) + ((((a &&& (4294967295 : Int64)) * (b &&& (4294967295 : Int64))).toUInt64 >>> ((32 : Int32) &&& 0x3f).toInt64.toUInt64).toInt64)) &&& (4294967295 : Int64)) ((a &&& (4294967295 : Int64)) * (b >>> ((32 : Int32) &&& 0x3f).toInt64))
  rw [p7, q3] at p9
  have g2 := own_g2 (t := ah * bl + al * bl / 4294967296) b3 b3'
  have q9 := own_e2 p9 g2.1 g2.2 (rng64 _)
  have p10 : (((((((a >>> ((32 : Int32) &&& 0x3f).toInt64) * (b &&& (4294967295 : Int64))) + ((((a &&& (4294967295 : Int64)) * (b &&& (4294967295 : Int64))).toUInt64 >>> ((32 : Int32) &&& 0x3f).toInt64.toUInt64).toInt64)) &&& (4294967295 : Int64)) + ((a &&& (4294967295 : Int64)) * (b >>> ((32 : Int32) &&& 0x3f).toInt64))) >>> ((32 : Int32) &&& 0x3f).toInt64)).toInt = ((((((a >>> ((32 : Int32) &&& 0x3f).toInt64) * (b &&& (4294967295 : Int64))) + ((((a &&& (4294967295 : Int64)) * (b &&& (4294967295 : Int64))).toUInt64 >>> ((32 : Int32) &&& 0x3f).toInt64.toUInt64).toInt64)) &&& (4294967295 : Int64)) + ((a &&& (4294967295 : Int64)) * (b >>> ((32 : Int32) &&& 0x3f).toInt64)))).toInt / 4294967296 := c_lshr _ 32 32 (by decide)
  rw [q9] at p10
  have p11 := c_ladd ((a >>> ((32 : Int32) &&& 0x3f).toInt64) * (b >>> ((32 : Int32) &&& 0x3f).toInt64)) ((((a >>> ((32 : Int32) &&& 0x3f).toInt64) * (b &&& (4294967295 : Int64))) + ((((a &&& (4294967295 : Int64)) * (b &&& (4294967295 : Int64))).toUInt64 >>> ((32 : Int32) &&& 0x3f).toInt64.toUInt64).toInt64)) >>> ((32 : Int32) &&& 0x3f).toInt64)
  rw [q4, p8] at p11
  have g3 := own_g3 b1 b1' g1
  have q11 := own_e2 p11 g3.1 (Int.lt_of_le_of_lt g3.2 (by decide)) (rng64 _)
  have p12 := c_ladd (((a >>> ((32 : Int32) &&& 0x3f).toInt64) * (b >>> ((32 : Int32) &&& 0x3f).toInt64)) + ((((a >>> ((32 : Int32) &&& 0x3f).toInt64) * (b &&& (4294967295 : Int64))) + ((((a &&& (4294967295 : Int64)) * (b &&& (4294967295 : Int64))).toUInt64 >>> ((32 : Int32) &&& 0x3f).toInt64.toUInt64).toInt64)) >>> ((32 : Int32) &&& 0x3f).toInt64)) ((((((a >>> ((32 : Int32) &&& 0x3f).toInt64) * (b &&& (4294967295 : Int64))) + ((((a &&& (4294967295 : Int64)) * (b &&& (4294967295 : Int64))).toUInt64 >>> ((32 : Int32) &&& 0x3f).toInt64.toUInt64).toInt64)) &&& (4294967295 : Int64)) + ((a &&& (4294967295 : Int64)) * (b >>> ((32 : Int32) &&& 0x3f).toInt64))) >>> ((32 : Int32) &&& 0x3f).toInt64)
  rw [q11, p10] at p12
  have g4 := own_g4 g3 g2
  exact (own_e2 p12 g4.1 g4.2 (rng64 _)).trans (own_i3 _ _ _ _)
theorem own_prod (a b : Int64) (ha : 0 ≤ a.toInt) (hb : 0 ≤ b.toInt) : ∃ P : Int, 0 ≤ P ∧ P < 85070591730234615865843651857942052864 ∧ (own_f4 a b).toInt = P / 18446744073709551616 ∧ ((a * b).toInt - P) % 18446744073709551616 = 0 ∧ (own_x0 a b).toInt = P / 18446744073709551616 ∧ (own_x1 a b).toInt = P / 4294967296 % 4294967296 ∧ (own_x2 a b).toInt = P % 4294967296 := by
  have ra := rng64 a
  have rb := rng64 b
  have eah : ((a.toUInt64 >>> ((32 : Int32) &&& 0x3f).toInt64.toUInt64).toInt64).toInt = (a.toInt % 18446744073709551616) / 4294967296 := c_lushr a 32 32 (by decide) (by decide)
  have ebh : ((b.toUInt64 >>> ((32 : Int32) &&& 0x3f).toInt64.toUInt64).toInt64).toInt = (b.toInt % 18446744073709551616) / 4294967296 := c_lushr b 32 32 (by decide) (by decide)
  have esa : (a >>> ((32 : Int32) &&& 0x3f).toInt64).toInt = a.toInt / 4294967296 := c_lshr a 32 32 (by decide)
  have esb : (b >>> ((32 : Int32) &&& 0x3f).toInt64).toInt = b.toInt / 4294967296 := c_lshr b 32 32 (by decide)
  have eal : (a &&& (4294967295 : Int64)).toInt = a.toInt % 4294967296 := c_maskL a 4294967295 32 (by decide) (by decide)
  have ebl : (b &&& (4294967295 : Int64)).toInt = b.toInt % 4294967296 := c_maskL b 4294967295 32 (by decide) (by decide)
  have hP := c_lmul a b
  obtain ⟨ah, qah⟩ : ∃ z, z = a.toInt / 4294967296 := ⟨_, rfl⟩
  obtain ⟨al, qal⟩ : ∃ z, z = a.toInt % 4294967296 := ⟨_, rfl⟩
  obtain ⟨bh, qbh⟩ : ∃ z, z = b.toInt / 4294967296 := ⟨_, rfl⟩
  obtain ⟨bl, qbl⟩ : ∃ z, z = b.toInt % 4294967296 := ⟨_, rfl⟩
  have da : a.toInt = ah * 4294967296 + al := by omega
  have db : b.toInt = bh * 4294967296 + bl := by omega
  have kah : ((a.toUInt64 >>> ((32 : Int32) &&& 0x3f).toInt64.toUInt64).toInt64).toInt = ah := by omega
  have kbh : ((b.toUInt64 >>> ((32 : Int32) &&& 0x3f).toInt64.toUInt64).toInt64).toInt = bh := by omega
  have ksa : (a >>> ((32 : Int32) &&& 0x3f).toInt64).toInt = ah := by omega
  have ksb : (b >>> ((32 : Int32) &&& 0x3f).toInt64).toInt = bh := by omega
  have kal : (a &&& (4294967295 : Int64)).toInt = al := by omega
  have kbl : (b &&& (4294967295 : Int64)).toInt = bl := by omega
  rw [da, db, own_expand] at hP
  have b1 := mc (a := ah) (b := bh) (l1 := 0) (h1 := 2147483647) (l2 := 0) (h2 := 2147483647) (by omega) (by omega) (by omega) (by omega)
  have b2 := mc (a := ah) (b := bl) (l1 := 0) (h1 := 2147483647) (l2 := 0) (h2 := 4294967295) (by omega) (by omega) (by omega) (by omega)
  have b3 := mc (a := al) (b := bh) (l1 := 0) (h1 := 4294967295) (l2 := 0) (h2 := 2147483647) (by omega) (by omega) (by omega) (by omega)
  have b4 := mc (a := al) (b := bl) (l1 := 0) (h1 := 4294967295) (l2 := 0) (h2 := 4294967295) (by omega) (by omega) (by omega) (by omega)
  have rah : 0 ≤ ah ∧ ah ≤ 2147483647 := by omega
  have rbh : 0 ≤ bh ∧ bh ≤ 2147483647 := by omega
  have ral : 0 ≤ al ∧ al ≤ 4294967295 := by omega
  have rbl : 0 ≤ bl ∧ bl ≤ 4294967295 := by omega
  refine ⟨(ah * bh) * (4294967296 * 4294967296) + (ah * bl + al * bh) * 4294967296 + al * bl, ?_, ?_, ?_, ?_, ?_, ?_, ?_⟩
  · omega
  · omega
  · exact own_mh ksa ksb kal kbl rah rbh ral rbl
  · exact hP
  · exact own_l0 kah kbh kal kbl rah rbh ral rbl
  · exact own_l1 kah kbh kal kbl rah rbh ral rbl
  · exact own_l2 kah kbh kal kbl rah rbh ral rbl
def own_sg (x y : Int) : Int32 := if x < y then (-1 : Int32) else if x = y then (0 : Int32) else (1 : Int32)
theorem own_sg3 (x y : Int) : (own_sg x y = (-1 : Int32) ∧ x < y) ∨ (own_sg x y = (0 : Int32) ∧ x = y) ∨ (own_sg x y = (1 : Int32) ∧ y < x) := by
  unfold own_sg
  rcases Int.lt_trichotomy x y with h | h | h
  · exact Or.inl ⟨if_pos h, h⟩
  · exact Or.inr (Or.inl ⟨by rw [if_neg (by omega), if_pos h], h⟩)
  · exact Or.inr (Or.inr ⟨by rw [if_neg (by omega), if_neg (by omega)], h⟩)
theorem own_k5 (x y : Int64) : own_f5 x y = own_sg x.toInt y.toInt := by
  unfold own_f5 own_sg; simp only [own_ltpL, own_eqpL]
theorem own_k2 (x y : Int64) : own_f2 x y = own_sg x.toInt y.toInt := by
  unfold own_f2 own_sg; simp only [own_ltpL]
  rcases Int.lt_trichotomy x.toInt y.toInt with h | h | h
  · rw [if_pos h, if_pos h]
  · rw [if_neg (by omega), if_neg (by omega), if_neg (by omega), if_pos h]
  · rw [if_neg (by omega), if_pos h, if_neg (by omega), if_neg (by omega)]
theorem own_lo {A M P : Int} (e : (A - (M + -9223372036854775808)) % 18446744073709551616 = 0) (h : (M - P) % 18446744073709551616 = 0) (r : -9223372036854775808 ≤ A ∧ A < 9223372036854775808) : A = P % 18446744073709551616 - 9223372036854775808 := by omega
theorem own_dm (P : Int) : ∃ x0 x1 x2 : Int, P / 18446744073709551616 = x0 ∧ P / 4294967296 % 4294967296 = x1 ∧ P % 4294967296 = x2 ∧ P % 18446744073709551616 = 4294967296 * x1 + x2 ∧ 0 ≤ x1 ∧ x1 < 4294967296 ∧ 0 ≤ x2 ∧ x2 < 4294967296 :=
  ⟨_, _, _, rfl, rfl, rfl, by omega, by omega, by omega, by omega, by omega⟩
theorem own_cmp {x0 x1 x2 y0 y1 y2 A D : Int} (hA : A = 4294967296 * x1 + x2 - 9223372036854775808) (hD : D = 4294967296 * y1 + y2 - 9223372036854775808) (a1 : 0 ≤ x1 ∧ x1 < 4294967296 ∧ 0 ≤ x2 ∧ x2 < 4294967296) (a2 : 0 ≤ y1 ∧ y1 < 4294967296 ∧ 0 ≤ y2 ∧ y2 < 4294967296) :
    own_f7 (if own_sg x0 y0 = (0 : Int32) then own_sg A D else own_sg x0 y0) = (if own_sg x0 y0 = (0 : Int32) then (if own_sg x1 y1 = (0 : Int32) then own_sg x2 y2 else own_sg x1 y1) else own_sg x0 y0) := by
  rcases own_sg3 x0 y0 with ⟨e0, h0⟩ | ⟨e0, h0⟩ | ⟨e0, h0⟩ <;> rcases own_sg3 A D with ⟨e3, h3⟩ | ⟨e3, h3⟩ | ⟨e3, h3⟩ <;> rcases own_sg3 x1 y1 with ⟨e1, h1⟩ | ⟨e1, h1⟩ | ⟨e1, h1⟩ <;> rcases own_sg3 x2 y2 with ⟨e2, h2⟩ | ⟨e2, h2⟩ | ⟨e2, h2⟩ <;> first | (exfalso; omega) | (rw [e0, e3, e1, e2] <;> decide) | (rw [e0] <;> decide)
theorem own_key {a b c d : Int64} (ha : 0 ≤ a.toInt) (hb : 0 ≤ b.toInt) (hc : 0 ≤ c.toInt) (hd : 0 ≤ d.toInt) : own_f7 (own_f3 a b c d) = (if own_f2 (own_x0 a b) (own_x0 c d) = (0 : Int32) then (if own_f2 (own_x1 a b) (own_x1 c d) = (0 : Int32) then own_f2 (own_x2 a b) (own_x2 c d) else own_f2 (own_x1 a b) (own_x1 c d)) else own_f2 (own_x0 a b) (own_x0 c d)) := by
  obtain ⟨P, p1, p2, p3, p4, p5, p6, p7⟩ := own_prod a b ha hb
  obtain ⟨R, q1, q2, q3, q4, q5, q6, q7⟩ := own_prod c d hc hd
  have e1 := c_ladd (a * b) (-9223372036854775808)
  have e2 := c_ladd (c * d) (-9223372036854775808)
  have r3 := rng64 (a * b + (-9223372036854775808))
  have r4 := rng64 (c * d + (-9223372036854775808))
  have m1 : (-9223372036854775808 : Int64).toInt = -9223372036854775808 := by decide
  rw [m1] at e1 e2
  have g1 := own_lo e1 p4 r3
  have g2 := own_lo e2 q4 r4
  obtain ⟨x0, x1, x2, d0, d1, d2, d3, da⟩ := own_dm P
  obtain ⟨y0, y1, y2, f0, f1, f2, f3, fa⟩ := own_dm R
  rw [d3] at g1
  rw [f3] at g2
  rw [d0] at p3 p5
  rw [f0] at q3 q5
  rw [d1] at p6
  rw [f1] at q6
  rw [d2] at p7
  rw [f2] at q7
  unfold own_f3 own_f6
  rw [own_k5, own_k5, own_k2, own_k2, own_k2, p3, q3, p5, q5, p6, q6, p7, q7]
  exact own_cmp g1 g2 da fa
theorem own_nn (x : Int64) : 0 ≤ (x &&& (9223372036854775807 : Int64)).toInt := (c_andSL x 9223372036854775807).2.2 (by decide)
theorem own_nn2 (x : Int64) : 0 ≤ (x &&& (4294967295 : Int64)).toInt := (c_andSL x 4294967295).2.2 (by decide)
theorem own_pos4 {c1 c2 c3 : Prop} [Decidable c1] [Decidable c2] [Decidable c3] {a b c d : Int64} (ha : 0 ≤ a.toInt) (hb : 0 ≤ b.toInt) (hc : 0 ≤ c.toInt) (hd : 0 ≤ d.toInt) : 0 ≤ (if c1 then a else if c2 then b else if c3 then c else d).toInt := by
  split
  · exact ha
  · split
    · exact hb
    · split
      · exact hc
      · exact hd
theorem own_pd2 : parseMethodDescriptor "(JJ[J)V" = some ⟨[.long, .long, (.array .long)], none⟩ := by decide +kernel
theorem own_pd3 : parseMethodDescriptor "(JJJJ)I" = some ⟨[.long, .long, .long, .long], some .int⟩ := by decide +kernel
theorem own_pd4 : parseMethodDescriptor "(I)I" = some ⟨[.int], some .int⟩ := by decide +kernel
theorem own_ef0 (m : MethodId) (q0 : Int64) (q1 : Int64) (q2 : Int64) (q3 : Int64) (p4 : Int32) : entryFrame m #[(.long q0), (.long q1), (.long q2), (.long q3), (.int p4)] maxLocals = mkF m 0 #[oj q0, .second, oj q1, .second, oj q2, .second, oj q3, .second, oi p4, .unset, .unset, .unset, .unset, .unset, .unset, .unset, .unset, .unset, .unset, .unset, .unset, .unset] [] := by first | (simp [entryFrame, mkF, argsToLocals, Value.category, maxLocals]; done) | rfl
def own_Q0 (Z : State) (q0 : Int64) (q1 : Int64) (q2 : Int64) (q3 : Int64) (p4 : Int32) (h0 : Heap) (n0 : Nat) (v : Option Value) (h : Heap) (L : List Loc) : Prop := v = some (Value.int (1 : Int32)) ∧ Fr n0 L
set_option maxRecDepth 65536 in
set_option maxHeartbeats 40000000 in
theorem own_rm0 (l : Launch) (Z : State) (av : Array Value) (hw : ∀ d ∈ tables_1, d.before av Z = true) (ws : List Jvm.Cond) (q0 : Int64) (q1 : Int64) (q2 : Int64) (q3 : Int64) (p4 : Int32) (h0 : Heap) (n0 : Nat) (Z0 : n0 ≤ h0.size) :
    MetFree l x (head1 (Jvm.Cond.code x code maxLocals ret :: ws) room_1) (fun a U => a = #[(.long q0), (.long q1), (.long q2), (.long q3), (.int p4)] ∧ Z.Warmed39 U.vm ∧ U.heap = h0) (fun _ _ _ _ _ => True) (fun _ U o U' => ∃ v L, o = .returned v ∧ own_Q0 Z q0 q1 q2 q3 p4 h0 n0 v U'.heap L ∧ FrameEnd U o U' L room_1.cells room_1.slots) := by
  refine MetFree.of_bodySF (plainFor_of_name own_pn0) hisR ?_
  intro p e s m args below meth c s₁ Bd hml0 hP hK
  obtain ⟨rfl, hZ, hh⟩ := hP
  have hx := Bd.exec
  have hby := Bd.bytes
  have hml : c.maxLocals = 22 := hml0
  have hown : s.vm.findClass "com/example/strict_anon/strictanon/util/ProductsComparePinLaw" = some m.cls := findClass_of_methodNamed Bd.named
  have hnm := (name_of_methodNamed Bd.named Bd.method).1
  have X0 : Stand p l e room_1 s m #[(.long q0), (.long q1), (.long q2), (.long q3), (.int p4)] below meth c s₁ [] 0 0 := Stand.of_body Bd
  have e0 : s₁.heap = h0 := by rw [← hh, Bd.state]; rfl
  have N0 := Fr.nil n0
  have pre0 : ∀ t, Steps p.tables e below (s₁.setTop (mkF m 0 #[oj q0, .second, oj q1, .second, oj q2, .second, oj q3, .second, oi p4, .unset, .unset, .unset, .unset, .unset, .unset, .unset, .unset, .unset, .unset, .unset, .unset, .unset] [])) t → Steps p.tables e below (s₁.setTop (entryFrame m #[(.long q0), (.long q1), (.long q2), (.long q3), (.int p4)] maxLocals)) t := fun t k => castTop (own_ef0 m q0 q1 q2 q3 p4) k
  have pre1 : ∀ t, Steps p.tables e below (s₁.setTop (mkF m 39 #[oj q0, .second, oj q1, .second, oj q2, .second, oj q3, .second, oi p4, oj (q0 &&& (9223372036854775807 : Int64)), .second, oj (q1 &&& (9223372036854775807 : Int64)), .second, oj (q2 &&& (9223372036854775807 : Int64)), .second, oj (q3 &&& (9223372036854775807 : Int64)), .second, oi (p4 &&& (3 : Int32)), .unset, .unset, .unset, .unset] [(.int (1 : Int32)), (.int (p4 &&& (3 : Int32)))])) t → Steps p.tables e below (s₁.setTop (entryFrame m #[(.long q0), (.long q1), (.long q2), (.long q3), (.int p4)] maxLocals)) t := by
    intro t k
    refine pre0 t ?_
    show oS p e below s₁ m 0 #[oj q0, .second, oj q1, .second, oj q2, .second, oj q3, .second, oi p4, .unset, .unset, .unset, .unset, .unset, .unset, .unset, .unset, .unset, .unset, .unset, .unset, .unset] [] _
    refine XS.lloadN X0.here hx rfl (hb hby at_0) rfl ?_
    show oS p e below s₁ m 1 #[oj q0, .second, oj q1, .second, oj q2, .second, oj q3, .second, oi p4, .unset, .unset, .unset, .unset, .unset, .unset, .unset, .unset, .unset, .unset, .unset, .unset, .unset] [(.long q0)] _
    refine X0.ldc2Long hx hown (mvT hZ (hw _ (List.mem_of_getElem? (i := 0) rfl))) (g := (mkF m 1 #[oj q0, .second, oj q1, .second, oj q2, .second, oj q3, .second, oi p4, .unset, .unset, .unset, .unset, .unset, .unset, .unset, .unset, .unset, .unset, .unset, .unset, .unset] [(.long q0)])) rfl (hb hby at_1) _ ?_
    show oS p e below s₁ m 4 #[oj q0, .second, oj q1, .second, oj q2, .second, oj q3, .second, oi p4, .unset, .unset, .unset, .unset, .unset, .unset, .unset, .unset, .unset, .unset, .unset, .unset, .unset] [(.long (9223372036854775807 : Int64)), (.long q0)] _
    refine XS.land X0.here hx rfl (hb hby at_4) rfl ?_
    show oS p e below s₁ m 5 #[oj q0, .second, oj q1, .second, oj q2, .second, oj q3, .second, oi p4, .unset, .unset, .unset, .unset, .unset, .unset, .unset, .unset, .unset, .unset, .unset, .unset, .unset] [(.long (q0 &&& (9223372036854775807 : Int64)))] _
    refine XS.lstore X0.here hx rfl (hb hby at_5) rfl (l' := #[oj q0, .second, oj q1, .second, oj q2, .second, oj q3, .second, oi p4, oj (q0 &&& (9223372036854775807 : Int64)), .second, .unset, .unset, .unset, .unset, .unset, .unset, .unset, .unset, .unset, .unset, .unset]) rfl ?_
    show oS p e below s₁ m 7 #[oj q0, .second, oj q1, .second, oj q2, .second, oj q3, .second, oi p4, oj (q0 &&& (9223372036854775807 : Int64)), .second, .unset, .unset, .unset, .unset, .unset, .unset, .unset, .unset, .unset, .unset, .unset] [] _
    refine XS.lloadN X0.here hx rfl (hb hby at_7) rfl ?_
    show oS p e below s₁ m 8 #[oj q0, .second, oj q1, .second, oj q2, .second, oj q3, .second, oi p4, oj (q0 &&& (9223372036854775807 : Int64)), .second, .unset, .unset, .unset, .unset, .unset, .unset, .unset, .unset, .unset, .unset, .unset] [(.long q1)] _
    refine X0.ldc2Long hx hown (mvT hZ (hw _ (List.mem_of_getElem? (i := 0) rfl))) (g := (mkF m 8 #[oj q0, .second, oj q1, .second, oj q2, .second, oj q3, .second, oi p4, oj (q0 &&& (9223372036854775807 : Int64)), .second, .unset, .unset, .unset, .unset, .unset, .unset, .unset, .unset, .unset, .unset, .unset] [(.long q1)])) rfl (hb hby at_8) _ ?_
    show oS p e below s₁ m 11 #[oj q0, .second, oj q1, .second, oj q2, .second, oj q3, .second, oi p4, oj (q0 &&& (9223372036854775807 : Int64)), .second, .unset, .unset, .unset, .unset, .unset, .unset, .unset, .unset, .unset, .unset, .unset] [(.long (9223372036854775807 : Int64)), (.long q1)] _
    refine XS.land X0.here hx rfl (hb hby at_11) rfl ?_
    show oS p e below s₁ m 12 #[oj q0, .second, oj q1, .second, oj q2, .second, oj q3, .second, oi p4, oj (q0 &&& (9223372036854775807 : Int64)), .second, .unset, .unset, .unset, .unset, .unset, .unset, .unset, .unset, .unset, .unset, .unset] [(.long (q1 &&& (9223372036854775807 : Int64)))] _
    refine XS.lstore X0.here hx rfl (hb hby at_12) rfl (l' := #[oj q0, .second, oj q1, .second, oj q2, .second, oj q3, .second, oi p4, oj (q0 &&& (9223372036854775807 : Int64)), .second, oj (q1 &&& (9223372036854775807 : Int64)), .second, .unset, .unset, .unset, .unset, .unset, .unset, .unset, .unset, .unset]) rfl ?_
    show oS p e below s₁ m 14 #[oj q0, .second, oj q1, .second, oj q2, .second, oj q3, .second, oi p4, oj (q0 &&& (9223372036854775807 : Int64)), .second, oj (q1 &&& (9223372036854775807 : Int64)), .second, .unset, .unset, .unset, .unset, .unset, .unset, .unset, .unset, .unset] [] _
    refine XS.lload X0.here hx rfl (hb hby at_14) rfl ?_
    show oS p e below s₁ m 16 #[oj q0, .second, oj q1, .second, oj q2, .second, oj q3, .second, oi p4, oj (q0 &&& (9223372036854775807 : Int64)), .second, oj (q1 &&& (9223372036854775807 : Int64)), .second, .unset, .unset, .unset, .unset, .unset, .unset, .unset, .unset, .unset] [(.long q2)] _
    refine X0.ldc2Long hx hown (mvT hZ (hw _ (List.mem_of_getElem? (i := 0) rfl))) (g := (mkF m 16 #[oj q0, .second, oj q1, .second, oj q2, .second, oj q3, .second, oi p4, oj (q0 &&& (9223372036854775807 : Int64)), .second, oj (q1 &&& (9223372036854775807 : Int64)), .second, .unset, .unset, .unset, .unset, .unset, .unset, .unset, .unset, .unset] [(.long q2)])) rfl (hb hby at_16) _ ?_
    show oS p e below s₁ m 19 #[oj q0, .second, oj q1, .second, oj q2, .second, oj q3, .second, oi p4, oj (q0 &&& (9223372036854775807 : Int64)), .second, oj (q1 &&& (9223372036854775807 : Int64)), .second, .unset, .unset, .unset, .unset, .unset, .unset, .unset, .unset, .unset] [(.long (9223372036854775807 : Int64)), (.long q2)] _
    refine XS.land X0.here hx rfl (hb hby at_19) rfl ?_
    show oS p e below s₁ m 20 #[oj q0, .second, oj q1, .second, oj q2, .second, oj q3, .second, oi p4, oj (q0 &&& (9223372036854775807 : Int64)), .second, oj (q1 &&& (9223372036854775807 : Int64)), .second, .unset, .unset, .unset, .unset, .unset, .unset, .unset, .unset, .unset] [(.long (q2 &&& (9223372036854775807 : Int64)))] _
    refine XS.lstore X0.here hx rfl (hb hby at_20) rfl (l' := #[oj q0, .second, oj q1, .second, oj q2, .second, oj q3, .second, oi p4, oj (q0 &&& (9223372036854775807 : Int64)), .second, oj (q1 &&& (9223372036854775807 : Int64)), .second, oj (q2 &&& (9223372036854775807 : Int64)), .second, .unset, .unset, .unset, .unset, .unset, .unset, .unset]) rfl ?_
    show oS p e below s₁ m 22 #[oj q0, .second, oj q1, .second, oj q2, .second, oj q3, .second, oi p4, oj (q0 &&& (9223372036854775807 : Int64)), .second, oj (q1 &&& (9223372036854775807 : Int64)), .second, oj (q2 &&& (9223372036854775807 : Int64)), .second, .unset, .unset, .unset, .unset, .unset, .unset, .unset] [] _
    refine XS.lload X0.here hx rfl (hb hby at_22) rfl ?_
    show oS p e below s₁ m 24 #[oj q0, .second, oj q1, .second, oj q2, .second, oj q3, .second, oi p4, oj (q0 &&& (9223372036854775807 : Int64)), .second, oj (q1 &&& (9223372036854775807 : Int64)), .second, oj (q2 &&& (9223372036854775807 : Int64)), .second, .unset, .unset, .unset, .unset, .unset, .unset, .unset] [(.long q3)] _
    refine X0.ldc2Long hx hown (mvT hZ (hw _ (List.mem_of_getElem? (i := 0) rfl))) (g := (mkF m 24 #[oj q0, .second, oj q1, .second, oj q2, .second, oj q3, .second, oi p4, oj (q0 &&& (9223372036854775807 : Int64)), .second, oj (q1 &&& (9223372036854775807 : Int64)), .second, oj (q2 &&& (9223372036854775807 : Int64)), .second, .unset, .unset, .unset, .unset, .unset, .unset, .unset] [(.long q3)])) rfl (hb hby at_24) _ ?_
    show oS p e below s₁ m 27 #[oj q0, .second, oj q1, .second, oj q2, .second, oj q3, .second, oi p4, oj (q0 &&& (9223372036854775807 : Int64)), .second, oj (q1 &&& (9223372036854775807 : Int64)), .second, oj (q2 &&& (9223372036854775807 : Int64)), .second, .unset, .unset, .unset, .unset, .unset, .unset, .unset] [(.long (9223372036854775807 : Int64)), (.long q3)] _
    refine XS.land X0.here hx rfl (hb hby at_27) rfl ?_
    show oS p e below s₁ m 28 #[oj q0, .second, oj q1, .second, oj q2, .second, oj q3, .second, oi p4, oj (q0 &&& (9223372036854775807 : Int64)), .second, oj (q1 &&& (9223372036854775807 : Int64)), .second, oj (q2 &&& (9223372036854775807 : Int64)), .second, .unset, .unset, .unset, .unset, .unset, .unset, .unset] [(.long (q3 &&& (9223372036854775807 : Int64)))] _
    refine XS.lstore X0.here hx rfl (hb hby at_28) rfl (l' := #[oj q0, .second, oj q1, .second, oj q2, .second, oj q3, .second, oi p4, oj (q0 &&& (9223372036854775807 : Int64)), .second, oj (q1 &&& (9223372036854775807 : Int64)), .second, oj (q2 &&& (9223372036854775807 : Int64)), .second, oj (q3 &&& (9223372036854775807 : Int64)), .second, .unset, .unset, .unset, .unset, .unset]) rfl ?_
    show oS p e below s₁ m 30 #[oj q0, .second, oj q1, .second, oj q2, .second, oj q3, .second, oi p4, oj (q0 &&& (9223372036854775807 : Int64)), .second, oj (q1 &&& (9223372036854775807 : Int64)), .second, oj (q2 &&& (9223372036854775807 : Int64)), .second, oj (q3 &&& (9223372036854775807 : Int64)), .second, .unset, .unset, .unset, .unset, .unset] [] _
    refine XS.iload X0.here hx rfl (hb hby at_30) rfl ?_
    show oS p e below s₁ m 32 #[oj q0, .second, oj q1, .second, oj q2, .second, oj q3, .second, oi p4, oj (q0 &&& (9223372036854775807 : Int64)), .second, oj (q1 &&& (9223372036854775807 : Int64)), .second, oj (q2 &&& (9223372036854775807 : Int64)), .second, oj (q3 &&& (9223372036854775807 : Int64)), .second, .unset, .unset, .unset, .unset, .unset] [(.int p4)] _
    refine XS.iconst X0.here hx rfl (hb hby at_32) ?_
    show oS p e below s₁ m 33 #[oj q0, .second, oj q1, .second, oj q2, .second, oj q3, .second, oi p4, oj (q0 &&& (9223372036854775807 : Int64)), .second, oj (q1 &&& (9223372036854775807 : Int64)), .second, oj (q2 &&& (9223372036854775807 : Int64)), .second, oj (q3 &&& (9223372036854775807 : Int64)), .second, .unset, .unset, .unset, .unset, .unset] [(.int (3 : Int32)), (.int p4)] _
    refine XS.iand X0.here hx rfl (hb hby at_33) rfl ?_
    show oS p e below s₁ m 34 #[oj q0, .second, oj q1, .second, oj q2, .second, oj q3, .second, oi p4, oj (q0 &&& (9223372036854775807 : Int64)), .second, oj (q1 &&& (9223372036854775807 : Int64)), .second, oj (q2 &&& (9223372036854775807 : Int64)), .second, oj (q3 &&& (9223372036854775807 : Int64)), .second, .unset, .unset, .unset, .unset, .unset] [(.int (p4 &&& (3 : Int32)))] _
    refine XS.istore X0.here hx rfl (hb hby at_34) rfl (l' := #[oj q0, .second, oj q1, .second, oj q2, .second, oj q3, .second, oi p4, oj (q0 &&& (9223372036854775807 : Int64)), .second, oj (q1 &&& (9223372036854775807 : Int64)), .second, oj (q2 &&& (9223372036854775807 : Int64)), .second, oj (q3 &&& (9223372036854775807 : Int64)), .second, oi (p4 &&& (3 : Int32)), .unset, .unset, .unset, .unset]) rfl ?_
    show oS p e below s₁ m 36 #[oj q0, .second, oj q1, .second, oj q2, .second, oj q3, .second, oi p4, oj (q0 &&& (9223372036854775807 : Int64)), .second, oj (q1 &&& (9223372036854775807 : Int64)), .second, oj (q2 &&& (9223372036854775807 : Int64)), .second, oj (q3 &&& (9223372036854775807 : Int64)), .second, oi (p4 &&& (3 : Int32)), .unset, .unset, .unset, .unset] [] _
    refine XS.iload X0.here hx rfl (hb hby at_36) rfl ?_
    show oS p e below s₁ m 38 #[oj q0, .second, oj q1, .second, oj q2, .second, oj q3, .second, oi p4, oj (q0 &&& (9223372036854775807 : Int64)), .second, oj (q1 &&& (9223372036854775807 : Int64)), .second, oj (q2 &&& (9223372036854775807 : Int64)), .second, oj (q3 &&& (9223372036854775807 : Int64)), .second, oi (p4 &&& (3 : Int32)), .unset, .unset, .unset, .unset] [(.int (p4 &&& (3 : Int32)))] _
    refine XS.iconst X0.here hx rfl (hb hby at_38) ?_
    exact k
  obtain ⟨v5, hv5⟩ : ∃ z : Int64, z = (if (p4 &&& (3 : Int32)) = (1 : Int32) then (q0 &&& (9223372036854775807 : Int64)) else (if (p4 &&& (3 : Int32)) = (2 : Int32) then (q0 &&& (9223372036854775807 : Int64)) else (if (p4 &&& (3 : Int32)) = (3 : Int32) then ((q0 &&& (9223372036854775807 : Int64)) &&& (4294967295 : Int64)) else (q0 &&& (9223372036854775807 : Int64))))) := ⟨_, rfl⟩
  obtain ⟨v6, hv6⟩ : ∃ z : Int64, z = (if (p4 &&& (3 : Int32)) = (1 : Int32) then (q1 &&& (9223372036854775807 : Int64)) else (if (p4 &&& (3 : Int32)) = (2 : Int32) then (q1 &&& (9223372036854775807 : Int64)) else (if (p4 &&& (3 : Int32)) = (3 : Int32) then ((q1 &&& (9223372036854775807 : Int64)) &&& (4294967295 : Int64)) else (q1 &&& (9223372036854775807 : Int64))))) := ⟨_, rfl⟩
  obtain ⟨v7, hv7⟩ : ∃ z : Int64, z = (if (p4 &&& (3 : Int32)) = (1 : Int32) then (q0 &&& (9223372036854775807 : Int64)) else (if (p4 &&& (3 : Int32)) = (2 : Int32) then (q1 &&& (9223372036854775807 : Int64)) else (if (p4 &&& (3 : Int32)) = (3 : Int32) then ((q2 &&& (9223372036854775807 : Int64)) &&& (4294967295 : Int64)) else (q2 &&& (9223372036854775807 : Int64))))) := ⟨_, rfl⟩
  obtain ⟨v8, hv8⟩ : ∃ z : Int64, z = (if (p4 &&& (3 : Int32)) = (1 : Int32) then (((q1 &&& (9223372036854775807 : Int64)) + ((((p4.toUInt32 >>> ((2 : Int32) &&& 31).toUInt32).toInt32) &&& (255 : Int32)).toInt64)) &&& (9223372036854775807 : Int64)) else (if (p4 &&& (3 : Int32)) = (2 : Int32) then (q0 &&& (9223372036854775807 : Int64)) else (if (p4 &&& (3 : Int32)) = (3 : Int32) then ((q3 &&& (9223372036854775807 : Int64)) &&& (4294967295 : Int64)) else (q3 &&& (9223372036854775807 : Int64))))) := ⟨_, rfl⟩
  have pre9 : ∀ t, Steps p.tables e below (s₁.setTop (mkF m 122 #[oj q0, .second, oj q1, .second, oj q2, .second, oj q3, .second, oi p4, oj v5, .second, oj v6, .second, oj v7, .second, oj v8, .second, oi (p4 &&& (3 : Int32)), .unset, .unset, .unset, .unset] [])) t → Steps p.tables e below (s₁.setTop (entryFrame m #[(.long q0), (.long q1), (.long q2), (.long q3), (.int p4)] maxLocals)) t := by
    intro t k
    by_cases c2 : (p4 &&& (3 : Int32)) = (1 : Int32)
    · skip
      rw [show v5 = (q0 &&& (9223372036854775807 : Int64)) from hv5.trans (by rw [if_pos c2])] at k
      rw [show v6 = (q1 &&& (9223372036854775807 : Int64)) from hv6.trans (by rw [if_pos c2])] at k
      rw [show v7 = (q0 &&& (9223372036854775807 : Int64)) from hv7.trans (by rw [if_pos c2])] at k
      rw [show v8 = (((q1 &&& (9223372036854775807 : Int64)) + ((((p4.toUInt32 >>> ((2 : Int32) &&& 31).toUInt32).toInt32) &&& (255 : Int32)).toInt64)) &&& (9223372036854775807 : Int64)) from hv8.trans (by rw [if_pos c2])] at k
      refine pre1 t ?_
      show oS p e below s₁ m 39 #[oj q0, .second, oj q1, .second, oj q2, .second, oj q3, .second, oi p4, oj (q0 &&& (9223372036854775807 : Int64)), .second, oj (q1 &&& (9223372036854775807 : Int64)), .second, oj (q2 &&& (9223372036854775807 : Int64)), .second, oj (q3 &&& (9223372036854775807 : Int64)), .second, oi (p4 &&& (3 : Int32)), .unset, .unset, .unset, .unset] [(.int (1 : Int32)), (.int (p4 &&& (3 : Int32)))] _
      refine XS.icmpNo X0.here hx rfl (hb hby at_39) rfl (teq c2).2 ?_
      show oS p e below s₁ m 42 #[oj q0, .second, oj q1, .second, oj q2, .second, oj q3, .second, oi p4, oj (q0 &&& (9223372036854775807 : Int64)), .second, oj (q1 &&& (9223372036854775807 : Int64)), .second, oj (q2 &&& (9223372036854775807 : Int64)), .second, oj (q3 &&& (9223372036854775807 : Int64)), .second, oi (p4 &&& (3 : Int32)), .unset, .unset, .unset, .unset] [] _
      refine XS.lload X0.here hx rfl (hb hby at_42) rfl ?_
      show oS p e below s₁ m 44 #[oj q0, .second, oj q1, .second, oj q2, .second, oj q3, .second, oi p4, oj (q0 &&& (9223372036854775807 : Int64)), .second, oj (q1 &&& (9223372036854775807 : Int64)), .second, oj (q2 &&& (9223372036854775807 : Int64)), .second, oj (q3 &&& (9223372036854775807 : Int64)), .second, oi (p4 &&& (3 : Int32)), .unset, .unset, .unset, .unset] [(.long (q0 &&& (9223372036854775807 : Int64)))] _
      refine XS.lstore X0.here hx rfl (hb hby at_44) rfl (l' := #[oj q0, .second, oj q1, .second, oj q2, .second, oj q3, .second, oi p4, oj (q0 &&& (9223372036854775807 : Int64)), .second, oj (q1 &&& (9223372036854775807 : Int64)), .second, oj (q0 &&& (9223372036854775807 : Int64)), .second, oj (q3 &&& (9223372036854775807 : Int64)), .second, oi (p4 &&& (3 : Int32)), .unset, .unset, .unset, .unset]) rfl ?_
      show oS p e below s₁ m 46 #[oj q0, .second, oj q1, .second, oj q2, .second, oj q3, .second, oi p4, oj (q0 &&& (9223372036854775807 : Int64)), .second, oj (q1 &&& (9223372036854775807 : Int64)), .second, oj (q0 &&& (9223372036854775807 : Int64)), .second, oj (q3 &&& (9223372036854775807 : Int64)), .second, oi (p4 &&& (3 : Int32)), .unset, .unset, .unset, .unset] [] _
      refine XS.lload X0.here hx rfl (hb hby at_46) rfl ?_
      show oS p e below s₁ m 48 #[oj q0, .second, oj q1, .second, oj q2, .second, oj q3, .second, oi p4, oj (q0 &&& (9223372036854775807 : Int64)), .second, oj (q1 &&& (9223372036854775807 : Int64)), .second, oj (q0 &&& (9223372036854775807 : Int64)), .second, oj (q3 &&& (9223372036854775807 : Int64)), .second, oi (p4 &&& (3 : Int32)), .unset, .unset, .unset, .unset] [(.long (q1 &&& (9223372036854775807 : Int64)))] _
      refine XS.iload X0.here hx rfl (hb hby at_48) rfl ?_
      show oS p e below s₁ m 50 #[oj q0, .second, oj q1, .second, oj q2, .second, oj q3, .second, oi p4, oj (q0 &&& (9223372036854775807 : Int64)), .second, oj (q1 &&& (9223372036854775807 : Int64)), .second, oj (q0 &&& (9223372036854775807 : Int64)), .second, oj (q3 &&& (9223372036854775807 : Int64)), .second, oi (p4 &&& (3 : Int32)), .unset, .unset, .unset, .unset] [(.int p4), (.long (q1 &&& (9223372036854775807 : Int64)))] _
      refine XS.iconst X0.here hx rfl (hb hby at_50) ?_
      show oS p e below s₁ m 51 #[oj q0, .second, oj q1, .second, oj q2, .second, oj q3, .second, oi p4, oj (q0 &&& (9223372036854775807 : Int64)), .second, oj (q1 &&& (9223372036854775807 : Int64)), .second, oj (q0 &&& (9223372036854775807 : Int64)), .second, oj (q3 &&& (9223372036854775807 : Int64)), .second, oi (p4 &&& (3 : Int32)), .unset, .unset, .unset, .unset] [(.int (2 : Int32)), (.int p4), (.long (q1 &&& (9223372036854775807 : Int64)))] _
      refine XS.iushr X0.here hx rfl (hb hby at_51) rfl ?_
      show oS p e below s₁ m 52 #[oj q0, .second, oj q1, .second, oj q2, .second, oj q3, .second, oi p4, oj (q0 &&& (9223372036854775807 : Int64)), .second, oj (q1 &&& (9223372036854775807 : Int64)), .second, oj (q0 &&& (9223372036854775807 : Int64)), .second, oj (q3 &&& (9223372036854775807 : Int64)), .second, oi (p4 &&& (3 : Int32)), .unset, .unset, .unset, .unset] [(.int ((p4.toUInt32 >>> ((2 : Int32) &&& 31).toUInt32).toInt32)), (.long (q1 &&& (9223372036854775807 : Int64)))] _
      refine XS.sipush X0.here hx rfl (hb hby at_52) ?_
      show oS p e below s₁ m 55 #[oj q0, .second, oj q1, .second, oj q2, .second, oj q3, .second, oi p4, oj (q0 &&& (9223372036854775807 : Int64)), .second, oj (q1 &&& (9223372036854775807 : Int64)), .second, oj (q0 &&& (9223372036854775807 : Int64)), .second, oj (q3 &&& (9223372036854775807 : Int64)), .second, oi (p4 &&& (3 : Int32)), .unset, .unset, .unset, .unset] [(.int (255 : Int32)), (.int ((p4.toUInt32 >>> ((2 : Int32) &&& 31).toUInt32).toInt32)), (.long (q1 &&& (9223372036854775807 : Int64)))] _
      refine XS.iand X0.here hx rfl (hb hby at_55) rfl ?_
      show oS p e below s₁ m 56 #[oj q0, .second, oj q1, .second, oj q2, .second, oj q3, .second, oi p4, oj (q0 &&& (9223372036854775807 : Int64)), .second, oj (q1 &&& (9223372036854775807 : Int64)), .second, oj (q0 &&& (9223372036854775807 : Int64)), .second, oj (q3 &&& (9223372036854775807 : Int64)), .second, oi (p4 &&& (3 : Int32)), .unset, .unset, .unset, .unset] [(.int (((p4.toUInt32 >>> ((2 : Int32) &&& 31).toUInt32).toInt32) &&& (255 : Int32))), (.long (q1 &&& (9223372036854775807 : Int64)))] _
      refine XS.i2l X0.here hx rfl (hb hby at_56) rfl ?_
      show oS p e below s₁ m 57 #[oj q0, .second, oj q1, .second, oj q2, .second, oj q3, .second, oi p4, oj (q0 &&& (9223372036854775807 : Int64)), .second, oj (q1 &&& (9223372036854775807 : Int64)), .second, oj (q0 &&& (9223372036854775807 : Int64)), .second, oj (q3 &&& (9223372036854775807 : Int64)), .second, oi (p4 &&& (3 : Int32)), .unset, .unset, .unset, .unset] [(.long ((((p4.toUInt32 >>> ((2 : Int32) &&& 31).toUInt32).toInt32) &&& (255 : Int32)).toInt64)), (.long (q1 &&& (9223372036854775807 : Int64)))] _
      refine XS.ladd X0.here hx rfl (hb hby at_57) rfl ?_
      show oS p e below s₁ m 58 #[oj q0, .second, oj q1, .second, oj q2, .second, oj q3, .second, oi p4, oj (q0 &&& (9223372036854775807 : Int64)), .second, oj (q1 &&& (9223372036854775807 : Int64)), .second, oj (q0 &&& (9223372036854775807 : Int64)), .second, oj (q3 &&& (9223372036854775807 : Int64)), .second, oi (p4 &&& (3 : Int32)), .unset, .unset, .unset, .unset] [(.long ((q1 &&& (9223372036854775807 : Int64)) + ((((p4.toUInt32 >>> ((2 : Int32) &&& 31).toUInt32).toInt32) &&& (255 : Int32)).toInt64)))] _
      refine X0.ldc2Long hx hown (mvT hZ (hw _ (List.mem_of_getElem? (i := 0) rfl))) (g := (mkF m 58 #[oj q0, .second, oj q1, .second, oj q2, .second, oj q3, .second, oi p4, oj (q0 &&& (9223372036854775807 : Int64)), .second, oj (q1 &&& (9223372036854775807 : Int64)), .second, oj (q0 &&& (9223372036854775807 : Int64)), .second, oj (q3 &&& (9223372036854775807 : Int64)), .second, oi (p4 &&& (3 : Int32)), .unset, .unset, .unset, .unset] [(.long ((q1 &&& (9223372036854775807 : Int64)) + ((((p4.toUInt32 >>> ((2 : Int32) &&& 31).toUInt32).toInt32) &&& (255 : Int32)).toInt64)))])) rfl (hb hby at_58) _ ?_
      show oS p e below s₁ m 61 #[oj q0, .second, oj q1, .second, oj q2, .second, oj q3, .second, oi p4, oj (q0 &&& (9223372036854775807 : Int64)), .second, oj (q1 &&& (9223372036854775807 : Int64)), .second, oj (q0 &&& (9223372036854775807 : Int64)), .second, oj (q3 &&& (9223372036854775807 : Int64)), .second, oi (p4 &&& (3 : Int32)), .unset, .unset, .unset, .unset] [(.long (9223372036854775807 : Int64)), (.long ((q1 &&& (9223372036854775807 : Int64)) + ((((p4.toUInt32 >>> ((2 : Int32) &&& 31).toUInt32).toInt32) &&& (255 : Int32)).toInt64)))] _
      refine XS.land X0.here hx rfl (hb hby at_61) rfl ?_
      show oS p e below s₁ m 62 #[oj q0, .second, oj q1, .second, oj q2, .second, oj q3, .second, oi p4, oj (q0 &&& (9223372036854775807 : Int64)), .second, oj (q1 &&& (9223372036854775807 : Int64)), .second, oj (q0 &&& (9223372036854775807 : Int64)), .second, oj (q3 &&& (9223372036854775807 : Int64)), .second, oi (p4 &&& (3 : Int32)), .unset, .unset, .unset, .unset] [(.long (((q1 &&& (9223372036854775807 : Int64)) + ((((p4.toUInt32 >>> ((2 : Int32) &&& 31).toUInt32).toInt32) &&& (255 : Int32)).toInt64)) &&& (9223372036854775807 : Int64)))] _
      refine XS.lstore X0.here hx rfl (hb hby at_62) rfl (l' := #[oj q0, .second, oj q1, .second, oj q2, .second, oj q3, .second, oi p4, oj (q0 &&& (9223372036854775807 : Int64)), .second, oj (q1 &&& (9223372036854775807 : Int64)), .second, oj (q0 &&& (9223372036854775807 : Int64)), .second, oj (((q1 &&& (9223372036854775807 : Int64)) + ((((p4.toUInt32 >>> ((2 : Int32) &&& 31).toUInt32).toInt32) &&& (255 : Int32)).toInt64)) &&& (9223372036854775807 : Int64)), .second, oi (p4 &&& (3 : Int32)), .unset, .unset, .unset, .unset]) rfl ?_
      show oS p e below s₁ m 64 #[oj q0, .second, oj q1, .second, oj q2, .second, oj q3, .second, oi p4, oj (q0 &&& (9223372036854775807 : Int64)), .second, oj (q1 &&& (9223372036854775807 : Int64)), .second, oj (q0 &&& (9223372036854775807 : Int64)), .second, oj (((q1 &&& (9223372036854775807 : Int64)) + ((((p4.toUInt32 >>> ((2 : Int32) &&& 31).toUInt32).toInt32) &&& (255 : Int32)).toInt64)) &&& (9223372036854775807 : Int64)), .second, oi (p4 &&& (3 : Int32)), .unset, .unset, .unset, .unset] [] _
      refine XS.goto X0.here hx rfl (pc0 := 64) (pc' := 122) rfl (hb hby at_64) (by decide) (by decide) ?_
      exact k
    · skip
      by_cases c3 : (p4 &&& (3 : Int32)) = (2 : Int32)
      · skip
        rw [show v5 = (q0 &&& (9223372036854775807 : Int64)) from hv5.trans (by rw [if_neg c2, if_pos c3])] at k
        rw [show v6 = (q1 &&& (9223372036854775807 : Int64)) from hv6.trans (by rw [if_neg c2, if_pos c3])] at k
        rw [show v7 = (q1 &&& (9223372036854775807 : Int64)) from hv7.trans (by rw [if_neg c2, if_pos c3])] at k
        rw [show v8 = (q0 &&& (9223372036854775807 : Int64)) from hv8.trans (by rw [if_neg c2, if_pos c3])] at k
        refine pre1 t ?_
        show oS p e below s₁ m 39 #[oj q0, .second, oj q1, .second, oj q2, .second, oj q3, .second, oi p4, oj (q0 &&& (9223372036854775807 : Int64)), .second, oj (q1 &&& (9223372036854775807 : Int64)), .second, oj (q2 &&& (9223372036854775807 : Int64)), .second, oj (q3 &&& (9223372036854775807 : Int64)), .second, oi (p4 &&& (3 : Int32)), .unset, .unset, .unset, .unset] [(.int (1 : Int32)), (.int (p4 &&& (3 : Int32)))] _
        refine XS.icmpYes X0.here hx rfl (pc0 := 39) (pc' := 67) rfl (hb hby at_39) rfl (feq c2).2 (by decide) (by decide) ?_
        show oS p e below s₁ m 67 #[oj q0, .second, oj q1, .second, oj q2, .second, oj q3, .second, oi p4, oj (q0 &&& (9223372036854775807 : Int64)), .second, oj (q1 &&& (9223372036854775807 : Int64)), .second, oj (q2 &&& (9223372036854775807 : Int64)), .second, oj (q3 &&& (9223372036854775807 : Int64)), .second, oi (p4 &&& (3 : Int32)), .unset, .unset, .unset, .unset] [] _
        refine XS.iload X0.here hx rfl (hb hby at_67) rfl ?_
        show oS p e below s₁ m 69 #[oj q0, .second, oj q1, .second, oj q2, .second, oj q3, .second, oi p4, oj (q0 &&& (9223372036854775807 : Int64)), .second, oj (q1 &&& (9223372036854775807 : Int64)), .second, oj (q2 &&& (9223372036854775807 : Int64)), .second, oj (q3 &&& (9223372036854775807 : Int64)), .second, oi (p4 &&& (3 : Int32)), .unset, .unset, .unset, .unset] [(.int (p4 &&& (3 : Int32)))] _
        refine XS.iconst X0.here hx rfl (hb hby at_69) ?_
        show oS p e below s₁ m 70 #[oj q0, .second, oj q1, .second, oj q2, .second, oj q3, .second, oi p4, oj (q0 &&& (9223372036854775807 : Int64)), .second, oj (q1 &&& (9223372036854775807 : Int64)), .second, oj (q2 &&& (9223372036854775807 : Int64)), .second, oj (q3 &&& (9223372036854775807 : Int64)), .second, oi (p4 &&& (3 : Int32)), .unset, .unset, .unset, .unset] [(.int (2 : Int32)), (.int (p4 &&& (3 : Int32)))] _
        refine XS.icmpNo X0.here hx rfl (hb hby at_70) rfl (teq c3).2 ?_
        show oS p e below s₁ m 73 #[oj q0, .second, oj q1, .second, oj q2, .second, oj q3, .second, oi p4, oj (q0 &&& (9223372036854775807 : Int64)), .second, oj (q1 &&& (9223372036854775807 : Int64)), .second, oj (q2 &&& (9223372036854775807 : Int64)), .second, oj (q3 &&& (9223372036854775807 : Int64)), .second, oi (p4 &&& (3 : Int32)), .unset, .unset, .unset, .unset] [] _
        refine XS.lload X0.here hx rfl (hb hby at_73) rfl ?_
        show oS p e below s₁ m 75 #[oj q0, .second, oj q1, .second, oj q2, .second, oj q3, .second, oi p4, oj (q0 &&& (9223372036854775807 : Int64)), .second, oj (q1 &&& (9223372036854775807 : Int64)), .second, oj (q2 &&& (9223372036854775807 : Int64)), .second, oj (q3 &&& (9223372036854775807 : Int64)), .second, oi (p4 &&& (3 : Int32)), .unset, .unset, .unset, .unset] [(.long (q1 &&& (9223372036854775807 : Int64)))] _
        refine XS.lstore X0.here hx rfl (hb hby at_75) rfl (l' := #[oj q0, .second, oj q1, .second, oj q2, .second, oj q3, .second, oi p4, oj (q0 &&& (9223372036854775807 : Int64)), .second, oj (q1 &&& (9223372036854775807 : Int64)), .second, oj (q1 &&& (9223372036854775807 : Int64)), .second, oj (q3 &&& (9223372036854775807 : Int64)), .second, oi (p4 &&& (3 : Int32)), .unset, .unset, .unset, .unset]) rfl ?_
        show oS p e below s₁ m 77 #[oj q0, .second, oj q1, .second, oj q2, .second, oj q3, .second, oi p4, oj (q0 &&& (9223372036854775807 : Int64)), .second, oj (q1 &&& (9223372036854775807 : Int64)), .second, oj (q1 &&& (9223372036854775807 : Int64)), .second, oj (q3 &&& (9223372036854775807 : Int64)), .second, oi (p4 &&& (3 : Int32)), .unset, .unset, .unset, .unset] [] _
        refine XS.lload X0.here hx rfl (hb hby at_77) rfl ?_
        show oS p e below s₁ m 79 #[oj q0, .second, oj q1, .second, oj q2, .second, oj q3, .second, oi p4, oj (q0 &&& (9223372036854775807 : Int64)), .second, oj (q1 &&& (9223372036854775807 : Int64)), .second, oj (q1 &&& (9223372036854775807 : Int64)), .second, oj (q3 &&& (9223372036854775807 : Int64)), .second, oi (p4 &&& (3 : Int32)), .unset, .unset, .unset, .unset] [(.long (q0 &&& (9223372036854775807 : Int64)))] _
        refine XS.lstore X0.here hx rfl (hb hby at_79) rfl (l' := #[oj q0, .second, oj q1, .second, oj q2, .second, oj q3, .second, oi p4, oj (q0 &&& (9223372036854775807 : Int64)), .second, oj (q1 &&& (9223372036854775807 : Int64)), .second, oj (q1 &&& (9223372036854775807 : Int64)), .second, oj (q0 &&& (9223372036854775807 : Int64)), .second, oi (p4 &&& (3 : Int32)), .unset, .unset, .unset, .unset]) rfl ?_
        show oS p e below s₁ m 81 #[oj q0, .second, oj q1, .second, oj q2, .second, oj q3, .second, oi p4, oj (q0 &&& (9223372036854775807 : Int64)), .second, oj (q1 &&& (9223372036854775807 : Int64)), .second, oj (q1 &&& (9223372036854775807 : Int64)), .second, oj (q0 &&& (9223372036854775807 : Int64)), .second, oi (p4 &&& (3 : Int32)), .unset, .unset, .unset, .unset] [] _
        refine XS.goto X0.here hx rfl (pc0 := 81) (pc' := 122) rfl (hb hby at_81) (by decide) (by decide) ?_
        exact k
      · skip
        by_cases c4 : (p4 &&& (3 : Int32)) = (3 : Int32)
        · skip
          rw [show v5 = ((q0 &&& (9223372036854775807 : Int64)) &&& (4294967295 : Int64)) from hv5.trans (by rw [if_neg c2, if_neg c3, if_pos c4])] at k
          rw [show v6 = ((q1 &&& (9223372036854775807 : Int64)) &&& (4294967295 : Int64)) from hv6.trans (by rw [if_neg c2, if_neg c3, if_pos c4])] at k
          rw [show v7 = ((q2 &&& (9223372036854775807 : Int64)) &&& (4294967295 : Int64)) from hv7.trans (by rw [if_neg c2, if_neg c3, if_pos c4])] at k
          rw [show v8 = ((q3 &&& (9223372036854775807 : Int64)) &&& (4294967295 : Int64)) from hv8.trans (by rw [if_neg c2, if_neg c3, if_pos c4])] at k
          refine pre1 t ?_
          show oS p e below s₁ m 39 #[oj q0, .second, oj q1, .second, oj q2, .second, oj q3, .second, oi p4, oj (q0 &&& (9223372036854775807 : Int64)), .second, oj (q1 &&& (9223372036854775807 : Int64)), .second, oj (q2 &&& (9223372036854775807 : Int64)), .second, oj (q3 &&& (9223372036854775807 : Int64)), .second, oi (p4 &&& (3 : Int32)), .unset, .unset, .unset, .unset] [(.int (1 : Int32)), (.int (p4 &&& (3 : Int32)))] _
          refine XS.icmpYes X0.here hx rfl (pc0 := 39) (pc' := 67) rfl (hb hby at_39) rfl (feq c2).2 (by decide) (by decide) ?_
          show oS p e below s₁ m 67 #[oj q0, .second, oj q1, .second, oj q2, .second, oj q3, .second, oi p4, oj (q0 &&& (9223372036854775807 : Int64)), .second, oj (q1 &&& (9223372036854775807 : Int64)), .second, oj (q2 &&& (9223372036854775807 : Int64)), .second, oj (q3 &&& (9223372036854775807 : Int64)), .second, oi (p4 &&& (3 : Int32)), .unset, .unset, .unset, .unset] [] _
          refine XS.iload X0.here hx rfl (hb hby at_67) rfl ?_
          show oS p e below s₁ m 69 #[oj q0, .second, oj q1, .second, oj q2, .second, oj q3, .second, oi p4, oj (q0 &&& (9223372036854775807 : Int64)), .second, oj (q1 &&& (9223372036854775807 : Int64)), .second, oj (q2 &&& (9223372036854775807 : Int64)), .second, oj (q3 &&& (9223372036854775807 : Int64)), .second, oi (p4 &&& (3 : Int32)), .unset, .unset, .unset, .unset] [(.int (p4 &&& (3 : Int32)))] _
          refine XS.iconst X0.here hx rfl (hb hby at_69) ?_
          show oS p e below s₁ m 70 #[oj q0, .second, oj q1, .second, oj q2, .second, oj q3, .second, oi p4, oj (q0 &&& (9223372036854775807 : Int64)), .second, oj (q1 &&& (9223372036854775807 : Int64)), .second, oj (q2 &&& (9223372036854775807 : Int64)), .second, oj (q3 &&& (9223372036854775807 : Int64)), .second, oi (p4 &&& (3 : Int32)), .unset, .unset, .unset, .unset] [(.int (2 : Int32)), (.int (p4 &&& (3 : Int32)))] _
          refine XS.icmpYes X0.here hx rfl (pc0 := 70) (pc' := 84) rfl (hb hby at_70) rfl (feq c3).2 (by decide) (by decide) ?_
          show oS p e below s₁ m 84 #[oj q0, .second, oj q1, .second, oj q2, .second, oj q3, .second, oi p4, oj (q0 &&& (9223372036854775807 : Int64)), .second, oj (q1 &&& (9223372036854775807 : Int64)), .second, oj (q2 &&& (9223372036854775807 : Int64)), .second, oj (q3 &&& (9223372036854775807 : Int64)), .second, oi (p4 &&& (3 : Int32)), .unset, .unset, .unset, .unset] [] _
          refine XS.iload X0.here hx rfl (hb hby at_84) rfl ?_
          show oS p e below s₁ m 86 #[oj q0, .second, oj q1, .second, oj q2, .second, oj q3, .second, oi p4, oj (q0 &&& (9223372036854775807 : Int64)), .second, oj (q1 &&& (9223372036854775807 : Int64)), .second, oj (q2 &&& (9223372036854775807 : Int64)), .second, oj (q3 &&& (9223372036854775807 : Int64)), .second, oi (p4 &&& (3 : Int32)), .unset, .unset, .unset, .unset] [(.int (p4 &&& (3 : Int32)))] _
          refine XS.iconst X0.here hx rfl (hb hby at_86) ?_
          show oS p e below s₁ m 87 #[oj q0, .second, oj q1, .second, oj q2, .second, oj q3, .second, oi p4, oj (q0 &&& (9223372036854775807 : Int64)), .second, oj (q1 &&& (9223372036854775807 : Int64)), .second, oj (q2 &&& (9223372036854775807 : Int64)), .second, oj (q3 &&& (9223372036854775807 : Int64)), .second, oi (p4 &&& (3 : Int32)), .unset, .unset, .unset, .unset] [(.int (3 : Int32)), (.int (p4 &&& (3 : Int32)))] _
          refine XS.icmpNo X0.here hx rfl (hb hby at_87) rfl (teq c4).2 ?_
          show oS p e below s₁ m 90 #[oj q0, .second, oj q1, .second, oj q2, .second, oj q3, .second, oi p4, oj (q0 &&& (9223372036854775807 : Int64)), .second, oj (q1 &&& (9223372036854775807 : Int64)), .second, oj (q2 &&& (9223372036854775807 : Int64)), .second, oj (q3 &&& (9223372036854775807 : Int64)), .second, oi (p4 &&& (3 : Int32)), .unset, .unset, .unset, .unset] [] _
          refine XS.lload X0.here hx rfl (hb hby at_90) rfl ?_
          show oS p e below s₁ m 92 #[oj q0, .second, oj q1, .second, oj q2, .second, oj q3, .second, oi p4, oj (q0 &&& (9223372036854775807 : Int64)), .second, oj (q1 &&& (9223372036854775807 : Int64)), .second, oj (q2 &&& (9223372036854775807 : Int64)), .second, oj (q3 &&& (9223372036854775807 : Int64)), .second, oi (p4 &&& (3 : Int32)), .unset, .unset, .unset, .unset] [(.long (q0 &&& (9223372036854775807 : Int64)))] _
          refine X0.ldc2Long hx hown (mvT hZ (hw _ (List.mem_of_getElem? (i := 1) rfl))) (g := (mkF m 92 #[oj q0, .second, oj q1, .second, oj q2, .second, oj q3, .second, oi p4, oj (q0 &&& (9223372036854775807 : Int64)), .second, oj (q1 &&& (9223372036854775807 : Int64)), .second, oj (q2 &&& (9223372036854775807 : Int64)), .second, oj (q3 &&& (9223372036854775807 : Int64)), .second, oi (p4 &&& (3 : Int32)), .unset, .unset, .unset, .unset] [(.long (q0 &&& (9223372036854775807 : Int64)))])) rfl (hb hby at_92) _ ?_
          show oS p e below s₁ m 95 #[oj q0, .second, oj q1, .second, oj q2, .second, oj q3, .second, oi p4, oj (q0 &&& (9223372036854775807 : Int64)), .second, oj (q1 &&& (9223372036854775807 : Int64)), .second, oj (q2 &&& (9223372036854775807 : Int64)), .second, oj (q3 &&& (9223372036854775807 : Int64)), .second, oi (p4 &&& (3 : Int32)), .unset, .unset, .unset, .unset] [(.long (4294967295 : Int64)), (.long (q0 &&& (9223372036854775807 : Int64)))] _
          refine XS.land X0.here hx rfl (hb hby at_95) rfl ?_
          show oS p e below s₁ m 96 #[oj q0, .second, oj q1, .second, oj q2, .second, oj q3, .second, oi p4, oj (q0 &&& (9223372036854775807 : Int64)), .second, oj (q1 &&& (9223372036854775807 : Int64)), .second, oj (q2 &&& (9223372036854775807 : Int64)), .second, oj (q3 &&& (9223372036854775807 : Int64)), .second, oi (p4 &&& (3 : Int32)), .unset, .unset, .unset, .unset] [(.long ((q0 &&& (9223372036854775807 : Int64)) &&& (4294967295 : Int64)))] _
          refine XS.lstore X0.here hx rfl (hb hby at_96) rfl (l' := #[oj q0, .second, oj q1, .second, oj q2, .second, oj q3, .second, oi p4, oj ((q0 &&& (9223372036854775807 : Int64)) &&& (4294967295 : Int64)), .second, oj (q1 &&& (9223372036854775807 : Int64)), .second, oj (q2 &&& (9223372036854775807 : Int64)), .second, oj (q3 &&& (9223372036854775807 : Int64)), .second, oi (p4 &&& (3 : Int32)), .unset, .unset, .unset, .unset]) rfl ?_
          show oS p e below s₁ m 98 #[oj q0, .second, oj q1, .second, oj q2, .second, oj q3, .second, oi p4, oj ((q0 &&& (9223372036854775807 : Int64)) &&& (4294967295 : Int64)), .second, oj (q1 &&& (9223372036854775807 : Int64)), .second, oj (q2 &&& (9223372036854775807 : Int64)), .second, oj (q3 &&& (9223372036854775807 : Int64)), .second, oi (p4 &&& (3 : Int32)), .unset, .unset, .unset, .unset] [] _
          refine XS.lload X0.here hx rfl (hb hby at_98) rfl ?_
          show oS p e below s₁ m 100 #[oj q0, .second, oj q1, .second, oj q2, .second, oj q3, .second, oi p4, oj ((q0 &&& (9223372036854775807 : Int64)) &&& (4294967295 : Int64)), .second, oj (q1 &&& (9223372036854775807 : Int64)), .second, oj (q2 &&& (9223372036854775807 : Int64)), .second, oj (q3 &&& (9223372036854775807 : Int64)), .second, oi (p4 &&& (3 : Int32)), .unset, .unset, .unset, .unset] [(.long (q1 &&& (9223372036854775807 : Int64)))] _
          refine X0.ldc2Long hx hown (mvT hZ (hw _ (List.mem_of_getElem? (i := 1) rfl))) (g := (mkF m 100 #[oj q0, .second, oj q1, .second, oj q2, .second, oj q3, .second, oi p4, oj ((q0 &&& (9223372036854775807 : Int64)) &&& (4294967295 : Int64)), .second, oj (q1 &&& (9223372036854775807 : Int64)), .second, oj (q2 &&& (9223372036854775807 : Int64)), .second, oj (q3 &&& (9223372036854775807 : Int64)), .second, oi (p4 &&& (3 : Int32)), .unset, .unset, .unset, .unset] [(.long (q1 &&& (9223372036854775807 : Int64)))])) rfl (hb hby at_100) _ ?_
          show oS p e below s₁ m 103 #[oj q0, .second, oj q1, .second, oj q2, .second, oj q3, .second, oi p4, oj ((q0 &&& (9223372036854775807 : Int64)) &&& (4294967295 : Int64)), .second, oj (q1 &&& (9223372036854775807 : Int64)), .second, oj (q2 &&& (9223372036854775807 : Int64)), .second, oj (q3 &&& (9223372036854775807 : Int64)), .second, oi (p4 &&& (3 : Int32)), .unset, .unset, .unset, .unset] [(.long (4294967295 : Int64)), (.long (q1 &&& (9223372036854775807 : Int64)))] _
          refine XS.land X0.here hx rfl (hb hby at_103) rfl ?_
          show oS p e below s₁ m 104 #[oj q0, .second, oj q1, .second, oj q2, .second, oj q3, .second, oi p4, oj ((q0 &&& (9223372036854775807 : Int64)) &&& (4294967295 : Int64)), .second, oj (q1 &&& (9223372036854775807 : Int64)), .second, oj (q2 &&& (9223372036854775807 : Int64)), .second, oj (q3 &&& (9223372036854775807 : Int64)), .second, oi (p4 &&& (3 : Int32)), .unset, .unset, .unset, .unset] [(.long ((q1 &&& (9223372036854775807 : Int64)) &&& (4294967295 : Int64)))] _
          refine XS.lstore X0.here hx rfl (hb hby at_104) rfl (l' := #[oj q0, .second, oj q1, .second, oj q2, .second, oj q3, .second, oi p4, oj ((q0 &&& (9223372036854775807 : Int64)) &&& (4294967295 : Int64)), .second, oj ((q1 &&& (9223372036854775807 : Int64)) &&& (4294967295 : Int64)), .second, oj (q2 &&& (9223372036854775807 : Int64)), .second, oj (q3 &&& (9223372036854775807 : Int64)), .second, oi (p4 &&& (3 : Int32)), .unset, .unset, .unset, .unset]) rfl ?_
          show oS p e below s₁ m 106 #[oj q0, .second, oj q1, .second, oj q2, .second, oj q3, .second, oi p4, oj ((q0 &&& (9223372036854775807 : Int64)) &&& (4294967295 : Int64)), .second, oj ((q1 &&& (9223372036854775807 : Int64)) &&& (4294967295 : Int64)), .second, oj (q2 &&& (9223372036854775807 : Int64)), .second, oj (q3 &&& (9223372036854775807 : Int64)), .second, oi (p4 &&& (3 : Int32)), .unset, .unset, .unset, .unset] [] _
          refine XS.lload X0.here hx rfl (hb hby at_106) rfl ?_
          show oS p e below s₁ m 108 #[oj q0, .second, oj q1, .second, oj q2, .second, oj q3, .second, oi p4, oj ((q0 &&& (9223372036854775807 : Int64)) &&& (4294967295 : Int64)), .second, oj ((q1 &&& (9223372036854775807 : Int64)) &&& (4294967295 : Int64)), .second, oj (q2 &&& (9223372036854775807 : Int64)), .second, oj (q3 &&& (9223372036854775807 : Int64)), .second, oi (p4 &&& (3 : Int32)), .unset, .unset, .unset, .unset] [(.long (q2 &&& (9223372036854775807 : Int64)))] _
          refine X0.ldc2Long hx hown (mvT hZ (hw _ (List.mem_of_getElem? (i := 1) rfl))) (g := (mkF m 108 #[oj q0, .second, oj q1, .second, oj q2, .second, oj q3, .second, oi p4, oj ((q0 &&& (9223372036854775807 : Int64)) &&& (4294967295 : Int64)), .second, oj ((q1 &&& (9223372036854775807 : Int64)) &&& (4294967295 : Int64)), .second, oj (q2 &&& (9223372036854775807 : Int64)), .second, oj (q3 &&& (9223372036854775807 : Int64)), .second, oi (p4 &&& (3 : Int32)), .unset, .unset, .unset, .unset] [(.long (q2 &&& (9223372036854775807 : Int64)))])) rfl (hb hby at_108) _ ?_
          show oS p e below s₁ m 111 #[oj q0, .second, oj q1, .second, oj q2, .second, oj q3, .second, oi p4, oj ((q0 &&& (9223372036854775807 : Int64)) &&& (4294967295 : Int64)), .second, oj ((q1 &&& (9223372036854775807 : Int64)) &&& (4294967295 : Int64)), .second, oj (q2 &&& (9223372036854775807 : Int64)), .second, oj (q3 &&& (9223372036854775807 : Int64)), .second, oi (p4 &&& (3 : Int32)), .unset, .unset, .unset, .unset] [(.long (4294967295 : Int64)), (.long (q2 &&& (9223372036854775807 : Int64)))] _
          refine XS.land X0.here hx rfl (hb hby at_111) rfl ?_
          show oS p e below s₁ m 112 #[oj q0, .second, oj q1, .second, oj q2, .second, oj q3, .second, oi p4, oj ((q0 &&& (9223372036854775807 : Int64)) &&& (4294967295 : Int64)), .second, oj ((q1 &&& (9223372036854775807 : Int64)) &&& (4294967295 : Int64)), .second, oj (q2 &&& (9223372036854775807 : Int64)), .second, oj (q3 &&& (9223372036854775807 : Int64)), .second, oi (p4 &&& (3 : Int32)), .unset, .unset, .unset, .unset] [(.long ((q2 &&& (9223372036854775807 : Int64)) &&& (4294967295 : Int64)))] _
          refine XS.lstore X0.here hx rfl (hb hby at_112) rfl (l' := #[oj q0, .second, oj q1, .second, oj q2, .second, oj q3, .second, oi p4, oj ((q0 &&& (9223372036854775807 : Int64)) &&& (4294967295 : Int64)), .second, oj ((q1 &&& (9223372036854775807 : Int64)) &&& (4294967295 : Int64)), .second, oj ((q2 &&& (9223372036854775807 : Int64)) &&& (4294967295 : Int64)), .second, oj (q3 &&& (9223372036854775807 : Int64)), .second, oi (p4 &&& (3 : Int32)), .unset, .unset, .unset, .unset]) rfl ?_
          show oS p e below s₁ m 114 #[oj q0, .second, oj q1, .second, oj q2, .second, oj q3, .second, oi p4, oj ((q0 &&& (9223372036854775807 : Int64)) &&& (4294967295 : Int64)), .second, oj ((q1 &&& (9223372036854775807 : Int64)) &&& (4294967295 : Int64)), .second, oj ((q2 &&& (9223372036854775807 : Int64)) &&& (4294967295 : Int64)), .second, oj (q3 &&& (9223372036854775807 : Int64)), .second, oi (p4 &&& (3 : Int32)), .unset, .unset, .unset, .unset] [] _
          refine XS.lload X0.here hx rfl (hb hby at_114) rfl ?_
          show oS p e below s₁ m 116 #[oj q0, .second, oj q1, .second, oj q2, .second, oj q3, .second, oi p4, oj ((q0 &&& (9223372036854775807 : Int64)) &&& (4294967295 : Int64)), .second, oj ((q1 &&& (9223372036854775807 : Int64)) &&& (4294967295 : Int64)), .second, oj ((q2 &&& (9223372036854775807 : Int64)) &&& (4294967295 : Int64)), .second, oj (q3 &&& (9223372036854775807 : Int64)), .second, oi (p4 &&& (3 : Int32)), .unset, .unset, .unset, .unset] [(.long (q3 &&& (9223372036854775807 : Int64)))] _
          refine X0.ldc2Long hx hown (mvT hZ (hw _ (List.mem_of_getElem? (i := 1) rfl))) (g := (mkF m 116 #[oj q0, .second, oj q1, .second, oj q2, .second, oj q3, .second, oi p4, oj ((q0 &&& (9223372036854775807 : Int64)) &&& (4294967295 : Int64)), .second, oj ((q1 &&& (9223372036854775807 : Int64)) &&& (4294967295 : Int64)), .second, oj ((q2 &&& (9223372036854775807 : Int64)) &&& (4294967295 : Int64)), .second, oj (q3 &&& (9223372036854775807 : Int64)), .second, oi (p4 &&& (3 : Int32)), .unset, .unset, .unset, .unset] [(.long (q3 &&& (9223372036854775807 : Int64)))])) rfl (hb hby at_116) _ ?_
          show oS p e below s₁ m 119 #[oj q0, .second, oj q1, .second, oj q2, .second, oj q3, .second, oi p4, oj ((q0 &&& (9223372036854775807 : Int64)) &&& (4294967295 : Int64)), .second, oj ((q1 &&& (9223372036854775807 : Int64)) &&& (4294967295 : Int64)), .second, oj ((q2 &&& (9223372036854775807 : Int64)) &&& (4294967295 : Int64)), .second, oj (q3 &&& (9223372036854775807 : Int64)), .second, oi (p4 &&& (3 : Int32)), .unset, .unset, .unset, .unset] [(.long (4294967295 : Int64)), (.long (q3 &&& (9223372036854775807 : Int64)))] _
          refine XS.land X0.here hx rfl (hb hby at_119) rfl ?_
          show oS p e below s₁ m 120 #[oj q0, .second, oj q1, .second, oj q2, .second, oj q3, .second, oi p4, oj ((q0 &&& (9223372036854775807 : Int64)) &&& (4294967295 : Int64)), .second, oj ((q1 &&& (9223372036854775807 : Int64)) &&& (4294967295 : Int64)), .second, oj ((q2 &&& (9223372036854775807 : Int64)) &&& (4294967295 : Int64)), .second, oj (q3 &&& (9223372036854775807 : Int64)), .second, oi (p4 &&& (3 : Int32)), .unset, .unset, .unset, .unset] [(.long ((q3 &&& (9223372036854775807 : Int64)) &&& (4294967295 : Int64)))] _
          refine XS.lstore X0.here hx rfl (hb hby at_120) rfl (l' := #[oj q0, .second, oj q1, .second, oj q2, .second, oj q3, .second, oi p4, oj ((q0 &&& (9223372036854775807 : Int64)) &&& (4294967295 : Int64)), .second, oj ((q1 &&& (9223372036854775807 : Int64)) &&& (4294967295 : Int64)), .second, oj ((q2 &&& (9223372036854775807 : Int64)) &&& (4294967295 : Int64)), .second, oj ((q3 &&& (9223372036854775807 : Int64)) &&& (4294967295 : Int64)), .second, oi (p4 &&& (3 : Int32)), .unset, .unset, .unset, .unset]) rfl ?_
          exact k
        · skip
          rw [show v5 = (q0 &&& (9223372036854775807 : Int64)) from hv5.trans (by rw [if_neg c2, if_neg c3, if_neg c4])] at k
          rw [show v6 = (q1 &&& (9223372036854775807 : Int64)) from hv6.trans (by rw [if_neg c2, if_neg c3, if_neg c4])] at k
          rw [show v7 = (q2 &&& (9223372036854775807 : Int64)) from hv7.trans (by rw [if_neg c2, if_neg c3, if_neg c4])] at k
          rw [show v8 = (q3 &&& (9223372036854775807 : Int64)) from hv8.trans (by rw [if_neg c2, if_neg c3, if_neg c4])] at k
          refine pre1 t ?_
          show oS p e below s₁ m 39 #[oj q0, .second, oj q1, .second, oj q2, .second, oj q3, .second, oi p4, oj (q0 &&& (9223372036854775807 : Int64)), .second, oj (q1 &&& (9223372036854775807 : Int64)), .second, oj (q2 &&& (9223372036854775807 : Int64)), .second, oj (q3 &&& (9223372036854775807 : Int64)), .second, oi (p4 &&& (3 : Int32)), .unset, .unset, .unset, .unset] [(.int (1 : Int32)), (.int (p4 &&& (3 : Int32)))] _
          refine XS.icmpYes X0.here hx rfl (pc0 := 39) (pc' := 67) rfl (hb hby at_39) rfl (feq c2).2 (by decide) (by decide) ?_
          show oS p e below s₁ m 67 #[oj q0, .second, oj q1, .second, oj q2, .second, oj q3, .second, oi p4, oj (q0 &&& (9223372036854775807 : Int64)), .second, oj (q1 &&& (9223372036854775807 : Int64)), .second, oj (q2 &&& (9223372036854775807 : Int64)), .second, oj (q3 &&& (9223372036854775807 : Int64)), .second, oi (p4 &&& (3 : Int32)), .unset, .unset, .unset, .unset] [] _
          refine XS.iload X0.here hx rfl (hb hby at_67) rfl ?_
          show oS p e below s₁ m 69 #[oj q0, .second, oj q1, .second, oj q2, .second, oj q3, .second, oi p4, oj (q0 &&& (9223372036854775807 : Int64)), .second, oj (q1 &&& (9223372036854775807 : Int64)), .second, oj (q2 &&& (9223372036854775807 : Int64)), .second, oj (q3 &&& (9223372036854775807 : Int64)), .second, oi (p4 &&& (3 : Int32)), .unset, .unset, .unset, .unset] [(.int (p4 &&& (3 : Int32)))] _
          refine XS.iconst X0.here hx rfl (hb hby at_69) ?_
          show oS p e below s₁ m 70 #[oj q0, .second, oj q1, .second, oj q2, .second, oj q3, .second, oi p4, oj (q0 &&& (9223372036854775807 : Int64)), .second, oj (q1 &&& (9223372036854775807 : Int64)), .second, oj (q2 &&& (9223372036854775807 : Int64)), .second, oj (q3 &&& (9223372036854775807 : Int64)), .second, oi (p4 &&& (3 : Int32)), .unset, .unset, .unset, .unset] [(.int (2 : Int32)), (.int (p4 &&& (3 : Int32)))] _
          refine XS.icmpYes X0.here hx rfl (pc0 := 70) (pc' := 84) rfl (hb hby at_70) rfl (feq c3).2 (by decide) (by decide) ?_
          show oS p e below s₁ m 84 #[oj q0, .second, oj q1, .second, oj q2, .second, oj q3, .second, oi p4, oj (q0 &&& (9223372036854775807 : Int64)), .second, oj (q1 &&& (9223372036854775807 : Int64)), .second, oj (q2 &&& (9223372036854775807 : Int64)), .second, oj (q3 &&& (9223372036854775807 : Int64)), .second, oi (p4 &&& (3 : Int32)), .unset, .unset, .unset, .unset] [] _
          refine XS.iload X0.here hx rfl (hb hby at_84) rfl ?_
          show oS p e below s₁ m 86 #[oj q0, .second, oj q1, .second, oj q2, .second, oj q3, .second, oi p4, oj (q0 &&& (9223372036854775807 : Int64)), .second, oj (q1 &&& (9223372036854775807 : Int64)), .second, oj (q2 &&& (9223372036854775807 : Int64)), .second, oj (q3 &&& (9223372036854775807 : Int64)), .second, oi (p4 &&& (3 : Int32)), .unset, .unset, .unset, .unset] [(.int (p4 &&& (3 : Int32)))] _
          refine XS.iconst X0.here hx rfl (hb hby at_86) ?_
          show oS p e below s₁ m 87 #[oj q0, .second, oj q1, .second, oj q2, .second, oj q3, .second, oi p4, oj (q0 &&& (9223372036854775807 : Int64)), .second, oj (q1 &&& (9223372036854775807 : Int64)), .second, oj (q2 &&& (9223372036854775807 : Int64)), .second, oj (q3 &&& (9223372036854775807 : Int64)), .second, oi (p4 &&& (3 : Int32)), .unset, .unset, .unset, .unset] [(.int (3 : Int32)), (.int (p4 &&& (3 : Int32)))] _
          refine XS.icmpYes X0.here hx rfl (pc0 := 87) (pc' := 122) rfl (hb hby at_87) rfl (feq c4).2 (by decide) (by decide) ?_
          exact k
  have r9 : 0 ≤ (v5).toInt := by rw [hv5]; exact own_pos4 (own_nn _) (own_nn _) (own_nn2 _) (own_nn _)
  have r11 : 0 ≤ (v6).toInt := by rw [hv6]; exact own_pos4 (own_nn _) (own_nn _) (own_nn2 _) (own_nn _)
  have r13 : 0 ≤ (v7).toInt := by rw [hv7]; exact own_pos4 (own_nn _) (own_nn _) (own_nn2 _) (own_nn _)
  have r15 : 0 ≤ (v8).toInt := by rw [hv8]; exact own_pos4 (own_nn _) (own_nn _) (own_nn2 _) (own_nn _)
  obtain ⟨T10, h10, k10, X10, e10, E10, A10, st10⟩ := newP X0 hx hZ (hw _ (List.mem_of_getElem? (i := 2) rfl)) e0 (g := (mkF m 123 #[oj q0, .second, oj q1, .second, oj q2, .second, oj q3, .second, oi p4, oj v5, .second, oj v6, .second, oj v7, .second, oj v8, .second, oi (p4 &&& (3 : Int32)), .unset, .unset, .unset, .unset] [(.int (3 : Int32))])) rfl (hb hby at_123) rfl (by decide) (cap := 3) (by decide) (by decide) (by decide) (by decide)
  obtain ⟨b10, g10⟩ : ∃ z, z = h0.size := ⟨_, rfl⟩
  rw [← g10] at A10 st10
  have g_b10 : n0 ≤ b10 := Nat.le_trans Z0 (Nat.le_of_eq g10.symm)
  have Z10 : n0 ≤ h10.size := Nat.le_trans Z0 E10.1
  have V_11 : Arv Z h10 b10 k10 .long (3 : Int32) [(.long (0 : Int64)), (.long (0 : Int64)), (.long (0 : Int64))] (.long (0 : Int64)) := (Arv.new A10 (by decide)).pad (pad_rep [] (.long (0 : Int64)) 3)
  obtain ⟨T12, h12, k12, X12, e12, E12, A12, st12⟩ := newP X10 hx hZ (hw _ (List.mem_of_getElem? (i := 2) rfl)) e10 (g := (mkF m 128 #[oj q0, .second, oj q1, .second, oj q2, .second, oj q3, .second, oi p4, oj v5, .second, oj v6, .second, oj v7, .second, oj v8, .second, oi (p4 &&& (3 : Int32)), oa b10, .unset, .unset, .unset] [(.int (3 : Int32))])) rfl (hb hby at_128) rfl (by decide) (cap := 3) (by decide) (by decide) (by decide) (by decide)
  obtain ⟨b12, g12⟩ : ∃ z, z = h10.size := ⟨_, rfl⟩
  rw [← g12] at A12 st12
  have g_b12 : n0 ≤ b12 := Nat.le_trans Z10 (Nat.le_of_eq g12.symm)
  have ne13 : b10 ≠ b12 := Nat.ne_of_lt (Nat.lt_of_lt_of_le V_11.lt (Nat.le_of_eq g12.symm))
  have Z12 : n0 ≤ h12.size := Nat.le_trans Z10 E12.1
  have F14 := V_11.ext E12
  have V_15 : Arv Z h12 b12 k12 .long (3 : Int32) [(.long (0 : Int64)), (.long (0 : Int64)), (.long (0 : Int64))] (.long (0 : Int64)) := (Arv.new A12 (by decide)).pad (pad_rep [] (.long (0 : Int64)) 3)
  obtain ⟨_, _, ⟨T16, L16, k16, n16⟩, -, X16, ⟨Lc16, hQ16, l16, y16, z16⟩, st16⟩ := Jvm.LawKit.callS X12 hx (y := (⟨"com/example/strict_anon/strictanon/util/ProductsComparePinLaw", "limbs", "(JJ[J)V"⟩ : MethodName)) hown (mvT hZ (hw _ (List.mem_of_getElem? (i := 3) rfl))) (mvT hZ (hw _ (List.mem_of_getElem? (i := 4) rfl))) (mvT hZ (hw _ (List.mem_of_getElem? (i := 5) rfl))) (mvT hZ (hw _ (List.mem_of_getElem? (i := 6) rfl))) (by decide) (backOf (W := 0) (own_rm1 l Z av hw [] v5 v6 b10 k10 h12 n0 Z12 F14 g_b10) hZ (hw _ (List.mem_of_getElem? (i := 6) rfl)) (hw _ (List.mem_of_getElem? (i := 5) rfl)) (by decide) (by decide)) (g := (mkF m 138 #[oj q0, .second, oj q1, .second, oj q2, .second, oj q3, .second, oi p4, oj v5, .second, oj v6, .second, oj v7, .second, oj v8, .second, oi (p4 &&& (3 : Int32)), oa b10, oa b12, .unset, .unset] [(.ref b10), (.long v6), (.long v5)])) rfl (by rw [hml]; rfl) (argsL := [(.long v5), (.long v6), (.ref b10)]) (rest := []) (lenOf own_pd2 rfl) rfl (by show 2 * 0 + _ ≤ _; exact Nat.le_of_eq rfl) (hb hby at_138) (fun _ _ => ⟨rfl, e12, (by decide : 2 + 0 ≤ _), (by decide : 6 + 0 ≤ _)⟩)
  dsimp only [Pt.U, Pt.locs, Pt.cells, Pt.slots] at X16 l16 y16 z16 st16 hQ16
  have yq16 : k16 = 2 := y16
  have zq16 : n16 = 6 := z16
  subst yq16 zq16
  obtain ⟨rfl, Nq16, Kq16, Oq16_0⟩ := hQ16
  have N16 : Fr n0 L16 := by rw [l16]; exact Fr.app N0 Nq16
  have Z16 : n0 ≤ T16.heap.size := Nat.le_trans Z12 Kq16.1
  have F17 := V_15.keep Kq16 (ninS (Ne.symm ne13) nin0)
  obtain ⟨_, _, ⟨T18, L18, k18, n18⟩, -, X18, ⟨Lc18, hQ18, l18, y18, z18⟩, st18⟩ := Jvm.LawKit.callS X16 hx (y := (⟨"com/example/strict_anon/strictanon/util/ProductsComparePinLaw", "limbs", "(JJ[J)V"⟩ : MethodName)) hown (mvT hZ (hw _ (List.mem_of_getElem? (i := 3) rfl))) (mvT hZ (hw _ (List.mem_of_getElem? (i := 4) rfl))) (mvT hZ (hw _ (List.mem_of_getElem? (i := 5) rfl))) (mvT hZ (hw _ (List.mem_of_getElem? (i := 6) rfl))) (by decide) (backOf (W := 0) (own_rm1 l Z av hw [] v7 v8 b12 k12 T16.heap n0 Z16 F17 g_b12) hZ (hw _ (List.mem_of_getElem? (i := 6) rfl)) (hw _ (List.mem_of_getElem? (i := 5) rfl)) (by decide) (by decide)) (g := (mkF m 147 #[oj q0, .second, oj q1, .second, oj q2, .second, oj q3, .second, oi p4, oj v5, .second, oj v6, .second, oj v7, .second, oj v8, .second, oi (p4 &&& (3 : Int32)), oa b10, oa b12, .unset, .unset] [(.ref b12), (.long v8), (.long v7)])) rfl (by rw [hml]; rfl) (argsL := [(.long v7), (.long v8), (.ref b12)]) (rest := []) (lenOf own_pd2 rfl) rfl (by show 2 * 0 + _ ≤ _; exact Nat.le_of_eq rfl) (hb hby at_147) (fun _ _ => ⟨rfl, rfl, (by decide : 2 + 0 ≤ _), (by decide : 6 + 0 ≤ _)⟩)
  dsimp only [Pt.U, Pt.locs, Pt.cells, Pt.slots] at X18 l18 y18 z18 st18 hQ18
  have yq18 : k18 = 2 := y18
  have zq18 : n18 = 6 := z18
  subst yq18 zq18
  obtain ⟨rfl, Nq18, Kq18, Oq18_0⟩ := hQ18
  have N18 : Fr n0 L18 := by rw [l18]; exact Fr.app N16 Nq18
  have Z18 : n0 ≤ T18.heap.size := Nat.le_trans Z16 Kq18.1
  have F19 := Oq16_0.keep Kq18 (ninS ne13 nin0)
  obtain ⟨_, _, ⟨T20, L20, k20, n20⟩, -, X20, ⟨Lc20, hQ20, l20, y20, z20⟩, st20⟩ := Jvm.LawKit.callS X18 hx (y := (⟨"com/example/strict_anon/strictanon/util/ProductsComparePinLaw", "cmp", "(JJ)I"⟩ : MethodName)) hown (mvT hZ (hw _ (List.mem_of_getElem? (i := 7) rfl))) (mvT hZ (hw _ (List.mem_of_getElem? (i := 8) rfl))) (mvT hZ (hw _ (List.mem_of_getElem? (i := 5) rfl))) (mvT hZ (hw _ (List.mem_of_getElem? (i := 9) rfl))) (by decide) (backOf (W := 0) (own_rm2 l Z av hw [] (own_x0 v5 v6) (own_x0 v7 v8) T18.heap n0 Z18 ) hZ (hw _ (List.mem_of_getElem? (i := 9) rfl)) (hw _ (List.mem_of_getElem? (i := 5) rfl)) (by decide) (by decide)) (g := (mkF m 158 #[oj q0, .second, oj q1, .second, oj q2, .second, oj q3, .second, oi p4, oj v5, .second, oj v6, .second, oj v7, .second, oj v8, .second, oi (p4 &&& (3 : Int32)), oa b10, oa b12, .unset, .unset] [(.long (own_x0 v7 v8)), (.long (own_x0 v5 v6))])) rfl (by rw [hml]; rfl) (argsL := [(.long (own_x0 v5 v6)), (.long (own_x0 v7 v8))]) (rest := []) (lenOf own_pd0 rfl) rfl (by show 2 * 0 + _ ≤ _; exact Nat.le_of_eq rfl) (hb hby at_158) (fun _ _ => ⟨rfl, rfl, (by decide : 2 + 0 ≤ _), (by decide : 6 + 0 ≤ _)⟩)
  dsimp only [Pt.U, Pt.locs, Pt.cells, Pt.slots] at X20 l20 y20 z20 st20 hQ20
  have yq20 : k20 = 2 := y20
  have zq20 : n20 = 6 := z20
  subst yq20 zq20
  obtain ⟨rfl, Nq20, eq20⟩ := hQ20
  have N20 : Fr n0 L20 := by rw [l20]; exact Fr.app N18 Nq20
  have pre21 : ∀ t, Steps p.tables e below (T20.setTop (mkF m 165 #[oj q0, .second, oj q1, .second, oj q2, .second, oj q3, .second, oi p4, oj v5, .second, oj v6, .second, oj v7, .second, oj v8, .second, oi (p4 &&& (3 : Int32)), oa b10, oa b12, oi (own_f2 (own_x0 v5 v6) (own_x0 v7 v8)), .unset] [(.int (own_f2 (own_x0 v5 v6) (own_x0 v7 v8)))])) t → Steps p.tables e below (s₁.setTop (entryFrame m #[(.long q0), (.long q1), (.long q2), (.long q3), (.int p4)] maxLocals)) t := by
    intro t k
    refine pre9 t ?_
    show oS p e below s₁ m 122 #[oj q0, .second, oj q1, .second, oj q2, .second, oj q3, .second, oi p4, oj v5, .second, oj v6, .second, oj v7, .second, oj v8, .second, oi (p4 &&& (3 : Int32)), .unset, .unset, .unset, .unset] [] _
    refine XS.iconst X0.here hx rfl (hb hby at_122) ?_
    show oS p e below s₁ m 123 #[oj q0, .second, oj q1, .second, oj q2, .second, oj q3, .second, oi p4, oj v5, .second, oj v6, .second, oj v7, .second, oj v8, .second, oi (p4 &&& (3 : Int32)), .unset, .unset, .unset, .unset] [(.int (3 : Int32))] _
    refine st10 _ ?_
    show oS p e below T10 m 125 #[oj q0, .second, oj q1, .second, oj q2, .second, oj q3, .second, oi p4, oj v5, .second, oj v6, .second, oj v7, .second, oj v8, .second, oi (p4 &&& (3 : Int32)), .unset, .unset, .unset, .unset] [(.ref b10)] _
    refine XS.astore X10.here hx rfl (hb hby at_125) rfl rfl (l' := #[oj q0, .second, oj q1, .second, oj q2, .second, oj q3, .second, oi p4, oj v5, .second, oj v6, .second, oj v7, .second, oj v8, .second, oi (p4 &&& (3 : Int32)), oa b10, .unset, .unset, .unset]) rfl ?_
    show oS p e below T10 m 127 #[oj q0, .second, oj q1, .second, oj q2, .second, oj q3, .second, oi p4, oj v5, .second, oj v6, .second, oj v7, .second, oj v8, .second, oi (p4 &&& (3 : Int32)), oa b10, .unset, .unset, .unset] [] _
    refine XS.iconst X10.here hx rfl (hb hby at_127) ?_
    show oS p e below T10 m 128 #[oj q0, .second, oj q1, .second, oj q2, .second, oj q3, .second, oi p4, oj v5, .second, oj v6, .second, oj v7, .second, oj v8, .second, oi (p4 &&& (3 : Int32)), oa b10, .unset, .unset, .unset] [(.int (3 : Int32))] _
    refine st12 _ ?_
    show oS p e below T12 m 130 #[oj q0, .second, oj q1, .second, oj q2, .second, oj q3, .second, oi p4, oj v5, .second, oj v6, .second, oj v7, .second, oj v8, .second, oi (p4 &&& (3 : Int32)), oa b10, .unset, .unset, .unset] [(.ref b12)] _
    refine XS.astore X12.here hx rfl (hb hby at_130) rfl rfl (l' := #[oj q0, .second, oj q1, .second, oj q2, .second, oj q3, .second, oi p4, oj v5, .second, oj v6, .second, oj v7, .second, oj v8, .second, oi (p4 &&& (3 : Int32)), oa b10, oa b12, .unset, .unset]) rfl ?_
    show oS p e below T12 m 132 #[oj q0, .second, oj q1, .second, oj q2, .second, oj q3, .second, oi p4, oj v5, .second, oj v6, .second, oj v7, .second, oj v8, .second, oi (p4 &&& (3 : Int32)), oa b10, oa b12, .unset, .unset] [] _
    refine XS.lload X12.here hx rfl (hb hby at_132) rfl ?_
    show oS p e below T12 m 134 #[oj q0, .second, oj q1, .second, oj q2, .second, oj q3, .second, oi p4, oj v5, .second, oj v6, .second, oj v7, .second, oj v8, .second, oi (p4 &&& (3 : Int32)), oa b10, oa b12, .unset, .unset] [(.long v5)] _
    refine XS.lload X12.here hx rfl (hb hby at_134) rfl ?_
    show oS p e below T12 m 136 #[oj q0, .second, oj q1, .second, oj q2, .second, oj q3, .second, oi p4, oj v5, .second, oj v6, .second, oj v7, .second, oj v8, .second, oi (p4 &&& (3 : Int32)), oa b10, oa b12, .unset, .unset] [(.long v6), (.long v5)] _
    refine XS.aload X12.here hx rfl (hb hby at_136) rfl rfl ?_
    show oS p e below T12 m 138 #[oj q0, .second, oj q1, .second, oj q2, .second, oj q3, .second, oi p4, oj v5, .second, oj v6, .second, oj v7, .second, oj v8, .second, oi (p4 &&& (3 : Int32)), oa b10, oa b12, .unset, .unset] [(.ref b10), (.long v6), (.long v5)] _
    refine st16 _ ?_
    show oS p e below T16 m 141 #[oj q0, .second, oj q1, .second, oj q2, .second, oj q3, .second, oi p4, oj v5, .second, oj v6, .second, oj v7, .second, oj v8, .second, oi (p4 &&& (3 : Int32)), oa b10, oa b12, .unset, .unset] [] _
    refine XS.lload X16.here hx rfl (hb hby at_141) rfl ?_
    show oS p e below T16 m 143 #[oj q0, .second, oj q1, .second, oj q2, .second, oj q3, .second, oi p4, oj v5, .second, oj v6, .second, oj v7, .second, oj v8, .second, oi (p4 &&& (3 : Int32)), oa b10, oa b12, .unset, .unset] [(.long v7)] _
    refine XS.lload X16.here hx rfl (hb hby at_143) rfl ?_
    show oS p e below T16 m 145 #[oj q0, .second, oj q1, .second, oj q2, .second, oj q3, .second, oi p4, oj v5, .second, oj v6, .second, oj v7, .second, oj v8, .second, oi (p4 &&& (3 : Int32)), oa b10, oa b12, .unset, .unset] [(.long v8), (.long v7)] _
    refine XS.aload X16.here hx rfl (hb hby at_145) rfl rfl ?_
    show oS p e below T16 m 147 #[oj q0, .second, oj q1, .second, oj q2, .second, oj q3, .second, oi p4, oj v5, .second, oj v6, .second, oj v7, .second, oj v8, .second, oi (p4 &&& (3 : Int32)), oa b10, oa b12, .unset, .unset] [(.ref b12), (.long v8), (.long v7)] _
    refine st18 _ ?_
    show oS p e below T18 m 150 #[oj q0, .second, oj q1, .second, oj q2, .second, oj q3, .second, oi p4, oj v5, .second, oj v6, .second, oj v7, .second, oj v8, .second, oi (p4 &&& (3 : Int32)), oa b10, oa b12, .unset, .unset] [] _
    refine XS.aload X18.here hx rfl (hb hby at_150) rfl rfl ?_
    show oS p e below T18 m 152 #[oj q0, .second, oj q1, .second, oj q2, .second, oj q3, .second, oi p4, oj v5, .second, oj v6, .second, oj v7, .second, oj v8, .second, oi (p4 &&& (3 : Int32)), oa b10, oa b12, .unset, .unset] [(.ref b10)] _
    refine XS.iconst X18.here hx rfl (hb hby at_152) ?_
    show oS p e below T18 m 153 #[oj q0, .second, oj q1, .second, oj q2, .second, oj q3, .second, oi p4, oj v5, .second, oj v6, .second, oj v7, .second, oj v8, .second, oi (p4 &&& (3 : Int32)), oa b10, oa b12, .unset, .unset] [(.int (0 : Int32)), (.ref b10)] _
    refine oLdJ X18 hx hZ rfl F19 (v := (.long (own_x0 v5 v6))) ⟨by decide, by decide⟩ rfl (hb hby at_153) ?_
    show oS p e below T18 m 154 #[oj q0, .second, oj q1, .second, oj q2, .second, oj q3, .second, oi p4, oj v5, .second, oj v6, .second, oj v7, .second, oj v8, .second, oi (p4 &&& (3 : Int32)), oa b10, oa b12, .unset, .unset] [(.long (own_x0 v5 v6))] _
    refine XS.aload X18.here hx rfl (hb hby at_154) rfl rfl ?_
    show oS p e below T18 m 156 #[oj q0, .second, oj q1, .second, oj q2, .second, oj q3, .second, oi p4, oj v5, .second, oj v6, .second, oj v7, .second, oj v8, .second, oi (p4 &&& (3 : Int32)), oa b10, oa b12, .unset, .unset] [(.ref b12), (.long (own_x0 v5 v6))] _
    refine XS.iconst X18.here hx rfl (hb hby at_156) ?_
    show oS p e below T18 m 157 #[oj q0, .second, oj q1, .second, oj q2, .second, oj q3, .second, oi p4, oj v5, .second, oj v6, .second, oj v7, .second, oj v8, .second, oi (p4 &&& (3 : Int32)), oa b10, oa b12, .unset, .unset] [(.int (0 : Int32)), (.ref b12), (.long (own_x0 v5 v6))] _
    refine oLdJ X18 hx hZ rfl Oq18_0 (v := (.long (own_x0 v7 v8))) ⟨by decide, by decide⟩ rfl (hb hby at_157) ?_
    show oS p e below T18 m 158 #[oj q0, .second, oj q1, .second, oj q2, .second, oj q3, .second, oi p4, oj v5, .second, oj v6, .second, oj v7, .second, oj v8, .second, oi (p4 &&& (3 : Int32)), oa b10, oa b12, .unset, .unset] [(.long (own_x0 v7 v8)), (.long (own_x0 v5 v6))] _
    refine st20 _ ?_
    show oS p e below T20 m 161 #[oj q0, .second, oj q1, .second, oj q2, .second, oj q3, .second, oi p4, oj v5, .second, oj v6, .second, oj v7, .second, oj v8, .second, oi (p4 &&& (3 : Int32)), oa b10, oa b12, .unset, .unset] [(.int (own_f2 (own_x0 v5 v6) (own_x0 v7 v8)))] _
    refine XS.istore X20.here hx rfl (hb hby at_161) rfl (l' := #[oj q0, .second, oj q1, .second, oj q2, .second, oj q3, .second, oi p4, oj v5, .second, oj v6, .second, oj v7, .second, oj v8, .second, oi (p4 &&& (3 : Int32)), oa b10, oa b12, oi (own_f2 (own_x0 v5 v6) (own_x0 v7 v8)), .unset]) rfl ?_
    show oS p e below T20 m 163 #[oj q0, .second, oj q1, .second, oj q2, .second, oj q3, .second, oi p4, oj v5, .second, oj v6, .second, oj v7, .second, oj v8, .second, oi (p4 &&& (3 : Int32)), oa b10, oa b12, oi (own_f2 (own_x0 v5 v6) (own_x0 v7 v8)), .unset] [] _
    refine XS.iload X20.here hx rfl (hb hby at_163) rfl ?_
    exact k
  by_cases c22 : (own_f2 (own_x0 v5 v6) (own_x0 v7 v8)) = (0 : Int32)
  · skip
    obtain ⟨_, _, ⟨T23, L23, k23, n23⟩, -, X23, ⟨Lc23, hQ23, l23, y23, z23⟩, st23⟩ := Jvm.LawKit.callS X20 hx (y := (⟨"com/example/strict_anon/strictanon/util/ProductsComparePinLaw", "cmp", "(JJ)I"⟩ : MethodName)) hown (mvT hZ (hw _ (List.mem_of_getElem? (i := 7) rfl))) (mvT hZ (hw _ (List.mem_of_getElem? (i := 8) rfl))) (mvT hZ (hw _ (List.mem_of_getElem? (i := 5) rfl))) (mvT hZ (hw _ (List.mem_of_getElem? (i := 9) rfl))) (by decide) (backOf (W := 0) (own_rm2 l Z av hw [] (own_x1 v5 v6) (own_x1 v7 v8) T18.heap n0 Z18 ) hZ (hw _ (List.mem_of_getElem? (i := 9) rfl)) (hw _ (List.mem_of_getElem? (i := 5) rfl)) (by decide) (by decide)) (g := (mkF m 176 #[oj q0, .second, oj q1, .second, oj q2, .second, oj q3, .second, oi p4, oj v5, .second, oj v6, .second, oj v7, .second, oj v8, .second, oi (p4 &&& (3 : Int32)), oa b10, oa b12, oi (own_f2 (own_x0 v5 v6) (own_x0 v7 v8)), .unset] [(.long (own_x1 v7 v8)), (.long (own_x1 v5 v6))])) rfl (by rw [hml]; rfl) (argsL := [(.long (own_x1 v5 v6)), (.long (own_x1 v7 v8))]) (rest := []) (lenOf own_pd0 rfl) rfl (by show 2 * 0 + _ ≤ _; exact Nat.le_of_eq rfl) (hb hby at_176) (fun _ _ => ⟨rfl, eq20, (by decide : 2 + 0 ≤ _), (by decide : 6 + 0 ≤ _)⟩)
    dsimp only [Pt.U, Pt.locs, Pt.cells, Pt.slots] at X23 l23 y23 z23 st23 hQ23
    have yq23 : k23 = 2 := y23
    have zq23 : n23 = 6 := z23
    subst yq23 zq23
    obtain ⟨rfl, Nq23, eq23⟩ := hQ23
    have N23 : Fr n0 L23 := by rw [l23]; exact Fr.app N20 Nq23
    have pre24 : ∀ t, Steps p.tables e below (T23.setTop (mkF m 183 #[oj q0, .second, oj q1, .second, oj q2, .second, oj q3, .second, oi p4, oj v5, .second, oj v6, .second, oj v7, .second, oj v8, .second, oi (p4 &&& (3 : Int32)), oa b10, oa b12, oi (own_f2 (own_x1 v5 v6) (own_x1 v7 v8)), .unset] [(.int (own_f2 (own_x1 v5 v6) (own_x1 v7 v8)))])) t → Steps p.tables e below (s₁.setTop (entryFrame m #[(.long q0), (.long q1), (.long q2), (.long q3), (.int p4)] maxLocals)) t := by
      intro t k
      refine pre21 t ?_
      show oS p e below T20 m 165 #[oj q0, .second, oj q1, .second, oj q2, .second, oj q3, .second, oi p4, oj v5, .second, oj v6, .second, oj v7, .second, oj v8, .second, oi (p4 &&& (3 : Int32)), oa b10, oa b12, oi (own_f2 (own_x0 v5 v6) (own_x0 v7 v8)), .unset] [(.int (own_f2 (own_x0 v5 v6) (own_x0 v7 v8)))] _
      refine XS.ifNo X20.here hx rfl (hb hby at_165) rfl ((if0 _ _).trans (teq c22).2) ?_
      show oS p e below T20 m 168 #[oj q0, .second, oj q1, .second, oj q2, .second, oj q3, .second, oi p4, oj v5, .second, oj v6, .second, oj v7, .second, oj v8, .second, oi (p4 &&& (3 : Int32)), oa b10, oa b12, oi (own_f2 (own_x0 v5 v6) (own_x0 v7 v8)), .unset] [] _
      refine XS.aload X20.here hx rfl (hb hby at_168) rfl rfl ?_
      show oS p e below T20 m 170 #[oj q0, .second, oj q1, .second, oj q2, .second, oj q3, .second, oi p4, oj v5, .second, oj v6, .second, oj v7, .second, oj v8, .second, oi (p4 &&& (3 : Int32)), oa b10, oa b12, oi (own_f2 (own_x0 v5 v6) (own_x0 v7 v8)), .unset] [(.ref b10)] _
      refine XS.iconst X20.here hx rfl (hb hby at_170) ?_
      show oS p e below T20 m 171 #[oj q0, .second, oj q1, .second, oj q2, .second, oj q3, .second, oi p4, oj v5, .second, oj v6, .second, oj v7, .second, oj v8, .second, oi (p4 &&& (3 : Int32)), oa b10, oa b12, oi (own_f2 (own_x0 v5 v6) (own_x0 v7 v8)), .unset] [(.int (1 : Int32)), (.ref b10)] _
      refine oLdJ X20 hx hZ eq20 F19 (v := (.long (own_x1 v5 v6))) ⟨by decide, by decide⟩ rfl (hb hby at_171) ?_
      show oS p e below T20 m 172 #[oj q0, .second, oj q1, .second, oj q2, .second, oj q3, .second, oi p4, oj v5, .second, oj v6, .second, oj v7, .second, oj v8, .second, oi (p4 &&& (3 : Int32)), oa b10, oa b12, oi (own_f2 (own_x0 v5 v6) (own_x0 v7 v8)), .unset] [(.long (own_x1 v5 v6))] _
      refine XS.aload X20.here hx rfl (hb hby at_172) rfl rfl ?_
      show oS p e below T20 m 174 #[oj q0, .second, oj q1, .second, oj q2, .second, oj q3, .second, oi p4, oj v5, .second, oj v6, .second, oj v7, .second, oj v8, .second, oi (p4 &&& (3 : Int32)), oa b10, oa b12, oi (own_f2 (own_x0 v5 v6) (own_x0 v7 v8)), .unset] [(.ref b12), (.long (own_x1 v5 v6))] _
      refine XS.iconst X20.here hx rfl (hb hby at_174) ?_
      show oS p e below T20 m 175 #[oj q0, .second, oj q1, .second, oj q2, .second, oj q3, .second, oi p4, oj v5, .second, oj v6, .second, oj v7, .second, oj v8, .second, oi (p4 &&& (3 : Int32)), oa b10, oa b12, oi (own_f2 (own_x0 v5 v6) (own_x0 v7 v8)), .unset] [(.int (1 : Int32)), (.ref b12), (.long (own_x1 v5 v6))] _
      refine oLdJ X20 hx hZ eq20 Oq18_0 (v := (.long (own_x1 v7 v8))) ⟨by decide, by decide⟩ rfl (hb hby at_175) ?_
      show oS p e below T20 m 176 #[oj q0, .second, oj q1, .second, oj q2, .second, oj q3, .second, oi p4, oj v5, .second, oj v6, .second, oj v7, .second, oj v8, .second, oi (p4 &&& (3 : Int32)), oa b10, oa b12, oi (own_f2 (own_x0 v5 v6) (own_x0 v7 v8)), .unset] [(.long (own_x1 v7 v8)), (.long (own_x1 v5 v6))] _
      refine st23 _ ?_
      show oS p e below T23 m 179 #[oj q0, .second, oj q1, .second, oj q2, .second, oj q3, .second, oi p4, oj v5, .second, oj v6, .second, oj v7, .second, oj v8, .second, oi (p4 &&& (3 : Int32)), oa b10, oa b12, oi (own_f2 (own_x0 v5 v6) (own_x0 v7 v8)), .unset] [(.int (own_f2 (own_x1 v5 v6) (own_x1 v7 v8)))] _
      refine XS.istore X23.here hx rfl (hb hby at_179) rfl (l' := #[oj q0, .second, oj q1, .second, oj q2, .second, oj q3, .second, oi p4, oj v5, .second, oj v6, .second, oj v7, .second, oj v8, .second, oi (p4 &&& (3 : Int32)), oa b10, oa b12, oi (own_f2 (own_x1 v5 v6) (own_x1 v7 v8)), .unset]) rfl ?_
      show oS p e below T23 m 181 #[oj q0, .second, oj q1, .second, oj q2, .second, oj q3, .second, oi p4, oj v5, .second, oj v6, .second, oj v7, .second, oj v8, .second, oi (p4 &&& (3 : Int32)), oa b10, oa b12, oi (own_f2 (own_x1 v5 v6) (own_x1 v7 v8)), .unset] [] _
      refine XS.iload X23.here hx rfl (hb hby at_181) rfl ?_
      exact k
    by_cases c25 : (own_f2 (own_x1 v5 v6) (own_x1 v7 v8)) = (0 : Int32)
    · skip
      obtain ⟨_, _, ⟨T26, L26, k26, n26⟩, -, X26, ⟨Lc26, hQ26, l26, y26, z26⟩, st26⟩ := Jvm.LawKit.callS X23 hx (y := (⟨"com/example/strict_anon/strictanon/util/ProductsComparePinLaw", "cmp", "(JJ)I"⟩ : MethodName)) hown (mvT hZ (hw _ (List.mem_of_getElem? (i := 7) rfl))) (mvT hZ (hw _ (List.mem_of_getElem? (i := 8) rfl))) (mvT hZ (hw _ (List.mem_of_getElem? (i := 5) rfl))) (mvT hZ (hw _ (List.mem_of_getElem? (i := 9) rfl))) (by decide) (backOf (W := 0) (own_rm2 l Z av hw [] (own_x2 v5 v6) (own_x2 v7 v8) T18.heap n0 Z18 ) hZ (hw _ (List.mem_of_getElem? (i := 9) rfl)) (hw _ (List.mem_of_getElem? (i := 5) rfl)) (by decide) (by decide)) (g := (mkF m 194 #[oj q0, .second, oj q1, .second, oj q2, .second, oj q3, .second, oi p4, oj v5, .second, oj v6, .second, oj v7, .second, oj v8, .second, oi (p4 &&& (3 : Int32)), oa b10, oa b12, oi (own_f2 (own_x1 v5 v6) (own_x1 v7 v8)), .unset] [(.long (own_x2 v7 v8)), (.long (own_x2 v5 v6))])) rfl (by rw [hml]; rfl) (argsL := [(.long (own_x2 v5 v6)), (.long (own_x2 v7 v8))]) (rest := []) (lenOf own_pd0 rfl) rfl (by show 2 * 0 + _ ≤ _; exact Nat.le_of_eq rfl) (hb hby at_194) (fun _ _ => ⟨rfl, eq23, (by decide : 2 + 0 ≤ _), (by decide : 6 + 0 ≤ _)⟩)
      dsimp only [Pt.U, Pt.locs, Pt.cells, Pt.slots] at X26 l26 y26 z26 st26 hQ26
      have yq26 : k26 = 2 := y26
      have zq26 : n26 = 6 := z26
      subst yq26 zq26
      obtain ⟨rfl, Nq26, eq26⟩ := hQ26
      have N26 : Fr n0 L26 := by rw [l26]; exact Fr.app N23 Nq26
      obtain ⟨_, _, ⟨T27, L27, k27, n27⟩, -, X27, ⟨Lc27, hQ27, l27, y27, z27⟩, st27⟩ := Jvm.LawKit.callS X26 hx (y := (⟨"com/example/strict_anon/strictanon/util/Products", "compare", "(JJJJ)I"⟩ : MethodName)) hown (mvT hZ (hw _ (List.mem_of_getElem? (i := 10) rfl))) (mvT hZ (hw _ (List.mem_of_getElem? (i := 11) rfl))) (mvT hZ (hw _ (List.mem_of_getElem? (i := 12) rfl))) (mvT hZ (hw _ (List.mem_of_getElem? (i := 13) rfl))) (by decide) (backOf (W := 0) (own_rm3 l Z av hw [] v5 v6 v7 v8 T18.heap n0 Z18 ) hZ (hw _ (List.mem_of_getElem? (i := 13) rfl)) (hw _ (List.mem_of_getElem? (i := 12) rfl)) (by decide) (by decide)) (g := (mkF m 207 #[oj q0, .second, oj q1, .second, oj q2, .second, oj q3, .second, oi p4, oj v5, .second, oj v6, .second, oj v7, .second, oj v8, .second, oi (p4 &&& (3 : Int32)), oa b10, oa b12, oi (own_f2 (own_x2 v5 v6) (own_x2 v7 v8)), .unset] [(.long v8), (.long v7), (.long v6), (.long v5)])) rfl (by rw [hml]; rfl) (argsL := [(.long v5), (.long v6), (.long v7), (.long v8)]) (rest := []) (lenOf own_pd3 rfl) rfl (by show 2 * 0 + _ ≤ _; exact Nat.le_of_eq rfl) (hb hby at_207) (fun _ _ => ⟨rfl, eq26, (by decide : 2 + 0 ≤ _), (by decide : 6 + 0 ≤ _)⟩)
      dsimp only [Pt.U, Pt.locs, Pt.cells, Pt.slots] at X27 l27 y27 z27 st27 hQ27
      have yq27 : k27 = 2 := y27
      have zq27 : n27 = 6 := z27
      subst yq27 zq27
      obtain ⟨rfl, Nq27, eq27⟩ := hQ27
      have N27 : Fr n0 L27 := by rw [l27]; exact Fr.app N26 Nq27
      obtain ⟨_, _, ⟨T28, L28, k28, n28⟩, -, X28, ⟨Lc28, hQ28, l28, y28, z28⟩, st28⟩ := Jvm.LawKit.callS X27 hx (y := (⟨"com/example/strict_anon/strictanon/util/ProductsComparePinLaw", "sign", "(I)I"⟩ : MethodName)) hown (mvT hZ (hw _ (List.mem_of_getElem? (i := 28) rfl))) (mvT hZ (hw _ (List.mem_of_getElem? (i := 29) rfl))) (mvT hZ (hw _ (List.mem_of_getElem? (i := 5) rfl))) (mvT hZ (hw _ (List.mem_of_getElem? (i := 30) rfl))) (by decide) (backOf (W := 0) (own_rm7 l Z av hw [] (own_f3 v5 v6 v7 v8) T18.heap n0 Z18 ) hZ (hw _ (List.mem_of_getElem? (i := 30) rfl)) (hw _ (List.mem_of_getElem? (i := 5) rfl)) (by decide) (by decide)) (g := (mkF m 214 #[oj q0, .second, oj q1, .second, oj q2, .second, oj q3, .second, oi p4, oj v5, .second, oj v6, .second, oj v7, .second, oj v8, .second, oi (p4 &&& (3 : Int32)), oa b10, oa b12, oi (own_f2 (own_x2 v5 v6) (own_x2 v7 v8)), oi (own_f3 v5 v6 v7 v8)] [(.int (own_f3 v5 v6 v7 v8))])) rfl (by rw [hml]; rfl) (argsL := [(.int (own_f3 v5 v6 v7 v8))]) (rest := []) (lenOf own_pd4 rfl) rfl (by show 2 * 0 + _ ≤ _; exact Nat.le_of_eq rfl) (hb hby at_214) (fun _ _ => ⟨rfl, eq27, (by decide : 2 + 0 ≤ _), (by decide : 6 + 0 ≤ _)⟩)
      dsimp only [Pt.U, Pt.locs, Pt.cells, Pt.slots] at X28 l28 y28 z28 st28 hQ28
      have yq28 : k28 = 2 := y28
      have zq28 : n28 = 6 := z28
      subst yq28 zq28
      obtain ⟨rfl, Nq28, eq28⟩ := hQ28
      have N28 : Fr n0 L28 := by rw [l28]; exact Fr.app N27 Nq28
      have b29 : (own_f7 (own_f3 v5 v6 v7 v8)) = (own_f2 (own_x2 v5 v6) (own_x2 v7 v8)) := by rw [own_key r9 r11 r13 r15, if_pos c22, if_pos c25]
      obtain ⟨fs, hr, hrun, hended, hW, hsame⟩ := X28.leave (v := (some (.int (1 : Int32)))) (fun h => by rw [Bd.returns] at h; cases h) (hlocks := by first | exact BodyLoose.notSynchronized Bd | exact Body.notSynchronized Bd)
      refine ⟨_, _, pre24 _ ?_, hrun, hended, _, _, rfl, ?_, ⟨_, rfl⟩, hW, hsame.mono (by decide) (by decide)⟩
      · show oS p e below T23 m 183 #[oj q0, .second, oj q1, .second, oj q2, .second, oj q3, .second, oi p4, oj v5, .second, oj v6, .second, oj v7, .second, oj v8, .second, oi (p4 &&& (3 : Int32)), oa b10, oa b12, oi (own_f2 (own_x1 v5 v6) (own_x1 v7 v8)), .unset] [(.int (own_f2 (own_x1 v5 v6) (own_x1 v7 v8)))] _
        refine XS.ifNo X23.here hx rfl (hb hby at_183) rfl ((if0 _ _).trans (teq c25).2) ?_
        show oS p e below T23 m 186 #[oj q0, .second, oj q1, .second, oj q2, .second, oj q3, .second, oi p4, oj v5, .second, oj v6, .second, oj v7, .second, oj v8, .second, oi (p4 &&& (3 : Int32)), oa b10, oa b12, oi (own_f2 (own_x1 v5 v6) (own_x1 v7 v8)), .unset] [] _
        refine XS.aload X23.here hx rfl (hb hby at_186) rfl rfl ?_
        show oS p e below T23 m 188 #[oj q0, .second, oj q1, .second, oj q2, .second, oj q3, .second, oi p4, oj v5, .second, oj v6, .second, oj v7, .second, oj v8, .second, oi (p4 &&& (3 : Int32)), oa b10, oa b12, oi (own_f2 (own_x1 v5 v6) (own_x1 v7 v8)), .unset] [(.ref b10)] _
        refine XS.iconst X23.here hx rfl (hb hby at_188) ?_
        show oS p e below T23 m 189 #[oj q0, .second, oj q1, .second, oj q2, .second, oj q3, .second, oi p4, oj v5, .second, oj v6, .second, oj v7, .second, oj v8, .second, oi (p4 &&& (3 : Int32)), oa b10, oa b12, oi (own_f2 (own_x1 v5 v6) (own_x1 v7 v8)), .unset] [(.int (2 : Int32)), (.ref b10)] _
        refine oLdJ X23 hx hZ eq23 F19 (v := (.long (own_x2 v5 v6))) ⟨by decide, by decide⟩ rfl (hb hby at_189) ?_
        show oS p e below T23 m 190 #[oj q0, .second, oj q1, .second, oj q2, .second, oj q3, .second, oi p4, oj v5, .second, oj v6, .second, oj v7, .second, oj v8, .second, oi (p4 &&& (3 : Int32)), oa b10, oa b12, oi (own_f2 (own_x1 v5 v6) (own_x1 v7 v8)), .unset] [(.long (own_x2 v5 v6))] _
        refine XS.aload X23.here hx rfl (hb hby at_190) rfl rfl ?_
        show oS p e below T23 m 192 #[oj q0, .second, oj q1, .second, oj q2, .second, oj q3, .second, oi p4, oj v5, .second, oj v6, .second, oj v7, .second, oj v8, .second, oi (p4 &&& (3 : Int32)), oa b10, oa b12, oi (own_f2 (own_x1 v5 v6) (own_x1 v7 v8)), .unset] [(.ref b12), (.long (own_x2 v5 v6))] _
        refine XS.iconst X23.here hx rfl (hb hby at_192) ?_
        show oS p e below T23 m 193 #[oj q0, .second, oj q1, .second, oj q2, .second, oj q3, .second, oi p4, oj v5, .second, oj v6, .second, oj v7, .second, oj v8, .second, oi (p4 &&& (3 : Int32)), oa b10, oa b12, oi (own_f2 (own_x1 v5 v6) (own_x1 v7 v8)), .unset] [(.int (2 : Int32)), (.ref b12), (.long (own_x2 v5 v6))] _
        refine oLdJ X23 hx hZ eq23 Oq18_0 (v := (.long (own_x2 v7 v8))) ⟨by decide, by decide⟩ rfl (hb hby at_193) ?_
        show oS p e below T23 m 194 #[oj q0, .second, oj q1, .second, oj q2, .second, oj q3, .second, oi p4, oj v5, .second, oj v6, .second, oj v7, .second, oj v8, .second, oi (p4 &&& (3 : Int32)), oa b10, oa b12, oi (own_f2 (own_x1 v5 v6) (own_x1 v7 v8)), .unset] [(.long (own_x2 v7 v8)), (.long (own_x2 v5 v6))] _
        refine st26 _ ?_
        show oS p e below T26 m 197 #[oj q0, .second, oj q1, .second, oj q2, .second, oj q3, .second, oi p4, oj v5, .second, oj v6, .second, oj v7, .second, oj v8, .second, oi (p4 &&& (3 : Int32)), oa b10, oa b12, oi (own_f2 (own_x1 v5 v6) (own_x1 v7 v8)), .unset] [(.int (own_f2 (own_x2 v5 v6) (own_x2 v7 v8)))] _
        refine XS.istore X26.here hx rfl (hb hby at_197) rfl (l' := #[oj q0, .second, oj q1, .second, oj q2, .second, oj q3, .second, oi p4, oj v5, .second, oj v6, .second, oj v7, .second, oj v8, .second, oi (p4 &&& (3 : Int32)), oa b10, oa b12, oi (own_f2 (own_x2 v5 v6) (own_x2 v7 v8)), .unset]) rfl ?_
        show oS p e below T26 m 199 #[oj q0, .second, oj q1, .second, oj q2, .second, oj q3, .second, oi p4, oj v5, .second, oj v6, .second, oj v7, .second, oj v8, .second, oi (p4 &&& (3 : Int32)), oa b10, oa b12, oi (own_f2 (own_x2 v5 v6) (own_x2 v7 v8)), .unset] [] _
        refine XS.lload X26.here hx rfl (hb hby at_199) rfl ?_
        show oS p e below T26 m 201 #[oj q0, .second, oj q1, .second, oj q2, .second, oj q3, .second, oi p4, oj v5, .second, oj v6, .second, oj v7, .second, oj v8, .second, oi (p4 &&& (3 : Int32)), oa b10, oa b12, oi (own_f2 (own_x2 v5 v6) (own_x2 v7 v8)), .unset] [(.long v5)] _
        refine XS.lload X26.here hx rfl (hb hby at_201) rfl ?_
        show oS p e below T26 m 203 #[oj q0, .second, oj q1, .second, oj q2, .second, oj q3, .second, oi p4, oj v5, .second, oj v6, .second, oj v7, .second, oj v8, .second, oi (p4 &&& (3 : Int32)), oa b10, oa b12, oi (own_f2 (own_x2 v5 v6) (own_x2 v7 v8)), .unset] [(.long v6), (.long v5)] _
        refine XS.lload X26.here hx rfl (hb hby at_203) rfl ?_
        show oS p e below T26 m 205 #[oj q0, .second, oj q1, .second, oj q2, .second, oj q3, .second, oi p4, oj v5, .second, oj v6, .second, oj v7, .second, oj v8, .second, oi (p4 &&& (3 : Int32)), oa b10, oa b12, oi (own_f2 (own_x2 v5 v6) (own_x2 v7 v8)), .unset] [(.long v7), (.long v6), (.long v5)] _
        refine XS.lload X26.here hx rfl (hb hby at_205) rfl ?_
        show oS p e below T26 m 207 #[oj q0, .second, oj q1, .second, oj q2, .second, oj q3, .second, oi p4, oj v5, .second, oj v6, .second, oj v7, .second, oj v8, .second, oi (p4 &&& (3 : Int32)), oa b10, oa b12, oi (own_f2 (own_x2 v5 v6) (own_x2 v7 v8)), .unset] [(.long v8), (.long v7), (.long v6), (.long v5)] _
        refine st27 _ ?_
        show oS p e below T27 m 210 #[oj q0, .second, oj q1, .second, oj q2, .second, oj q3, .second, oi p4, oj v5, .second, oj v6, .second, oj v7, .second, oj v8, .second, oi (p4 &&& (3 : Int32)), oa b10, oa b12, oi (own_f2 (own_x2 v5 v6) (own_x2 v7 v8)), .unset] [(.int (own_f3 v5 v6 v7 v8))] _
        refine XS.istore X27.here hx rfl (hb hby at_210) rfl (l' := #[oj q0, .second, oj q1, .second, oj q2, .second, oj q3, .second, oi p4, oj v5, .second, oj v6, .second, oj v7, .second, oj v8, .second, oi (p4 &&& (3 : Int32)), oa b10, oa b12, oi (own_f2 (own_x2 v5 v6) (own_x2 v7 v8)), oi (own_f3 v5 v6 v7 v8)]) rfl ?_
        show oS p e below T27 m 212 #[oj q0, .second, oj q1, .second, oj q2, .second, oj q3, .second, oi p4, oj v5, .second, oj v6, .second, oj v7, .second, oj v8, .second, oi (p4 &&& (3 : Int32)), oa b10, oa b12, oi (own_f2 (own_x2 v5 v6) (own_x2 v7 v8)), oi (own_f3 v5 v6 v7 v8)] [] _
        refine XS.iload X27.here hx rfl (hb hby at_212) rfl ?_
        show oS p e below T27 m 214 #[oj q0, .second, oj q1, .second, oj q2, .second, oj q3, .second, oi p4, oj v5, .second, oj v6, .second, oj v7, .second, oj v8, .second, oi (p4 &&& (3 : Int32)), oa b10, oa b12, oi (own_f2 (own_x2 v5 v6) (own_x2 v7 v8)), oi (own_f3 v5 v6 v7 v8)] [(.int (own_f3 v5 v6 v7 v8))] _
        refine st28 _ ?_
        show oS p e below T28 m 217 #[oj q0, .second, oj q1, .second, oj q2, .second, oj q3, .second, oi p4, oj v5, .second, oj v6, .second, oj v7, .second, oj v8, .second, oi (p4 &&& (3 : Int32)), oa b10, oa b12, oi (own_f2 (own_x2 v5 v6) (own_x2 v7 v8)), oi (own_f3 v5 v6 v7 v8)] [(.int (own_f7 (own_f3 v5 v6 v7 v8)))] _
        refine XS.iload X28.here hx rfl (hb hby at_217) rfl ?_
        show oS p e below T28 m 219 #[oj q0, .second, oj q1, .second, oj q2, .second, oj q3, .second, oi p4, oj v5, .second, oj v6, .second, oj v7, .second, oj v8, .second, oi (p4 &&& (3 : Int32)), oa b10, oa b12, oi (own_f2 (own_x2 v5 v6) (own_x2 v7 v8)), oi (own_f3 v5 v6 v7 v8)] [(.int (own_f2 (own_x2 v5 v6) (own_x2 v7 v8))), (.int (own_f7 (own_f3 v5 v6 v7 v8)))] _
        refine XS.icmpNo X28.here hx rfl (hb hby at_219) rfl (teq b29).2 ?_
        show oS p e below T28 m 222 #[oj q0, .second, oj q1, .second, oj q2, .second, oj q3, .second, oi p4, oj v5, .second, oj v6, .second, oj v7, .second, oj v8, .second, oi (p4 &&& (3 : Int32)), oa b10, oa b12, oi (own_f2 (own_x2 v5 v6) (own_x2 v7 v8)), oi (own_f3 v5 v6 v7 v8)] [] _
        refine XS.iconst X28.here hx rfl (hb hby at_222) ?_
        show oS p e below T28 m 223 #[oj q0, .second, oj q1, .second, oj q2, .second, oj q3, .second, oi p4, oj v5, .second, oj v6, .second, oj v7, .second, oj v8, .second, oi (p4 &&& (3 : Int32)), oa b10, oa b12, oi (own_f2 (own_x2 v5 v6) (own_x2 v7 v8)), oi (own_f3 v5 v6 v7 v8)] [(.int (1 : Int32))] _
        refine XS.goto X28.here hx rfl (pc0 := 223) (pc' := 227) rfl (hb hby at_223) (by decide) (by decide) ?_
        show oS p e below T28 m 227 #[oj q0, .second, oj q1, .second, oj q2, .second, oj q3, .second, oi p4, oj v5, .second, oj v6, .second, oj v7, .second, oj v8, .second, oi (p4 &&& (3 : Int32)), oa b10, oa b12, oi (own_f2 (own_x2 v5 v6) (own_x2 v7 v8)), oi (own_f3 v5 v6 v7 v8)] [(.int (1 : Int32))] _
        exact retN X28 hx (t := .boolean) Bd.returns (by simp) (hb hby at_227) hr
      · show own_Q0 Z q0 q1 q2 q3 p4 h0 n0 _ T28.heap _
        rw [eq28]
        exact ⟨rfl, N28⟩
    · skip
      obtain ⟨_, _, ⟨T30, L30, k30, n30⟩, -, X30, ⟨Lc30, hQ30, l30, y30, z30⟩, st30⟩ := Jvm.LawKit.callS X23 hx (y := (⟨"com/example/strict_anon/strictanon/util/Products", "compare", "(JJJJ)I"⟩ : MethodName)) hown (mvT hZ (hw _ (List.mem_of_getElem? (i := 10) rfl))) (mvT hZ (hw _ (List.mem_of_getElem? (i := 11) rfl))) (mvT hZ (hw _ (List.mem_of_getElem? (i := 12) rfl))) (mvT hZ (hw _ (List.mem_of_getElem? (i := 13) rfl))) (by decide) (backOf (W := 0) (own_rm3 l Z av hw [] v5 v6 v7 v8 T18.heap n0 Z18 ) hZ (hw _ (List.mem_of_getElem? (i := 13) rfl)) (hw _ (List.mem_of_getElem? (i := 12) rfl)) (by decide) (by decide)) (g := (mkF m 207 #[oj q0, .second, oj q1, .second, oj q2, .second, oj q3, .second, oi p4, oj v5, .second, oj v6, .second, oj v7, .second, oj v8, .second, oi (p4 &&& (3 : Int32)), oa b10, oa b12, oi (own_f2 (own_x1 v5 v6) (own_x1 v7 v8)), .unset] [(.long v8), (.long v7), (.long v6), (.long v5)])) rfl (by rw [hml]; rfl) (argsL := [(.long v5), (.long v6), (.long v7), (.long v8)]) (rest := []) (lenOf own_pd3 rfl) rfl (by show 2 * 0 + _ ≤ _; exact Nat.le_of_eq rfl) (hb hby at_207) (fun _ _ => ⟨rfl, eq23, (by decide : 2 + 0 ≤ _), (by decide : 6 + 0 ≤ _)⟩)
      dsimp only [Pt.U, Pt.locs, Pt.cells, Pt.slots] at X30 l30 y30 z30 st30 hQ30
      have yq30 : k30 = 2 := y30
      have zq30 : n30 = 6 := z30
      subst yq30 zq30
      obtain ⟨rfl, Nq30, eq30⟩ := hQ30
      have N30 : Fr n0 L30 := by rw [l30]; exact Fr.app N23 Nq30
      obtain ⟨_, _, ⟨T31, L31, k31, n31⟩, -, X31, ⟨Lc31, hQ31, l31, y31, z31⟩, st31⟩ := Jvm.LawKit.callS X30 hx (y := (⟨"com/example/strict_anon/strictanon/util/ProductsComparePinLaw", "sign", "(I)I"⟩ : MethodName)) hown (mvT hZ (hw _ (List.mem_of_getElem? (i := 28) rfl))) (mvT hZ (hw _ (List.mem_of_getElem? (i := 29) rfl))) (mvT hZ (hw _ (List.mem_of_getElem? (i := 5) rfl))) (mvT hZ (hw _ (List.mem_of_getElem? (i := 30) rfl))) (by decide) (backOf (W := 0) (own_rm7 l Z av hw [] (own_f3 v5 v6 v7 v8) T18.heap n0 Z18 ) hZ (hw _ (List.mem_of_getElem? (i := 30) rfl)) (hw _ (List.mem_of_getElem? (i := 5) rfl)) (by decide) (by decide)) (g := (mkF m 214 #[oj q0, .second, oj q1, .second, oj q2, .second, oj q3, .second, oi p4, oj v5, .second, oj v6, .second, oj v7, .second, oj v8, .second, oi (p4 &&& (3 : Int32)), oa b10, oa b12, oi (own_f2 (own_x1 v5 v6) (own_x1 v7 v8)), oi (own_f3 v5 v6 v7 v8)] [(.int (own_f3 v5 v6 v7 v8))])) rfl (by rw [hml]; rfl) (argsL := [(.int (own_f3 v5 v6 v7 v8))]) (rest := []) (lenOf own_pd4 rfl) rfl (by show 2 * 0 + _ ≤ _; exact Nat.le_of_eq rfl) (hb hby at_214) (fun _ _ => ⟨rfl, eq30, (by decide : 2 + 0 ≤ _), (by decide : 6 + 0 ≤ _)⟩)
      dsimp only [Pt.U, Pt.locs, Pt.cells, Pt.slots] at X31 l31 y31 z31 st31 hQ31
      have yq31 : k31 = 2 := y31
      have zq31 : n31 = 6 := z31
      subst yq31 zq31
      obtain ⟨rfl, Nq31, eq31⟩ := hQ31
      have N31 : Fr n0 L31 := by rw [l31]; exact Fr.app N30 Nq31
      have b32 : (own_f7 (own_f3 v5 v6 v7 v8)) = (own_f2 (own_x1 v5 v6) (own_x1 v7 v8)) := by rw [own_key r9 r11 r13 r15, if_pos c22, if_neg c25]
      obtain ⟨fs, hr, hrun, hended, hW, hsame⟩ := X31.leave (v := (some (.int (1 : Int32)))) (fun h => by rw [Bd.returns] at h; cases h) (hlocks := by first | exact BodyLoose.notSynchronized Bd | exact Body.notSynchronized Bd)
      refine ⟨_, _, pre24 _ ?_, hrun, hended, _, _, rfl, ?_, ⟨_, rfl⟩, hW, hsame.mono (by decide) (by decide)⟩
      · show oS p e below T23 m 183 #[oj q0, .second, oj q1, .second, oj q2, .second, oj q3, .second, oi p4, oj v5, .second, oj v6, .second, oj v7, .second, oj v8, .second, oi (p4 &&& (3 : Int32)), oa b10, oa b12, oi (own_f2 (own_x1 v5 v6) (own_x1 v7 v8)), .unset] [(.int (own_f2 (own_x1 v5 v6) (own_x1 v7 v8)))] _
        refine XS.ifYes X23.here hx rfl (pc0 := 183) (pc' := 199) rfl (hb hby at_183) rfl ((if0 _ _).trans (feq c25).2) (by decide) (by decide) ?_
        show oS p e below T23 m 199 #[oj q0, .second, oj q1, .second, oj q2, .second, oj q3, .second, oi p4, oj v5, .second, oj v6, .second, oj v7, .second, oj v8, .second, oi (p4 &&& (3 : Int32)), oa b10, oa b12, oi (own_f2 (own_x1 v5 v6) (own_x1 v7 v8)), .unset] [] _
        refine XS.lload X23.here hx rfl (hb hby at_199) rfl ?_
        show oS p e below T23 m 201 #[oj q0, .second, oj q1, .second, oj q2, .second, oj q3, .second, oi p4, oj v5, .second, oj v6, .second, oj v7, .second, oj v8, .second, oi (p4 &&& (3 : Int32)), oa b10, oa b12, oi (own_f2 (own_x1 v5 v6) (own_x1 v7 v8)), .unset] [(.long v5)] _
        refine XS.lload X23.here hx rfl (hb hby at_201) rfl ?_
        show oS p e below T23 m 203 #[oj q0, .second, oj q1, .second, oj q2, .second, oj q3, .second, oi p4, oj v5, .second, oj v6, .second, oj v7, .second, oj v8, .second, oi (p4 &&& (3 : Int32)), oa b10, oa b12, oi (own_f2 (own_x1 v5 v6) (own_x1 v7 v8)), .unset] [(.long v6), (.long v5)] _
        refine XS.lload X23.here hx rfl (hb hby at_203) rfl ?_
        show oS p e below T23 m 205 #[oj q0, .second, oj q1, .second, oj q2, .second, oj q3, .second, oi p4, oj v5, .second, oj v6, .second, oj v7, .second, oj v8, .second, oi (p4 &&& (3 : Int32)), oa b10, oa b12, oi (own_f2 (own_x1 v5 v6) (own_x1 v7 v8)), .unset] [(.long v7), (.long v6), (.long v5)] _
        refine XS.lload X23.here hx rfl (hb hby at_205) rfl ?_
        show oS p e below T23 m 207 #[oj q0, .second, oj q1, .second, oj q2, .second, oj q3, .second, oi p4, oj v5, .second, oj v6, .second, oj v7, .second, oj v8, .second, oi (p4 &&& (3 : Int32)), oa b10, oa b12, oi (own_f2 (own_x1 v5 v6) (own_x1 v7 v8)), .unset] [(.long v8), (.long v7), (.long v6), (.long v5)] _
        refine st30 _ ?_
        show oS p e below T30 m 210 #[oj q0, .second, oj q1, .second, oj q2, .second, oj q3, .second, oi p4, oj v5, .second, oj v6, .second, oj v7, .second, oj v8, .second, oi (p4 &&& (3 : Int32)), oa b10, oa b12, oi (own_f2 (own_x1 v5 v6) (own_x1 v7 v8)), .unset] [(.int (own_f3 v5 v6 v7 v8))] _
        refine XS.istore X30.here hx rfl (hb hby at_210) rfl (l' := #[oj q0, .second, oj q1, .second, oj q2, .second, oj q3, .second, oi p4, oj v5, .second, oj v6, .second, oj v7, .second, oj v8, .second, oi (p4 &&& (3 : Int32)), oa b10, oa b12, oi (own_f2 (own_x1 v5 v6) (own_x1 v7 v8)), oi (own_f3 v5 v6 v7 v8)]) rfl ?_
        show oS p e below T30 m 212 #[oj q0, .second, oj q1, .second, oj q2, .second, oj q3, .second, oi p4, oj v5, .second, oj v6, .second, oj v7, .second, oj v8, .second, oi (p4 &&& (3 : Int32)), oa b10, oa b12, oi (own_f2 (own_x1 v5 v6) (own_x1 v7 v8)), oi (own_f3 v5 v6 v7 v8)] [] _
        refine XS.iload X30.here hx rfl (hb hby at_212) rfl ?_
        show oS p e below T30 m 214 #[oj q0, .second, oj q1, .second, oj q2, .second, oj q3, .second, oi p4, oj v5, .second, oj v6, .second, oj v7, .second, oj v8, .second, oi (p4 &&& (3 : Int32)), oa b10, oa b12, oi (own_f2 (own_x1 v5 v6) (own_x1 v7 v8)), oi (own_f3 v5 v6 v7 v8)] [(.int (own_f3 v5 v6 v7 v8))] _
        refine st31 _ ?_
        show oS p e below T31 m 217 #[oj q0, .second, oj q1, .second, oj q2, .second, oj q3, .second, oi p4, oj v5, .second, oj v6, .second, oj v7, .second, oj v8, .second, oi (p4 &&& (3 : Int32)), oa b10, oa b12, oi (own_f2 (own_x1 v5 v6) (own_x1 v7 v8)), oi (own_f3 v5 v6 v7 v8)] [(.int (own_f7 (own_f3 v5 v6 v7 v8)))] _
        refine XS.iload X31.here hx rfl (hb hby at_217) rfl ?_
        show oS p e below T31 m 219 #[oj q0, .second, oj q1, .second, oj q2, .second, oj q3, .second, oi p4, oj v5, .second, oj v6, .second, oj v7, .second, oj v8, .second, oi (p4 &&& (3 : Int32)), oa b10, oa b12, oi (own_f2 (own_x1 v5 v6) (own_x1 v7 v8)), oi (own_f3 v5 v6 v7 v8)] [(.int (own_f2 (own_x1 v5 v6) (own_x1 v7 v8))), (.int (own_f7 (own_f3 v5 v6 v7 v8)))] _
        refine XS.icmpNo X31.here hx rfl (hb hby at_219) rfl (teq b32).2 ?_
        show oS p e below T31 m 222 #[oj q0, .second, oj q1, .second, oj q2, .second, oj q3, .second, oi p4, oj v5, .second, oj v6, .second, oj v7, .second, oj v8, .second, oi (p4 &&& (3 : Int32)), oa b10, oa b12, oi (own_f2 (own_x1 v5 v6) (own_x1 v7 v8)), oi (own_f3 v5 v6 v7 v8)] [] _
        refine XS.iconst X31.here hx rfl (hb hby at_222) ?_
        show oS p e below T31 m 223 #[oj q0, .second, oj q1, .second, oj q2, .second, oj q3, .second, oi p4, oj v5, .second, oj v6, .second, oj v7, .second, oj v8, .second, oi (p4 &&& (3 : Int32)), oa b10, oa b12, oi (own_f2 (own_x1 v5 v6) (own_x1 v7 v8)), oi (own_f3 v5 v6 v7 v8)] [(.int (1 : Int32))] _
        refine XS.goto X31.here hx rfl (pc0 := 223) (pc' := 227) rfl (hb hby at_223) (by decide) (by decide) ?_
        show oS p e below T31 m 227 #[oj q0, .second, oj q1, .second, oj q2, .second, oj q3, .second, oi p4, oj v5, .second, oj v6, .second, oj v7, .second, oj v8, .second, oi (p4 &&& (3 : Int32)), oa b10, oa b12, oi (own_f2 (own_x1 v5 v6) (own_x1 v7 v8)), oi (own_f3 v5 v6 v7 v8)] [(.int (1 : Int32))] _
        exact retN X31 hx (t := .boolean) Bd.returns (by simp) (hb hby at_227) hr
      · show own_Q0 Z q0 q1 q2 q3 p4 h0 n0 _ T31.heap _
        rw [eq31]
        exact ⟨rfl, N31⟩
  · skip
    have b33 : ¬ ((own_f2 (own_x0 v5 v6) (own_x0 v7 v8)) = (0 : Int32)) := c22
    obtain ⟨_, _, ⟨T34, L34, k34, n34⟩, -, X34, ⟨Lc34, hQ34, l34, y34, z34⟩, st34⟩ := Jvm.LawKit.callS X20 hx (y := (⟨"com/example/strict_anon/strictanon/util/Products", "compare", "(JJJJ)I"⟩ : MethodName)) hown (mvT hZ (hw _ (List.mem_of_getElem? (i := 10) rfl))) (mvT hZ (hw _ (List.mem_of_getElem? (i := 11) rfl))) (mvT hZ (hw _ (List.mem_of_getElem? (i := 12) rfl))) (mvT hZ (hw _ (List.mem_of_getElem? (i := 13) rfl))) (by decide) (backOf (W := 0) (own_rm3 l Z av hw [] v5 v6 v7 v8 T18.heap n0 Z18 ) hZ (hw _ (List.mem_of_getElem? (i := 13) rfl)) (hw _ (List.mem_of_getElem? (i := 12) rfl)) (by decide) (by decide)) (g := (mkF m 207 #[oj q0, .second, oj q1, .second, oj q2, .second, oj q3, .second, oi p4, oj v5, .second, oj v6, .second, oj v7, .second, oj v8, .second, oi (p4 &&& (3 : Int32)), oa b10, oa b12, oi (own_f2 (own_x0 v5 v6) (own_x0 v7 v8)), .unset] [(.long v8), (.long v7), (.long v6), (.long v5)])) rfl (by rw [hml]; rfl) (argsL := [(.long v5), (.long v6), (.long v7), (.long v8)]) (rest := []) (lenOf own_pd3 rfl) rfl (by show 2 * 0 + _ ≤ _; exact Nat.le_of_eq rfl) (hb hby at_207) (fun _ _ => ⟨rfl, eq20, (by decide : 2 + 0 ≤ _), (by decide : 6 + 0 ≤ _)⟩)
    dsimp only [Pt.U, Pt.locs, Pt.cells, Pt.slots] at X34 l34 y34 z34 st34 hQ34
    have yq34 : k34 = 2 := y34
    have zq34 : n34 = 6 := z34
    subst yq34 zq34
    obtain ⟨rfl, Nq34, eq34⟩ := hQ34
    have N34 : Fr n0 L34 := by rw [l34]; exact Fr.app N20 Nq34
    obtain ⟨_, _, ⟨T35, L35, k35, n35⟩, -, X35, ⟨Lc35, hQ35, l35, y35, z35⟩, st35⟩ := Jvm.LawKit.callS X34 hx (y := (⟨"com/example/strict_anon/strictanon/util/ProductsComparePinLaw", "sign", "(I)I"⟩ : MethodName)) hown (mvT hZ (hw _ (List.mem_of_getElem? (i := 28) rfl))) (mvT hZ (hw _ (List.mem_of_getElem? (i := 29) rfl))) (mvT hZ (hw _ (List.mem_of_getElem? (i := 5) rfl))) (mvT hZ (hw _ (List.mem_of_getElem? (i := 30) rfl))) (by decide) (backOf (W := 0) (own_rm7 l Z av hw [] (own_f3 v5 v6 v7 v8) T18.heap n0 Z18 ) hZ (hw _ (List.mem_of_getElem? (i := 30) rfl)) (hw _ (List.mem_of_getElem? (i := 5) rfl)) (by decide) (by decide)) (g := (mkF m 214 #[oj q0, .second, oj q1, .second, oj q2, .second, oj q3, .second, oi p4, oj v5, .second, oj v6, .second, oj v7, .second, oj v8, .second, oi (p4 &&& (3 : Int32)), oa b10, oa b12, oi (own_f2 (own_x0 v5 v6) (own_x0 v7 v8)), oi (own_f3 v5 v6 v7 v8)] [(.int (own_f3 v5 v6 v7 v8))])) rfl (by rw [hml]; rfl) (argsL := [(.int (own_f3 v5 v6 v7 v8))]) (rest := []) (lenOf own_pd4 rfl) rfl (by show 2 * 0 + _ ≤ _; exact Nat.le_of_eq rfl) (hb hby at_214) (fun _ _ => ⟨rfl, eq34, (by decide : 2 + 0 ≤ _), (by decide : 6 + 0 ≤ _)⟩)
    dsimp only [Pt.U, Pt.locs, Pt.cells, Pt.slots] at X35 l35 y35 z35 st35 hQ35
    have yq35 : k35 = 2 := y35
    have zq35 : n35 = 6 := z35
    subst yq35 zq35
    obtain ⟨rfl, Nq35, eq35⟩ := hQ35
    have N35 : Fr n0 L35 := by rw [l35]; exact Fr.app N34 Nq35
    have b36 : (own_f7 (own_f3 v5 v6 v7 v8)) = (own_f2 (own_x0 v5 v6) (own_x0 v7 v8)) := by rw [own_key r9 r11 r13 r15, if_neg c22]
    obtain ⟨fs, hr, hrun, hended, hW, hsame⟩ := X35.leave (v := (some (.int (1 : Int32)))) (fun h => by rw [Bd.returns] at h; cases h) (hlocks := by first | exact BodyLoose.notSynchronized Bd | exact Body.notSynchronized Bd)
    refine ⟨_, _, pre21 _ ?_, hrun, hended, _, _, rfl, ?_, ⟨_, rfl⟩, hW, hsame.mono (by decide) (by decide)⟩
    · show oS p e below T20 m 165 #[oj q0, .second, oj q1, .second, oj q2, .second, oj q3, .second, oi p4, oj v5, .second, oj v6, .second, oj v7, .second, oj v8, .second, oi (p4 &&& (3 : Int32)), oa b10, oa b12, oi (own_f2 (own_x0 v5 v6) (own_x0 v7 v8)), .unset] [(.int (own_f2 (own_x0 v5 v6) (own_x0 v7 v8)))] _
      refine XS.ifYes X20.here hx rfl (pc0 := 165) (pc' := 181) rfl (hb hby at_165) rfl ((if0 _ _).trans (feq c22).2) (by decide) (by decide) ?_
      show oS p e below T20 m 181 #[oj q0, .second, oj q1, .second, oj q2, .second, oj q3, .second, oi p4, oj v5, .second, oj v6, .second, oj v7, .second, oj v8, .second, oi (p4 &&& (3 : Int32)), oa b10, oa b12, oi (own_f2 (own_x0 v5 v6) (own_x0 v7 v8)), .unset] [] _
      refine XS.iload X20.here hx rfl (hb hby at_181) rfl ?_
      show oS p e below T20 m 183 #[oj q0, .second, oj q1, .second, oj q2, .second, oj q3, .second, oi p4, oj v5, .second, oj v6, .second, oj v7, .second, oj v8, .second, oi (p4 &&& (3 : Int32)), oa b10, oa b12, oi (own_f2 (own_x0 v5 v6) (own_x0 v7 v8)), .unset] [(.int (own_f2 (own_x0 v5 v6) (own_x0 v7 v8)))] _
      refine XS.ifYes X20.here hx rfl (pc0 := 183) (pc' := 199) rfl (hb hby at_183) rfl ((if0 _ _).trans (feq b33).2) (by decide) (by decide) ?_
      show oS p e below T20 m 199 #[oj q0, .second, oj q1, .second, oj q2, .second, oj q3, .second, oi p4, oj v5, .second, oj v6, .second, oj v7, .second, oj v8, .second, oi (p4 &&& (3 : Int32)), oa b10, oa b12, oi (own_f2 (own_x0 v5 v6) (own_x0 v7 v8)), .unset] [] _
      refine XS.lload X20.here hx rfl (hb hby at_199) rfl ?_
      show oS p e below T20 m 201 #[oj q0, .second, oj q1, .second, oj q2, .second, oj q3, .second, oi p4, oj v5, .second, oj v6, .second, oj v7, .second, oj v8, .second, oi (p4 &&& (3 : Int32)), oa b10, oa b12, oi (own_f2 (own_x0 v5 v6) (own_x0 v7 v8)), .unset] [(.long v5)] _
      refine XS.lload X20.here hx rfl (hb hby at_201) rfl ?_
      show oS p e below T20 m 203 #[oj q0, .second, oj q1, .second, oj q2, .second, oj q3, .second, oi p4, oj v5, .second, oj v6, .second, oj v7, .second, oj v8, .second, oi (p4 &&& (3 : Int32)), oa b10, oa b12, oi (own_f2 (own_x0 v5 v6) (own_x0 v7 v8)), .unset] [(.long v6), (.long v5)] _
      refine XS.lload X20.here hx rfl (hb hby at_203) rfl ?_
      show oS p e below T20 m 205 #[oj q0, .second, oj q1, .second, oj q2, .second, oj q3, .second, oi p4, oj v5, .second, oj v6, .second, oj v7, .second, oj v8, .second, oi (p4 &&& (3 : Int32)), oa b10, oa b12, oi (own_f2 (own_x0 v5 v6) (own_x0 v7 v8)), .unset] [(.long v7), (.long v6), (.long v5)] _
      refine XS.lload X20.here hx rfl (hb hby at_205) rfl ?_
      show oS p e below T20 m 207 #[oj q0, .second, oj q1, .second, oj q2, .second, oj q3, .second, oi p4, oj v5, .second, oj v6, .second, oj v7, .second, oj v8, .second, oi (p4 &&& (3 : Int32)), oa b10, oa b12, oi (own_f2 (own_x0 v5 v6) (own_x0 v7 v8)), .unset] [(.long v8), (.long v7), (.long v6), (.long v5)] _
      refine st34 _ ?_
      show oS p e below T34 m 210 #[oj q0, .second, oj q1, .second, oj q2, .second, oj q3, .second, oi p4, oj v5, .second, oj v6, .second, oj v7, .second, oj v8, .second, oi (p4 &&& (3 : Int32)), oa b10, oa b12, oi (own_f2 (own_x0 v5 v6) (own_x0 v7 v8)), .unset] [(.int (own_f3 v5 v6 v7 v8))] _
      refine XS.istore X34.here hx rfl (hb hby at_210) rfl (l' := #[oj q0, .second, oj q1, .second, oj q2, .second, oj q3, .second, oi p4, oj v5, .second, oj v6, .second, oj v7, .second, oj v8, .second, oi (p4 &&& (3 : Int32)), oa b10, oa b12, oi (own_f2 (own_x0 v5 v6) (own_x0 v7 v8)), oi (own_f3 v5 v6 v7 v8)]) rfl ?_
      show oS p e below T34 m 212 #[oj q0, .second, oj q1, .second, oj q2, .second, oj q3, .second, oi p4, oj v5, .second, oj v6, .second, oj v7, .second, oj v8, .second, oi (p4 &&& (3 : Int32)), oa b10, oa b12, oi (own_f2 (own_x0 v5 v6) (own_x0 v7 v8)), oi (own_f3 v5 v6 v7 v8)] [] _
      refine XS.iload X34.here hx rfl (hb hby at_212) rfl ?_
      show oS p e below T34 m 214 #[oj q0, .second, oj q1, .second, oj q2, .second, oj q3, .second, oi p4, oj v5, .second, oj v6, .second, oj v7, .second, oj v8, .second, oi (p4 &&& (3 : Int32)), oa b10, oa b12, oi (own_f2 (own_x0 v5 v6) (own_x0 v7 v8)), oi (own_f3 v5 v6 v7 v8)] [(.int (own_f3 v5 v6 v7 v8))] _
      refine st35 _ ?_
      show oS p e below T35 m 217 #[oj q0, .second, oj q1, .second, oj q2, .second, oj q3, .second, oi p4, oj v5, .second, oj v6, .second, oj v7, .second, oj v8, .second, oi (p4 &&& (3 : Int32)), oa b10, oa b12, oi (own_f2 (own_x0 v5 v6) (own_x0 v7 v8)), oi (own_f3 v5 v6 v7 v8)] [(.int (own_f7 (own_f3 v5 v6 v7 v8)))] _
      refine XS.iload X35.here hx rfl (hb hby at_217) rfl ?_
      show oS p e below T35 m 219 #[oj q0, .second, oj q1, .second, oj q2, .second, oj q3, .second, oi p4, oj v5, .second, oj v6, .second, oj v7, .second, oj v8, .second, oi (p4 &&& (3 : Int32)), oa b10, oa b12, oi (own_f2 (own_x0 v5 v6) (own_x0 v7 v8)), oi (own_f3 v5 v6 v7 v8)] [(.int (own_f2 (own_x0 v5 v6) (own_x0 v7 v8))), (.int (own_f7 (own_f3 v5 v6 v7 v8)))] _
      refine XS.icmpNo X35.here hx rfl (hb hby at_219) rfl (teq b36).2 ?_
      show oS p e below T35 m 222 #[oj q0, .second, oj q1, .second, oj q2, .second, oj q3, .second, oi p4, oj v5, .second, oj v6, .second, oj v7, .second, oj v8, .second, oi (p4 &&& (3 : Int32)), oa b10, oa b12, oi (own_f2 (own_x0 v5 v6) (own_x0 v7 v8)), oi (own_f3 v5 v6 v7 v8)] [] _
      refine XS.iconst X35.here hx rfl (hb hby at_222) ?_
      show oS p e below T35 m 223 #[oj q0, .second, oj q1, .second, oj q2, .second, oj q3, .second, oi p4, oj v5, .second, oj v6, .second, oj v7, .second, oj v8, .second, oi (p4 &&& (3 : Int32)), oa b10, oa b12, oi (own_f2 (own_x0 v5 v6) (own_x0 v7 v8)), oi (own_f3 v5 v6 v7 v8)] [(.int (1 : Int32))] _
      refine XS.goto X35.here hx rfl (pc0 := 223) (pc' := 227) rfl (hb hby at_223) (by decide) (by decide) ?_
      show oS p e below T35 m 227 #[oj q0, .second, oj q1, .second, oj q2, .second, oj q3, .second, oi p4, oj v5, .second, oj v6, .second, oj v7, .second, oj v8, .second, oi (p4 &&& (3 : Int32)), oa b10, oa b12, oi (own_f2 (own_x0 v5 v6) (own_x0 v7 v8)), oi (own_f3 v5 v6 v7 v8)] [(.int (1 : Int32))] _
      exact retN X35 hx (t := .boolean) Bd.returns (by simp) (hb hby at_227) hr
    · show own_Q0 Z q0 q1 q2 q3 p4 h0 n0 _ T35.heap _
      rw [eq35]
      exact ⟨rfl, N35⟩
set_option maxRecDepth 65536 in
set_option maxHeartbeats 40000000 in
theorem own_comes {Post : Tables → Env → Array Value → State → Outcome → State → Prop} (hpost : ∀ tb e args s v u, (limb_1_1.after args s (.returned v) u = true ∧ limb_1_2.after args s (.returned v) u = true ∧ True) → FrameEnd s (.returned v) u (Jvm.fieldLocs frame_1_writes args s ++ Jvm.arrayLocs frame_1_arrays args s ++ Jvm.staticLocs frame_1_statics s) 16 128 → Post tb e args s (.returned v) u) :
    ArmFor flags0 classFile x code maxLocals ret World_1 tables_1 room_1 Calls_1 rest_1 Pre_1 Post := by
  intro l hfl _ _ p e ha hc hk s m args below hf hA hF happ hP
  obtain ⟨hcalls, hrest, hpre⟩ := hP
  obtain ⟨-, -, -, hnamed, -, -, -, hat⟩ := (Spec.applies_iff hf).mp happ
  obtain ⟨hg, hn⟩ := and_e (Cond.before_iff.mp (show (Jvm.Cond.and given_1 narrow_1).before args s = true from hpre))
  obtain ⟨gv1, gv2⟩ := and_e hg
  obtain ⟨gv3, gv4⟩ := and_e gv2
  obtain ⟨gv5, gv6⟩ := and_e gv4
  obtain ⟨gv7, gv8⟩ := and_e gv6
  obtain ⟨gv9, gv10⟩ := and_e gv8
  obtain ⟨w0, w1, w2, w3, w4, rfl⟩ : ∃ w0 w1 w2 w3 w4 : Value, args = #[w0, w1, w2, w3, w4] := by
    have hs : args.size = 5 := by simpa [Cond.value, given_1] using gv1
    obtain ⟨L⟩ := args
    match L, hs with
    | [w0, w1, w2, w3, w4], _ => exact ⟨w0, w1, w2, w3, w4, rfl⟩
  have hw := fun d (hd : d ∈ tables_1) => atoms_spec (ws := Jvm.Cond.code x code maxLocals ret :: tables_1) hat d (List.mem_cons_of_mem _ hd)
  have hfit : Fit s := fun {y c} hc i hi => by
    obtain ⟨ha, rfl⟩ := Array.getElem?_eq_some_iff.mp hc
    have q := List.all_eq_true.mp ((Array.all_eq_true_iff_forall_mem.mp hF) _ (Array.getElem_mem ha)) i (List.mem_range.mpr hi)
    simpa [Array.getElem?_eq_getElem hi] using q
  obtain ⟨i0, ei0⟩ := isL_v gv3
  obtain rfl : w0 = (.long i0) := Option.some.inj ei0
  obtain ⟨i1, ei1⟩ := isL_v gv5
  obtain rfl : w1 = (.long i1) := Option.some.inj ei1
  obtain ⟨i2, ei2⟩ := isL_v gv7
  obtain rfl : w2 = (.long i2) := Option.some.inj ei2
  obtain ⟨i3, ei3⟩ := isL_v gv9
  obtain rfl : w3 = (.long i3) := Option.some.inj ei3
  obtain ⟨i4, ei4⟩ := is_v gv10
  obtain rfl : w4 = (.int i4) := Option.some.inj ei4
  obtain ⟨n, o, h1, h2, h3, _, L, rfl, ⟨rfl, N⟩, hq⟩ := own_rm0 l s _ hw tables_1 i0 i1 i2 i3 i4  s.heap s.heap.size (Nat.le_refl _)  p e ha hc hk s m _ below hf ((Spec.applies_iff_loose hf).mp happ).1 ⟨rfl, State.Warmed39.refl s, rfl⟩ trivial
  refine ⟨n, _, h1, h2, h3, hpost _ _ _ _ _ _ ⟨Cond.after_iff.mpr rfl, Cond.after_iff.mpr (eq_i res_at (Term.int_eval (1)) rfl), trivial⟩ ⟨hq.1, hq.2.1, (hq.2.2.sift fun y hy => Or.inr (N y hy)).mono (by decide) (by decide)⟩⟩
theorem main_1_1 : Claimed_1_1 := own_comes fun _ _ _ _ _ _ h hF => ⟨h.1, hF⟩
theorem main_1_2 : Claimed_1_2 := own_comes fun _ _ _ _ _ _ h hF => ⟨h.2.1, hF⟩
end Jvm.Pilot.@@N@@
namespace Jvm.Pilot.@@N@@
open Jvm Jvm.ClassFile Sem Op Lib Jvm.Free Jvm.Stand Jvm.Pilot.@@N@@.Jvm.D
/-! MADE BY PROGRAM (witnessworld.py) out of the Statement's table words and the real class files: 17 classes; the members and pool entries that the words name. The judged class is class 1, her method 4. -/
namespace start1
open Jvm.ClassFile
def u (s : String) : CpInfo := .utf8 (stringToUtf16 s)
/-- a pool by its gaps: so many unusable entries, then the entry; so many at the end -/
def gap : Nat → List CpInfo → List CpInfo
  | 0, r => r
  | n + 1, r => .unusable :: gap n r
def poolList (es : List (Nat × CpInfo)) (last : Nat) : List CpInfo := es.foldr (fun e r => gap e.1 (e.2 :: r)) (gap last [])
def pool (es : List (Nat × CpInfo)) (last : Nat) : Array CpInfo := ⟨poolList es last⟩
def fileOf (pool : Array CpInfo) (this : Nat) (attrs : Array Attribute := #[]) (ms : Array MethodInfo := #[]) (fl : Nat := 33) (sup : Nat := 0) (ifs : Array Nat := #[]) (fds : Array FieldInfo := #[]) : ClassFile where
  minorVersion := 0
  majorVersion := 65
  constantPool := pool
  accessFlags := fl
  thisClass := this
  superClass := sup
  interfaces := ifs
  fields := fds
  methods := ms
  attributes := attrs
def plain (name : String) (sup : Option ClassId) : Class where
  name := name
  kind := .ordinary
  loader := none
  accessFlags := 33
  super := sup
  interfaces := #[]
  cf := none
  fields := #[]
  methods := #[]
  instanceTypes := #[]
  staticTypes := #[]
  resolved := #[]
  callSites := []
  init := .initialized
  statics := none
  mirror := none

def pool0 : Array CpInfo := pool [(5, u "<init>"), (0, u "()V"), (1, .class_ 10), (1, u "java/lang/Object")] 113

def k0m0 : Method := { name := "<init>", desc := "()V", sig := { parameters := [], returnType := none }, accessFlags := 1, code := none }
/-- java/lang/Object -/
def k0 : Class := { plain "java/lang/Object" none with
  accessFlags := 33
  interfaces := #[]
  cf := some (fileOf pool0 8 #[] #[{ accessFlags := 1, nameIndex := 5, descriptorIndex := 6, attributes := #[] }] 33 0 #[] #[])
  fields := #[]
  methods := #[k0m0]
  instanceTypes := #[]
  staticTypes := #[]
  resolved := Array.replicate 124 none
  statics := none }

def pool1 : Array CpInfo := pool [(2, .class_ 4), (1, u "java/lang/Object"), (0, u "<init>"), (0, u "()V"), (0, .long 4294967295), (3, .long 9223372036854775807), (1, .methodref 14 15), (0, .class_ 16), (0, .nameAndType 17 18), (0, u "com/example/strict_anon/strictanon/util/ProductsComparePinLaw"), (0, u "limbs"), (0, u "(JJ[J)V"), (0, .methodref 14 20), (0, .nameAndType 21 22), (0, u "cmp"), (0, u "(JJ)I"), (0, .methodref 24 25), (0, .class_ 26), (0, .nameAndType 27 28), (0, u "com/example/strict_anon/strictanon/util/Products"), (0, u "compare"), (0, u "(JJJJ)I"), (0, .methodref 14 30), (0, .nameAndType 31 32), (0, u "sign"), (0, u "(I)I"), (3, u "law"), (0, u "(JJJJI)Z")] 4

def k1m0 : Method := { name := "<init>", desc := "()V", sig := { parameters := [], returnType := none }, accessFlags := 2, code := none }
def k1c1 : Code := { maxStack := 7, maxLocals := 17, code := method_2_code, exceptionTable := #[], attributes := #[] }
def k1m1 : Method := { name := "limbs", desc := "(JJ[J)V", sig := { parameters := [.long, .long, (.array .long)], returnType := none }, accessFlags := 10, code := some k1c1 }
def k1c2 : Code := { maxStack := 4, maxLocals := 4, code := method_3_code, exceptionTable := #[], attributes := #[] }
def k1m2 : Method := { name := "cmp", desc := "(JJ)I", sig := { parameters := [.long, .long], returnType := some .int }, accessFlags := 10, code := some k1c2 }
def k1c3 : Code := { maxStack := 1, maxLocals := 1, code := method_4_code, exceptionTable := #[], attributes := #[] }
def k1m3 : Method := { name := "sign", desc := "(I)I", sig := { parameters := [.int], returnType := some .int }, accessFlags := 10, code := some k1c3 }
def k1c4 : Code := { maxStack := 8, maxLocals := 22, code := code, exceptionTable := #[], attributes := #[] }
def k1m4 : Method := { name := "law", desc := "(JJJJI)Z", sig := { parameters := [.long, .long, .long, .long, .int], returnType := some .boolean }, accessFlags := 9, code := some k1c4 }
/-- com/example/strict_anon/strictanon/util/ProductsComparePinLaw -/
def k1 : Class := { plain "com/example/strict_anon/strictanon/util/ProductsComparePinLaw" (some 0) with
  accessFlags := 49
  interfaces := #[]
  cf := some (fileOf pool1 14 #[] #[{ accessFlags := 2, nameIndex := 5, descriptorIndex := 6, attributes := #[] }, { accessFlags := 10, nameIndex := 17, descriptorIndex := 18, attributes := #[] }, { accessFlags := 10, nameIndex := 21, descriptorIndex := 22, attributes := #[] }, { accessFlags := 10, nameIndex := 31, descriptorIndex := 32, attributes := #[] }, { accessFlags := 9, nameIndex := 36, descriptorIndex := 37, attributes := #[] }] 49 2 #[] #[])
  fields := #[]
  methods := #[k1m0, k1m1, k1m2, k1m3, k1m4]
  instanceTypes := #[]
  staticTypes := #[]
  resolved := Array.replicate 42 none
  statics := none }

def pool2 : Array CpInfo := pool [(2, .class_ 4), (1, u "java/lang/Object"), (0, u "<init>"), (0, u "()V"), (0, .methodref 8 9), (0, .class_ 10), (0, .nameAndType 11 12), (0, u "java/lang/Math"), (0, u "multiplyHigh"), (0, u "(JJ)J"), (0, .methodref 14 15), (0, .class_ 16), (0, .nameAndType 17 18), (0, u "java/lang/Long"), (0, u "compare"), (0, u "(JJ)I"), (0, .methodref 14 20), (0, .nameAndType 21 18), (0, u "compareUnsigned"), (0, .class_ 23), (0, u "com/example/strict_anon/strictanon/util/Products"), (2, u "(JJJJ)I")] 3

def k2m0 : Method := { name := "<init>", desc := "()V", sig := { parameters := [], returnType := none }, accessFlags := 2, code := none }
def k2c1 : Code := { maxStack := 6, maxLocals := 9, code := prog_31_method_2_code, exceptionTable := #[], attributes := #[] }
def k2m1 : Method := { name := "compare", desc := "(JJJJ)I", sig := { parameters := [.long, .long, .long, .long], returnType := some .int }, accessFlags := 9, code := some k2c1 }
/-- com/example/strict_anon/strictanon/util/Products -/
def k2 : Class := { plain "com/example/strict_anon/strictanon/util/Products" (some 0) with
  accessFlags := 49
  interfaces := #[]
  cf := some (fileOf pool2 22 #[] #[{ accessFlags := 2, nameIndex := 5, descriptorIndex := 6, attributes := #[] }, { accessFlags := 9, nameIndex := 17, descriptorIndex := 26, attributes := #[] }] 49 2 #[] #[])
  fields := #[]
  methods := #[k2m0, k2m1]
  instanceTypes := #[]
  staticTypes := #[]
  resolved := Array.replicate 30 none
  statics := none }

def pool3 : Array CpInfo := pool [(1, .class_ 2), (0, u "java/lang/Math"), (1, .class_ 6), (1, u "java/lang/Object"), (0, u "<init>"), (0, u "()V"), (89, .class_ 100), (1, u "java/lang/Math$RandomNumberGeneratorHolder"), (20, u "(JJ)J"), (16, .long 4294967295), (3, u "multiplyHigh"), (29, u "negativeZeroFloatBits"), (0, u "J"), (2, u "negativeZeroDoubleBits"), (68, u "$assertionsDisabled"), (0, u "Z"), (91, u "twoToTheDoubleScaleDown"), (0, u "D"), (4, u "twoToTheDoubleScaleUp"), (9, u "E"), (3, u "PI"), (2, u "TAU"), (2, u "DEGREES_TO_RADIANS"), (0, u "RADIANS_TO_DEGREES")] 94

def k3m0 : Method := { name := "<init>", desc := "()V", sig := { parameters := [], returnType := none }, accessFlags := 2, code := none }
def k3c1 : Code := { maxStack := 6, maxLocals := 20, code := jdk_29_method_45_code, exceptionTable := #[], attributes := #[] }
def k3m1 : Method := { name := "multiplyHigh", desc := "(JJ)J", sig := { parameters := [.long, .long], returnType := some .long }, accessFlags := 9, code := some k3c1 }
/-- java/lang/Math -/
def k3 : Class := { plain "java/lang/Math" (some 0) with
  accessFlags := 49
  interfaces := #[]
  cf := some (fileOf pool3 1 #[.nestMembers #[98]] #[{ accessFlags := 2, nameIndex := 7, descriptorIndex := 8, attributes := #[] }, { accessFlags := 9, nameIndex := 142, descriptorIndex := 121, attributes := #[] }] 49 4 #[] #[{ accessFlags := 25, nameIndex := 354, descriptorIndex := 339, attributes := #[] }, { accessFlags := 25, nameIndex := 358, descriptorIndex := 339, attributes := #[] }, { accessFlags := 25, nameIndex := 361, descriptorIndex := 339, attributes := #[] }, { accessFlags := 26, nameIndex := 364, descriptorIndex := 339, attributes := #[] }, { accessFlags := 26, nameIndex := 365, descriptorIndex := 339, attributes := #[] }, { accessFlags := 26, nameIndex := 172, descriptorIndex := 173, attributes := #[] }, { accessFlags := 26, nameIndex := 176, descriptorIndex := 173, attributes := #[] }, { accessFlags := 8, nameIndex := 344, descriptorIndex := 339, attributes := #[] }, { accessFlags := 8, nameIndex := 338, descriptorIndex := 339, attributes := #[] }, { accessFlags := 4120, nameIndex := 245, descriptorIndex := 246, attributes := #[] }])
  fields := #[{ name := "E", type := .double, accessFlags := 25, slot := 0, constantValue := 0 }, { name := "PI", type := .double, accessFlags := 25, slot := 1, constantValue := 0 }, { name := "TAU", type := .double, accessFlags := 25, slot := 2, constantValue := 0 }, { name := "DEGREES_TO_RADIANS", type := .double, accessFlags := 26, slot := 3, constantValue := 0 }, { name := "RADIANS_TO_DEGREES", type := .double, accessFlags := 26, slot := 4, constantValue := 0 }, { name := "negativeZeroFloatBits", type := .long, accessFlags := 26, slot := 5, constantValue := 0 }, { name := "negativeZeroDoubleBits", type := .long, accessFlags := 26, slot := 6, constantValue := 0 }, { name := "twoToTheDoubleScaleUp", type := .double, accessFlags := 8, slot := 7, constantValue := 0 }, { name := "twoToTheDoubleScaleDown", type := .double, accessFlags := 8, slot := 8, constantValue := 0 }, { name := "$assertionsDisabled", type := .boolean, accessFlags := 4120, slot := 9, constantValue := 0 }]
  methods := #[k3m0, k3m1]
  instanceTypes := #[]
  staticTypes := #[.double, .double, .double, .double, .double, .long, .long, .double, .double, .boolean]
  resolved := Array.replicate 460 none
  statics := none }

def pool4 : Array CpInfo := pool [(1, .class_ 2), (0, u "java/io/Serializable"), (0, .class_ 4), (0, u "java/lang/Object")] 2

/-- java/io/Serializable -/
def k4 : Class := { plain "java/io/Serializable" (some 0) with
  accessFlags := 1537
  interfaces := #[]
  cf := some (fileOf pool4 1 #[] #[] 1537 3 #[] #[])
  fields := #[]
  methods := #[]
  instanceTypes := #[]
  staticTypes := #[]
  resolved := Array.replicate 7 none
  statics := none }

def pool5 : Array CpInfo := pool [(2, .class_ 4), (1, u "java/lang/Object"), (0, u "<init>"), (0, u "()V"), (1, .class_ 10), (1, u "java/lang/Number"), (2, .class_ 14), (0, u "java/io/Serializable"), (0, u "serialVersionUID"), (0, u "J")] 20

def k5m0 : Method := { name := "<init>", desc := "()V", sig := { parameters := [], returnType := none }, accessFlags := 1, code := none }
/-- java/lang/Number -/
def k5 : Class := { plain "java/lang/Number" (some 0) with
  accessFlags := 1057
  interfaces := #[4]
  cf := some (fileOf pool5 8 #[] #[{ accessFlags := 1, nameIndex := 5, descriptorIndex := 6, attributes := #[] }] 1057 2 #[13] #[{ accessFlags := 26, nameIndex := 15, descriptorIndex := 16, attributes := #[] }])
  fields := #[{ name := "serialVersionUID", type := .long, accessFlags := 26, slot := 0, constantValue := 0 }]
  methods := #[k5m0]
  instanceTypes := #[]
  staticTypes := #[.long]
  resolved := Array.replicate 37 none
  statics := none }

def pool6 : Array CpInfo := pool [(1, .class_ 2), (0, u "java/lang/Comparable"), (0, .class_ 4), (0, u "java/lang/Object")] 7

/-- java/lang/Comparable -/
def k6 : Class := { plain "java/lang/Comparable" (some 0) with
  accessFlags := 1537
  interfaces := #[]
  cf := some (fileOf pool6 1 #[] #[] 1537 3 #[] #[])
  fields := #[]
  methods := #[]
  instanceTypes := #[]
  staticTypes := #[]
  resolved := Array.replicate 12 none
  statics := none }

def pool7 : Array CpInfo := pool [(1, .class_ 2), (0, u "java/lang/constant/Constable"), (0, .class_ 4), (0, u "java/lang/Object")] 6

/-- java/lang/constant/Constable -/
def k7 : Class := { plain "java/lang/constant/Constable" (some 0) with
  accessFlags := 1537
  interfaces := #[]
  cf := some (fileOf pool7 1 #[] #[] 1537 3 #[] #[])
  fields := #[]
  methods := #[]
  instanceTypes := #[]
  staticTypes := #[]
  resolved := Array.replicate 11 none
  statics := none }

def pool8 : Array CpInfo := pool [(1, .class_ 2), (0, u "java/lang/constant/ConstantDesc"), (0, .class_ 4), (0, u "java/lang/Object")] 32

/-- java/lang/constant/ConstantDesc -/
def k8 : Class := { plain "java/lang/constant/ConstantDesc" (some 0) with
  accessFlags := 1537
  interfaces := #[]
  cf := some (fileOf pool8 1 #[] #[] 1537 3 #[] #[])
  fields := #[]
  methods := #[]
  instanceTypes := #[]
  staticTypes := #[]
  resolved := Array.replicate 37 none
  statics := none }

def pool9 : Array CpInfo := pool [(1, .class_ 2), (0, u "java/lang/Long"), (165, .long 9223372036854775808), (66, .class_ 237), (1, u "java/lang/Long$LongCache"), (33, .class_ 272), (0, u "java/lang/Number"), (2, u "value"), (0, u "J"), (25, .methodref 1 303), (0, .nameAndType 304 305), (0, u "compare"), (0, u "(JJ)I"), (55, u "TYPE"), (0, u "Ljava/lang/Class;"), (0, .class_ 364), (0, u "java/lang/Comparable"), (0, .class_ 366), (0, u "java/lang/constant/Constable"), (0, .class_ 368), (0, u "java/lang/constant/ConstantDesc"), (0, u "MIN_VALUE"), (1, u "MAX_VALUE"), (4, u "SIZE"), (0, u "I"), (1, u "BYTES"), (1, u "serialVersionUID"), (87, u "compareUnsigned")] 54

def k9c0 : Code := { maxStack := 4, maxLocals := 4, code := jdk_35_method_42_code, exceptionTable := #[], attributes := #[] }
def k9m0 : Method := { name := "compare", desc := "(JJ)I", sig := { parameters := [.long, .long], returnType := some .int }, accessFlags := 9, code := some k9c0 }
def k9c1 : Code := { maxStack := 6, maxLocals := 4, code := jdk_35_method_43_code, exceptionTable := #[], attributes := #[] }
def k9m1 : Method := { name := "compareUnsigned", desc := "(JJ)I", sig := { parameters := [.long, .long], returnType := some .int }, accessFlags := 9, code := some k9c1 }
/-- java/lang/Long -/
def k9 : Class := { plain "java/lang/Long" (some 5) with
  accessFlags := 49
  interfaces := #[6, 7, 8]
  cf := some (fileOf pool9 1 #[.nestMembers #[235]] #[{ accessFlags := 9, nameIndex := 304, descriptorIndex := 305, attributes := #[] }, { accessFlags := 9, nameIndex := 469, descriptorIndex := 305, attributes := #[] }] 49 271 #[363, 365, 367] #[{ accessFlags := 25, nameIndex := 369, descriptorIndex := 276, attributes := #[] }, { accessFlags := 25, nameIndex := 371, descriptorIndex := 276, attributes := #[] }, { accessFlags := 25, nameIndex := 361, descriptorIndex := 362, attributes := #[] }, { accessFlags := 18, nameIndex := 275, descriptorIndex := 276, attributes := #[] }, { accessFlags := 25, nameIndex := 376, descriptorIndex := 377, attributes := #[] }, { accessFlags := 25, nameIndex := 379, descriptorIndex := 377, attributes := #[] }, { accessFlags := 26, nameIndex := 381, descriptorIndex := 276, attributes := #[] }])
  fields := #[{ name := "MIN_VALUE", type := .long, accessFlags := 25, slot := 0, constantValue := 0 }, { name := "MAX_VALUE", type := .long, accessFlags := 25, slot := 1, constantValue := 0 }, { name := "TYPE", type := (.object "java/lang/Class"), accessFlags := 25, slot := 2, constantValue := 0 }, { name := "value", type := .long, accessFlags := 18, slot := 0, constantValue := 0 }, { name := "SIZE", type := .int, accessFlags := 25, slot := 3, constantValue := 0 }, { name := "BYTES", type := .int, accessFlags := 25, slot := 4, constantValue := 0 }, { name := "serialVersionUID", type := .long, accessFlags := 26, slot := 5, constantValue := 0 }]
  methods := #[k9m0, k9m1]
  instanceTypes := #[.long]
  staticTypes := #[.long, .long, (.object "java/lang/Class"), .int, .int, .long]
  resolved := Array.replicate 524 none
  statics := none }

def pool10 : Array CpInfo := pool [(1, u "java/lang/Cloneable"), (0, .class_ 1), (0, u "java/lang/Object"), (0, .class_ 3)] 3

/-- java/lang/Cloneable -/
def k10 : Class := { plain "java/lang/Cloneable" (some 0) with
  accessFlags := 1537
  interfaces := #[]
  cf := some (fileOf pool10 2 #[] #[] 1537 4 #[] #[])
  fields := #[]
  methods := #[]
  instanceTypes := #[]
  staticTypes := #[]
  resolved := Array.replicate 8 none
  statics := none }

/-- the primitive byte -/
def k11 : Class := { plain "byte" none with kind := .primitive 'B', accessFlags := 0x411 }
/-- [B -/
def k12 : Class := { plain "[B" (some 0) with kind := .array 11 .byte, interfaces := #[10, 4], accessFlags := 1041 }

/-- the primitive int -/
def k13 : Class := { plain "int" none with kind := .primitive 'I', accessFlags := 0x411 }
/-- [I -/
def k14 : Class := { plain "[I" (some 0) with kind := .array 13 .int, interfaces := #[10, 4], accessFlags := 1041 }

/-- the primitive long -/
def k15 : Class := { plain "long" none with kind := .primitive 'J', accessFlags := 0x411 }
/-- [J -/
def k16 : Class := { plain "[J" (some 0) with kind := .array 15 .long, interfaces := #[10, 4], accessFlags := 1041 }

def heap : Heap := #[]
def classes : Array Class := #[k0, k1, k2, k3, k4, k5, k6, k7, k8, k9, k10, k11, k12, k13, k14, k15, k16]
def interned : List (Array UInt16 × Addr) := []
def slotsUsed : Nat := 0
def theMethod : MethodId := ⟨1, 4⟩
def args0 : Array Value := #[.long 2, .long 6, .long 7, .long 8, .int 0]
def aboutOver (below : List Frame) : State where
  vm := { classes := classes, interned := interned.toArray }
  heap := heap
  slotsUsed := slotsUsed
  threads := #[{ frames := .invoking theMethod args0 :: below }]
def below0 : List Frame := [.native { method := ⟨0, 0⟩, args := #[] }]
def about1 : State := aboutOver below0
def p0 : Program := .bare "" "" ""
def e0 : Env := launch0.env 0 0 0
theorem w_frames : about1.frames = Frame.invoking theMethod args0 :: below0 := rfl
set_option maxRecDepth 65536 in
theorem w_args : argsFit about1.vm theMethod args0 = true := by decide +kernel
set_option maxRecDepth 65536 in
theorem w_heap : heapFits about1 = true := by decide +kernel
set_option maxRecDepth 65536 in
theorem w_runnable : about1.curStatus? = some .runnable := by decide +kernel
set_option maxRecDepth 65536 in
theorem w_alone : about1.alone = true := by decide +kernel
set_option maxRecDepth 65536 in
theorem w_named : about1.methodNamed? x = some theMethod := by decide +kernel
set_option maxRecDepth 65536 in
theorem w_hears : about1.hears theMethod below0 = true := by decide +kernel
set_option maxRecDepth 65536 in
theorem w_ripe : about1.ripe theMethod args0 below0 = true := by decide +kernel
theorem w_running : about1.status = .running := rfl
set_option maxRecDepth 65536 in
theorem w_room : about1.hasRoom e0.platform room_1 = true :=
  launch0.hasRoom_least _ room_1 (by decide +kernel) (by decide +kernel) (by decide +kernel) (by decide +kernel) (by decide +kernel) (by decide +kernel)
theorem allAtoms_all (ts : List Jvm.Cond) (a : Array Jvm.Value) (st : Jvm.State) : (allAtoms ts).before a st = ts.all (fun c => c.before a st) := by
  induction ts with
  | nil => rfl
  | cons c t ih =>
    show (Jvm.Cond.and c (allAtoms t)).before a st = _
    rw [Jvm.Cond.before_and, ih, List.all_cons]
def words1 : List Jvm.Cond := Jvm.Cond.code x code maxLocals ret :: tables_1
/-- a 'code' word, met by the world's own term for the bytes: nothing is compared byte by byte -/
theorem code_word {y : MethodName} {bytes : ByteArray} {mx : Nat} {rt : Option FieldType} {a : Array Value} {s : State} {m : MethodId} {meth : Method} {c : Code} (h1 : s.methodNamed? y = some m) (h2 : s.vm.method? m = some meth) (h3 : meth.code = some c) (h4 : c.code = bytes)
    (h5 : (c.maxLocals == mx && c.exceptionTable.isEmpty && decide (c.maxStack ≤ mostOperands) && decide (meth.sig.returnType = rt) && !meth.locks && decide (parseMethodDescriptor y.desc = some meth.sig)) = true) : (Jvm.Cond.code y bytes mx rt).before a s = true := by
  simp only [Bool.and_eq_true, beq_iff_eq, Bool.not_eq_true', decide_eq_true_eq] at h5
  obtain ⟨⟨⟨⟨⟨g1, g2⟩, g3⟩, g4⟩, g5⟩, g6⟩ := h5
  simp [Cond.before, Cond.holds, Cond.value, h1, h2, h3, h4, g1, g2, g3, g4, g5, g6]
def isCode : Jvm.Cond → Bool
  | .code _ _ _ _ => true
  | _ => false
theorem all_split {L : List Jvm.Cond} {P : Jvm.Cond → Bool} (h1 : L.all (fun c => isCode c || P c) = true) (h2 : ∀ c ∈ L.filter isCode, P c = true) : L.all P = true := by
  refine List.all_eq_true.mpr fun c hc => ?_
  have h := List.all_eq_true.mp h1 c hc
  rcases Bool.eq_false_or_eq_true (isCode c) with hi | hi
  · exact h2 c (List.mem_filter.mpr ⟨hc, hi⟩)
  · simpa [hi] using h
set_option maxRecDepth 65536 in
theorem w_c0 : (Jvm.Cond.code x code maxLocals ret).before args0 about1 = true := code_word (m := ⟨1, 4⟩) (meth := k1m4) (c := k1c4) (by decide +kernel) rfl rfl rfl (by decide +kernel)
set_option maxRecDepth 65536 in
theorem w_c1 : (Jvm.Cond.code ({ cls := "com/example/strict_anon/strictanon/util/ProductsComparePinLaw", name := "limbs", desc := "(JJ[J)V" } : Jvm.MethodName) method_2_code (17 : Nat) (Option.none : Option Jvm.ClassFile.FieldType)).before args0 about1 = true := code_word (m := ⟨1, 1⟩) (meth := k1m1) (c := k1c1) (by decide +kernel) rfl rfl rfl (by decide +kernel)
set_option maxRecDepth 65536 in
theorem w_c2 : (Jvm.Cond.code ({ cls := "com/example/strict_anon/strictanon/util/ProductsComparePinLaw", name := "cmp", desc := "(JJ)I" } : Jvm.MethodName) method_3_code (4 : Nat) (Option.some Jvm.ClassFile.FieldType.int)).before args0 about1 = true := code_word (m := ⟨1, 2⟩) (meth := k1m2) (c := k1c2) (by decide +kernel) rfl rfl rfl (by decide +kernel)
set_option maxRecDepth 65536 in
theorem w_c3 : (Jvm.Cond.code ({ cls := "com/example/strict_anon/strictanon/util/Products", name := "compare", desc := "(JJJJ)I" } : Jvm.MethodName) prog_31_method_2_code (9 : Nat) (Option.some Jvm.ClassFile.FieldType.int)).before args0 about1 = true := code_word (m := ⟨2, 1⟩) (meth := k2m1) (c := k2c1) (by decide +kernel) rfl rfl rfl (by decide +kernel)
set_option maxRecDepth 65536 in
theorem w_c4 : (Jvm.Cond.code ({ cls := "java/lang/Math", name := "multiplyHigh", desc := "(JJ)J" } : Jvm.MethodName) jdk_29_method_45_code (20 : Nat) (Option.some Jvm.ClassFile.FieldType.long)).before args0 about1 = true := code_word (m := ⟨3, 1⟩) (meth := k3m1) (c := k3c1) (by decide +kernel) rfl rfl rfl (by decide +kernel)
set_option maxRecDepth 65536 in
theorem w_c5 : (Jvm.Cond.code ({ cls := "java/lang/Long", name := "compare", desc := "(JJ)I" } : Jvm.MethodName) jdk_35_method_42_code (4 : Nat) (Option.some Jvm.ClassFile.FieldType.int)).before args0 about1 = true := code_word (m := ⟨9, 0⟩) (meth := k9m0) (c := k9c0) (by decide +kernel) rfl rfl rfl (by decide +kernel)
set_option maxRecDepth 65536 in
theorem w_c6 : (Jvm.Cond.code ({ cls := "java/lang/Long", name := "compareUnsigned", desc := "(JJ)I" } : Jvm.MethodName) jdk_35_method_43_code (4 : Nat) (Option.some Jvm.ClassFile.FieldType.int)).before args0 about1 = true := code_word (m := ⟨9, 1⟩) (meth := k9m1) (c := k9c1) (by decide +kernel) rfl rfl rfl (by decide +kernel)
set_option maxRecDepth 65536 in
theorem w_c7 : (Jvm.Cond.code ({ cls := "com/example/strict_anon/strictanon/util/ProductsComparePinLaw", name := "sign", desc := "(I)I" } : Jvm.MethodName) method_4_code (1 : Nat) (Option.some Jvm.ClassFile.FieldType.int)).before args0 about1 = true := code_word (m := ⟨1, 3⟩) (meth := k1m3) (c := k1c3) (by decide +kernel) rfl rfl rfl (by decide +kernel)
def codes1 : List Jvm.Cond := [Jvm.Cond.code x code maxLocals ret, Jvm.Cond.code ({ cls := "com/example/strict_anon/strictanon/util/ProductsComparePinLaw", name := "limbs", desc := "(JJ[J)V" } : Jvm.MethodName) method_2_code (17 : Nat) (Option.none : Option Jvm.ClassFile.FieldType), Jvm.Cond.code ({ cls := "com/example/strict_anon/strictanon/util/ProductsComparePinLaw", name := "cmp", desc := "(JJ)I" } : Jvm.MethodName) method_3_code (4 : Nat) (Option.some Jvm.ClassFile.FieldType.int), Jvm.Cond.code ({ cls := "com/example/strict_anon/strictanon/util/Products", name := "compare", desc := "(JJJJ)I" } : Jvm.MethodName) prog_31_method_2_code (9 : Nat) (Option.some Jvm.ClassFile.FieldType.int), Jvm.Cond.code ({ cls := "java/lang/Math", name := "multiplyHigh", desc := "(JJ)J" } : Jvm.MethodName) jdk_29_method_45_code (20 : Nat) (Option.some Jvm.ClassFile.FieldType.long), Jvm.Cond.code ({ cls := "java/lang/Long", name := "compare", desc := "(JJ)I" } : Jvm.MethodName) jdk_35_method_42_code (4 : Nat) (Option.some Jvm.ClassFile.FieldType.int), Jvm.Cond.code ({ cls := "java/lang/Long", name := "compareUnsigned", desc := "(JJ)I" } : Jvm.MethodName) jdk_35_method_43_code (4 : Nat) (Option.some Jvm.ClassFile.FieldType.int), Jvm.Cond.code ({ cls := "com/example/strict_anon/strictanon/util/ProductsComparePinLaw", name := "sign", desc := "(I)I" } : Jvm.MethodName) method_4_code (1 : Nat) (Option.some Jvm.ClassFile.FieldType.int)]
set_option maxRecDepth 65536 in
theorem codes_eq : words1.filter isCode = codes1 := rfl
theorem w_codes : ∀ c ∈ words1.filter isCode, c.before args0 about1 = true := by
  rw [codes_eq]
  intro c hc
  simp only [codes1, List.mem_cons, List.not_mem_nil, or_false] at hc
  rcases hc with rfl | rfl | rfl | rfl | rfl | rfl | rfl | rfl
  · exact w_c0
  · exact w_c1
  · exact w_c2
  · exact w_c3
  · exact w_c4
  · exact w_c5
  · exact w_c6
  · exact w_c7
set_option maxRecDepth 65536 in
theorem w_t1 : (words1.take 24).all (fun c => isCode c || c.before args0 about1) = true := by decide +kernel
set_option maxRecDepth 65536 in
theorem w_t2 : (words1.drop 24).all (fun c => isCode c || c.before args0 about1) = true := by decide +kernel
theorem w_tables : (allAtoms (Jvm.Cond.code x code maxLocals ret :: tables_1)).before args0 about1 = true := by
  rw [allAtoms_all]
  show words1.all (fun c => c.before args0 about1) = true
  refine all_split ?_ w_codes
  rw [← List.take_append_drop 24 words1, List.all_append, w_t1, w_t2]
  rfl
set_option maxRecDepth 65536 in
theorem w_case : (Jvm.Cond.and given_1 narrow_1).before args0 about1 = true := by decide +kernel
theorem w_applies : (headSpec (Jvm.Cond.code x code maxLocals ret :: tables_1) room_1).applies x e0.platform about1 = true :=
  (Spec.applies_iff w_frames).mpr ⟨w_running, w_runnable, w_alone, w_named, w_hears, w_ripe, w_room, w_tables⟩
theorem atStart : AtStart classFile x code maxLocals ret World_1 tables_1 room_1 Calls_1 rest_1 Pre_1 launch0 p0 e0 about1 theMethod args0 below0 :=
  ⟨lists_1, trivial, launch0.admits_env _ _ _, launch0.least_env, fairChoices_fair.cas, fairChoices_fair.clock, w_frames, w_args, w_heap, w_applies, trivial, trivial, w_case⟩
end start1
theorem witness_1 : WitnessClaimed_1 := ⟨start1.p0, start1.e0, start1.about1, start1.theMethod, start1.args0, start1.below0, start1.atStart⟩
end Jvm.Pilot.@@N@@
