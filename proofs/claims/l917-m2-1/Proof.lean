import JvmDerived
import JvmDerived.Pilot.@@N@@Statement
import JvmDerived.Pilot.@@N@@Code
set_option linter.unusedVariables false
set_option linter.unusedSimpArgs false
namespace Jvm.Pilot.@@N@@
open Jvm Jvm.ClassFile Sem Op Lib Jvm.Free Jvm.Stand Jvm.LawKit Jvm.RoadKit Bundle Jvm.Pilot.@@N@@.Jvm.D
section OwnKit
variable {p : Program} {l : Launch} {e : Env} {R : Room} {s : State} {m : MethodId} {args : Array Value} {below : List Frame} {meth : Method} {c : Code} {T : State} {locs : List Loc} {cells slots : Nat} {Z : State} {h : Heap} {a : Addr} {k : ClassId} {z : Int32} {vs : List Value} {dv : Value}
theorem oLen (X : Stand p l e R s m args below meth c T locs cells slots) (hx : p.tables.exec = Jvm.exec) (hZ : Z.Warmed39 s.vm) (eT : T.heap = h) {ty : FieldType} (F : Arv Z h a k ty z vs dv) {pc : Nat} {Ls : Array Slot} {rest : List Value} (hd : decode c.code pc = .ok (.arraylength, 1)) {target : State}
    (hr : Steps p.tables e below (T.setTop (mkF m (pc + 1) Ls (.int z :: rest))) target) : Steps p.tables e below (T.setTop (mkF m pc Ls (.ref a :: rest))) target := by
  obtain ⟨cl, A, -, S, M, -, -⟩ := F
  refine X.arraylength hx (by rw [eT]; exact A.1) (State.isArrayOf_alike hZ.alike A.2.1) (g := mkF m pc Ls (.ref a :: rest)) rfl rfl hd target ?_
  rw [len_of S M]
  exact hr
theorem oLdI (X : Stand p l e R s m args below meth c T locs cells slots) (hx : p.tables.exec = Jvm.exec) (hZ : Z.Warmed39 s.vm) (eT : T.heap = h) (F : Arv Z h a k .int z vs dv) {j : Int32} {v : Value} (hj : ¬ j < 0 ∧ j < z) (hv : vs.getD j.toNatClampNeg dv = v) {pc : Nat} {Ls : Array Slot} {rest : List Value} (hd : decode c.code pc = .ok (.iaload, 1)) {target : State}
    (hr : Steps p.tables e below (T.setTop (mkF m (pc + 1) Ls (v :: rest))) target) : Steps p.tables e below (T.setTop (mkF m pc Ls (.int j :: .ref a :: rest))) target := by
  obtain ⟨cl, A, -, S, -, H, -⟩ := F
  have hin := inb_of S hj
  exact X.iaload hx (by rw [eT]; exact A.1) (State.isArrayOf_alike hZ.alike A.2.1) A.2.2 hin (Has.at H hin hv) (g := mkF m pc Ls (.int j :: .ref a :: rest)) rfl rfl hd target hr
theorem oLdB (X : Stand p l e R s m args below meth c T locs cells slots) (hx : p.tables.exec = Jvm.exec) (hZ : Z.Warmed39 s.vm) (eT : T.heap = h) (F : Arv Z h a k .byte z vs dv) {j : Int32} {v : Value} (hj : ¬ j < 0 ∧ j < z) (hv : vs.getD j.toNatClampNeg dv = v) {pc : Nat} {Ls : Array Slot} {rest : List Value} (hd : decode c.code pc = .ok (.baload, 1)) {target : State}
    (hr : Steps p.tables e below (T.setTop (mkF m (pc + 1) Ls (v :: rest))) target) : Steps p.tables e below (T.setTop (mkF m pc Ls (.int j :: .ref a :: rest))) target := by
  obtain ⟨cl, A, -, S, -, H, -⟩ := F
  have hin := inb_of S hj
  exact X.baloadBytes hx (by rw [eT]; exact A.1) (State.isArrayOf_alike hZ.alike A.2.1) A.2.2 hin (Has.at H hin hv) (g := mkF m pc Ls (.int j :: .ref a :: rest)) rfl rfl hd target hr
theorem oLdJ (X : Stand p l e R s m args below meth c T locs cells slots) (hx : p.tables.exec = Jvm.exec) (hZ : Z.Warmed39 s.vm) (eT : T.heap = h) (F : Arv Z h a k .long z vs dv) {j : Int32} {v : Value} (hj : ¬ j < 0 ∧ j < z) (hv : vs.getD j.toNatClampNeg dv = v) {pc : Nat} {Ls : Array Slot} {rest : List Value} (hd : decode c.code pc = .ok (.laload, 1)) {target : State}
    (hr : Steps p.tables e below (T.setTop (mkF m (pc + 1) Ls (v :: rest))) target) : Steps p.tables e below (T.setTop (mkF m pc Ls (.int j :: .ref a :: rest))) target := by
  obtain ⟨cl, A, -, S, -, H, -⟩ := F
  have hin := inb_of S hj
  exact X.laload hx (by rw [eT]; exact A.1) (State.isArrayOf_alike hZ.alike A.2.1) A.2.2 hin (Has.at H hin hv) (g := mkF m pc Ls (.int j :: .ref a :: rest)) rfl rfl hd target hr
theorem oLdD (X : Stand p l e R s m args below meth c T locs cells slots) (hx : p.tables.exec = Jvm.exec) (hZ : Z.Warmed39 s.vm) (eT : T.heap = h) (F : Arv Z h a k .double z vs dv) {j : Int32} {v : Value} (hj : ¬ j < 0 ∧ j < z) (hv : vs.getD j.toNatClampNeg dv = v) {pc : Nat} {Ls : Array Slot} {rest : List Value} (hd : decode c.code pc = .ok (.daload, 1)) {target : State}
    (hr : Steps p.tables e below (T.setTop (mkF m (pc + 1) Ls (v :: rest))) target) : Steps p.tables e below (T.setTop (mkF m pc Ls (.int j :: .ref a :: rest))) target := by
  obtain ⟨cl, A, -, S, -, H, -⟩ := F
  have hin := inb_of S hj
  exact X.daload hx (by rw [eT]; exact A.1) (State.isArrayOf_alike hZ.alike A.2.1) A.2.2 hin (Has.at H hin hv) (g := mkF m pc Ls (.int j :: .ref a :: rest)) rfl rfl hd target hr
theorem oStI (X : Stand p l e R s m args below meth c T locs cells slots) (hx : p.tables.exec = Jvm.exec) (hZ : Z.Warmed39 s.vm) (eT : T.heap = h) (F : Arv Z h a k .int z vs dv) {j : Int32} {x : Int32} (hj : ¬ j < 0 ∧ j < z) (i : Nat) (hi : j.toNatClampNeg = i) (hl : i < vs.length) {g : JFrame} (hg : g.method = m) {rest : List Value} (hs : g.stack = .int x :: .int j :: .ref a :: rest) (hd : decode c.code g.pc = .ok (.iastore, 1)) :
    ∃ T' h', Stand p l e R s m args below meth c T' (locs ++ [⟨a, j.toNatClampNeg⟩]) cells slots ∧ T'.heap = h' ∧ Wr h h' a j.toNatClampNeg (.int x) ∧ Arv Z h' a k .int z (vs.set i (.int x)) dv ∧ ∀ target, Steps p.tables e below (T'.setTop { g with pc := g.pc + 1, stack := rest }) target → Steps p.tables e below (T.setTop g) target := by
  obtain ⟨cl, A, q1, S, M, H, G⟩ := F
  obtain ⟨T', h', X', e', W, st⟩ := stI X hx hZ eT A (j := j) (inb_of S hj) hg hs hd
  exact ⟨T', h', X', e', W, Arv.set A q1 S M H G rfl W i hi hl, st⟩
theorem oStB (X : Stand p l e R s m args below meth c T locs cells slots) (hx : p.tables.exec = Jvm.exec) (hZ : Z.Warmed39 s.vm) (eT : T.heap = h) (F : Arv Z h a k .byte z vs dv) {j : Int32} {x : Int32} (hj : ¬ j < 0 ∧ j < z) (i : Nat) (hi : j.toNatClampNeg = i) (hl : i < vs.length) {g : JFrame} (hg : g.method = m) {rest : List Value} (hs : g.stack = .int x :: .int j :: .ref a :: rest) (hd : decode c.code g.pc = .ok (.bastore, 1)) :
    ∃ T' h', Stand p l e R s m args below meth c T' (locs ++ [⟨a, j.toNatClampNeg⟩]) cells slots ∧ T'.heap = h' ∧ Wr h h' a j.toNatClampNeg (.int (nar .byte x)) ∧ Arv Z h' a k .byte z (vs.set i (.int (nar .byte x))) dv ∧ ∀ target, Steps p.tables e below (T'.setTop { g with pc := g.pc + 1, stack := rest }) target → Steps p.tables e below (T.setTop g) target := by
  obtain ⟨cl, A, q1, S, M, H, G⟩ := F
  obtain ⟨T', h', X', e', W, st⟩ := stB X hx hZ eT A (j := j) (inb_of S hj) hg hs hd
  exact ⟨T', h', X', e', W, Arv.set A q1 S M H G (fits_nar_byte x) W i hi hl, st⟩
theorem oStJ (X : Stand p l e R s m args below meth c T locs cells slots) (hx : p.tables.exec = Jvm.exec) (hZ : Z.Warmed39 s.vm) (eT : T.heap = h) (F : Arv Z h a k .long z vs dv) {j : Int32} {x : Int64} (hj : ¬ j < 0 ∧ j < z) (i : Nat) (hi : j.toNatClampNeg = i) (hl : i < vs.length) {g : JFrame} (hg : g.method = m) {rest : List Value} (hs : g.stack = .long x :: .int j :: .ref a :: rest) (hd : decode c.code g.pc = .ok (.lastore, 1)) :
    ∃ T' h', Stand p l e R s m args below meth c T' (locs ++ [⟨a, j.toNatClampNeg⟩]) cells slots ∧ T'.heap = h' ∧ Wr h h' a j.toNatClampNeg (.long x) ∧ Arv Z h' a k .long z (vs.set i (.long x)) dv ∧ ∀ target, Steps p.tables e below (T'.setTop { g with pc := g.pc + 1, stack := rest }) target → Steps p.tables e below (T.setTop g) target := by
  obtain ⟨cl, A, q1, S, M, H, G⟩ := F
  obtain ⟨T', h', X', e', W, st⟩ := stJ X hx hZ eT A (j := j) (inb_of S hj) hg hs hd
  exact ⟨T', h', X', e', W, Arv.set A q1 S M H G rfl W i hi hl, st⟩
theorem oStD (X : Stand p l e R s m args below meth c T locs cells slots) (hx : p.tables.exec = Jvm.exec) (hZ : Z.Warmed39 s.vm) (eT : T.heap = h) (F : Arv Z h a k .double z vs dv) {j : Int32} {x : UInt64} (hj : ¬ j < 0 ∧ j < z) (i : Nat) (hi : j.toNatClampNeg = i) (hl : i < vs.length) {g : JFrame} (hg : g.method = m) {rest : List Value} (hs : g.stack = .double x :: .int j :: .ref a :: rest) (hd : decode c.code g.pc = .ok (.dastore, 1)) :
    ∃ T' h', Stand p l e R s m args below meth c T' (locs ++ [⟨a, j.toNatClampNeg⟩]) cells slots ∧ T'.heap = h' ∧ Wr h h' a j.toNatClampNeg (.double x) ∧ Arv Z h' a k .double z (vs.set i (.double x)) dv ∧ ∀ target, Steps p.tables e below (T'.setTop { g with pc := g.pc + 1, stack := rest }) target → Steps p.tables e below (T.setTop g) target := by
  obtain ⟨cl, A, q1, S, M, H, G⟩ := F
  obtain ⟨T', h', X', e', W, st⟩ := stD X hx hZ eT A (j := j) (inb_of S hj) hg hs hd
  exact ⟨T', h', X', e', W, Arv.set A q1 S M H G rfl W i hi hl, st⟩
theorem oOpq {n0 : Nat} (X : Stand p l e R s m args below meth c T locs cells slots) (N : Fr n0 locs) : ∃ L, Stand p l e R s m args below meth c T L cells slots ∧ Fr n0 L := ⟨_, X, N⟩
end OwnKit
abbrev oi (x : Int32) : Slot := .val (.int x)
abbrev oj (x : Int64) : Slot := .val (.long x)
abbrev oa (x : Addr) : Slot := .val (.ref x)
abbrev od (x : UInt64) : Slot := .val (.double x)
abbrev oS (p : Program) (e : Env) (below : List Frame) (T : State) (m : MethodId) (pc : Nat) (L : Array Slot) (S : List Value) (t : State) : Prop := Steps p.tables e below (T.setTop (mkF m pc L S)) t
theorem own_ltp (x k : Int32) : (x < k) = (x.toInt < k.toInt) := propext Int32.lt_iff_toInt_lt
theorem own_eqp (x k : Int32) : (x = k) = (x.toInt = k.toInt) := propext Int32.toInt_inj.symm
theorem own_ltpL (x k : Int64) : (x < k) = (x.toInt < k.toInt) := propext Int64.lt_iff_toInt_lt
theorem own_eqpL (x k : Int64) : (x = k) = (x.toInt = k.toInt) := propext Int64.toInt_inj.symm
theorem own_of_range {P : Int32 → Prop} (n : Nat) (h : ∀ i : Fin n, P (Int32.ofNat i.1)) (x : Int32) (h0 : 0 ≤ x.toInt) (h1 : x.toInt < (n : Int)) : P x := by
  have e : Int32.ofNat x.toInt.toNat = x := by
    rw [← Int32.ofInt_eq_ofNat, Int.toNat_of_nonneg h0, Int32.ofInt_toInt]
  have q := h ⟨x.toInt.toNat, by omega⟩
  rwa [e] at q
theorem own_getD (ws : List Int32) (n : Nat) : (ws.map Value.int).getD n (.int (0 : Int32)) = .int (ws.getD n 0) := by
  simp only [List.getD_eq_getElem?_getD, List.getElem?_map]
  cases ws[n]? <;> rfl

theorem own_narb (x : Int32) : nar .byte (x.toInt8.toInt32) = x.toInt8.toInt32 := by
  show (x.toInt8.toInt32).toInt8.toInt32 = x.toInt8.toInt32
  simp

def own_g (x : Int32) : Int32 := (if x < (0 : Int32) then (0 : Int32) else (if (255 : Int32) < x then (0 : Int32) else (1 : Int32)))
theorem own_gk (x : Int32) : own_g x = 0 ∨ (own_g x = 1 ∧ ¬ (x < (0 : Int32)) ∧ ¬ ((255 : Int32) < x)) := by
  unfold own_g
  by_cases h : x < (0 : Int32)
  · rw [if_pos h]; exact Or.inl rfl
  · rw [if_neg h]
    by_cases h' : (255 : Int32) < x
    · rw [if_pos h']; exact Or.inl rfl
    · rw [if_neg h']; exact Or.inr ⟨rfl, h, h'⟩
theorem own_all1 {a : Int32} (h : ¬ ((1 : Int32) &&& own_g a) = (0 : Int32)) : ¬ (a < (0 : Int32)) ∧ ¬ ((255 : Int32) < a) := by
  rcases own_gk a with ha | ⟨-, ha⟩
  · rw [ha] at h; exact absurd (by decide) h
  · exact ha
theorem own_all2 {a b : Int32} (h : ¬ (((1 : Int32) &&& own_g a) &&& own_g b) = (0 : Int32)) : (¬ (a < (0 : Int32)) ∧ ¬ ((255 : Int32) < a)) ∧ (¬ (b < (0 : Int32)) ∧ ¬ ((255 : Int32) < b)) := by
  rcases own_gk a with ha | ⟨ea, ha⟩
  · rw [ha] at h; exact absurd (by rw [Int32.and_zero, Int32.zero_and]) h
  · rcases own_gk b with hb | ⟨eb, hb⟩
    · rw [hb] at h; exact absurd (by rw [Int32.and_zero]) h
    · exact ⟨ha, hb⟩
theorem own_all3 {a b c : Int32} (h : ¬ ((((1 : Int32) &&& own_g a) &&& own_g b) &&& own_g c) = (0 : Int32)) : (¬ (a < (0 : Int32)) ∧ ¬ ((255 : Int32) < a)) ∧ (¬ (b < (0 : Int32)) ∧ ¬ ((255 : Int32) < b)) ∧ (¬ (c < (0 : Int32)) ∧ ¬ ((255 : Int32) < c)) := by
  rcases own_gk a with ha | ⟨ea, ha⟩
  · rw [ha] at h; exact absurd (by rw [Int32.and_zero, Int32.zero_and, Int32.zero_and]) h
  · rcases own_gk b with hb | ⟨eb, hb⟩
    · rw [hb] at h; exact absurd (by rw [Int32.and_zero, Int32.zero_and]) h
    · rcases own_gk c with hc | ⟨ec, hc⟩
      · rw [hc] at h; exact absurd (by rw [Int32.and_zero]) h
      · exact ⟨ha, hb, hc⟩
theorem own_bb {x : Int32} (h : ¬ (x < (0 : Int32)) ∧ ¬ ((255 : Int32) < x)) : ((x.toInt8.toInt32) &&& (255 : Int32)) = x := by
  have e : ((x.toInt8.toInt32) &&& (255 : Int32)).toInt = (x.toInt8.toInt32).toInt % 256 := c_mask _ 255 8 (by decide) (by decide)
  have e2 := c_i2b x
  obtain ⟨h1, h2⟩ := h
  simp only [own_ltp, Int32.reduceToInt] at h1 h2
  refine Int32.toInt_inj.mp ?_
  omega
theorem own_pn0 : plainName "jdk/internal/util/ArraysSupport" = true := by first | (simp [plainName, overriddenIn]; done) | decide +kernel
theorem own_d6_0 : decode jdk_48_method_9_code 0 = .ok (.iload_n 2, 1) := by decide +kernel
theorem own_d6_1 : decode jdk_48_method_9_code 1 = .ok (.iload_n 3, 1) := by decide +kernel
theorem own_d6_2 : decode jdk_48_method_9_code 2 = .ok (.iadd, 1) := by decide +kernel
theorem own_d6_3 : decode jdk_48_method_9_code 3 = .ok (.istore 4, 2) := by decide +kernel
theorem own_d6_5 : decode jdk_48_method_9_code 5 = .ok (.iload_n 2, 1) := by decide +kernel
theorem own_d6_6 : decode jdk_48_method_9_code 6 = .ok (.istore 5, 2) := by decide +kernel
theorem own_d6_8 : decode jdk_48_method_9_code 8 = .ok (.iload 5, 2) := by decide +kernel
theorem own_d6_10 : decode jdk_48_method_9_code 10 = .ok (.iload 4, 2) := by decide +kernel
theorem own_d6_12 : decode jdk_48_method_9_code 12 = .ok (.if_icmp .ge 19, 3) := by decide +kernel
theorem own_d6_15 : decode jdk_48_method_9_code 15 = .ok (.bipush 31, 2) := by decide +kernel
theorem own_d6_17 : decode jdk_48_method_9_code 17 = .ok (.iload_n 0, 1) := by decide +kernel
theorem own_d6_18 : decode jdk_48_method_9_code 18 = .ok (.imul, 1) := by decide +kernel
theorem own_d6_19 : decode jdk_48_method_9_code 19 = .ok (.aload_n 1, 1) := by decide +kernel
theorem own_d6_20 : decode jdk_48_method_9_code 20 = .ok (.iload 5, 2) := by decide +kernel
theorem own_d6_22 : decode jdk_48_method_9_code 22 = .ok (.iaload, 1) := by decide +kernel
theorem own_d6_23 : decode jdk_48_method_9_code 23 = .ok (.iadd, 1) := by decide +kernel
theorem own_d6_24 : decode jdk_48_method_9_code 24 = .ok (.istore_n 0, 1) := by decide +kernel
theorem own_d6_25 : decode jdk_48_method_9_code 25 = .ok (.iinc 5 1, 3) := by decide +kernel
theorem own_d6_28 : decode jdk_48_method_9_code 28 = .ok (.goto (-20), 3) := by decide +kernel
theorem own_d6_31 : decode jdk_48_method_9_code 31 = .ok (.iload_n 0, 1) := by decide +kernel
theorem own_d6_32 : decode jdk_48_method_9_code 32 = .ok (.ireturn, 1) := by decide +kernel
theorem own_ef6_3 (m : MethodId) (a1 : Addr) : entryFrame m #[(.int (1 : Int32)), (.ref a1), (.int (0 : Int32)), (.int (3 : Int32))] 6 = mkF m 0 #[oi (1 : Int32), oa a1, oi (0 : Int32), oi (3 : Int32), .unset, .unset] [] := by first | (simp [entryFrame, mkF, argsToLocals, Value.category]; done) | rfl
def own_f6_3 (x0 : Int32) (x1 : Int32) (x2 : Int32) : Int32 := (((31 : Int32) * (((31 : Int32) * ((31 : Int32) + x0)) + x1)) + x2)
def own_Q6_3 (Z : State) (a1 : Addr) (k_a1 : ClassId) (x0 : Int32) (x1 : Int32) (x2 : Int32) (h0 : Heap) (n0 : Nat) (v : Option Value) (h : Heap) (L : List Loc) : Prop := v = some (Value.int (own_f6_3 x0 x1 x2)) ∧ Fr n0 L ∧ h = h0
set_option maxRecDepth 65536 in
set_option maxHeartbeats 40000000 in
theorem own_rm6_3 (l : Launch) (Z : State) (av : Array Value) (hw : ∀ d ∈ tables_1, d.before av Z = true) (ws : List Jvm.Cond) (a1 : Addr) (k_a1 : ClassId) (x0 : Int32) (x1 : Int32) (x2 : Int32) (h0 : Heap) (n0 : Nat) (Z0 : n0 ≤ h0.size) (V_a1 : Arv Z h0 a1 k_a1 .int (3 : Int32) [(.int x0), (.int x1), (.int x2)] (.int (0 : Int32))) :
    MetFree l (⟨"jdk/internal/util/ArraysSupport", "hashCode", "(I[III)I"⟩ : MethodName) (head1 (Jvm.Cond.code (⟨"jdk/internal/util/ArraysSupport", "hashCode", "(I[III)I"⟩ : MethodName) jdk_48_method_9_code 6 (some .int) :: ws) ({ frames := 0, cells := 0, slots := 0, locals := 0 } : Room)) (fun a U => a = #[(.int (1 : Int32)), (.ref a1), (.int (0 : Int32)), (.int (3 : Int32))] ∧ Z.Warmed39 U.vm ∧ U.heap = h0) (fun _ _ _ _ _ => True) (fun _ U o U' => ∃ v L, o = .returned v ∧ own_Q6_3 Z a1 k_a1 x0 x1 x2 h0 n0 v U'.heap L ∧ FrameEnd U o U' L ({ frames := 0, cells := 0, slots := 0, locals := 0 } : Room).cells ({ frames := 0, cells := 0, slots := 0, locals := 0 } : Room).slots) := by
  refine MetFree.of_bodySF (plainFor_of_name own_pn0) hisR ?_
  intro p e s m args below meth c s₁ Bd hml0 hP hK
  obtain ⟨rfl, hZ, hh⟩ := hP
  have hx := Bd.exec
  have hby := Bd.bytes
  have hml : c.maxLocals = 6 := hml0
  have hown : s.vm.findClass "jdk/internal/util/ArraysSupport" = some m.cls := findClass_of_methodNamed Bd.named
  have hnm := (name_of_methodNamed Bd.named Bd.method).1
  have X0 : Stand p l e ({ frames := 0, cells := 0, slots := 0, locals := 0 } : Room) s m #[(.int (1 : Int32)), (.ref a1), (.int (0 : Int32)), (.int (3 : Int32))] below meth c s₁ [] 0 0 := Stand.of_body Bd
  have e0 : s₁.heap = h0 := by rw [← hh, Bd.state]; rfl
  have N0 := Fr.nil n0
  have pre0 : ∀ t, Steps p.tables e below (s₁.setTop (mkF m 0 #[oi (1 : Int32), oa a1, oi (0 : Int32), oi (3 : Int32), .unset, .unset] [])) t → Steps p.tables e below (s₁.setTop (entryFrame m #[(.int (1 : Int32)), (.ref a1), (.int (0 : Int32)), (.int (3 : Int32))] 6)) t := fun t k => castTop (own_ef6_3 m a1) k
  have b1 : (0 : Int32) < (3 : Int32) := (by decide)
  have b2 : (1 : Int32) < (3 : Int32) := (by decide)
  have b3 : (2 : Int32) < (3 : Int32) := (by decide)
  have b4 : ¬ ((3 : Int32) < (3 : Int32)) := (by decide)
  obtain ⟨fs, hr, hrun, hended, hW, hsame⟩ := X0.leave (v := (some (.int (((31 : Int32) * (((31 : Int32) * ((31 : Int32) + x0)) + x1)) + x2)))) (fun h => by rw [Bd.returns] at h; cases h)
  refine ⟨_, _, pre0 _ ?_, hrun, hended, _, _, rfl, ?_, ⟨_, rfl⟩, hW, hsame.mono (by decide) (by decide)⟩
  · show oS p e below s₁ m 0 #[oi (1 : Int32), oa a1, oi (0 : Int32), oi (3 : Int32), .unset, .unset] [] _
    refine XS.iloadN X0.here hx rfl (hb hby own_d6_0) rfl ?_
    show oS p e below s₁ m 1 #[oi (1 : Int32), oa a1, oi (0 : Int32), oi (3 : Int32), .unset, .unset] [(.int (0 : Int32))] _
    refine XS.iloadN X0.here hx rfl (hb hby own_d6_1) rfl ?_
    show oS p e below s₁ m 2 #[oi (1 : Int32), oa a1, oi (0 : Int32), oi (3 : Int32), .unset, .unset] [(.int (3 : Int32)), (.int (0 : Int32))] _
    refine XS.iadd X0.here hx rfl (hb hby own_d6_2) rfl ?_
    show oS p e below s₁ m 3 #[oi (1 : Int32), oa a1, oi (0 : Int32), oi (3 : Int32), .unset, .unset] [(.int (3 : Int32))] _
    refine XS.istore X0.here hx rfl (hb hby own_d6_3) rfl (l' := #[oi (1 : Int32), oa a1, oi (0 : Int32), oi (3 : Int32), oi (3 : Int32), .unset]) rfl ?_
    show oS p e below s₁ m 5 #[oi (1 : Int32), oa a1, oi (0 : Int32), oi (3 : Int32), oi (3 : Int32), .unset] [] _
    refine XS.iloadN X0.here hx rfl (hb hby own_d6_5) rfl ?_
    show oS p e below s₁ m 6 #[oi (1 : Int32), oa a1, oi (0 : Int32), oi (3 : Int32), oi (3 : Int32), .unset] [(.int (0 : Int32))] _
    refine XS.istore X0.here hx rfl (hb hby own_d6_6) rfl (l' := #[oi (1 : Int32), oa a1, oi (0 : Int32), oi (3 : Int32), oi (3 : Int32), oi (0 : Int32)]) rfl ?_
    show oS p e below s₁ m 8 #[oi (1 : Int32), oa a1, oi (0 : Int32), oi (3 : Int32), oi (3 : Int32), oi (0 : Int32)] [] _
    refine XS.iload X0.here hx rfl (hb hby own_d6_8) rfl ?_
    show oS p e below s₁ m 10 #[oi (1 : Int32), oa a1, oi (0 : Int32), oi (3 : Int32), oi (3 : Int32), oi (0 : Int32)] [(.int (0 : Int32))] _
    refine XS.iload X0.here hx rfl (hb hby own_d6_10) rfl ?_
    show oS p e below s₁ m 12 #[oi (1 : Int32), oa a1, oi (0 : Int32), oi (3 : Int32), oi (3 : Int32), oi (0 : Int32)] [(.int (3 : Int32)), (.int (0 : Int32))] _
    refine XS.icmpNo X0.here hx rfl (hb hby own_d6_12) rfl (tlt b1).2.1 ?_
    show oS p e below s₁ m 15 #[oi (1 : Int32), oa a1, oi (0 : Int32), oi (3 : Int32), oi (3 : Int32), oi (0 : Int32)] [] _
    refine XS.bipush X0.here hx rfl (hb hby own_d6_15) ?_
    show oS p e below s₁ m 17 #[oi (1 : Int32), oa a1, oi (0 : Int32), oi (3 : Int32), oi (3 : Int32), oi (0 : Int32)] [(.int (31 : Int32))] _
    refine XS.iloadN X0.here hx rfl (hb hby own_d6_17) rfl ?_
    show oS p e below s₁ m 18 #[oi (1 : Int32), oa a1, oi (0 : Int32), oi (3 : Int32), oi (3 : Int32), oi (0 : Int32)] [(.int (1 : Int32)), (.int (31 : Int32))] _
    refine XS.imul X0.here hx rfl (hb hby own_d6_18) rfl ?_
    show oS p e below s₁ m 19 #[oi (1 : Int32), oa a1, oi (0 : Int32), oi (3 : Int32), oi (3 : Int32), oi (0 : Int32)] [(.int (31 : Int32))] _
    refine XS.aloadN X0.here hx rfl (hb hby own_d6_19) rfl rfl ?_
    show oS p e below s₁ m 20 #[oi (1 : Int32), oa a1, oi (0 : Int32), oi (3 : Int32), oi (3 : Int32), oi (0 : Int32)] [(.ref a1), (.int (31 : Int32))] _
    refine XS.iload X0.here hx rfl (hb hby own_d6_20) rfl ?_
    show oS p e below s₁ m 22 #[oi (1 : Int32), oa a1, oi (0 : Int32), oi (3 : Int32), oi (3 : Int32), oi (0 : Int32)] [(.int (0 : Int32)), (.ref a1), (.int (31 : Int32))] _
    refine oLdI X0 hx hZ e0 V_a1 (v := (.int x0)) ⟨by decide, by decide⟩ rfl (hb hby own_d6_22) ?_
    show oS p e below s₁ m 23 #[oi (1 : Int32), oa a1, oi (0 : Int32), oi (3 : Int32), oi (3 : Int32), oi (0 : Int32)] [(.int x0), (.int (31 : Int32))] _
    refine XS.iadd X0.here hx rfl (hb hby own_d6_23) rfl ?_
    show oS p e below s₁ m 24 #[oi (1 : Int32), oa a1, oi (0 : Int32), oi (3 : Int32), oi (3 : Int32), oi (0 : Int32)] [(.int ((31 : Int32) + x0))] _
    refine XS.istoreN X0.here hx rfl (hb hby own_d6_24) rfl (l' := #[oi ((31 : Int32) + x0), oa a1, oi (0 : Int32), oi (3 : Int32), oi (3 : Int32), oi (0 : Int32)]) rfl ?_
    show oS p e below s₁ m 25 #[oi ((31 : Int32) + x0), oa a1, oi (0 : Int32), oi (3 : Int32), oi (3 : Int32), oi (0 : Int32)] [] _
    refine XS.iinc X0.here hx rfl (hb hby own_d6_25) rfl (l' := #[oi ((31 : Int32) + x0), oa a1, oi (0 : Int32), oi (3 : Int32), oi (3 : Int32), oi (1 : Int32)]) rfl ?_
    show oS p e below s₁ m 28 #[oi ((31 : Int32) + x0), oa a1, oi (0 : Int32), oi (3 : Int32), oi (3 : Int32), oi (1 : Int32)] [] _
    refine XS.goto X0.here hx rfl (pc0 := 28) (pc' := 8) rfl (hb hby own_d6_28) (by decide) (by decide) ?_
    show oS p e below s₁ m 8 #[oi ((31 : Int32) + x0), oa a1, oi (0 : Int32), oi (3 : Int32), oi (3 : Int32), oi (1 : Int32)] [] _
    refine XS.iload X0.here hx rfl (hb hby own_d6_8) rfl ?_
    show oS p e below s₁ m 10 #[oi ((31 : Int32) + x0), oa a1, oi (0 : Int32), oi (3 : Int32), oi (3 : Int32), oi (1 : Int32)] [(.int (1 : Int32))] _
    refine XS.iload X0.here hx rfl (hb hby own_d6_10) rfl ?_
    show oS p e below s₁ m 12 #[oi ((31 : Int32) + x0), oa a1, oi (0 : Int32), oi (3 : Int32), oi (3 : Int32), oi (1 : Int32)] [(.int (3 : Int32)), (.int (1 : Int32))] _
    refine XS.icmpNo X0.here hx rfl (hb hby own_d6_12) rfl (tlt b2).2.1 ?_
    show oS p e below s₁ m 15 #[oi ((31 : Int32) + x0), oa a1, oi (0 : Int32), oi (3 : Int32), oi (3 : Int32), oi (1 : Int32)] [] _
    refine XS.bipush X0.here hx rfl (hb hby own_d6_15) ?_
    show oS p e below s₁ m 17 #[oi ((31 : Int32) + x0), oa a1, oi (0 : Int32), oi (3 : Int32), oi (3 : Int32), oi (1 : Int32)] [(.int (31 : Int32))] _
    refine XS.iloadN X0.here hx rfl (hb hby own_d6_17) rfl ?_
    show oS p e below s₁ m 18 #[oi ((31 : Int32) + x0), oa a1, oi (0 : Int32), oi (3 : Int32), oi (3 : Int32), oi (1 : Int32)] [(.int ((31 : Int32) + x0)), (.int (31 : Int32))] _
    refine XS.imul X0.here hx rfl (hb hby own_d6_18) rfl ?_
    show oS p e below s₁ m 19 #[oi ((31 : Int32) + x0), oa a1, oi (0 : Int32), oi (3 : Int32), oi (3 : Int32), oi (1 : Int32)] [(.int ((31 : Int32) * ((31 : Int32) + x0)))] _
    refine XS.aloadN X0.here hx rfl (hb hby own_d6_19) rfl rfl ?_
    show oS p e below s₁ m 20 #[oi ((31 : Int32) + x0), oa a1, oi (0 : Int32), oi (3 : Int32), oi (3 : Int32), oi (1 : Int32)] [(.ref a1), (.int ((31 : Int32) * ((31 : Int32) + x0)))] _
    refine XS.iload X0.here hx rfl (hb hby own_d6_20) rfl ?_
    show oS p e below s₁ m 22 #[oi ((31 : Int32) + x0), oa a1, oi (0 : Int32), oi (3 : Int32), oi (3 : Int32), oi (1 : Int32)] [(.int (1 : Int32)), (.ref a1), (.int ((31 : Int32) * ((31 : Int32) + x0)))] _
    refine oLdI X0 hx hZ e0 V_a1 (v := (.int x1)) ⟨by decide, by decide⟩ rfl (hb hby own_d6_22) ?_
    show oS p e below s₁ m 23 #[oi ((31 : Int32) + x0), oa a1, oi (0 : Int32), oi (3 : Int32), oi (3 : Int32), oi (1 : Int32)] [(.int x1), (.int ((31 : Int32) * ((31 : Int32) + x0)))] _
    refine XS.iadd X0.here hx rfl (hb hby own_d6_23) rfl ?_
    show oS p e below s₁ m 24 #[oi ((31 : Int32) + x0), oa a1, oi (0 : Int32), oi (3 : Int32), oi (3 : Int32), oi (1 : Int32)] [(.int (((31 : Int32) * ((31 : Int32) + x0)) + x1))] _
    refine XS.istoreN X0.here hx rfl (hb hby own_d6_24) rfl (l' := #[oi (((31 : Int32) * ((31 : Int32) + x0)) + x1), oa a1, oi (0 : Int32), oi (3 : Int32), oi (3 : Int32), oi (1 : Int32)]) rfl ?_
    show oS p e below s₁ m 25 #[oi (((31 : Int32) * ((31 : Int32) + x0)) + x1), oa a1, oi (0 : Int32), oi (3 : Int32), oi (3 : Int32), oi (1 : Int32)] [] _
    refine XS.iinc X0.here hx rfl (hb hby own_d6_25) rfl (l' := #[oi (((31 : Int32) * ((31 : Int32) + x0)) + x1), oa a1, oi (0 : Int32), oi (3 : Int32), oi (3 : Int32), oi (2 : Int32)]) rfl ?_
    show oS p e below s₁ m 28 #[oi (((31 : Int32) * ((31 : Int32) + x0)) + x1), oa a1, oi (0 : Int32), oi (3 : Int32), oi (3 : Int32), oi (2 : Int32)] [] _
    refine XS.goto X0.here hx rfl (pc0 := 28) (pc' := 8) rfl (hb hby own_d6_28) (by decide) (by decide) ?_
    show oS p e below s₁ m 8 #[oi (((31 : Int32) * ((31 : Int32) + x0)) + x1), oa a1, oi (0 : Int32), oi (3 : Int32), oi (3 : Int32), oi (2 : Int32)] [] _
    refine XS.iload X0.here hx rfl (hb hby own_d6_8) rfl ?_
    show oS p e below s₁ m 10 #[oi (((31 : Int32) * ((31 : Int32) + x0)) + x1), oa a1, oi (0 : Int32), oi (3 : Int32), oi (3 : Int32), oi (2 : Int32)] [(.int (2 : Int32))] _
    refine XS.iload X0.here hx rfl (hb hby own_d6_10) rfl ?_
    show oS p e below s₁ m 12 #[oi (((31 : Int32) * ((31 : Int32) + x0)) + x1), oa a1, oi (0 : Int32), oi (3 : Int32), oi (3 : Int32), oi (2 : Int32)] [(.int (3 : Int32)), (.int (2 : Int32))] _
    refine XS.icmpNo X0.here hx rfl (hb hby own_d6_12) rfl (tlt b3).2.1 ?_
    show oS p e below s₁ m 15 #[oi (((31 : Int32) * ((31 : Int32) + x0)) + x1), oa a1, oi (0 : Int32), oi (3 : Int32), oi (3 : Int32), oi (2 : Int32)] [] _
    refine XS.bipush X0.here hx rfl (hb hby own_d6_15) ?_
    show oS p e below s₁ m 17 #[oi (((31 : Int32) * ((31 : Int32) + x0)) + x1), oa a1, oi (0 : Int32), oi (3 : Int32), oi (3 : Int32), oi (2 : Int32)] [(.int (31 : Int32))] _
    refine XS.iloadN X0.here hx rfl (hb hby own_d6_17) rfl ?_
    show oS p e below s₁ m 18 #[oi (((31 : Int32) * ((31 : Int32) + x0)) + x1), oa a1, oi (0 : Int32), oi (3 : Int32), oi (3 : Int32), oi (2 : Int32)] [(.int (((31 : Int32) * ((31 : Int32) + x0)) + x1)), (.int (31 : Int32))] _
    refine XS.imul X0.here hx rfl (hb hby own_d6_18) rfl ?_
    show oS p e below s₁ m 19 #[oi (((31 : Int32) * ((31 : Int32) + x0)) + x1), oa a1, oi (0 : Int32), oi (3 : Int32), oi (3 : Int32), oi (2 : Int32)] [(.int ((31 : Int32) * (((31 : Int32) * ((31 : Int32) + x0)) + x1)))] _
    refine XS.aloadN X0.here hx rfl (hb hby own_d6_19) rfl rfl ?_
    show oS p e below s₁ m 20 #[oi (((31 : Int32) * ((31 : Int32) + x0)) + x1), oa a1, oi (0 : Int32), oi (3 : Int32), oi (3 : Int32), oi (2 : Int32)] [(.ref a1), (.int ((31 : Int32) * (((31 : Int32) * ((31 : Int32) + x0)) + x1)))] _
    refine XS.iload X0.here hx rfl (hb hby own_d6_20) rfl ?_
    show oS p e below s₁ m 22 #[oi (((31 : Int32) * ((31 : Int32) + x0)) + x1), oa a1, oi (0 : Int32), oi (3 : Int32), oi (3 : Int32), oi (2 : Int32)] [(.int (2 : Int32)), (.ref a1), (.int ((31 : Int32) * (((31 : Int32) * ((31 : Int32) + x0)) + x1)))] _
    refine oLdI X0 hx hZ e0 V_a1 (v := (.int x2)) ⟨by decide, by decide⟩ rfl (hb hby own_d6_22) ?_
    show oS p e below s₁ m 23 #[oi (((31 : Int32) * ((31 : Int32) + x0)) + x1), oa a1, oi (0 : Int32), oi (3 : Int32), oi (3 : Int32), oi (2 : Int32)] [(.int x2), (.int ((31 : Int32) * (((31 : Int32) * ((31 : Int32) + x0)) + x1)))] _
    refine XS.iadd X0.here hx rfl (hb hby own_d6_23) rfl ?_
    show oS p e below s₁ m 24 #[oi (((31 : Int32) * ((31 : Int32) + x0)) + x1), oa a1, oi (0 : Int32), oi (3 : Int32), oi (3 : Int32), oi (2 : Int32)] [(.int (((31 : Int32) * (((31 : Int32) * ((31 : Int32) + x0)) + x1)) + x2))] _
    refine XS.istoreN X0.here hx rfl (hb hby own_d6_24) rfl (l' := #[oi (((31 : Int32) * (((31 : Int32) * ((31 : Int32) + x0)) + x1)) + x2), oa a1, oi (0 : Int32), oi (3 : Int32), oi (3 : Int32), oi (2 : Int32)]) rfl ?_
    show oS p e below s₁ m 25 #[oi (((31 : Int32) * (((31 : Int32) * ((31 : Int32) + x0)) + x1)) + x2), oa a1, oi (0 : Int32), oi (3 : Int32), oi (3 : Int32), oi (2 : Int32)] [] _
    refine XS.iinc X0.here hx rfl (hb hby own_d6_25) rfl (l' := #[oi (((31 : Int32) * (((31 : Int32) * ((31 : Int32) + x0)) + x1)) + x2), oa a1, oi (0 : Int32), oi (3 : Int32), oi (3 : Int32), oi (3 : Int32)]) rfl ?_
    show oS p e below s₁ m 28 #[oi (((31 : Int32) * (((31 : Int32) * ((31 : Int32) + x0)) + x1)) + x2), oa a1, oi (0 : Int32), oi (3 : Int32), oi (3 : Int32), oi (3 : Int32)] [] _
    refine XS.goto X0.here hx rfl (pc0 := 28) (pc' := 8) rfl (hb hby own_d6_28) (by decide) (by decide) ?_
    show oS p e below s₁ m 8 #[oi (((31 : Int32) * (((31 : Int32) * ((31 : Int32) + x0)) + x1)) + x2), oa a1, oi (0 : Int32), oi (3 : Int32), oi (3 : Int32), oi (3 : Int32)] [] _
    refine XS.iload X0.here hx rfl (hb hby own_d6_8) rfl ?_
    show oS p e below s₁ m 10 #[oi (((31 : Int32) * (((31 : Int32) * ((31 : Int32) + x0)) + x1)) + x2), oa a1, oi (0 : Int32), oi (3 : Int32), oi (3 : Int32), oi (3 : Int32)] [(.int (3 : Int32))] _
    refine XS.iload X0.here hx rfl (hb hby own_d6_10) rfl ?_
    show oS p e below s₁ m 12 #[oi (((31 : Int32) * (((31 : Int32) * ((31 : Int32) + x0)) + x1)) + x2), oa a1, oi (0 : Int32), oi (3 : Int32), oi (3 : Int32), oi (3 : Int32)] [(.int (3 : Int32)), (.int (3 : Int32))] _
    refine XS.icmpYes X0.here hx rfl (pc0 := 12) (pc' := 31) rfl (hb hby own_d6_12) rfl (flt b4).2.1 (by decide) (by decide) ?_
    show oS p e below s₁ m 31 #[oi (((31 : Int32) * (((31 : Int32) * ((31 : Int32) + x0)) + x1)) + x2), oa a1, oi (0 : Int32), oi (3 : Int32), oi (3 : Int32), oi (3 : Int32)] [] _
    refine XS.iloadN X0.here hx rfl (hb hby own_d6_31) rfl ?_
    show oS p e below s₁ m 32 #[oi (((31 : Int32) * (((31 : Int32) * ((31 : Int32) + x0)) + x1)) + x2), oa a1, oi (0 : Int32), oi (3 : Int32), oi (3 : Int32), oi (3 : Int32)] [(.int (((31 : Int32) * (((31 : Int32) * ((31 : Int32) + x0)) + x1)) + x2))] _
    exact retOut X0 hx Bd.returns rfl (Or.inl ⟨rfl, Or.inl rfl, _, rfl⟩) (hb hby own_d6_32) hr
  · show own_Q6_3 Z a1 k_a1 x0 x1 x2 h0 n0 _ s₁.heap _
    rw [e0]
    exact ⟨congrArg (fun z => some (Value.int z)) (by rw [own_f6_3]), N0, rfl⟩
theorem own_pd0 : parseMethodDescriptor "(I[III)I" = some ⟨[.int, (.array .int), .int, .int], some .int⟩ := by decide +kernel
theorem own_d5_0 : decode jdk_48_method_4_code 0 = .ok (.iload 4, 2) := by decide +kernel
theorem own_d5_2 : decode jdk_48_method_4_code 2 = .ok (.tableswitch 127 4 10 #[42, 55, 127, 127, 88, 101, 114], 42) := by decide +kernel
theorem own_d5_116 : decode jdk_48_method_4_code 116 = .ok (.iload_n 3, 1) := by decide +kernel
theorem own_d5_117 : decode jdk_48_method_4_code 117 = .ok (.aload_n 0, 1) := by decide +kernel
theorem own_d5_118 : decode jdk_48_method_4_code 118 = .ok (.checkcast 82, 3) := by decide +kernel
theorem own_d5_121 : decode jdk_48_method_4_code 121 = .ok (.iload_n 1, 1) := by decide +kernel
theorem own_d5_122 : decode jdk_48_method_4_code 122 = .ok (.iload_n 2, 1) := by decide +kernel
theorem own_d5_123 : decode jdk_48_method_4_code 123 = .ok (.invokestatic 84, 3) := by decide +kernel
theorem own_d5_126 : decode jdk_48_method_4_code 126 = .ok (.goto 31, 3) := by decide +kernel
theorem own_d5_157 : decode jdk_48_method_4_code 157 = .ok (.ireturn, 1) := by decide +kernel
theorem own_ef5_3 (m : MethodId) (a0 : Addr) : entryFrame m #[(.ref a0), (.int (0 : Int32)), (.int (3 : Int32)), (.int (1 : Int32)), (.int (10 : Int32))] 5 = mkF m 0 #[oa a0, oi (0 : Int32), oi (3 : Int32), oi (1 : Int32), oi (10 : Int32)] [] := by first | (simp [entryFrame, mkF, argsToLocals, Value.category]; done) | rfl
def own_f5_3 (x0 : Int32) (x1 : Int32) (x2 : Int32) : Int32 := (own_f6_3 x0 x1 x2)
def own_Q5_3 (Z : State) (a0 : Addr) (k_a0 : ClassId) (x0 : Int32) (x1 : Int32) (x2 : Int32) (h0 : Heap) (n0 : Nat) (v : Option Value) (h : Heap) (L : List Loc) : Prop := v = some (Value.int (own_f5_3 x0 x1 x2)) ∧ Fr n0 L ∧ h = h0
set_option maxRecDepth 65536 in
set_option maxHeartbeats 40000000 in
theorem own_rm5_3 (l : Launch) (Z : State) (av : Array Value) (hw : ∀ d ∈ tables_1, d.before av Z = true) (ws : List Jvm.Cond) (a0 : Addr) (k_a0 : ClassId) (x0 : Int32) (x1 : Int32) (x2 : Int32) (h0 : Heap) (n0 : Nat) (Z0 : n0 ≤ h0.size) (V_a0 : Arv Z h0 a0 k_a0 .int (3 : Int32) [(.int x0), (.int x1), (.int x2)] (.int (0 : Int32))) (E_a0 : Exa Z h0 a0 "[I") :
    MetFree l (⟨"jdk/internal/util/ArraysSupport", "vectorizedHashCode", "(Ljava/lang/Object;IIII)I"⟩ : MethodName) (head1 (Jvm.Cond.code (⟨"jdk/internal/util/ArraysSupport", "vectorizedHashCode", "(Ljava/lang/Object;IIII)I"⟩ : MethodName) jdk_48_method_4_code 5 (some .int) :: ws) ({ frames := 1, cells := 0, slots := 0, locals := 17 } : Room)) (fun a U => a = #[(.ref a0), (.int (0 : Int32)), (.int (3 : Int32)), (.int (1 : Int32)), (.int (10 : Int32))] ∧ Z.Warmed39 U.vm ∧ U.heap = h0) (fun _ _ _ _ _ => True) (fun _ U o U' => ∃ v L, o = .returned v ∧ own_Q5_3 Z a0 k_a0 x0 x1 x2 h0 n0 v U'.heap L ∧ FrameEnd U o U' L ({ frames := 1, cells := 0, slots := 0, locals := 17 } : Room).cells ({ frames := 1, cells := 0, slots := 0, locals := 17 } : Room).slots) := by
  refine MetFree.of_bodySF (plainFor_of_name own_pn0) hisR ?_
  intro p e s m args below meth c s₁ Bd hml0 hP hK
  obtain ⟨rfl, hZ, hh⟩ := hP
  have hx := Bd.exec
  have hby := Bd.bytes
  have hml : c.maxLocals = 5 := hml0
  have hown : s.vm.findClass "jdk/internal/util/ArraysSupport" = some m.cls := findClass_of_methodNamed Bd.named
  have hnm := (name_of_methodNamed Bd.named Bd.method).1
  have X0 : Stand p l e ({ frames := 1, cells := 0, slots := 0, locals := 17 } : Room) s m #[(.ref a0), (.int (0 : Int32)), (.int (3 : Int32)), (.int (1 : Int32)), (.int (10 : Int32))] below meth c s₁ [] 0 0 := Stand.of_body Bd
  have e0 : s₁.heap = h0 := by rw [← hh, Bd.state]; rfl
  have N0 := Fr.nil n0
  have pre0 : ∀ t, Steps p.tables e below (s₁.setTop (mkF m 0 #[oa a0, oi (0 : Int32), oi (3 : Int32), oi (1 : Int32), oi (10 : Int32)] [])) t → Steps p.tables e below (s₁.setTop (entryFrame m #[(.ref a0), (.int (0 : Int32)), (.int (3 : Int32)), (.int (1 : Int32)), (.int (10 : Int32))] 5)) t := fun t k => castTop (own_ef5_3 m a0) k
  have pre1 : ∀ t, Steps p.tables e below (s₁.setTop (mkF m 2 #[oa a0, oi (0 : Int32), oi (3 : Int32), oi (1 : Int32), oi (10 : Int32)] [(.int (10 : Int32))])) t → Steps p.tables e below (s₁.setTop (entryFrame m #[(.ref a0), (.int (0 : Int32)), (.int (3 : Int32)), (.int (1 : Int32)), (.int (10 : Int32))] 5)) t := by
    intro t k
    refine pre0 t ?_
    show oS p e below s₁ m 0 #[oa a0, oi (0 : Int32), oi (3 : Int32), oi (1 : Int32), oi (10 : Int32)] [] _
    refine XS.iload X0.here hx rfl (hb hby own_d5_0) rfl ?_
    exact k
  have k2 : (10 : Int32).toInt = 10 := (by decide)
  have c3 : ¬ ((10 : Int32).toInt < 4 ∨ (10 : Int32).toInt > 10) := by omega
  obtain ⟨T4, X4, e4, st4⟩ := castY X0 hx hZ hown (hw _ (List.mem_of_getElem? (i := 27) rfl)) e0 (Ins.self E_a0) (g := (mkF m 118 #[oa a0, oi (0 : Int32), oi (3 : Int32), oi (1 : Int32), oi (10 : Int32)] [(.ref a0), (.int (1 : Int32))])) rfl rfl (hb hby own_d5_118)
  obtain ⟨_, _, ⟨T5, L5, k5, n5⟩, -, X5, ⟨Lc5, hQ5, l5, y5, z5⟩, st5⟩ := Jvm.LawKit.callS X4 hx (y := (⟨"jdk/internal/util/ArraysSupport", "hashCode", "(I[III)I"⟩ : MethodName)) hown (mvT hZ (hw _ (List.mem_of_getElem? (i := 29) rfl))) (mvT hZ (hw _ (List.mem_of_getElem? (i := 30) rfl))) (mvT hZ (hw _ (List.mem_of_getElem? (i := 25) rfl))) (mvT hZ (hw _ (List.mem_of_getElem? (i := 31) rfl))) (by decide) (backOf (W := 0) (own_rm6_3 l Z av hw [] a0 k_a0 x0 x1 x2 h0 n0 Z0 V_a0) hZ (hw _ (List.mem_of_getElem? (i := 31) rfl)) (hw _ (List.mem_of_getElem? (i := 25) rfl)) (by decide) (by decide)) (g := (mkF m 123 #[oa a0, oi (0 : Int32), oi (3 : Int32), oi (1 : Int32), oi (10 : Int32)] [(.int (3 : Int32)), (.int (0 : Int32)), (.ref a0), (.int (1 : Int32))])) rfl (by rw [hml]; rfl) (argsL := [(.int (1 : Int32)), (.ref a0), (.int (0 : Int32)), (.int (3 : Int32))]) (rest := []) (lenOf own_pd0 rfl) rfl (by show 2 * 0 + _ ≤ _; exact Nat.le_of_eq rfl) (hb hby own_d5_123) (fun _ _ => ⟨rfl, e4, (by decide : 0 + 0 ≤ _), (by decide : 0 + 0 ≤ _)⟩)
  dsimp only [Pt.U, Pt.locs, Pt.cells, Pt.slots] at X5 l5 y5 z5 st5 hQ5
  have yq5 : k5 = 0 := y5
  have zq5 : n5 = 0 := z5
  subst yq5 zq5
  obtain ⟨rfl, Nq5, eq5⟩ := hQ5
  have N5 : Fr n0 L5 := by rw [l5]; exact Fr.app N0 Nq5
  obtain ⟨fs, hr, hrun, hended, hW, hsame⟩ := X5.leave (v := (some (.int (own_f6_3 x0 x1 x2)))) (fun h => by rw [Bd.returns] at h; cases h)
  refine ⟨_, _, pre1 _ ?_, hrun, hended, _, _, rfl, ?_, ⟨_, rfl⟩, hW, hsame.mono (by decide) (by decide)⟩
  · show oS p e below s₁ m 2 #[oa a0, oi (0 : Int32), oi (3 : Int32), oi (1 : Int32), oi (10 : Int32)] [(.int (10 : Int32))] _
    refine XS.tswIn X0.here hx rfl (o := 114) (pc0 := 2) (pc' := 116) rfl (hb hby own_d5_2) rfl c3 (by rw [show (10 : Int32).toInt = 10 from k2]; rfl) (by decide) (by decide) ?_
    show oS p e below s₁ m 116 #[oa a0, oi (0 : Int32), oi (3 : Int32), oi (1 : Int32), oi (10 : Int32)] [] _
    refine XS.iloadN X0.here hx rfl (hb hby own_d5_116) rfl ?_
    show oS p e below s₁ m 117 #[oa a0, oi (0 : Int32), oi (3 : Int32), oi (1 : Int32), oi (10 : Int32)] [(.int (1 : Int32))] _
    refine XS.aloadN X0.here hx rfl (hb hby own_d5_117) rfl rfl ?_
    show oS p e below s₁ m 118 #[oa a0, oi (0 : Int32), oi (3 : Int32), oi (1 : Int32), oi (10 : Int32)] [(.ref a0), (.int (1 : Int32))] _
    refine st4 _ ?_
    show oS p e below T4 m 121 #[oa a0, oi (0 : Int32), oi (3 : Int32), oi (1 : Int32), oi (10 : Int32)] [(.ref a0), (.int (1 : Int32))] _
    refine XS.iloadN X4.here hx rfl (hb hby own_d5_121) rfl ?_
    show oS p e below T4 m 122 #[oa a0, oi (0 : Int32), oi (3 : Int32), oi (1 : Int32), oi (10 : Int32)] [(.int (0 : Int32)), (.ref a0), (.int (1 : Int32))] _
    refine XS.iloadN X4.here hx rfl (hb hby own_d5_122) rfl ?_
    show oS p e below T4 m 123 #[oa a0, oi (0 : Int32), oi (3 : Int32), oi (1 : Int32), oi (10 : Int32)] [(.int (3 : Int32)), (.int (0 : Int32)), (.ref a0), (.int (1 : Int32))] _
    refine st5 _ ?_
    show oS p e below T5 m 126 #[oa a0, oi (0 : Int32), oi (3 : Int32), oi (1 : Int32), oi (10 : Int32)] [(.int (own_f6_3 x0 x1 x2))] _
    refine XS.goto X5.here hx rfl (pc0 := 126) (pc' := 157) rfl (hb hby own_d5_126) (by decide) (by decide) ?_
    show oS p e below T5 m 157 #[oa a0, oi (0 : Int32), oi (3 : Int32), oi (1 : Int32), oi (10 : Int32)] [(.int (own_f6_3 x0 x1 x2))] _
    exact retOut X5 hx Bd.returns rfl (Or.inl ⟨rfl, Or.inl rfl, _, rfl⟩) (hb hby own_d5_157) hr
  · show own_Q5_3 Z a0 k_a0 x0 x1 x2 h0 n0 _ T5.heap _
    rw [eq5]
    exact ⟨congrArg (fun z => some (Value.int z)) (by rw [own_f5_3]), N5, rfl⟩
theorem own_pd1 : parseMethodDescriptor "(Ljava/lang/Object;IIII)I" = some ⟨[(.object "java/lang/Object"), .int, .int, .int, .int], some .int⟩ := by decide +kernel
theorem own_pn1 : plainName "java/util/Arrays" = true := by first | (simp [plainName, overriddenIn]; done) | decide +kernel
theorem own_d4_0 : decode jdk_65_method_150_code 0 = .ok (.aload_n 0, 1) := by decide +kernel
theorem own_d4_1 : decode jdk_65_method_150_code 1 = .ok (.ifnonnull 5, 3) := by decide +kernel
theorem own_d4_6 : decode jdk_65_method_150_code 6 = .ok (.aload_n 0, 1) := by decide +kernel
theorem own_d4_7 : decode jdk_65_method_150_code 7 = .ok (.arraylength, 1) := by decide +kernel
theorem own_d4_8 : decode jdk_65_method_150_code 8 = .ok (.lookupswitch 41 #[(0, 28), (1, 32)], 28) := by decide +kernel
theorem own_d4_49 : decode jdk_65_method_150_code 49 = .ok (.aload_n 0, 1) := by decide +kernel
theorem own_d4_50 : decode jdk_65_method_150_code 50 = .ok (.iconst 0, 1) := by decide +kernel
theorem own_d4_51 : decode jdk_65_method_150_code 51 = .ok (.aload_n 0, 1) := by decide +kernel
theorem own_d4_52 : decode jdk_65_method_150_code 52 = .ok (.arraylength, 1) := by decide +kernel
theorem own_d4_53 : decode jdk_65_method_150_code 53 = .ok (.iconst 1, 1) := by decide +kernel
theorem own_d4_54 : decode jdk_65_method_150_code 54 = .ok (.bipush 10, 2) := by decide +kernel
theorem own_d4_56 : decode jdk_65_method_150_code 56 = .ok (.invokestatic 379, 3) := by decide +kernel
theorem own_d4_59 : decode jdk_65_method_150_code 59 = .ok (.ireturn, 1) := by decide +kernel
theorem own_ef4_3 (m : MethodId) (a0 : Addr) : entryFrame m #[(.ref a0)] 1 = mkF m 0 #[oa a0] [] := by first | (simp [entryFrame, mkF, argsToLocals, Value.category]; done) | rfl
def own_f4_3 (x0 : Int32) (x1 : Int32) (x2 : Int32) : Int32 := (own_f5_3 x0 x1 x2)
def own_Q4_3 (Z : State) (a0 : Addr) (k_a0 : ClassId) (x0 : Int32) (x1 : Int32) (x2 : Int32) (h0 : Heap) (n0 : Nat) (v : Option Value) (h : Heap) (L : List Loc) : Prop := v = some (Value.int (own_f4_3 x0 x1 x2)) ∧ Fr n0 L ∧ h = h0
set_option maxRecDepth 65536 in
set_option maxHeartbeats 40000000 in
theorem own_rm4_3 (l : Launch) (Z : State) (av : Array Value) (hw : ∀ d ∈ tables_1, d.before av Z = true) (ws : List Jvm.Cond) (a0 : Addr) (k_a0 : ClassId) (x0 : Int32) (x1 : Int32) (x2 : Int32) (h0 : Heap) (n0 : Nat) (Z0 : n0 ≤ h0.size) (V_a0 : Arv Z h0 a0 k_a0 .int (3 : Int32) [(.int x0), (.int x1), (.int x2)] (.int (0 : Int32))) (E_a0 : Exa Z h0 a0 "[I") :
    MetFree l (⟨"java/util/Arrays", "hashCode", "([I)I"⟩ : MethodName) (head1 (Jvm.Cond.code (⟨"java/util/Arrays", "hashCode", "([I)I"⟩ : MethodName) jdk_65_method_150_code 1 (some .int) :: ws) ({ frames := 2, cells := 0, slots := 0, locals := 33 } : Room)) (fun a U => a = #[(.ref a0)] ∧ Z.Warmed39 U.vm ∧ U.heap = h0) (fun _ _ _ _ _ => True) (fun _ U o U' => ∃ v L, o = .returned v ∧ own_Q4_3 Z a0 k_a0 x0 x1 x2 h0 n0 v U'.heap L ∧ FrameEnd U o U' L ({ frames := 2, cells := 0, slots := 0, locals := 33 } : Room).cells ({ frames := 2, cells := 0, slots := 0, locals := 33 } : Room).slots) := by
  refine MetFree.of_bodySF (plainFor_of_name own_pn1) hisR ?_
  intro p e s m args below meth c s₁ Bd hml0 hP hK
  obtain ⟨rfl, hZ, hh⟩ := hP
  have hx := Bd.exec
  have hby := Bd.bytes
  have hml : c.maxLocals = 1 := hml0
  have hown : s.vm.findClass "java/util/Arrays" = some m.cls := findClass_of_methodNamed Bd.named
  have hnm := (name_of_methodNamed Bd.named Bd.method).1
  have X0 : Stand p l e ({ frames := 2, cells := 0, slots := 0, locals := 33 } : Room) s m #[(.ref a0)] below meth c s₁ [] 0 0 := Stand.of_body Bd
  have e0 : s₁.heap = h0 := by rw [← hh, Bd.state]; rfl
  have N0 := Fr.nil n0
  have pre0 : ∀ t, Steps p.tables e below (s₁.setTop (mkF m 0 #[oa a0] [])) t → Steps p.tables e below (s₁.setTop (entryFrame m #[(.ref a0)] 1)) t := fun t k => castTop (own_ef4_3 m a0) k
  obtain ⟨_, _, ⟨T1, L1, k1, n1⟩, -, X1, ⟨Lc1, hQ1, l1, y1, z1⟩, st1⟩ := Jvm.LawKit.callS X0 hx (y := (⟨"jdk/internal/util/ArraysSupport", "vectorizedHashCode", "(Ljava/lang/Object;IIII)I"⟩ : MethodName)) hown (mvT hZ (hw _ (List.mem_of_getElem? (i := 23) rfl))) (mvT hZ (hw _ (List.mem_of_getElem? (i := 24) rfl))) (mvT hZ (hw _ (List.mem_of_getElem? (i := 25) rfl))) (mvT hZ (hw _ (List.mem_of_getElem? (i := 26) rfl))) (by decide) (backOf (W := 0) (own_rm5_3 l Z av hw [] a0 k_a0 x0 x1 x2 h0 n0 Z0 V_a0 E_a0) hZ (hw _ (List.mem_of_getElem? (i := 26) rfl)) (hw _ (List.mem_of_getElem? (i := 25) rfl)) (by decide) (by decide)) (g := (mkF m 56 #[oa a0] [(.int (10 : Int32)), (.int (1 : Int32)), (.int (3 : Int32)), (.int (0 : Int32)), (.ref a0)])) rfl (by rw [hml]; rfl) (argsL := [(.ref a0), (.int (0 : Int32)), (.int (3 : Int32)), (.int (1 : Int32)), (.int (10 : Int32))]) (rest := []) (lenOf own_pd1 rfl) rfl (by show 2 * 0 + _ ≤ _; exact Nat.le_of_eq rfl) (hb hby own_d4_56) (fun _ _ => ⟨rfl, e0, (by decide : 0 + 0 ≤ _), (by decide : 0 + 0 ≤ _)⟩)
  dsimp only [Pt.U, Pt.locs, Pt.cells, Pt.slots] at X1 l1 y1 z1 st1 hQ1
  have yq1 : k1 = 0 := y1
  have zq1 : n1 = 0 := z1
  subst yq1 zq1
  obtain ⟨rfl, Nq1, eq1⟩ := hQ1
  have N1 : Fr n0 L1 := by rw [l1]; exact Fr.app N0 Nq1
  obtain ⟨fs, hr, hrun, hended, hW, hsame⟩ := X1.leave (v := (some (.int (own_f5_3 x0 x1 x2)))) (fun h => by rw [Bd.returns] at h; cases h)
  refine ⟨_, _, pre0 _ ?_, hrun, hended, _, _, rfl, ?_, ⟨_, rfl⟩, hW, hsame.mono (by decide) (by decide)⟩
  · show oS p e below s₁ m 0 #[oa a0] [] _
    refine XS.aloadN X0.here hx rfl (hb hby own_d4_0) rfl rfl ?_
    show oS p e below s₁ m 1 #[oa a0] [(.ref a0)] _
    refine XS.ifnonnullYes X0.here hx rfl (pc0 := 1) (pc' := 6) rfl (hb hby own_d4_1) rfl (by decide) (by decide) ?_
    show oS p e below s₁ m 6 #[oa a0] [] _
    refine XS.aloadN X0.here hx rfl (hb hby own_d4_6) rfl rfl ?_
    show oS p e below s₁ m 7 #[oa a0] [(.ref a0)] _
    refine oLen X0 hx hZ e0 V_a0 (hb hby own_d4_7) ?_
    show oS p e below s₁ m 8 #[oa a0] [(.int (3 : Int32))] _
    jvm_step X0.here [X0.here.top, hx, (hb hby own_d4_8), show ((3 : Int32).toInt) = 3 from by decide]
    show oS p e below s₁ m 49 #[oa a0] [] _
    refine XS.aloadN X0.here hx rfl (hb hby own_d4_49) rfl rfl ?_
    show oS p e below s₁ m 50 #[oa a0] [(.ref a0)] _
    refine XS.iconst X0.here hx rfl (hb hby own_d4_50) ?_
    show oS p e below s₁ m 51 #[oa a0] [(.int (0 : Int32)), (.ref a0)] _
    refine XS.aloadN X0.here hx rfl (hb hby own_d4_51) rfl rfl ?_
    show oS p e below s₁ m 52 #[oa a0] [(.ref a0), (.int (0 : Int32)), (.ref a0)] _
    refine oLen X0 hx hZ e0 V_a0 (hb hby own_d4_52) ?_
    show oS p e below s₁ m 53 #[oa a0] [(.int (3 : Int32)), (.int (0 : Int32)), (.ref a0)] _
    refine XS.iconst X0.here hx rfl (hb hby own_d4_53) ?_
    show oS p e below s₁ m 54 #[oa a0] [(.int (1 : Int32)), (.int (3 : Int32)), (.int (0 : Int32)), (.ref a0)] _
    refine XS.bipush X0.here hx rfl (hb hby own_d4_54) ?_
    show oS p e below s₁ m 56 #[oa a0] [(.int (10 : Int32)), (.int (1 : Int32)), (.int (3 : Int32)), (.int (0 : Int32)), (.ref a0)] _
    refine st1 _ ?_
    show oS p e below T1 m 59 #[oa a0] [(.int (own_f5_3 x0 x1 x2))] _
    exact retOut X1 hx Bd.returns rfl (Or.inl ⟨rfl, Or.inl rfl, _, rfl⟩) (hb hby own_d4_59) hr
  · show own_Q4_3 Z a0 k_a0 x0 x1 x2 h0 n0 _ T1.heap _
    rw [eq1]
    exact ⟨congrArg (fun z => some (Value.int z)) (by rw [own_f4_3]), N1, rfl⟩
theorem own_pd2 : parseMethodDescriptor "([I)I" = some ⟨[(.array .int)], some .int⟩ := by decide +kernel
theorem own_pn2 : plainName "com/example/penstock/penstock/Design" = true := by first | (simp [plainName, overriddenIn]; done) | decide +kernel
theorem own_d2_0 : decode prog_9_method_1_code 0 = .ok (.aload_n 0, 1) := by decide +kernel
theorem own_d2_1 : decode prog_9_method_1_code 1 = .ok (.invokespecial 1, 3) := by decide +kernel
theorem own_d2_4 : decode prog_9_method_1_code 4 = .ok (.iconst 1, 1) := by decide +kernel
theorem own_d2_5 : decode prog_9_method_1_code 5 = .ok (.istore_n 2, 1) := by decide +kernel
theorem own_d2_6 : decode prog_9_method_1_code 6 = .ok (.aload_n 1, 1) := by decide +kernel
theorem own_d2_7 : decode prog_9_method_1_code 7 = .ok (.astore_n 3, 1) := by decide +kernel
theorem own_d2_8 : decode prog_9_method_1_code 8 = .ok (.aload_n 3, 1) := by decide +kernel
theorem own_d2_9 : decode prog_9_method_1_code 9 = .ok (.arraylength, 1) := by decide +kernel
theorem own_d2_10 : decode prog_9_method_1_code 10 = .ok (.istore 4, 2) := by decide +kernel
theorem own_d2_12 : decode prog_9_method_1_code 12 = .ok (.iconst 0, 1) := by decide +kernel
theorem own_d2_13 : decode prog_9_method_1_code 13 = .ok (.istore 5, 2) := by decide +kernel
theorem own_d2_15 : decode prog_9_method_1_code 15 = .ok (.iload 5, 2) := by decide +kernel
theorem own_d2_17 : decode prog_9_method_1_code 17 = .ok (.iload 4, 2) := by decide +kernel
theorem own_d2_19 : decode prog_9_method_1_code 19 = .ok (.if_icmp .ge 36, 3) := by decide +kernel
theorem own_d2_22 : decode prog_9_method_1_code 22 = .ok (.aload_n 3, 1) := by decide +kernel
theorem own_d2_23 : decode prog_9_method_1_code 23 = .ok (.iload 5, 2) := by decide +kernel
theorem own_d2_25 : decode prog_9_method_1_code 25 = .ok (.iaload, 1) := by decide +kernel
theorem own_d2_26 : decode prog_9_method_1_code 26 = .ok (.istore 6, 2) := by decide +kernel
theorem own_d2_28 : decode prog_9_method_1_code 28 = .ok (.iload_n 2, 1) := by decide +kernel
theorem own_d2_29 : decode prog_9_method_1_code 29 = .ok (.iload 6, 2) := by decide +kernel
theorem own_d2_31 : decode prog_9_method_1_code 31 = .ok (.ifCond .lt 15, 3) := by decide +kernel
theorem own_d2_34 : decode prog_9_method_1_code 34 = .ok (.iload 6, 2) := by decide +kernel
theorem own_d2_36 : decode prog_9_method_1_code 36 = .ok (.sipush 255, 3) := by decide +kernel
theorem own_d2_39 : decode prog_9_method_1_code 39 = .ok (.if_icmp .gt 7, 3) := by decide +kernel
theorem own_d2_42 : decode prog_9_method_1_code 42 = .ok (.iconst 1, 1) := by decide +kernel
theorem own_d2_43 : decode prog_9_method_1_code 43 = .ok (.goto 4, 3) := by decide +kernel
theorem own_d2_47 : decode prog_9_method_1_code 47 = .ok (.iand, 1) := by decide +kernel
theorem own_d2_48 : decode prog_9_method_1_code 48 = .ok (.istore_n 2, 1) := by decide +kernel
theorem own_d2_49 : decode prog_9_method_1_code 49 = .ok (.iinc 5 1, 3) := by decide +kernel
theorem own_d2_52 : decode prog_9_method_1_code 52 = .ok (.goto (-37), 3) := by decide +kernel
theorem own_d2_55 : decode prog_9_method_1_code 55 = .ok (.iload_n 2, 1) := by decide +kernel
theorem own_d2_56 : decode prog_9_method_1_code 56 = .ok (.ifCond .eq 43, 3) := by decide +kernel
theorem own_d2_59 : decode prog_9_method_1_code 59 = .ok (.aload_n 0, 1) := by decide +kernel
theorem own_d2_60 : decode prog_9_method_1_code 60 = .ok (.aload_n 1, 1) := by decide +kernel
theorem own_d2_61 : decode prog_9_method_1_code 61 = .ok (.arraylength, 1) := by decide +kernel
theorem own_d2_62 : decode prog_9_method_1_code 62 = .ok (.newarray .byte, 2) := by decide +kernel
theorem own_d2_64 : decode prog_9_method_1_code 64 = .ok (.putfield 9, 3) := by decide +kernel
theorem own_d2_67 : decode prog_9_method_1_code 67 = .ok (.iconst 0, 1) := by decide +kernel
theorem own_d2_68 : decode prog_9_method_1_code 68 = .ok (.istore_n 3, 1) := by decide +kernel
theorem own_d2_69 : decode prog_9_method_1_code 69 = .ok (.iload_n 3, 1) := by decide +kernel
theorem own_d2_70 : decode prog_9_method_1_code 70 = .ok (.aload_n 1, 1) := by decide +kernel
theorem own_d2_71 : decode prog_9_method_1_code 71 = .ok (.arraylength, 1) := by decide +kernel
theorem own_d2_72 : decode prog_9_method_1_code 72 = .ok (.if_icmp .ge 19, 3) := by decide +kernel
theorem own_d2_75 : decode prog_9_method_1_code 75 = .ok (.aload_n 0, 1) := by decide +kernel
theorem own_d2_76 : decode prog_9_method_1_code 76 = .ok (.getfield 9, 3) := by decide +kernel
theorem own_d2_79 : decode prog_9_method_1_code 79 = .ok (.iload_n 3, 1) := by decide +kernel
theorem own_d2_80 : decode prog_9_method_1_code 80 = .ok (.aload_n 1, 1) := by decide +kernel
theorem own_d2_81 : decode prog_9_method_1_code 81 = .ok (.iload_n 3, 1) := by decide +kernel
theorem own_d2_82 : decode prog_9_method_1_code 82 = .ok (.iaload, 1) := by decide +kernel
theorem own_d2_83 : decode prog_9_method_1_code 83 = .ok (.i2b, 1) := by decide +kernel
theorem own_d2_84 : decode prog_9_method_1_code 84 = .ok (.bastore, 1) := by decide +kernel
theorem own_d2_85 : decode prog_9_method_1_code 85 = .ok (.iinc 3 1, 3) := by decide +kernel
theorem own_d2_88 : decode prog_9_method_1_code 88 = .ok (.goto (-19), 3) := by decide +kernel
theorem own_d2_91 : decode prog_9_method_1_code 91 = .ok (.aload_n 0, 1) := by decide +kernel
theorem own_d2_92 : decode prog_9_method_1_code 92 = .ok (.aconst_null, 1) := by decide +kernel
theorem own_d2_93 : decode prog_9_method_1_code 93 = .ok (.putfield 13, 3) := by decide +kernel
theorem own_d2_96 : decode prog_9_method_1_code 96 = .ok (.goto 19, 3) := by decide +kernel
theorem own_d2_115 : decode prog_9_method_1_code 115 = .ok (.aload_n 0, 1) := by decide +kernel
theorem own_d2_116 : decode prog_9_method_1_code 116 = .ok (.aload_n 1, 1) := by decide +kernel
theorem own_d2_117 : decode prog_9_method_1_code 117 = .ok (.invokestatic 22, 3) := by decide +kernel
theorem own_d2_120 : decode prog_9_method_1_code 120 = .ok (.putfield 28, 3) := by decide +kernel
theorem own_d2_123 : decode prog_9_method_1_code 123 = .ok (.return_, 1) := by decide +kernel
theorem own_ef2b3 (m : MethodId) (a0 : Addr) (a1 : Addr) : entryFrame m #[(.ref a0), (.ref a1)] 7 = mkF m 0 #[oa a0, oa a1, .unset, .unset, .unset, .unset, .unset] [] := by first | (simp [entryFrame, mkF, argsToLocals, Value.category]; done) | rfl
def own_Q2b3 (Z : State) (a0 : Addr) (a1 : Addr) (k_a1 : ClassId) (x0 : Int32) (x1 : Int32) (x2 : Int32) (h0 : Heap) (n0 : Nat) (v : Option Value) (h : Heap) (L : List Loc) : Prop := ∃ (b : Addr) (k_b : ClassId), v = none ∧ Fr n0 L ∧ Keep h0 h [a0] ∧ h0.size ≤ b ∧ Exa Z h a0 "com/example/penstock/penstock/Design" ∧ Fld Z h a0 "com/example/penstock/penstock/Design" "byteIndices" "[B" (.ref b) ∧ Fld Z h a0 "com/example/penstock/penstock/Design" "intIndices" "[I" .null ∧ Arv Z h b k_b .byte (3 : Int32) [(.int (x0.toInt8.toInt32)), (.int (x1.toInt8.toInt32)), (.int (x2.toInt8.toInt32))] (.int (0 : Int32))
set_option maxRecDepth 65536 in
set_option maxHeartbeats 40000000 in
theorem own_rm2b3 (l : Launch) (Z : State) (av : Array Value) (hw : ∀ d ∈ tables_1, d.before av Z = true) (ws : List Jvm.Cond) (a0 : Addr) (a1 : Addr) (k_a1 : ClassId) (x0 : Int32) (x1 : Int32) (x2 : Int32) (h0 : Heap) (n0 : Nat) (Z0 : n0 ≤ h0.size) (E_a0 : Exa Z h0 a0 "com/example/penstock/penstock/Design") (F_byteIndices_a0 : Fld Z h0 a0 "com/example/penstock/penstock/Design" "byteIndices" "[B" .null) (F_intIndices_a0 : Fld Z h0 a0 "com/example/penstock/penstock/Design" "intIndices" "[I" .null) (F_hash_a0 : Fld Z h0 a0 "com/example/penstock/penstock/Design" "hash" "I" (.int (0 : Int32))) (g_a0 : n0 ≤ a0) (V_a1 : Arv Z h0 a1 k_a1 .int (3 : Int32) [(.int x0), (.int x1), (.int x2)] (.int (0 : Int32))) (E_a1 : Exa Z h0 a1 "[I") (n10 : a1 ≠ a0) (l0 : ¬ (x0 < (0 : Int32))) (l1 : ¬ (x1 < (0 : Int32))) (l2 : ¬ (x2 < (0 : Int32))) (u0 : ¬ ((255 : Int32) < x0)) (u1 : ¬ ((255 : Int32) < x1)) (u2 : ¬ ((255 : Int32) < x2)) :
    MetFree l (⟨"com/example/penstock/penstock/Design", "<init>", "([I)V"⟩ : MethodName) (head1 (Jvm.Cond.code (⟨"com/example/penstock/penstock/Design", "<init>", "([I)V"⟩ : MethodName) prog_9_method_1_code 7 none :: ws) ({ frames := 3, cells := 1, slots := 3, locals := 46 } : Room)) (fun a U => a = #[(.ref a0), (.ref a1)] ∧ Z.Warmed39 U.vm ∧ U.heap = h0) (fun _ _ _ _ _ => True) (fun _ U o U' => ∃ v L, o = .returned v ∧ own_Q2b3 Z a0 a1 k_a1 x0 x1 x2 h0 n0 v U'.heap L ∧ FrameEnd U o U' L ({ frames := 3, cells := 1, slots := 3, locals := 46 } : Room).cells ({ frames := 3, cells := 1, slots := 3, locals := 46 } : Room).slots) := by
  refine MetFree.of_bodySF (plainFor_of_name own_pn2) hisR ?_
  intro p e s m args below meth c s₁ Bd hml0 hP hK
  obtain ⟨rfl, hZ, hh⟩ := hP
  have hx := Bd.exec
  have hby := Bd.bytes
  have hml : c.maxLocals = 7 := hml0
  have hown : s.vm.findClass "com/example/penstock/penstock/Design" = some m.cls := findClass_of_methodNamed Bd.named
  have hnm := (name_of_methodNamed Bd.named Bd.method).1
  have X0 : Stand p l e ({ frames := 3, cells := 1, slots := 3, locals := 46 } : Room) s m #[(.ref a0), (.ref a1)] below meth c s₁ [] 0 0 := Stand.of_body Bd
  have e0 : s₁.heap = h0 := by rw [← hh, Bd.state]; rfl
  have N0 := Fr.nil n0
  have pre0 : ∀ t, Steps p.tables e below (s₁.setTop (mkF m 0 #[oa a0, oa a1, .unset, .unset, .unset, .unset, .unset] [])) t → Steps p.tables e below (s₁.setTop (entryFrame m #[(.ref a0), (.ref a1)] 7)) t := fun t k => castTop (own_ef2b3 m a0 a1) k
  obtain ⟨T1, X1, e1, st1⟩ := initO X0 hx hZ hown (hw _ (List.mem_of_getElem? (i := 11) rfl)) (hw _ (List.mem_of_getElem? (i := 12) rfl)) (hw _ (List.mem_of_getElem? (i := 13) rfl)) e0 (g := (mkF m 1 #[oa a0, oa a1, .unset, .unset, .unset, .unset, .unset] [(.ref a0)])) rfl (by rw [hml]; rfl) rfl (hb hby own_d2_1) (by decide) (W := 0) (by show 2 * 0 + _ ≤ _; exact Nat.le_of_eq rfl) (by decide)
  have b2 : (0 : Int32) < (3 : Int32) := (by decide)
  have b3 : ¬ (x0 < (0 : Int32)) := l0
  have b4 : ¬ ((255 : Int32) < x0) := u0
  have b5 : (1 : Int32) < (3 : Int32) := (by decide)
  have b6 : ¬ (x1 < (0 : Int32)) := l1
  have b7 : ¬ ((255 : Int32) < x1) := u1
  have b8 : (2 : Int32) < (3 : Int32) := (by decide)
  have b9 : ¬ (x2 < (0 : Int32)) := l2
  have b10 : ¬ ((255 : Int32) < x2) := u2
  have b11 : ¬ ((3 : Int32) < (3 : Int32)) := (by decide)
  have b12 : ¬ ((1 : Int32) = (0 : Int32)) := (by decide)
  obtain ⟨T13, h13, k13, X13, e13, E13, A13, B13, st13⟩ := newPE X1 hx hZ (hw _ (List.mem_of_getElem? (i := 14) rfl)) e1 (g := (mkF m 62 #[oa a0, oa a1, oi (1 : Int32), oa a1, oi (3 : Int32), oi (3 : Int32), oi x2] [(.int (3 : Int32)), (.ref a0)])) rfl (hb hby own_d2_62) rfl (by decide) (cap := 3) (by decide) (by decide) (by decide) (by decide) (ad := "[B") rfl
  obtain ⟨b13, g13⟩ : ∃ z, z = h0.size := ⟨_, rfl⟩
  rw [← g13] at A13 st13 B13
  have g_b13 : n0 ≤ b13 := Nat.le_trans Z0 (Nat.le_of_eq g13.symm)
  have ne14 : a0 ≠ b13 := Nat.ne_of_lt (Nat.lt_of_lt_of_le E_a0.lt (Nat.le_of_eq g13.symm))
  have ne15 : a1 ≠ b13 := Nat.ne_of_lt (Nat.lt_of_lt_of_le V_a1.lt (Nat.le_of_eq g13.symm))
  have Z13 : n0 ≤ h13.size := Nat.le_trans Z0 E13.1
  have sz_b13 : h0.size ≤ b13 := Nat.le_trans (Keep.refl h0 [a0]).1 (Nat.le_of_eq g13.symm)
  have K_16 : Keep h0 h13 [a0] := (Keep.refl h0 [a0]).ext E13
  have F17 := E_a0.ext E13
  have F18 := F_byteIndices_a0.ext E13
  have F19 := F_intIndices_a0.ext E13
  have F20 := F_hash_a0.ext E13
  have F21 := V_a1.ext E13
  have F22 := E_a1.ext E13
  have V_23 : Arv Z h13 b13 k13 .byte (3 : Int32) [(.int (0 : Int32)), (.int (0 : Int32)), (.int (0 : Int32))] (.int (0 : Int32)) := (Arv.new A13 (by decide)).pad (pad_rep [] (.int (0 : Int32)) 3)
  obtain ⟨T24, h24, X24, e24, W24, st24⟩ := putF X13 hx hZ hown (host := "") (Or.inl (hw _ (List.mem_of_getElem? (i := 15) rfl))) Via.refl e13 F18 F17 (Or.inr ⟨(hw _ (List.mem_of_getElem? (i := 16) rfl)), rfl, hnm⟩) (hw _ (List.mem_of_getElem? (i := 6) rfl)) (ty := (.array .byte)) (by decide) rfl rfl (g := (mkF m 64 #[oa a0, oa a1, oi (1 : Int32), oa a1, oi (3 : Int32), oi (3 : Int32), oi x2] [(.ref b13), (.ref a0)])) rfl rfl (hb hby own_d2_64)
  obtain ⟨Lo24, X24, N24⟩ := oOpq X24 (Fr.snoc X24 N0 g_a0)
  have Z24 : n0 ≤ h24.size := Nat.le_trans Z13 (Keep.of_wr W24).1
  have F25 := F17.wr W24
  have F26 := F19.other W24 (Or.inr (slot_ne (Or.inr (hw _ (List.mem_of_getElem? (i := 18) rfl))) (Or.inr (hw _ (List.mem_of_getElem? (i := 16) rfl))) (by decide) (t := (.array .int)) (t' := (.array .byte)) (by decide) (by decide)))
  have F27 := F20.other W24 (Or.inr (slot_ne (Or.inr (hw _ (List.mem_of_getElem? (i := 33) rfl))) (Or.inr (hw _ (List.mem_of_getElem? (i := 16) rfl))) (by decide) (t := .int) (t' := (.array .byte)) (by decide) (by decide)))
  have F28 := F21.other W24 n10
  have F29 := F22.wr W24
  have F30 := V_23.other W24 (Ne.symm ne14)
  have F31 := B13.wr W24
  have F_32 : Fld Z h24 a0 "com/example/penstock/penstock/Design" "byteIndices" "[B" (.ref b13) := F18.same W24
  have K_33 : Keep h0 h24 [a0] := K_16.wr W24 (Or.inl (List.mem_of_getElem? (i := 0) rfl))
  have b34 : (0 : Int32) < (3 : Int32) := (by decide)
  obtain ⟨T35, X35, e35, st35⟩ := getF X24 hx hZ hown (host := "") (Or.inl (hw _ (List.mem_of_getElem? (i := 15) rfl))) Via.refl e24 F_32 (g := (mkF m 76 #[oa a0, oa a1, oi (1 : Int32), oi (0 : Int32), oi (3 : Int32), oi (3 : Int32), oi x2] [(.ref a0)])) rfl rfl (hb hby own_d2_76)
  obtain ⟨T36, h36, X36, e36, W36, V36, st36⟩ := oStB X35 hx hZ e35 F30 (j := (0 : Int32)) ⟨by decide, by decide⟩ 0 rfl (Nat.le_of_ble_eq_true rfl) (g := (mkF m 84 #[oa a0, oa a1, oi (1 : Int32), oi (0 : Int32), oi (3 : Int32), oi (3 : Int32), oi x2] [(.int (x0.toInt8.toInt32)), (.int (0 : Int32)), (.ref b13)])) rfl rfl (hb hby own_d2_84)
  rw [own_narb] at V36
  obtain ⟨Lo36, X36, N36⟩ := oOpq X36 (Fr.snoc X36 N24 g_b13)
  have Z36 := Nat.le_trans Z24 (Keep.of_wr W36).1
  have F37 := F25.wr W36
  have F38 := F_32.other W36 (Or.inl ne14)
  have F39 := F26.other W36 (Or.inl ne14)
  have F40 := F27.other W36 (Or.inl ne14)
  have F41 := F28.other W36 ne15
  have F42 := F29.wr W36
  have F43 := F31.wr W36
  have V_44 : Arv Z h36 b13 k13 .byte (3 : Int32) [(.int (x0.toInt8.toInt32)), (.int (0 : Int32)), (.int (0 : Int32))] (.int (0 : Int32)) := V36
  have K_45 : Keep h0 h36 [a0] := K_33.wr W36 (Or.inr sz_b13)
  have b46 : (1 : Int32) < (3 : Int32) := (by decide)
  obtain ⟨T47, X47, e47, st47⟩ := getF X36 hx hZ hown (host := "") (Or.inl (hw _ (List.mem_of_getElem? (i := 15) rfl))) Via.refl e36 F38 (g := (mkF m 76 #[oa a0, oa a1, oi (1 : Int32), oi (1 : Int32), oi (3 : Int32), oi (3 : Int32), oi x2] [(.ref a0)])) rfl rfl (hb hby own_d2_76)
  obtain ⟨T48, h48, X48, e48, W48, V48, st48⟩ := oStB X47 hx hZ e47 V_44 (j := (1 : Int32)) ⟨by decide, by decide⟩ 1 rfl (Nat.le_of_ble_eq_true rfl) (g := (mkF m 84 #[oa a0, oa a1, oi (1 : Int32), oi (1 : Int32), oi (3 : Int32), oi (3 : Int32), oi x2] [(.int (x1.toInt8.toInt32)), (.int (1 : Int32)), (.ref b13)])) rfl rfl (hb hby own_d2_84)
  rw [own_narb] at V48
  obtain ⟨Lo48, X48, N48⟩ := oOpq X48 (Fr.snoc X48 N36 g_b13)
  have Z48 := Nat.le_trans Z36 (Keep.of_wr W48).1
  have F49 := F37.wr W48
  have F50 := F38.other W48 (Or.inl ne14)
  have F51 := F39.other W48 (Or.inl ne14)
  have F52 := F40.other W48 (Or.inl ne14)
  have F53 := F41.other W48 ne15
  have F54 := F42.wr W48
  have F55 := F43.wr W48
  have V_56 : Arv Z h48 b13 k13 .byte (3 : Int32) [(.int (x0.toInt8.toInt32)), (.int (x1.toInt8.toInt32)), (.int (0 : Int32))] (.int (0 : Int32)) := V48
  have K_57 : Keep h0 h48 [a0] := K_45.wr W48 (Or.inr sz_b13)
  have b58 : (2 : Int32) < (3 : Int32) := (by decide)
  obtain ⟨T59, X59, e59, st59⟩ := getF X48 hx hZ hown (host := "") (Or.inl (hw _ (List.mem_of_getElem? (i := 15) rfl))) Via.refl e48 F50 (g := (mkF m 76 #[oa a0, oa a1, oi (1 : Int32), oi (2 : Int32), oi (3 : Int32), oi (3 : Int32), oi x2] [(.ref a0)])) rfl rfl (hb hby own_d2_76)
  obtain ⟨T60, h60, X60, e60, W60, V60, st60⟩ := oStB X59 hx hZ e59 V_56 (j := (2 : Int32)) ⟨by decide, by decide⟩ 2 rfl (Nat.le_of_ble_eq_true rfl) (g := (mkF m 84 #[oa a0, oa a1, oi (1 : Int32), oi (2 : Int32), oi (3 : Int32), oi (3 : Int32), oi x2] [(.int (x2.toInt8.toInt32)), (.int (2 : Int32)), (.ref b13)])) rfl rfl (hb hby own_d2_84)
  rw [own_narb] at V60
  obtain ⟨Lo60, X60, N60⟩ := oOpq X60 (Fr.snoc X60 N48 g_b13)
  have Z60 := Nat.le_trans Z48 (Keep.of_wr W60).1
  have F61 := F49.wr W60
  have F62 := F50.other W60 (Or.inl ne14)
  have F63 := F51.other W60 (Or.inl ne14)
  have F64 := F52.other W60 (Or.inl ne14)
  have F65 := F53.other W60 ne15
  have F66 := F54.wr W60
  have F67 := F55.wr W60
  have V_68 : Arv Z h60 b13 k13 .byte (3 : Int32) [(.int (x0.toInt8.toInt32)), (.int (x1.toInt8.toInt32)), (.int (x2.toInt8.toInt32))] (.int (0 : Int32)) := V60
  have K_69 : Keep h0 h60 [a0] := K_57.wr W60 (Or.inr sz_b13)
  have b70 : ¬ ((3 : Int32) < (3 : Int32)) := (by decide)
  obtain ⟨T71, h71, X71, e71, W71, st71⟩ := putF X60 hx hZ hown (host := "") (Or.inl (hw _ (List.mem_of_getElem? (i := 17) rfl))) Via.refl e60 F63 F61 (Or.inr ⟨(hw _ (List.mem_of_getElem? (i := 18) rfl)), rfl, hnm⟩) (hw _ (List.mem_of_getElem? (i := 6) rfl)) (ty := (.array .int)) (by decide) rfl rfl (g := (mkF m 93 #[oa a0, oa a1, oi (1 : Int32), oi (3 : Int32), oi (3 : Int32), oi (3 : Int32), oi x2] [.null, (.ref a0)])) rfl rfl (hb hby own_d2_93)
  obtain ⟨Lo71, X71, N71⟩ := oOpq X71 (Fr.snoc X71 N60 g_a0)
  have Z71 : n0 ≤ h71.size := Nat.le_trans Z60 (Keep.of_wr W71).1
  have F72 := F61.wr W71
  have F73 := F62.other W71 (Or.inr (slot_ne (Or.inr (hw _ (List.mem_of_getElem? (i := 16) rfl))) (Or.inr (hw _ (List.mem_of_getElem? (i := 18) rfl))) (by decide) (t := (.array .byte)) (t' := (.array .int)) (by decide) (by decide)))
  have F74 := F64.other W71 (Or.inr (slot_ne (Or.inr (hw _ (List.mem_of_getElem? (i := 33) rfl))) (Or.inr (hw _ (List.mem_of_getElem? (i := 18) rfl))) (by decide) (t := .int) (t' := (.array .int)) (by decide) (by decide)))
  have F75 := F65.other W71 n10
  have F76 := F66.wr W71
  have F77 := V_68.other W71 (Ne.symm ne14)
  have F78 := F67.wr W71
  have F_79 : Fld Z h71 a0 "com/example/penstock/penstock/Design" "intIndices" "[I" .null := F63.same W71
  have K_80 : Keep h0 h71 [a0] := K_69.wr W71 (Or.inl (List.mem_of_getElem? (i := 0) rfl))
  obtain ⟨_, _, ⟨T81, L81, k81, n81⟩, -, X81, ⟨Lc81, hQ81, l81, y81, z81⟩, st81⟩ := Jvm.LawKit.callS X71 hx (y := (⟨"java/util/Arrays", "hashCode", "([I)I"⟩ : MethodName)) hown (mvT hZ (hw _ (List.mem_of_getElem? (i := 19) rfl))) (mvT hZ (hw _ (List.mem_of_getElem? (i := 20) rfl))) (mvT hZ (hw _ (List.mem_of_getElem? (i := 21) rfl))) (mvT hZ (hw _ (List.mem_of_getElem? (i := 22) rfl))) (by decide) (backOf (W := 1) (own_rm4_3 l Z av hw [] a1 k_a1 x0 x1 x2 h71 n0 Z71 F75 F76) hZ (hw _ (List.mem_of_getElem? (i := 22) rfl)) (hw _ (List.mem_of_getElem? (i := 21) rfl)) (by decide) (by decide)) (g := (mkF m 117 #[oa a0, oa a1, oi (1 : Int32), oi (3 : Int32), oi (3 : Int32), oi (3 : Int32), oi x2] [(.ref a1), (.ref a0)])) rfl (by rw [hml]; rfl) (argsL := [(.ref a1)]) (rest := [(.ref a0)]) (lenOf own_pd2 rfl) rfl (by show 2 * 0 + _ ≤ _; exact Nat.le_of_eq rfl) (hb hby own_d2_117) (fun _ _ => ⟨rfl, e71, (by decide : 1 + 0 ≤ _), (by decide : 3 + 0 ≤ _)⟩)
  dsimp only [Pt.U, Pt.locs, Pt.cells, Pt.slots] at X81 l81 y81 z81 st81 hQ81
  have yq81 : k81 = 1 := y81
  have zq81 : n81 = 3 := z81
  subst yq81 zq81
  obtain ⟨rfl, Nq81, eq81⟩ := hQ81
  have N81 : Fr n0 L81 := by rw [l81]; exact Fr.app N71 Nq81
  obtain ⟨T82, h82, X82, e82, W82, st82⟩ := putF X81 hx hZ hown (host := "") (Or.inl (hw _ (List.mem_of_getElem? (i := 32) rfl))) Via.refl eq81 F74 F72 (Or.inr ⟨(hw _ (List.mem_of_getElem? (i := 33) rfl)), rfl, hnm⟩) (hw _ (List.mem_of_getElem? (i := 6) rfl)) (ty := .int) (by decide) rfl rfl (g := (mkF m 120 #[oa a0, oa a1, oi (1 : Int32), oi (3 : Int32), oi (3 : Int32), oi (3 : Int32), oi x2] [(.int (own_f4_3 x0 x1 x2)), (.ref a0)])) rfl rfl (hb hby own_d2_120)
  obtain ⟨Lo82, X82, N82⟩ := oOpq X82 (Fr.snoc X82 N81 g_a0)
  have Z82 : n0 ≤ h82.size := Nat.le_trans Z71 (Keep.of_wr W82).1
  have F83 := F72.wr W82
  have F84 := F73.other W82 (Or.inr (slot_ne (Or.inr (hw _ (List.mem_of_getElem? (i := 16) rfl))) (Or.inr (hw _ (List.mem_of_getElem? (i := 33) rfl))) (by decide) (t := (.array .byte)) (t' := .int) (by decide) (by decide)))
  have F85 := F_79.other W82 (Or.inr (slot_ne (Or.inr (hw _ (List.mem_of_getElem? (i := 18) rfl))) (Or.inr (hw _ (List.mem_of_getElem? (i := 33) rfl))) (by decide) (t := (.array .int)) (t' := .int) (by decide) (by decide)))
  have F86 := F75.other W82 n10
  have F87 := F76.wr W82
  have F88 := F77.other W82 (Ne.symm ne14)
  have F89 := F78.wr W82
  have F_90 : Fld Z h82 a0 "com/example/penstock/penstock/Design" "hash" "I" (.int (own_f4_3 x0 x1 x2)) := F74.same W82
  have K_91 : Keep h0 h82 [a0] := K_80.wr W82 (Or.inl (List.mem_of_getElem? (i := 0) rfl))
  obtain ⟨fs, hr, hrun, hended, hW, hsame⟩ := X82.leave (v := none) (fun _ => rfl)
  refine ⟨_, _, pre0 _ ?_, hrun, hended, _, _, rfl, ?_, ⟨_, rfl⟩, hW, hsame.mono (by decide) (by decide)⟩
  · show oS p e below s₁ m 0 #[oa a0, oa a1, .unset, .unset, .unset, .unset, .unset] [] _
    refine XS.aloadN X0.here hx rfl (hb hby own_d2_0) rfl rfl ?_
    show oS p e below s₁ m 1 #[oa a0, oa a1, .unset, .unset, .unset, .unset, .unset] [(.ref a0)] _
    refine st1 _ ?_
    show oS p e below T1 m 4 #[oa a0, oa a1, .unset, .unset, .unset, .unset, .unset] [] _
    refine XS.iconst X1.here hx rfl (hb hby own_d2_4) ?_
    show oS p e below T1 m 5 #[oa a0, oa a1, .unset, .unset, .unset, .unset, .unset] [(.int (1 : Int32))] _
    refine XS.istoreN X1.here hx rfl (hb hby own_d2_5) rfl (l' := #[oa a0, oa a1, oi (1 : Int32), .unset, .unset, .unset, .unset]) rfl ?_
    show oS p e below T1 m 6 #[oa a0, oa a1, oi (1 : Int32), .unset, .unset, .unset, .unset] [] _
    refine XS.aloadN X1.here hx rfl (hb hby own_d2_6) rfl rfl ?_
    show oS p e below T1 m 7 #[oa a0, oa a1, oi (1 : Int32), .unset, .unset, .unset, .unset] [(.ref a1)] _
    refine XS.astoreN X1.here hx rfl (hb hby own_d2_7) rfl rfl (l' := #[oa a0, oa a1, oi (1 : Int32), oa a1, .unset, .unset, .unset]) rfl ?_
    show oS p e below T1 m 8 #[oa a0, oa a1, oi (1 : Int32), oa a1, .unset, .unset, .unset] [] _
    refine XS.aloadN X1.here hx rfl (hb hby own_d2_8) rfl rfl ?_
    show oS p e below T1 m 9 #[oa a0, oa a1, oi (1 : Int32), oa a1, .unset, .unset, .unset] [(.ref a1)] _
    refine oLen X1 hx hZ e1 V_a1 (hb hby own_d2_9) ?_
    show oS p e below T1 m 10 #[oa a0, oa a1, oi (1 : Int32), oa a1, .unset, .unset, .unset] [(.int (3 : Int32))] _
    refine XS.istore X1.here hx rfl (hb hby own_d2_10) rfl (l' := #[oa a0, oa a1, oi (1 : Int32), oa a1, oi (3 : Int32), .unset, .unset]) rfl ?_
    show oS p e below T1 m 12 #[oa a0, oa a1, oi (1 : Int32), oa a1, oi (3 : Int32), .unset, .unset] [] _
    refine XS.iconst X1.here hx rfl (hb hby own_d2_12) ?_
    show oS p e below T1 m 13 #[oa a0, oa a1, oi (1 : Int32), oa a1, oi (3 : Int32), .unset, .unset] [(.int (0 : Int32))] _
    refine XS.istore X1.here hx rfl (hb hby own_d2_13) rfl (l' := #[oa a0, oa a1, oi (1 : Int32), oa a1, oi (3 : Int32), oi (0 : Int32), .unset]) rfl ?_
    show oS p e below T1 m 15 #[oa a0, oa a1, oi (1 : Int32), oa a1, oi (3 : Int32), oi (0 : Int32), .unset] [] _
    refine XS.iload X1.here hx rfl (hb hby own_d2_15) rfl ?_
    show oS p e below T1 m 17 #[oa a0, oa a1, oi (1 : Int32), oa a1, oi (3 : Int32), oi (0 : Int32), .unset] [(.int (0 : Int32))] _
    refine XS.iload X1.here hx rfl (hb hby own_d2_17) rfl ?_
    show oS p e below T1 m 19 #[oa a0, oa a1, oi (1 : Int32), oa a1, oi (3 : Int32), oi (0 : Int32), .unset] [(.int (3 : Int32)), (.int (0 : Int32))] _
    refine XS.icmpNo X1.here hx rfl (hb hby own_d2_19) rfl (tlt b2).2.1 ?_
    show oS p e below T1 m 22 #[oa a0, oa a1, oi (1 : Int32), oa a1, oi (3 : Int32), oi (0 : Int32), .unset] [] _
    refine XS.aloadN X1.here hx rfl (hb hby own_d2_22) rfl rfl ?_
    show oS p e below T1 m 23 #[oa a0, oa a1, oi (1 : Int32), oa a1, oi (3 : Int32), oi (0 : Int32), .unset] [(.ref a1)] _
    refine XS.iload X1.here hx rfl (hb hby own_d2_23) rfl ?_
    show oS p e below T1 m 25 #[oa a0, oa a1, oi (1 : Int32), oa a1, oi (3 : Int32), oi (0 : Int32), .unset] [(.int (0 : Int32)), (.ref a1)] _
    refine oLdI X1 hx hZ e1 V_a1 (v := (.int x0)) ⟨by decide, by decide⟩ rfl (hb hby own_d2_25) ?_
    show oS p e below T1 m 26 #[oa a0, oa a1, oi (1 : Int32), oa a1, oi (3 : Int32), oi (0 : Int32), .unset] [(.int x0)] _
    refine XS.istore X1.here hx rfl (hb hby own_d2_26) rfl (l' := #[oa a0, oa a1, oi (1 : Int32), oa a1, oi (3 : Int32), oi (0 : Int32), oi x0]) rfl ?_
    show oS p e below T1 m 28 #[oa a0, oa a1, oi (1 : Int32), oa a1, oi (3 : Int32), oi (0 : Int32), oi x0] [] _
    refine XS.iloadN X1.here hx rfl (hb hby own_d2_28) rfl ?_
    show oS p e below T1 m 29 #[oa a0, oa a1, oi (1 : Int32), oa a1, oi (3 : Int32), oi (0 : Int32), oi x0] [(.int (1 : Int32))] _
    refine XS.iload X1.here hx rfl (hb hby own_d2_29) rfl ?_
    show oS p e below T1 m 31 #[oa a0, oa a1, oi (1 : Int32), oa a1, oi (3 : Int32), oi (0 : Int32), oi x0] [(.int x0), (.int (1 : Int32))] _
    refine XS.ifNo X1.here hx rfl (hb hby own_d2_31) rfl ((if0 _ _).trans (flt b3).1) ?_
    show oS p e below T1 m 34 #[oa a0, oa a1, oi (1 : Int32), oa a1, oi (3 : Int32), oi (0 : Int32), oi x0] [(.int (1 : Int32))] _
    refine XS.iload X1.here hx rfl (hb hby own_d2_34) rfl ?_
    show oS p e below T1 m 36 #[oa a0, oa a1, oi (1 : Int32), oa a1, oi (3 : Int32), oi (0 : Int32), oi x0] [(.int x0), (.int (1 : Int32))] _
    refine XS.sipush X1.here hx rfl (hb hby own_d2_36) ?_
    show oS p e below T1 m 39 #[oa a0, oa a1, oi (1 : Int32), oa a1, oi (3 : Int32), oi (0 : Int32), oi x0] [(.int (255 : Int32)), (.int x0), (.int (1 : Int32))] _
    refine XS.icmpNo X1.here hx rfl (hb hby own_d2_39) rfl (flt b4).2.2.1 ?_
    show oS p e below T1 m 42 #[oa a0, oa a1, oi (1 : Int32), oa a1, oi (3 : Int32), oi (0 : Int32), oi x0] [(.int (1 : Int32))] _
    refine XS.iconst X1.here hx rfl (hb hby own_d2_42) ?_
    show oS p e below T1 m 43 #[oa a0, oa a1, oi (1 : Int32), oa a1, oi (3 : Int32), oi (0 : Int32), oi x0] [(.int (1 : Int32)), (.int (1 : Int32))] _
    refine XS.goto X1.here hx rfl (pc0 := 43) (pc' := 47) rfl (hb hby own_d2_43) (by decide) (by decide) ?_
    show oS p e below T1 m 47 #[oa a0, oa a1, oi (1 : Int32), oa a1, oi (3 : Int32), oi (0 : Int32), oi x0] [(.int (1 : Int32)), (.int (1 : Int32))] _
    refine XS.iand X1.here hx rfl (hb hby own_d2_47) rfl ?_
    show oS p e below T1 m 48 #[oa a0, oa a1, oi (1 : Int32), oa a1, oi (3 : Int32), oi (0 : Int32), oi x0] [(.int (1 : Int32))] _
    refine XS.istoreN X1.here hx rfl (hb hby own_d2_48) rfl (l' := #[oa a0, oa a1, oi (1 : Int32), oa a1, oi (3 : Int32), oi (0 : Int32), oi x0]) rfl ?_
    show oS p e below T1 m 49 #[oa a0, oa a1, oi (1 : Int32), oa a1, oi (3 : Int32), oi (0 : Int32), oi x0] [] _
    refine XS.iinc X1.here hx rfl (hb hby own_d2_49) rfl (l' := #[oa a0, oa a1, oi (1 : Int32), oa a1, oi (3 : Int32), oi (1 : Int32), oi x0]) rfl ?_
    show oS p e below T1 m 52 #[oa a0, oa a1, oi (1 : Int32), oa a1, oi (3 : Int32), oi (1 : Int32), oi x0] [] _
    refine XS.goto X1.here hx rfl (pc0 := 52) (pc' := 15) rfl (hb hby own_d2_52) (by decide) (by decide) ?_
    show oS p e below T1 m 15 #[oa a0, oa a1, oi (1 : Int32), oa a1, oi (3 : Int32), oi (1 : Int32), oi x0] [] _
    refine XS.iload X1.here hx rfl (hb hby own_d2_15) rfl ?_
    show oS p e below T1 m 17 #[oa a0, oa a1, oi (1 : Int32), oa a1, oi (3 : Int32), oi (1 : Int32), oi x0] [(.int (1 : Int32))] _
    refine XS.iload X1.here hx rfl (hb hby own_d2_17) rfl ?_
    show oS p e below T1 m 19 #[oa a0, oa a1, oi (1 : Int32), oa a1, oi (3 : Int32), oi (1 : Int32), oi x0] [(.int (3 : Int32)), (.int (1 : Int32))] _
    refine XS.icmpNo X1.here hx rfl (hb hby own_d2_19) rfl (tlt b5).2.1 ?_
    show oS p e below T1 m 22 #[oa a0, oa a1, oi (1 : Int32), oa a1, oi (3 : Int32), oi (1 : Int32), oi x0] [] _
    refine XS.aloadN X1.here hx rfl (hb hby own_d2_22) rfl rfl ?_
    show oS p e below T1 m 23 #[oa a0, oa a1, oi (1 : Int32), oa a1, oi (3 : Int32), oi (1 : Int32), oi x0] [(.ref a1)] _
    refine XS.iload X1.here hx rfl (hb hby own_d2_23) rfl ?_
    show oS p e below T1 m 25 #[oa a0, oa a1, oi (1 : Int32), oa a1, oi (3 : Int32), oi (1 : Int32), oi x0] [(.int (1 : Int32)), (.ref a1)] _
    refine oLdI X1 hx hZ e1 V_a1 (v := (.int x1)) ⟨by decide, by decide⟩ rfl (hb hby own_d2_25) ?_
    show oS p e below T1 m 26 #[oa a0, oa a1, oi (1 : Int32), oa a1, oi (3 : Int32), oi (1 : Int32), oi x0] [(.int x1)] _
    refine XS.istore X1.here hx rfl (hb hby own_d2_26) rfl (l' := #[oa a0, oa a1, oi (1 : Int32), oa a1, oi (3 : Int32), oi (1 : Int32), oi x1]) rfl ?_
    show oS p e below T1 m 28 #[oa a0, oa a1, oi (1 : Int32), oa a1, oi (3 : Int32), oi (1 : Int32), oi x1] [] _
    refine XS.iloadN X1.here hx rfl (hb hby own_d2_28) rfl ?_
    show oS p e below T1 m 29 #[oa a0, oa a1, oi (1 : Int32), oa a1, oi (3 : Int32), oi (1 : Int32), oi x1] [(.int (1 : Int32))] _
    refine XS.iload X1.here hx rfl (hb hby own_d2_29) rfl ?_
    show oS p e below T1 m 31 #[oa a0, oa a1, oi (1 : Int32), oa a1, oi (3 : Int32), oi (1 : Int32), oi x1] [(.int x1), (.int (1 : Int32))] _
    refine XS.ifNo X1.here hx rfl (hb hby own_d2_31) rfl ((if0 _ _).trans (flt b6).1) ?_
    show oS p e below T1 m 34 #[oa a0, oa a1, oi (1 : Int32), oa a1, oi (3 : Int32), oi (1 : Int32), oi x1] [(.int (1 : Int32))] _
    refine XS.iload X1.here hx rfl (hb hby own_d2_34) rfl ?_
    show oS p e below T1 m 36 #[oa a0, oa a1, oi (1 : Int32), oa a1, oi (3 : Int32), oi (1 : Int32), oi x1] [(.int x1), (.int (1 : Int32))] _
    refine XS.sipush X1.here hx rfl (hb hby own_d2_36) ?_
    show oS p e below T1 m 39 #[oa a0, oa a1, oi (1 : Int32), oa a1, oi (3 : Int32), oi (1 : Int32), oi x1] [(.int (255 : Int32)), (.int x1), (.int (1 : Int32))] _
    refine XS.icmpNo X1.here hx rfl (hb hby own_d2_39) rfl (flt b7).2.2.1 ?_
    show oS p e below T1 m 42 #[oa a0, oa a1, oi (1 : Int32), oa a1, oi (3 : Int32), oi (1 : Int32), oi x1] [(.int (1 : Int32))] _
    refine XS.iconst X1.here hx rfl (hb hby own_d2_42) ?_
    show oS p e below T1 m 43 #[oa a0, oa a1, oi (1 : Int32), oa a1, oi (3 : Int32), oi (1 : Int32), oi x1] [(.int (1 : Int32)), (.int (1 : Int32))] _
    refine XS.goto X1.here hx rfl (pc0 := 43) (pc' := 47) rfl (hb hby own_d2_43) (by decide) (by decide) ?_
    show oS p e below T1 m 47 #[oa a0, oa a1, oi (1 : Int32), oa a1, oi (3 : Int32), oi (1 : Int32), oi x1] [(.int (1 : Int32)), (.int (1 : Int32))] _
    refine XS.iand X1.here hx rfl (hb hby own_d2_47) rfl ?_
    show oS p e below T1 m 48 #[oa a0, oa a1, oi (1 : Int32), oa a1, oi (3 : Int32), oi (1 : Int32), oi x1] [(.int (1 : Int32))] _
    refine XS.istoreN X1.here hx rfl (hb hby own_d2_48) rfl (l' := #[oa a0, oa a1, oi (1 : Int32), oa a1, oi (3 : Int32), oi (1 : Int32), oi x1]) rfl ?_
    show oS p e below T1 m 49 #[oa a0, oa a1, oi (1 : Int32), oa a1, oi (3 : Int32), oi (1 : Int32), oi x1] [] _
    refine XS.iinc X1.here hx rfl (hb hby own_d2_49) rfl (l' := #[oa a0, oa a1, oi (1 : Int32), oa a1, oi (3 : Int32), oi (2 : Int32), oi x1]) rfl ?_
    show oS p e below T1 m 52 #[oa a0, oa a1, oi (1 : Int32), oa a1, oi (3 : Int32), oi (2 : Int32), oi x1] [] _
    refine XS.goto X1.here hx rfl (pc0 := 52) (pc' := 15) rfl (hb hby own_d2_52) (by decide) (by decide) ?_
    show oS p e below T1 m 15 #[oa a0, oa a1, oi (1 : Int32), oa a1, oi (3 : Int32), oi (2 : Int32), oi x1] [] _
    refine XS.iload X1.here hx rfl (hb hby own_d2_15) rfl ?_
    show oS p e below T1 m 17 #[oa a0, oa a1, oi (1 : Int32), oa a1, oi (3 : Int32), oi (2 : Int32), oi x1] [(.int (2 : Int32))] _
    refine XS.iload X1.here hx rfl (hb hby own_d2_17) rfl ?_
    show oS p e below T1 m 19 #[oa a0, oa a1, oi (1 : Int32), oa a1, oi (3 : Int32), oi (2 : Int32), oi x1] [(.int (3 : Int32)), (.int (2 : Int32))] _
    refine XS.icmpNo X1.here hx rfl (hb hby own_d2_19) rfl (tlt b8).2.1 ?_
    show oS p e below T1 m 22 #[oa a0, oa a1, oi (1 : Int32), oa a1, oi (3 : Int32), oi (2 : Int32), oi x1] [] _
    refine XS.aloadN X1.here hx rfl (hb hby own_d2_22) rfl rfl ?_
    show oS p e below T1 m 23 #[oa a0, oa a1, oi (1 : Int32), oa a1, oi (3 : Int32), oi (2 : Int32), oi x1] [(.ref a1)] _
    refine XS.iload X1.here hx rfl (hb hby own_d2_23) rfl ?_
    show oS p e below T1 m 25 #[oa a0, oa a1, oi (1 : Int32), oa a1, oi (3 : Int32), oi (2 : Int32), oi x1] [(.int (2 : Int32)), (.ref a1)] _
    refine oLdI X1 hx hZ e1 V_a1 (v := (.int x2)) ⟨by decide, by decide⟩ rfl (hb hby own_d2_25) ?_
    show oS p e below T1 m 26 #[oa a0, oa a1, oi (1 : Int32), oa a1, oi (3 : Int32), oi (2 : Int32), oi x1] [(.int x2)] _
    refine XS.istore X1.here hx rfl (hb hby own_d2_26) rfl (l' := #[oa a0, oa a1, oi (1 : Int32), oa a1, oi (3 : Int32), oi (2 : Int32), oi x2]) rfl ?_
    show oS p e below T1 m 28 #[oa a0, oa a1, oi (1 : Int32), oa a1, oi (3 : Int32), oi (2 : Int32), oi x2] [] _
    refine XS.iloadN X1.here hx rfl (hb hby own_d2_28) rfl ?_
    show oS p e below T1 m 29 #[oa a0, oa a1, oi (1 : Int32), oa a1, oi (3 : Int32), oi (2 : Int32), oi x2] [(.int (1 : Int32))] _
    refine XS.iload X1.here hx rfl (hb hby own_d2_29) rfl ?_
    show oS p e below T1 m 31 #[oa a0, oa a1, oi (1 : Int32), oa a1, oi (3 : Int32), oi (2 : Int32), oi x2] [(.int x2), (.int (1 : Int32))] _
    refine XS.ifNo X1.here hx rfl (hb hby own_d2_31) rfl ((if0 _ _).trans (flt b9).1) ?_
    show oS p e below T1 m 34 #[oa a0, oa a1, oi (1 : Int32), oa a1, oi (3 : Int32), oi (2 : Int32), oi x2] [(.int (1 : Int32))] _
    refine XS.iload X1.here hx rfl (hb hby own_d2_34) rfl ?_
    show oS p e below T1 m 36 #[oa a0, oa a1, oi (1 : Int32), oa a1, oi (3 : Int32), oi (2 : Int32), oi x2] [(.int x2), (.int (1 : Int32))] _
    refine XS.sipush X1.here hx rfl (hb hby own_d2_36) ?_
    show oS p e below T1 m 39 #[oa a0, oa a1, oi (1 : Int32), oa a1, oi (3 : Int32), oi (2 : Int32), oi x2] [(.int (255 : Int32)), (.int x2), (.int (1 : Int32))] _
    refine XS.icmpNo X1.here hx rfl (hb hby own_d2_39) rfl (flt b10).2.2.1 ?_
    show oS p e below T1 m 42 #[oa a0, oa a1, oi (1 : Int32), oa a1, oi (3 : Int32), oi (2 : Int32), oi x2] [(.int (1 : Int32))] _
    refine XS.iconst X1.here hx rfl (hb hby own_d2_42) ?_
    show oS p e below T1 m 43 #[oa a0, oa a1, oi (1 : Int32), oa a1, oi (3 : Int32), oi (2 : Int32), oi x2] [(.int (1 : Int32)), (.int (1 : Int32))] _
    refine XS.goto X1.here hx rfl (pc0 := 43) (pc' := 47) rfl (hb hby own_d2_43) (by decide) (by decide) ?_
    show oS p e below T1 m 47 #[oa a0, oa a1, oi (1 : Int32), oa a1, oi (3 : Int32), oi (2 : Int32), oi x2] [(.int (1 : Int32)), (.int (1 : Int32))] _
    refine XS.iand X1.here hx rfl (hb hby own_d2_47) rfl ?_
    show oS p e below T1 m 48 #[oa a0, oa a1, oi (1 : Int32), oa a1, oi (3 : Int32), oi (2 : Int32), oi x2] [(.int (1 : Int32))] _
    refine XS.istoreN X1.here hx rfl (hb hby own_d2_48) rfl (l' := #[oa a0, oa a1, oi (1 : Int32), oa a1, oi (3 : Int32), oi (2 : Int32), oi x2]) rfl ?_
    show oS p e below T1 m 49 #[oa a0, oa a1, oi (1 : Int32), oa a1, oi (3 : Int32), oi (2 : Int32), oi x2] [] _
    refine XS.iinc X1.here hx rfl (hb hby own_d2_49) rfl (l' := #[oa a0, oa a1, oi (1 : Int32), oa a1, oi (3 : Int32), oi (3 : Int32), oi x2]) rfl ?_
    show oS p e below T1 m 52 #[oa a0, oa a1, oi (1 : Int32), oa a1, oi (3 : Int32), oi (3 : Int32), oi x2] [] _
    refine XS.goto X1.here hx rfl (pc0 := 52) (pc' := 15) rfl (hb hby own_d2_52) (by decide) (by decide) ?_
    show oS p e below T1 m 15 #[oa a0, oa a1, oi (1 : Int32), oa a1, oi (3 : Int32), oi (3 : Int32), oi x2] [] _
    refine XS.iload X1.here hx rfl (hb hby own_d2_15) rfl ?_
    show oS p e below T1 m 17 #[oa a0, oa a1, oi (1 : Int32), oa a1, oi (3 : Int32), oi (3 : Int32), oi x2] [(.int (3 : Int32))] _
    refine XS.iload X1.here hx rfl (hb hby own_d2_17) rfl ?_
    show oS p e below T1 m 19 #[oa a0, oa a1, oi (1 : Int32), oa a1, oi (3 : Int32), oi (3 : Int32), oi x2] [(.int (3 : Int32)), (.int (3 : Int32))] _
    refine XS.icmpYes X1.here hx rfl (pc0 := 19) (pc' := 55) rfl (hb hby own_d2_19) rfl (flt b11).2.1 (by decide) (by decide) ?_
    show oS p e below T1 m 55 #[oa a0, oa a1, oi (1 : Int32), oa a1, oi (3 : Int32), oi (3 : Int32), oi x2] [] _
    refine XS.iloadN X1.here hx rfl (hb hby own_d2_55) rfl ?_
    show oS p e below T1 m 56 #[oa a0, oa a1, oi (1 : Int32), oa a1, oi (3 : Int32), oi (3 : Int32), oi x2] [(.int (1 : Int32))] _
    refine XS.ifNo X1.here hx rfl (hb hby own_d2_56) rfl ((if0 _ _).trans (feq b12).1) ?_
    show oS p e below T1 m 59 #[oa a0, oa a1, oi (1 : Int32), oa a1, oi (3 : Int32), oi (3 : Int32), oi x2] [] _
    refine XS.aloadN X1.here hx rfl (hb hby own_d2_59) rfl rfl ?_
    show oS p e below T1 m 60 #[oa a0, oa a1, oi (1 : Int32), oa a1, oi (3 : Int32), oi (3 : Int32), oi x2] [(.ref a0)] _
    refine XS.aloadN X1.here hx rfl (hb hby own_d2_60) rfl rfl ?_
    show oS p e below T1 m 61 #[oa a0, oa a1, oi (1 : Int32), oa a1, oi (3 : Int32), oi (3 : Int32), oi x2] [(.ref a1), (.ref a0)] _
    refine oLen X1 hx hZ e1 V_a1 (hb hby own_d2_61) ?_
    show oS p e below T1 m 62 #[oa a0, oa a1, oi (1 : Int32), oa a1, oi (3 : Int32), oi (3 : Int32), oi x2] [(.int (3 : Int32)), (.ref a0)] _
    refine st13 _ ?_
    show oS p e below T13 m 64 #[oa a0, oa a1, oi (1 : Int32), oa a1, oi (3 : Int32), oi (3 : Int32), oi x2] [(.ref b13), (.ref a0)] _
    refine st24 _ ?_
    show oS p e below T24 m 67 #[oa a0, oa a1, oi (1 : Int32), oa a1, oi (3 : Int32), oi (3 : Int32), oi x2] [] _
    refine XS.iconst X24.here hx rfl (hb hby own_d2_67) ?_
    show oS p e below T24 m 68 #[oa a0, oa a1, oi (1 : Int32), oa a1, oi (3 : Int32), oi (3 : Int32), oi x2] [(.int (0 : Int32))] _
    refine XS.istoreN X24.here hx rfl (hb hby own_d2_68) rfl (l' := #[oa a0, oa a1, oi (1 : Int32), oi (0 : Int32), oi (3 : Int32), oi (3 : Int32), oi x2]) rfl ?_
    show oS p e below T24 m 69 #[oa a0, oa a1, oi (1 : Int32), oi (0 : Int32), oi (3 : Int32), oi (3 : Int32), oi x2] [] _
    refine XS.iloadN X24.here hx rfl (hb hby own_d2_69) rfl ?_
    show oS p e below T24 m 70 #[oa a0, oa a1, oi (1 : Int32), oi (0 : Int32), oi (3 : Int32), oi (3 : Int32), oi x2] [(.int (0 : Int32))] _
    refine XS.aloadN X24.here hx rfl (hb hby own_d2_70) rfl rfl ?_
    show oS p e below T24 m 71 #[oa a0, oa a1, oi (1 : Int32), oi (0 : Int32), oi (3 : Int32), oi (3 : Int32), oi x2] [(.ref a1), (.int (0 : Int32))] _
    refine oLen X24 hx hZ e24 F28 (hb hby own_d2_71) ?_
    show oS p e below T24 m 72 #[oa a0, oa a1, oi (1 : Int32), oi (0 : Int32), oi (3 : Int32), oi (3 : Int32), oi x2] [(.int (3 : Int32)), (.int (0 : Int32))] _
    refine XS.icmpNo X24.here hx rfl (hb hby own_d2_72) rfl (tlt b34).2.1 ?_
    show oS p e below T24 m 75 #[oa a0, oa a1, oi (1 : Int32), oi (0 : Int32), oi (3 : Int32), oi (3 : Int32), oi x2] [] _
    refine XS.aloadN X24.here hx rfl (hb hby own_d2_75) rfl rfl ?_
    show oS p e below T24 m 76 #[oa a0, oa a1, oi (1 : Int32), oi (0 : Int32), oi (3 : Int32), oi (3 : Int32), oi x2] [(.ref a0)] _
    refine st35 _ ?_
    show oS p e below T35 m 79 #[oa a0, oa a1, oi (1 : Int32), oi (0 : Int32), oi (3 : Int32), oi (3 : Int32), oi x2] [(.ref b13)] _
    refine XS.iloadN X35.here hx rfl (hb hby own_d2_79) rfl ?_
    show oS p e below T35 m 80 #[oa a0, oa a1, oi (1 : Int32), oi (0 : Int32), oi (3 : Int32), oi (3 : Int32), oi x2] [(.int (0 : Int32)), (.ref b13)] _
    refine XS.aloadN X35.here hx rfl (hb hby own_d2_80) rfl rfl ?_
    show oS p e below T35 m 81 #[oa a0, oa a1, oi (1 : Int32), oi (0 : Int32), oi (3 : Int32), oi (3 : Int32), oi x2] [(.ref a1), (.int (0 : Int32)), (.ref b13)] _
    refine XS.iloadN X35.here hx rfl (hb hby own_d2_81) rfl ?_
    show oS p e below T35 m 82 #[oa a0, oa a1, oi (1 : Int32), oi (0 : Int32), oi (3 : Int32), oi (3 : Int32), oi x2] [(.int (0 : Int32)), (.ref a1), (.int (0 : Int32)), (.ref b13)] _
    refine oLdI X35 hx hZ e35 F28 (v := (.int x0)) ⟨by decide, by decide⟩ rfl (hb hby own_d2_82) ?_
    show oS p e below T35 m 83 #[oa a0, oa a1, oi (1 : Int32), oi (0 : Int32), oi (3 : Int32), oi (3 : Int32), oi x2] [(.int x0), (.int (0 : Int32)), (.ref b13)] _
    refine XS.i2b X35.here hx rfl (hb hby own_d2_83) rfl ?_
    show oS p e below T35 m 84 #[oa a0, oa a1, oi (1 : Int32), oi (0 : Int32), oi (3 : Int32), oi (3 : Int32), oi x2] [(.int (x0.toInt8.toInt32)), (.int (0 : Int32)), (.ref b13)] _
    refine st36 _ ?_
    show oS p e below T36 m 85 #[oa a0, oa a1, oi (1 : Int32), oi (0 : Int32), oi (3 : Int32), oi (3 : Int32), oi x2] [] _
    refine XS.iinc X36.here hx rfl (hb hby own_d2_85) rfl (l' := #[oa a0, oa a1, oi (1 : Int32), oi (1 : Int32), oi (3 : Int32), oi (3 : Int32), oi x2]) rfl ?_
    show oS p e below T36 m 88 #[oa a0, oa a1, oi (1 : Int32), oi (1 : Int32), oi (3 : Int32), oi (3 : Int32), oi x2] [] _
    refine XS.goto X36.here hx rfl (pc0 := 88) (pc' := 69) rfl (hb hby own_d2_88) (by decide) (by decide) ?_
    show oS p e below T36 m 69 #[oa a0, oa a1, oi (1 : Int32), oi (1 : Int32), oi (3 : Int32), oi (3 : Int32), oi x2] [] _
    refine XS.iloadN X36.here hx rfl (hb hby own_d2_69) rfl ?_
    show oS p e below T36 m 70 #[oa a0, oa a1, oi (1 : Int32), oi (1 : Int32), oi (3 : Int32), oi (3 : Int32), oi x2] [(.int (1 : Int32))] _
    refine XS.aloadN X36.here hx rfl (hb hby own_d2_70) rfl rfl ?_
    show oS p e below T36 m 71 #[oa a0, oa a1, oi (1 : Int32), oi (1 : Int32), oi (3 : Int32), oi (3 : Int32), oi x2] [(.ref a1), (.int (1 : Int32))] _
    refine oLen X36 hx hZ e36 F41 (hb hby own_d2_71) ?_
    show oS p e below T36 m 72 #[oa a0, oa a1, oi (1 : Int32), oi (1 : Int32), oi (3 : Int32), oi (3 : Int32), oi x2] [(.int (3 : Int32)), (.int (1 : Int32))] _
    refine XS.icmpNo X36.here hx rfl (hb hby own_d2_72) rfl (tlt b46).2.1 ?_
    show oS p e below T36 m 75 #[oa a0, oa a1, oi (1 : Int32), oi (1 : Int32), oi (3 : Int32), oi (3 : Int32), oi x2] [] _
    refine XS.aloadN X36.here hx rfl (hb hby own_d2_75) rfl rfl ?_
    show oS p e below T36 m 76 #[oa a0, oa a1, oi (1 : Int32), oi (1 : Int32), oi (3 : Int32), oi (3 : Int32), oi x2] [(.ref a0)] _
    refine st47 _ ?_
    show oS p e below T47 m 79 #[oa a0, oa a1, oi (1 : Int32), oi (1 : Int32), oi (3 : Int32), oi (3 : Int32), oi x2] [(.ref b13)] _
    refine XS.iloadN X47.here hx rfl (hb hby own_d2_79) rfl ?_
    show oS p e below T47 m 80 #[oa a0, oa a1, oi (1 : Int32), oi (1 : Int32), oi (3 : Int32), oi (3 : Int32), oi x2] [(.int (1 : Int32)), (.ref b13)] _
    refine XS.aloadN X47.here hx rfl (hb hby own_d2_80) rfl rfl ?_
    show oS p e below T47 m 81 #[oa a0, oa a1, oi (1 : Int32), oi (1 : Int32), oi (3 : Int32), oi (3 : Int32), oi x2] [(.ref a1), (.int (1 : Int32)), (.ref b13)] _
    refine XS.iloadN X47.here hx rfl (hb hby own_d2_81) rfl ?_
    show oS p e below T47 m 82 #[oa a0, oa a1, oi (1 : Int32), oi (1 : Int32), oi (3 : Int32), oi (3 : Int32), oi x2] [(.int (1 : Int32)), (.ref a1), (.int (1 : Int32)), (.ref b13)] _
    refine oLdI X47 hx hZ e47 F41 (v := (.int x1)) ⟨by decide, by decide⟩ rfl (hb hby own_d2_82) ?_
    show oS p e below T47 m 83 #[oa a0, oa a1, oi (1 : Int32), oi (1 : Int32), oi (3 : Int32), oi (3 : Int32), oi x2] [(.int x1), (.int (1 : Int32)), (.ref b13)] _
    refine XS.i2b X47.here hx rfl (hb hby own_d2_83) rfl ?_
    show oS p e below T47 m 84 #[oa a0, oa a1, oi (1 : Int32), oi (1 : Int32), oi (3 : Int32), oi (3 : Int32), oi x2] [(.int (x1.toInt8.toInt32)), (.int (1 : Int32)), (.ref b13)] _
    refine st48 _ ?_
    show oS p e below T48 m 85 #[oa a0, oa a1, oi (1 : Int32), oi (1 : Int32), oi (3 : Int32), oi (3 : Int32), oi x2] [] _
    refine XS.iinc X48.here hx rfl (hb hby own_d2_85) rfl (l' := #[oa a0, oa a1, oi (1 : Int32), oi (2 : Int32), oi (3 : Int32), oi (3 : Int32), oi x2]) rfl ?_
    show oS p e below T48 m 88 #[oa a0, oa a1, oi (1 : Int32), oi (2 : Int32), oi (3 : Int32), oi (3 : Int32), oi x2] [] _
    refine XS.goto X48.here hx rfl (pc0 := 88) (pc' := 69) rfl (hb hby own_d2_88) (by decide) (by decide) ?_
    show oS p e below T48 m 69 #[oa a0, oa a1, oi (1 : Int32), oi (2 : Int32), oi (3 : Int32), oi (3 : Int32), oi x2] [] _
    refine XS.iloadN X48.here hx rfl (hb hby own_d2_69) rfl ?_
    show oS p e below T48 m 70 #[oa a0, oa a1, oi (1 : Int32), oi (2 : Int32), oi (3 : Int32), oi (3 : Int32), oi x2] [(.int (2 : Int32))] _
    refine XS.aloadN X48.here hx rfl (hb hby own_d2_70) rfl rfl ?_
    show oS p e below T48 m 71 #[oa a0, oa a1, oi (1 : Int32), oi (2 : Int32), oi (3 : Int32), oi (3 : Int32), oi x2] [(.ref a1), (.int (2 : Int32))] _
    refine oLen X48 hx hZ e48 F53 (hb hby own_d2_71) ?_
    show oS p e below T48 m 72 #[oa a0, oa a1, oi (1 : Int32), oi (2 : Int32), oi (3 : Int32), oi (3 : Int32), oi x2] [(.int (3 : Int32)), (.int (2 : Int32))] _
    refine XS.icmpNo X48.here hx rfl (hb hby own_d2_72) rfl (tlt b58).2.1 ?_
    show oS p e below T48 m 75 #[oa a0, oa a1, oi (1 : Int32), oi (2 : Int32), oi (3 : Int32), oi (3 : Int32), oi x2] [] _
    refine XS.aloadN X48.here hx rfl (hb hby own_d2_75) rfl rfl ?_
    show oS p e below T48 m 76 #[oa a0, oa a1, oi (1 : Int32), oi (2 : Int32), oi (3 : Int32), oi (3 : Int32), oi x2] [(.ref a0)] _
    refine st59 _ ?_
    show oS p e below T59 m 79 #[oa a0, oa a1, oi (1 : Int32), oi (2 : Int32), oi (3 : Int32), oi (3 : Int32), oi x2] [(.ref b13)] _
    refine XS.iloadN X59.here hx rfl (hb hby own_d2_79) rfl ?_
    show oS p e below T59 m 80 #[oa a0, oa a1, oi (1 : Int32), oi (2 : Int32), oi (3 : Int32), oi (3 : Int32), oi x2] [(.int (2 : Int32)), (.ref b13)] _
    refine XS.aloadN X59.here hx rfl (hb hby own_d2_80) rfl rfl ?_
    show oS p e below T59 m 81 #[oa a0, oa a1, oi (1 : Int32), oi (2 : Int32), oi (3 : Int32), oi (3 : Int32), oi x2] [(.ref a1), (.int (2 : Int32)), (.ref b13)] _
    refine XS.iloadN X59.here hx rfl (hb hby own_d2_81) rfl ?_
    show oS p e below T59 m 82 #[oa a0, oa a1, oi (1 : Int32), oi (2 : Int32), oi (3 : Int32), oi (3 : Int32), oi x2] [(.int (2 : Int32)), (.ref a1), (.int (2 : Int32)), (.ref b13)] _
    refine oLdI X59 hx hZ e59 F53 (v := (.int x2)) ⟨by decide, by decide⟩ rfl (hb hby own_d2_82) ?_
    show oS p e below T59 m 83 #[oa a0, oa a1, oi (1 : Int32), oi (2 : Int32), oi (3 : Int32), oi (3 : Int32), oi x2] [(.int x2), (.int (2 : Int32)), (.ref b13)] _
    refine XS.i2b X59.here hx rfl (hb hby own_d2_83) rfl ?_
    show oS p e below T59 m 84 #[oa a0, oa a1, oi (1 : Int32), oi (2 : Int32), oi (3 : Int32), oi (3 : Int32), oi x2] [(.int (x2.toInt8.toInt32)), (.int (2 : Int32)), (.ref b13)] _
    refine st60 _ ?_
    show oS p e below T60 m 85 #[oa a0, oa a1, oi (1 : Int32), oi (2 : Int32), oi (3 : Int32), oi (3 : Int32), oi x2] [] _
    refine XS.iinc X60.here hx rfl (hb hby own_d2_85) rfl (l' := #[oa a0, oa a1, oi (1 : Int32), oi (3 : Int32), oi (3 : Int32), oi (3 : Int32), oi x2]) rfl ?_
    show oS p e below T60 m 88 #[oa a0, oa a1, oi (1 : Int32), oi (3 : Int32), oi (3 : Int32), oi (3 : Int32), oi x2] [] _
    refine XS.goto X60.here hx rfl (pc0 := 88) (pc' := 69) rfl (hb hby own_d2_88) (by decide) (by decide) ?_
    show oS p e below T60 m 69 #[oa a0, oa a1, oi (1 : Int32), oi (3 : Int32), oi (3 : Int32), oi (3 : Int32), oi x2] [] _
    refine XS.iloadN X60.here hx rfl (hb hby own_d2_69) rfl ?_
    show oS p e below T60 m 70 #[oa a0, oa a1, oi (1 : Int32), oi (3 : Int32), oi (3 : Int32), oi (3 : Int32), oi x2] [(.int (3 : Int32))] _
    refine XS.aloadN X60.here hx rfl (hb hby own_d2_70) rfl rfl ?_
    show oS p e below T60 m 71 #[oa a0, oa a1, oi (1 : Int32), oi (3 : Int32), oi (3 : Int32), oi (3 : Int32), oi x2] [(.ref a1), (.int (3 : Int32))] _
    refine oLen X60 hx hZ e60 F65 (hb hby own_d2_71) ?_
    show oS p e below T60 m 72 #[oa a0, oa a1, oi (1 : Int32), oi (3 : Int32), oi (3 : Int32), oi (3 : Int32), oi x2] [(.int (3 : Int32)), (.int (3 : Int32))] _
    refine XS.icmpYes X60.here hx rfl (pc0 := 72) (pc' := 91) rfl (hb hby own_d2_72) rfl (flt b70).2.1 (by decide) (by decide) ?_
    show oS p e below T60 m 91 #[oa a0, oa a1, oi (1 : Int32), oi (3 : Int32), oi (3 : Int32), oi (3 : Int32), oi x2] [] _
    refine XS.aloadN X60.here hx rfl (hb hby own_d2_91) rfl rfl ?_
    show oS p e below T60 m 92 #[oa a0, oa a1, oi (1 : Int32), oi (3 : Int32), oi (3 : Int32), oi (3 : Int32), oi x2] [(.ref a0)] _
    refine XS.aconstNull X60.here hx rfl (hb hby own_d2_92) ?_
    show oS p e below T60 m 93 #[oa a0, oa a1, oi (1 : Int32), oi (3 : Int32), oi (3 : Int32), oi (3 : Int32), oi x2] [.null, (.ref a0)] _
    refine st71 _ ?_
    show oS p e below T71 m 96 #[oa a0, oa a1, oi (1 : Int32), oi (3 : Int32), oi (3 : Int32), oi (3 : Int32), oi x2] [] _
    refine XS.goto X71.here hx rfl (pc0 := 96) (pc' := 115) rfl (hb hby own_d2_96) (by decide) (by decide) ?_
    show oS p e below T71 m 115 #[oa a0, oa a1, oi (1 : Int32), oi (3 : Int32), oi (3 : Int32), oi (3 : Int32), oi x2] [] _
    refine XS.aloadN X71.here hx rfl (hb hby own_d2_115) rfl rfl ?_
    show oS p e below T71 m 116 #[oa a0, oa a1, oi (1 : Int32), oi (3 : Int32), oi (3 : Int32), oi (3 : Int32), oi x2] [(.ref a0)] _
    refine XS.aloadN X71.here hx rfl (hb hby own_d2_116) rfl rfl ?_
    show oS p e below T71 m 117 #[oa a0, oa a1, oi (1 : Int32), oi (3 : Int32), oi (3 : Int32), oi (3 : Int32), oi x2] [(.ref a1), (.ref a0)] _
    refine st81 _ ?_
    show oS p e below T81 m 120 #[oa a0, oa a1, oi (1 : Int32), oi (3 : Int32), oi (3 : Int32), oi (3 : Int32), oi x2] [(.int (own_f4_3 x0 x1 x2)), (.ref a0)] _
    refine st82 _ ?_
    show oS p e below T82 m 123 #[oa a0, oa a1, oi (1 : Int32), oi (3 : Int32), oi (3 : Int32), oi (3 : Int32), oi x2] [] _
    exact X82.returnOut hx Bd.returns (hb hby own_d2_123) hr
  · show own_Q2b3 Z a0 a1 k_a1 x0 x1 x2 h0 n0 _ T82.heap _
    rw [e82]
    exact ⟨b13, k13, rfl, N82, K_91, sz_b13, F83, F84, F85, F88⟩
theorem own_d2_46 : decode prog_9_method_1_code 46 = .ok (.iconst 0, 1) := by decide +kernel
theorem own_d2_99 : decode prog_9_method_1_code 99 = .ok (.aload_n 0, 1) := by decide +kernel
theorem own_d2_100 : decode prog_9_method_1_code 100 = .ok (.aconst_null, 1) := by decide +kernel
theorem own_d2_101 : decode prog_9_method_1_code 101 = .ok (.putfield 9, 3) := by decide +kernel
theorem own_d2_104 : decode prog_9_method_1_code 104 = .ok (.aload_n 0, 1) := by decide +kernel
theorem own_d2_105 : decode prog_9_method_1_code 105 = .ok (.aload_n 1, 1) := by decide +kernel
theorem own_d2_106 : decode prog_9_method_1_code 106 = .ok (.invokevirtual 17, 3) := by decide +kernel
theorem own_d2_109 : decode prog_9_method_1_code 109 = .ok (.checkcast 18, 3) := by decide +kernel
theorem own_d2_112 : decode prog_9_method_1_code 112 = .ok (.putfield 13, 3) := by decide +kernel
theorem own_ef2i3 (m : MethodId) (a0 : Addr) (a1 : Addr) : entryFrame m #[(.ref a0), (.ref a1)] 7 = mkF m 0 #[oa a0, oa a1, .unset, .unset, .unset, .unset, .unset] [] := by first | (simp [entryFrame, mkF, argsToLocals, Value.category]; done) | rfl
def own_Q2i3 (Z : State) (a0 : Addr) (a1 : Addr) (k_a1 : ClassId) (x0 : Int32) (x1 : Int32) (x2 : Int32) (h0 : Heap) (n0 : Nat) (v : Option Value) (h : Heap) (L : List Loc) : Prop := ∃ (b : Addr) (k_b : ClassId), v = none ∧ Fr n0 L ∧ Keep h0 h [a0] ∧ h0.size ≤ b ∧ Exa Z h a0 "com/example/penstock/penstock/Design" ∧ Fld Z h a0 "com/example/penstock/penstock/Design" "byteIndices" "[B" .null ∧ Fld Z h a0 "com/example/penstock/penstock/Design" "intIndices" "[I" (.ref b) ∧ Exa Z h b "[I" ∧ Arv Z h b k_b .int (3 : Int32) [(.int x0), (.int x1), (.int x2)] (.int (0 : Int32))
set_option maxRecDepth 65536 in
set_option maxHeartbeats 40000000 in
theorem own_rm2i3 (l : Launch) (Z : State) (av : Array Value) (hw : ∀ d ∈ tables_1, d.before av Z = true) (ws : List Jvm.Cond) (a0 : Addr) (a1 : Addr) (k_a1 : ClassId) (x0 : Int32) (x1 : Int32) (x2 : Int32) (h0 : Heap) (n0 : Nat) (Z0 : n0 ≤ h0.size) (E_a0 : Exa Z h0 a0 "com/example/penstock/penstock/Design") (F_byteIndices_a0 : Fld Z h0 a0 "com/example/penstock/penstock/Design" "byteIndices" "[B" .null) (F_intIndices_a0 : Fld Z h0 a0 "com/example/penstock/penstock/Design" "intIndices" "[I" .null) (F_hash_a0 : Fld Z h0 a0 "com/example/penstock/penstock/Design" "hash" "I" (.int (0 : Int32))) (g_a0 : n0 ≤ a0) (V_a1 : Arv Z h0 a1 k_a1 .int (3 : Int32) [(.int x0), (.int x1), (.int x2)] (.int (0 : Int32))) (E_a1 : Exa Z h0 a1 "[I") (n10 : a1 ≠ a0) (hbad : ((((1 : Int32) &&& own_g x0) &&& own_g x1) &&& own_g x2) = (0 : Int32)) :
    MetFree l (⟨"com/example/penstock/penstock/Design", "<init>", "([I)V"⟩ : MethodName) (head1 (Jvm.Cond.code (⟨"com/example/penstock/penstock/Design", "<init>", "([I)V"⟩ : MethodName) prog_9_method_1_code 7 none :: ws) ({ frames := 3, cells := 1, slots := 3, locals := 46 } : Room)) (fun a U => a = #[(.ref a0), (.ref a1)] ∧ Z.Warmed39 U.vm ∧ U.heap = h0) (fun _ _ _ _ _ => True) (fun _ U o U' => ∃ v L, o = .returned v ∧ own_Q2i3 Z a0 a1 k_a1 x0 x1 x2 h0 n0 v U'.heap L ∧ FrameEnd U o U' L ({ frames := 3, cells := 1, slots := 3, locals := 46 } : Room).cells ({ frames := 3, cells := 1, slots := 3, locals := 46 } : Room).slots) := by
  refine MetFree.of_bodySF (plainFor_of_name own_pn2) hisR ?_
  intro p e s m args below meth c s₁ Bd hml0 hP hK
  obtain ⟨rfl, hZ, hh⟩ := hP
  have hx := Bd.exec
  have hby := Bd.bytes
  have hml : c.maxLocals = 7 := hml0
  have hown : s.vm.findClass "com/example/penstock/penstock/Design" = some m.cls := findClass_of_methodNamed Bd.named
  have hnm := (name_of_methodNamed Bd.named Bd.method).1
  have X0 : Stand p l e ({ frames := 3, cells := 1, slots := 3, locals := 46 } : Room) s m #[(.ref a0), (.ref a1)] below meth c s₁ [] 0 0 := Stand.of_body Bd
  have e0 : s₁.heap = h0 := by rw [← hh, Bd.state]; rfl
  have N0 := Fr.nil n0
  have pre0 : ∀ t, Steps p.tables e below (s₁.setTop (mkF m 0 #[oa a0, oa a1, .unset, .unset, .unset, .unset, .unset] [])) t → Steps p.tables e below (s₁.setTop (entryFrame m #[(.ref a0), (.ref a1)] 7)) t := fun t k => castTop (own_ef2i3 m a0 a1) k
  obtain ⟨T1, X1, e1, st1⟩ := initO X0 hx hZ hown (hw _ (List.mem_of_getElem? (i := 11) rfl)) (hw _ (List.mem_of_getElem? (i := 12) rfl)) (hw _ (List.mem_of_getElem? (i := 13) rfl)) e0 (g := (mkF m 1 #[oa a0, oa a1, .unset, .unset, .unset, .unset, .unset] [(.ref a0)])) rfl (by rw [hml]; rfl) rfl (hb hby own_d2_1) (by decide) (W := 0) (by show 2 * 0 + _ ≤ _; exact Nat.le_of_eq rfl) (by decide)
  have b2 : (0 : Int32) < (3 : Int32) := (by decide)
  have pre3 : ∀ t, Steps p.tables e below (T1.setTop (mkF m 31 #[oa a0, oa a1, oi (1 : Int32), oa a1, oi (3 : Int32), oi (0 : Int32), oi x0] [(.int x0), (.int (1 : Int32))])) t → Steps p.tables e below (s₁.setTop (entryFrame m #[(.ref a0), (.ref a1)] 7)) t := by
    intro t k
    refine pre0 t ?_
    show oS p e below s₁ m 0 #[oa a0, oa a1, .unset, .unset, .unset, .unset, .unset] [] _
    refine XS.aloadN X0.here hx rfl (hb hby own_d2_0) rfl rfl ?_
    show oS p e below s₁ m 1 #[oa a0, oa a1, .unset, .unset, .unset, .unset, .unset] [(.ref a0)] _
    refine st1 _ ?_
    show oS p e below T1 m 4 #[oa a0, oa a1, .unset, .unset, .unset, .unset, .unset] [] _
    refine XS.iconst X1.here hx rfl (hb hby own_d2_4) ?_
    show oS p e below T1 m 5 #[oa a0, oa a1, .unset, .unset, .unset, .unset, .unset] [(.int (1 : Int32))] _
    refine XS.istoreN X1.here hx rfl (hb hby own_d2_5) rfl (l' := #[oa a0, oa a1, oi (1 : Int32), .unset, .unset, .unset, .unset]) rfl ?_
    show oS p e below T1 m 6 #[oa a0, oa a1, oi (1 : Int32), .unset, .unset, .unset, .unset] [] _
    refine XS.aloadN X1.here hx rfl (hb hby own_d2_6) rfl rfl ?_
    show oS p e below T1 m 7 #[oa a0, oa a1, oi (1 : Int32), .unset, .unset, .unset, .unset] [(.ref a1)] _
    refine XS.astoreN X1.here hx rfl (hb hby own_d2_7) rfl rfl (l' := #[oa a0, oa a1, oi (1 : Int32), oa a1, .unset, .unset, .unset]) rfl ?_
    show oS p e below T1 m 8 #[oa a0, oa a1, oi (1 : Int32), oa a1, .unset, .unset, .unset] [] _
    refine XS.aloadN X1.here hx rfl (hb hby own_d2_8) rfl rfl ?_
    show oS p e below T1 m 9 #[oa a0, oa a1, oi (1 : Int32), oa a1, .unset, .unset, .unset] [(.ref a1)] _
    refine oLen X1 hx hZ e1 V_a1 (hb hby own_d2_9) ?_
    show oS p e below T1 m 10 #[oa a0, oa a1, oi (1 : Int32), oa a1, .unset, .unset, .unset] [(.int (3 : Int32))] _
    refine XS.istore X1.here hx rfl (hb hby own_d2_10) rfl (l' := #[oa a0, oa a1, oi (1 : Int32), oa a1, oi (3 : Int32), .unset, .unset]) rfl ?_
    show oS p e below T1 m 12 #[oa a0, oa a1, oi (1 : Int32), oa a1, oi (3 : Int32), .unset, .unset] [] _
    refine XS.iconst X1.here hx rfl (hb hby own_d2_12) ?_
    show oS p e below T1 m 13 #[oa a0, oa a1, oi (1 : Int32), oa a1, oi (3 : Int32), .unset, .unset] [(.int (0 : Int32))] _
    refine XS.istore X1.here hx rfl (hb hby own_d2_13) rfl (l' := #[oa a0, oa a1, oi (1 : Int32), oa a1, oi (3 : Int32), oi (0 : Int32), .unset]) rfl ?_
    show oS p e below T1 m 15 #[oa a0, oa a1, oi (1 : Int32), oa a1, oi (3 : Int32), oi (0 : Int32), .unset] [] _
    refine XS.iload X1.here hx rfl (hb hby own_d2_15) rfl ?_
    show oS p e below T1 m 17 #[oa a0, oa a1, oi (1 : Int32), oa a1, oi (3 : Int32), oi (0 : Int32), .unset] [(.int (0 : Int32))] _
    refine XS.iload X1.here hx rfl (hb hby own_d2_17) rfl ?_
    show oS p e below T1 m 19 #[oa a0, oa a1, oi (1 : Int32), oa a1, oi (3 : Int32), oi (0 : Int32), .unset] [(.int (3 : Int32)), (.int (0 : Int32))] _
    refine XS.icmpNo X1.here hx rfl (hb hby own_d2_19) rfl (tlt b2).2.1 ?_
    show oS p e below T1 m 22 #[oa a0, oa a1, oi (1 : Int32), oa a1, oi (3 : Int32), oi (0 : Int32), .unset] [] _
    refine XS.aloadN X1.here hx rfl (hb hby own_d2_22) rfl rfl ?_
    show oS p e below T1 m 23 #[oa a0, oa a1, oi (1 : Int32), oa a1, oi (3 : Int32), oi (0 : Int32), .unset] [(.ref a1)] _
    refine XS.iload X1.here hx rfl (hb hby own_d2_23) rfl ?_
    show oS p e below T1 m 25 #[oa a0, oa a1, oi (1 : Int32), oa a1, oi (3 : Int32), oi (0 : Int32), .unset] [(.int (0 : Int32)), (.ref a1)] _
    refine oLdI X1 hx hZ e1 V_a1 (v := (.int x0)) ⟨by decide, by decide⟩ rfl (hb hby own_d2_25) ?_
    show oS p e below T1 m 26 #[oa a0, oa a1, oi (1 : Int32), oa a1, oi (3 : Int32), oi (0 : Int32), .unset] [(.int x0)] _
    refine XS.istore X1.here hx rfl (hb hby own_d2_26) rfl (l' := #[oa a0, oa a1, oi (1 : Int32), oa a1, oi (3 : Int32), oi (0 : Int32), oi x0]) rfl ?_
    show oS p e below T1 m 28 #[oa a0, oa a1, oi (1 : Int32), oa a1, oi (3 : Int32), oi (0 : Int32), oi x0] [] _
    refine XS.iloadN X1.here hx rfl (hb hby own_d2_28) rfl ?_
    show oS p e below T1 m 29 #[oa a0, oa a1, oi (1 : Int32), oa a1, oi (3 : Int32), oi (0 : Int32), oi x0] [(.int (1 : Int32))] _
    refine XS.iload X1.here hx rfl (hb hby own_d2_29) rfl ?_
    exact k
  obtain ⟨v6, hv6⟩ : ∃ z : Int32, z = (if x0 < (0 : Int32) then (0 : Int32) else (if (255 : Int32) < x0 then (0 : Int32) else (1 : Int32))) := ⟨_, rfl⟩
  have pre7 : ∀ t, Steps p.tables e below (T1.setTop (mkF m 47 #[oa a0, oa a1, oi (1 : Int32), oa a1, oi (3 : Int32), oi (0 : Int32), oi x0] [(.int v6), (.int (1 : Int32))])) t → Steps p.tables e below (s₁.setTop (entryFrame m #[(.ref a0), (.ref a1)] 7)) t := by
    intro t k
    by_cases c4 : x0 < (0 : Int32)
    · skip
      rw [show v6 = (0 : Int32) from hv6.trans (by rw [if_pos c4])] at k
      refine pre3 t ?_
      show oS p e below T1 m 31 #[oa a0, oa a1, oi (1 : Int32), oa a1, oi (3 : Int32), oi (0 : Int32), oi x0] [(.int x0), (.int (1 : Int32))] _
      refine XS.ifYes X1.here hx rfl (pc0 := 31) (pc' := 46) rfl (hb hby own_d2_31) rfl ((if0 _ _).trans (tlt c4).1) (by decide) (by decide) ?_
      show oS p e below T1 m 46 #[oa a0, oa a1, oi (1 : Int32), oa a1, oi (3 : Int32), oi (0 : Int32), oi x0] [(.int (1 : Int32))] _
      refine XS.iconst X1.here hx rfl (hb hby own_d2_46) ?_
      exact k
    · skip
      by_cases c5 : (255 : Int32) < x0
      · skip
        rw [show v6 = (0 : Int32) from hv6.trans (by rw [if_neg c4, if_pos c5])] at k
        refine pre3 t ?_
        show oS p e below T1 m 31 #[oa a0, oa a1, oi (1 : Int32), oa a1, oi (3 : Int32), oi (0 : Int32), oi x0] [(.int x0), (.int (1 : Int32))] _
        refine XS.ifNo X1.here hx rfl (hb hby own_d2_31) rfl ((if0 _ _).trans (flt c4).1) ?_
        show oS p e below T1 m 34 #[oa a0, oa a1, oi (1 : Int32), oa a1, oi (3 : Int32), oi (0 : Int32), oi x0] [(.int (1 : Int32))] _
        refine XS.iload X1.here hx rfl (hb hby own_d2_34) rfl ?_
        show oS p e below T1 m 36 #[oa a0, oa a1, oi (1 : Int32), oa a1, oi (3 : Int32), oi (0 : Int32), oi x0] [(.int x0), (.int (1 : Int32))] _
        refine XS.sipush X1.here hx rfl (hb hby own_d2_36) ?_
        show oS p e below T1 m 39 #[oa a0, oa a1, oi (1 : Int32), oa a1, oi (3 : Int32), oi (0 : Int32), oi x0] [(.int (255 : Int32)), (.int x0), (.int (1 : Int32))] _
        refine XS.icmpYes X1.here hx rfl (pc0 := 39) (pc' := 46) rfl (hb hby own_d2_39) rfl (tlt c5).2.2.1 (by decide) (by decide) ?_
        show oS p e below T1 m 46 #[oa a0, oa a1, oi (1 : Int32), oa a1, oi (3 : Int32), oi (0 : Int32), oi x0] [(.int (1 : Int32))] _
        refine XS.iconst X1.here hx rfl (hb hby own_d2_46) ?_
        exact k
      · skip
        rw [show v6 = (1 : Int32) from hv6.trans (by rw [if_neg c4, if_neg c5])] at k
        refine pre3 t ?_
        show oS p e below T1 m 31 #[oa a0, oa a1, oi (1 : Int32), oa a1, oi (3 : Int32), oi (0 : Int32), oi x0] [(.int x0), (.int (1 : Int32))] _
        refine XS.ifNo X1.here hx rfl (hb hby own_d2_31) rfl ((if0 _ _).trans (flt c4).1) ?_
        show oS p e below T1 m 34 #[oa a0, oa a1, oi (1 : Int32), oa a1, oi (3 : Int32), oi (0 : Int32), oi x0] [(.int (1 : Int32))] _
        refine XS.iload X1.here hx rfl (hb hby own_d2_34) rfl ?_
        show oS p e below T1 m 36 #[oa a0, oa a1, oi (1 : Int32), oa a1, oi (3 : Int32), oi (0 : Int32), oi x0] [(.int x0), (.int (1 : Int32))] _
        refine XS.sipush X1.here hx rfl (hb hby own_d2_36) ?_
        show oS p e below T1 m 39 #[oa a0, oa a1, oi (1 : Int32), oa a1, oi (3 : Int32), oi (0 : Int32), oi x0] [(.int (255 : Int32)), (.int x0), (.int (1 : Int32))] _
        refine XS.icmpNo X1.here hx rfl (hb hby own_d2_39) rfl (flt c5).2.2.1 ?_
        show oS p e below T1 m 42 #[oa a0, oa a1, oi (1 : Int32), oa a1, oi (3 : Int32), oi (0 : Int32), oi x0] [(.int (1 : Int32))] _
        refine XS.iconst X1.here hx rfl (hb hby own_d2_42) ?_
        show oS p e below T1 m 43 #[oa a0, oa a1, oi (1 : Int32), oa a1, oi (3 : Int32), oi (0 : Int32), oi x0] [(.int (1 : Int32)), (.int (1 : Int32))] _
        refine XS.goto X1.here hx rfl (pc0 := 43) (pc' := 47) rfl (hb hby own_d2_43) (by decide) (by decide) ?_
        exact k
  have b8 : (1 : Int32) < (3 : Int32) := (by decide)
  have pre9 : ∀ t, Steps p.tables e below (T1.setTop (mkF m 31 #[oa a0, oa a1, oi ((1 : Int32) &&& v6), oa a1, oi (3 : Int32), oi (1 : Int32), oi x1] [(.int x1), (.int ((1 : Int32) &&& v6))])) t → Steps p.tables e below (s₁.setTop (entryFrame m #[(.ref a0), (.ref a1)] 7)) t := by
    intro t k
    refine pre7 t ?_
    show oS p e below T1 m 47 #[oa a0, oa a1, oi (1 : Int32), oa a1, oi (3 : Int32), oi (0 : Int32), oi x0] [(.int v6), (.int (1 : Int32))] _
    refine XS.iand X1.here hx rfl (hb hby own_d2_47) rfl ?_
    show oS p e below T1 m 48 #[oa a0, oa a1, oi (1 : Int32), oa a1, oi (3 : Int32), oi (0 : Int32), oi x0] [(.int ((1 : Int32) &&& v6))] _
    refine XS.istoreN X1.here hx rfl (hb hby own_d2_48) rfl (l' := #[oa a0, oa a1, oi ((1 : Int32) &&& v6), oa a1, oi (3 : Int32), oi (0 : Int32), oi x0]) rfl ?_
    show oS p e below T1 m 49 #[oa a0, oa a1, oi ((1 : Int32) &&& v6), oa a1, oi (3 : Int32), oi (0 : Int32), oi x0] [] _
    refine XS.iinc X1.here hx rfl (hb hby own_d2_49) rfl (l' := #[oa a0, oa a1, oi ((1 : Int32) &&& v6), oa a1, oi (3 : Int32), oi (1 : Int32), oi x0]) rfl ?_
    show oS p e below T1 m 52 #[oa a0, oa a1, oi ((1 : Int32) &&& v6), oa a1, oi (3 : Int32), oi (1 : Int32), oi x0] [] _
    refine XS.goto X1.here hx rfl (pc0 := 52) (pc' := 15) rfl (hb hby own_d2_52) (by decide) (by decide) ?_
    show oS p e below T1 m 15 #[oa a0, oa a1, oi ((1 : Int32) &&& v6), oa a1, oi (3 : Int32), oi (1 : Int32), oi x0] [] _
    refine XS.iload X1.here hx rfl (hb hby own_d2_15) rfl ?_
    show oS p e below T1 m 17 #[oa a0, oa a1, oi ((1 : Int32) &&& v6), oa a1, oi (3 : Int32), oi (1 : Int32), oi x0] [(.int (1 : Int32))] _
    refine XS.iload X1.here hx rfl (hb hby own_d2_17) rfl ?_
    show oS p e below T1 m 19 #[oa a0, oa a1, oi ((1 : Int32) &&& v6), oa a1, oi (3 : Int32), oi (1 : Int32), oi x0] [(.int (3 : Int32)), (.int (1 : Int32))] _
    refine XS.icmpNo X1.here hx rfl (hb hby own_d2_19) rfl (tlt b8).2.1 ?_
    show oS p e below T1 m 22 #[oa a0, oa a1, oi ((1 : Int32) &&& v6), oa a1, oi (3 : Int32), oi (1 : Int32), oi x0] [] _
    refine XS.aloadN X1.here hx rfl (hb hby own_d2_22) rfl rfl ?_
    show oS p e below T1 m 23 #[oa a0, oa a1, oi ((1 : Int32) &&& v6), oa a1, oi (3 : Int32), oi (1 : Int32), oi x0] [(.ref a1)] _
    refine XS.iload X1.here hx rfl (hb hby own_d2_23) rfl ?_
    show oS p e below T1 m 25 #[oa a0, oa a1, oi ((1 : Int32) &&& v6), oa a1, oi (3 : Int32), oi (1 : Int32), oi x0] [(.int (1 : Int32)), (.ref a1)] _
    refine oLdI X1 hx hZ e1 V_a1 (v := (.int x1)) ⟨by decide, by decide⟩ rfl (hb hby own_d2_25) ?_
    show oS p e below T1 m 26 #[oa a0, oa a1, oi ((1 : Int32) &&& v6), oa a1, oi (3 : Int32), oi (1 : Int32), oi x0] [(.int x1)] _
    refine XS.istore X1.here hx rfl (hb hby own_d2_26) rfl (l' := #[oa a0, oa a1, oi ((1 : Int32) &&& v6), oa a1, oi (3 : Int32), oi (1 : Int32), oi x1]) rfl ?_
    show oS p e below T1 m 28 #[oa a0, oa a1, oi ((1 : Int32) &&& v6), oa a1, oi (3 : Int32), oi (1 : Int32), oi x1] [] _
    refine XS.iloadN X1.here hx rfl (hb hby own_d2_28) rfl ?_
    show oS p e below T1 m 29 #[oa a0, oa a1, oi ((1 : Int32) &&& v6), oa a1, oi (3 : Int32), oi (1 : Int32), oi x1] [(.int ((1 : Int32) &&& v6))] _
    refine XS.iload X1.here hx rfl (hb hby own_d2_29) rfl ?_
    exact k
  obtain ⟨v12, hv12⟩ : ∃ z : Int32, z = (if x1 < (0 : Int32) then (0 : Int32) else (if (255 : Int32) < x1 then (0 : Int32) else (1 : Int32))) := ⟨_, rfl⟩
  have pre13 : ∀ t, Steps p.tables e below (T1.setTop (mkF m 47 #[oa a0, oa a1, oi ((1 : Int32) &&& v6), oa a1, oi (3 : Int32), oi (1 : Int32), oi x1] [(.int v12), (.int ((1 : Int32) &&& v6))])) t → Steps p.tables e below (s₁.setTop (entryFrame m #[(.ref a0), (.ref a1)] 7)) t := by
    intro t k
    by_cases c10 : x1 < (0 : Int32)
    · skip
      rw [show v12 = (0 : Int32) from hv12.trans (by rw [if_pos c10])] at k
      refine pre9 t ?_
      show oS p e below T1 m 31 #[oa a0, oa a1, oi ((1 : Int32) &&& v6), oa a1, oi (3 : Int32), oi (1 : Int32), oi x1] [(.int x1), (.int ((1 : Int32) &&& v6))] _
      refine XS.ifYes X1.here hx rfl (pc0 := 31) (pc' := 46) rfl (hb hby own_d2_31) rfl ((if0 _ _).trans (tlt c10).1) (by decide) (by decide) ?_
      show oS p e below T1 m 46 #[oa a0, oa a1, oi ((1 : Int32) &&& v6), oa a1, oi (3 : Int32), oi (1 : Int32), oi x1] [(.int ((1 : Int32) &&& v6))] _
      refine XS.iconst X1.here hx rfl (hb hby own_d2_46) ?_
      exact k
    · skip
      by_cases c11 : (255 : Int32) < x1
      · skip
        rw [show v12 = (0 : Int32) from hv12.trans (by rw [if_neg c10, if_pos c11])] at k
        refine pre9 t ?_
        show oS p e below T1 m 31 #[oa a0, oa a1, oi ((1 : Int32) &&& v6), oa a1, oi (3 : Int32), oi (1 : Int32), oi x1] [(.int x1), (.int ((1 : Int32) &&& v6))] _
        refine XS.ifNo X1.here hx rfl (hb hby own_d2_31) rfl ((if0 _ _).trans (flt c10).1) ?_
        show oS p e below T1 m 34 #[oa a0, oa a1, oi ((1 : Int32) &&& v6), oa a1, oi (3 : Int32), oi (1 : Int32), oi x1] [(.int ((1 : Int32) &&& v6))] _
        refine XS.iload X1.here hx rfl (hb hby own_d2_34) rfl ?_
        show oS p e below T1 m 36 #[oa a0, oa a1, oi ((1 : Int32) &&& v6), oa a1, oi (3 : Int32), oi (1 : Int32), oi x1] [(.int x1), (.int ((1 : Int32) &&& v6))] _
        refine XS.sipush X1.here hx rfl (hb hby own_d2_36) ?_
        show oS p e below T1 m 39 #[oa a0, oa a1, oi ((1 : Int32) &&& v6), oa a1, oi (3 : Int32), oi (1 : Int32), oi x1] [(.int (255 : Int32)), (.int x1), (.int ((1 : Int32) &&& v6))] _
        refine XS.icmpYes X1.here hx rfl (pc0 := 39) (pc' := 46) rfl (hb hby own_d2_39) rfl (tlt c11).2.2.1 (by decide) (by decide) ?_
        show oS p e below T1 m 46 #[oa a0, oa a1, oi ((1 : Int32) &&& v6), oa a1, oi (3 : Int32), oi (1 : Int32), oi x1] [(.int ((1 : Int32) &&& v6))] _
        refine XS.iconst X1.here hx rfl (hb hby own_d2_46) ?_
        exact k
      · skip
        rw [show v12 = (1 : Int32) from hv12.trans (by rw [if_neg c10, if_neg c11])] at k
        refine pre9 t ?_
        show oS p e below T1 m 31 #[oa a0, oa a1, oi ((1 : Int32) &&& v6), oa a1, oi (3 : Int32), oi (1 : Int32), oi x1] [(.int x1), (.int ((1 : Int32) &&& v6))] _
        refine XS.ifNo X1.here hx rfl (hb hby own_d2_31) rfl ((if0 _ _).trans (flt c10).1) ?_
        show oS p e below T1 m 34 #[oa a0, oa a1, oi ((1 : Int32) &&& v6), oa a1, oi (3 : Int32), oi (1 : Int32), oi x1] [(.int ((1 : Int32) &&& v6))] _
        refine XS.iload X1.here hx rfl (hb hby own_d2_34) rfl ?_
        show oS p e below T1 m 36 #[oa a0, oa a1, oi ((1 : Int32) &&& v6), oa a1, oi (3 : Int32), oi (1 : Int32), oi x1] [(.int x1), (.int ((1 : Int32) &&& v6))] _
        refine XS.sipush X1.here hx rfl (hb hby own_d2_36) ?_
        show oS p e below T1 m 39 #[oa a0, oa a1, oi ((1 : Int32) &&& v6), oa a1, oi (3 : Int32), oi (1 : Int32), oi x1] [(.int (255 : Int32)), (.int x1), (.int ((1 : Int32) &&& v6))] _
        refine XS.icmpNo X1.here hx rfl (hb hby own_d2_39) rfl (flt c11).2.2.1 ?_
        show oS p e below T1 m 42 #[oa a0, oa a1, oi ((1 : Int32) &&& v6), oa a1, oi (3 : Int32), oi (1 : Int32), oi x1] [(.int ((1 : Int32) &&& v6))] _
        refine XS.iconst X1.here hx rfl (hb hby own_d2_42) ?_
        show oS p e below T1 m 43 #[oa a0, oa a1, oi ((1 : Int32) &&& v6), oa a1, oi (3 : Int32), oi (1 : Int32), oi x1] [(.int (1 : Int32)), (.int ((1 : Int32) &&& v6))] _
        refine XS.goto X1.here hx rfl (pc0 := 43) (pc' := 47) rfl (hb hby own_d2_43) (by decide) (by decide) ?_
        exact k
  have b14 : (2 : Int32) < (3 : Int32) := (by decide)
  have pre15 : ∀ t, Steps p.tables e below (T1.setTop (mkF m 31 #[oa a0, oa a1, oi (((1 : Int32) &&& v6) &&& v12), oa a1, oi (3 : Int32), oi (2 : Int32), oi x2] [(.int x2), (.int (((1 : Int32) &&& v6) &&& v12))])) t → Steps p.tables e below (s₁.setTop (entryFrame m #[(.ref a0), (.ref a1)] 7)) t := by
    intro t k
    refine pre13 t ?_
    show oS p e below T1 m 47 #[oa a0, oa a1, oi ((1 : Int32) &&& v6), oa a1, oi (3 : Int32), oi (1 : Int32), oi x1] [(.int v12), (.int ((1 : Int32) &&& v6))] _
    refine XS.iand X1.here hx rfl (hb hby own_d2_47) rfl ?_
    show oS p e below T1 m 48 #[oa a0, oa a1, oi ((1 : Int32) &&& v6), oa a1, oi (3 : Int32), oi (1 : Int32), oi x1] [(.int (((1 : Int32) &&& v6) &&& v12))] _
    refine XS.istoreN X1.here hx rfl (hb hby own_d2_48) rfl (l' := #[oa a0, oa a1, oi (((1 : Int32) &&& v6) &&& v12), oa a1, oi (3 : Int32), oi (1 : Int32), oi x1]) rfl ?_
    show oS p e below T1 m 49 #[oa a0, oa a1, oi (((1 : Int32) &&& v6) &&& v12), oa a1, oi (3 : Int32), oi (1 : Int32), oi x1] [] _
    refine XS.iinc X1.here hx rfl (hb hby own_d2_49) rfl (l' := #[oa a0, oa a1, oi (((1 : Int32) &&& v6) &&& v12), oa a1, oi (3 : Int32), oi (2 : Int32), oi x1]) rfl ?_
    show oS p e below T1 m 52 #[oa a0, oa a1, oi (((1 : Int32) &&& v6) &&& v12), oa a1, oi (3 : Int32), oi (2 : Int32), oi x1] [] _
    refine XS.goto X1.here hx rfl (pc0 := 52) (pc' := 15) rfl (hb hby own_d2_52) (by decide) (by decide) ?_
    show oS p e below T1 m 15 #[oa a0, oa a1, oi (((1 : Int32) &&& v6) &&& v12), oa a1, oi (3 : Int32), oi (2 : Int32), oi x1] [] _
    refine XS.iload X1.here hx rfl (hb hby own_d2_15) rfl ?_
    show oS p e below T1 m 17 #[oa a0, oa a1, oi (((1 : Int32) &&& v6) &&& v12), oa a1, oi (3 : Int32), oi (2 : Int32), oi x1] [(.int (2 : Int32))] _
    refine XS.iload X1.here hx rfl (hb hby own_d2_17) rfl ?_
    show oS p e below T1 m 19 #[oa a0, oa a1, oi (((1 : Int32) &&& v6) &&& v12), oa a1, oi (3 : Int32), oi (2 : Int32), oi x1] [(.int (3 : Int32)), (.int (2 : Int32))] _
    refine XS.icmpNo X1.here hx rfl (hb hby own_d2_19) rfl (tlt b14).2.1 ?_
    show oS p e below T1 m 22 #[oa a0, oa a1, oi (((1 : Int32) &&& v6) &&& v12), oa a1, oi (3 : Int32), oi (2 : Int32), oi x1] [] _
    refine XS.aloadN X1.here hx rfl (hb hby own_d2_22) rfl rfl ?_
    show oS p e below T1 m 23 #[oa a0, oa a1, oi (((1 : Int32) &&& v6) &&& v12), oa a1, oi (3 : Int32), oi (2 : Int32), oi x1] [(.ref a1)] _
    refine XS.iload X1.here hx rfl (hb hby own_d2_23) rfl ?_
    show oS p e below T1 m 25 #[oa a0, oa a1, oi (((1 : Int32) &&& v6) &&& v12), oa a1, oi (3 : Int32), oi (2 : Int32), oi x1] [(.int (2 : Int32)), (.ref a1)] _
    refine oLdI X1 hx hZ e1 V_a1 (v := (.int x2)) ⟨by decide, by decide⟩ rfl (hb hby own_d2_25) ?_
    show oS p e below T1 m 26 #[oa a0, oa a1, oi (((1 : Int32) &&& v6) &&& v12), oa a1, oi (3 : Int32), oi (2 : Int32), oi x1] [(.int x2)] _
    refine XS.istore X1.here hx rfl (hb hby own_d2_26) rfl (l' := #[oa a0, oa a1, oi (((1 : Int32) &&& v6) &&& v12), oa a1, oi (3 : Int32), oi (2 : Int32), oi x2]) rfl ?_
    show oS p e below T1 m 28 #[oa a0, oa a1, oi (((1 : Int32) &&& v6) &&& v12), oa a1, oi (3 : Int32), oi (2 : Int32), oi x2] [] _
    refine XS.iloadN X1.here hx rfl (hb hby own_d2_28) rfl ?_
    show oS p e below T1 m 29 #[oa a0, oa a1, oi (((1 : Int32) &&& v6) &&& v12), oa a1, oi (3 : Int32), oi (2 : Int32), oi x2] [(.int (((1 : Int32) &&& v6) &&& v12))] _
    refine XS.iload X1.here hx rfl (hb hby own_d2_29) rfl ?_
    exact k
  obtain ⟨v18, hv18⟩ : ∃ z : Int32, z = (if x2 < (0 : Int32) then (0 : Int32) else (if (255 : Int32) < x2 then (0 : Int32) else (1 : Int32))) := ⟨_, rfl⟩
  have pre19 : ∀ t, Steps p.tables e below (T1.setTop (mkF m 47 #[oa a0, oa a1, oi (((1 : Int32) &&& v6) &&& v12), oa a1, oi (3 : Int32), oi (2 : Int32), oi x2] [(.int v18), (.int (((1 : Int32) &&& v6) &&& v12))])) t → Steps p.tables e below (s₁.setTop (entryFrame m #[(.ref a0), (.ref a1)] 7)) t := by
    intro t k
    by_cases c16 : x2 < (0 : Int32)
    · skip
      rw [show v18 = (0 : Int32) from hv18.trans (by rw [if_pos c16])] at k
      refine pre15 t ?_
      show oS p e below T1 m 31 #[oa a0, oa a1, oi (((1 : Int32) &&& v6) &&& v12), oa a1, oi (3 : Int32), oi (2 : Int32), oi x2] [(.int x2), (.int (((1 : Int32) &&& v6) &&& v12))] _
      refine XS.ifYes X1.here hx rfl (pc0 := 31) (pc' := 46) rfl (hb hby own_d2_31) rfl ((if0 _ _).trans (tlt c16).1) (by decide) (by decide) ?_
      show oS p e below T1 m 46 #[oa a0, oa a1, oi (((1 : Int32) &&& v6) &&& v12), oa a1, oi (3 : Int32), oi (2 : Int32), oi x2] [(.int (((1 : Int32) &&& v6) &&& v12))] _
      refine XS.iconst X1.here hx rfl (hb hby own_d2_46) ?_
      exact k
    · skip
      by_cases c17 : (255 : Int32) < x2
      · skip
        rw [show v18 = (0 : Int32) from hv18.trans (by rw [if_neg c16, if_pos c17])] at k
        refine pre15 t ?_
        show oS p e below T1 m 31 #[oa a0, oa a1, oi (((1 : Int32) &&& v6) &&& v12), oa a1, oi (3 : Int32), oi (2 : Int32), oi x2] [(.int x2), (.int (((1 : Int32) &&& v6) &&& v12))] _
        refine XS.ifNo X1.here hx rfl (hb hby own_d2_31) rfl ((if0 _ _).trans (flt c16).1) ?_
        show oS p e below T1 m 34 #[oa a0, oa a1, oi (((1 : Int32) &&& v6) &&& v12), oa a1, oi (3 : Int32), oi (2 : Int32), oi x2] [(.int (((1 : Int32) &&& v6) &&& v12))] _
        refine XS.iload X1.here hx rfl (hb hby own_d2_34) rfl ?_
        show oS p e below T1 m 36 #[oa a0, oa a1, oi (((1 : Int32) &&& v6) &&& v12), oa a1, oi (3 : Int32), oi (2 : Int32), oi x2] [(.int x2), (.int (((1 : Int32) &&& v6) &&& v12))] _
        refine XS.sipush X1.here hx rfl (hb hby own_d2_36) ?_
        show oS p e below T1 m 39 #[oa a0, oa a1, oi (((1 : Int32) &&& v6) &&& v12), oa a1, oi (3 : Int32), oi (2 : Int32), oi x2] [(.int (255 : Int32)), (.int x2), (.int (((1 : Int32) &&& v6) &&& v12))] _
        refine XS.icmpYes X1.here hx rfl (pc0 := 39) (pc' := 46) rfl (hb hby own_d2_39) rfl (tlt c17).2.2.1 (by decide) (by decide) ?_
        show oS p e below T1 m 46 #[oa a0, oa a1, oi (((1 : Int32) &&& v6) &&& v12), oa a1, oi (3 : Int32), oi (2 : Int32), oi x2] [(.int (((1 : Int32) &&& v6) &&& v12))] _
        refine XS.iconst X1.here hx rfl (hb hby own_d2_46) ?_
        exact k
      · skip
        rw [show v18 = (1 : Int32) from hv18.trans (by rw [if_neg c16, if_neg c17])] at k
        refine pre15 t ?_
        show oS p e below T1 m 31 #[oa a0, oa a1, oi (((1 : Int32) &&& v6) &&& v12), oa a1, oi (3 : Int32), oi (2 : Int32), oi x2] [(.int x2), (.int (((1 : Int32) &&& v6) &&& v12))] _
        refine XS.ifNo X1.here hx rfl (hb hby own_d2_31) rfl ((if0 _ _).trans (flt c16).1) ?_
        show oS p e below T1 m 34 #[oa a0, oa a1, oi (((1 : Int32) &&& v6) &&& v12), oa a1, oi (3 : Int32), oi (2 : Int32), oi x2] [(.int (((1 : Int32) &&& v6) &&& v12))] _
        refine XS.iload X1.here hx rfl (hb hby own_d2_34) rfl ?_
        show oS p e below T1 m 36 #[oa a0, oa a1, oi (((1 : Int32) &&& v6) &&& v12), oa a1, oi (3 : Int32), oi (2 : Int32), oi x2] [(.int x2), (.int (((1 : Int32) &&& v6) &&& v12))] _
        refine XS.sipush X1.here hx rfl (hb hby own_d2_36) ?_
        show oS p e below T1 m 39 #[oa a0, oa a1, oi (((1 : Int32) &&& v6) &&& v12), oa a1, oi (3 : Int32), oi (2 : Int32), oi x2] [(.int (255 : Int32)), (.int x2), (.int (((1 : Int32) &&& v6) &&& v12))] _
        refine XS.icmpNo X1.here hx rfl (hb hby own_d2_39) rfl (flt c17).2.2.1 ?_
        show oS p e below T1 m 42 #[oa a0, oa a1, oi (((1 : Int32) &&& v6) &&& v12), oa a1, oi (3 : Int32), oi (2 : Int32), oi x2] [(.int (((1 : Int32) &&& v6) &&& v12))] _
        refine XS.iconst X1.here hx rfl (hb hby own_d2_42) ?_
        show oS p e below T1 m 43 #[oa a0, oa a1, oi (((1 : Int32) &&& v6) &&& v12), oa a1, oi (3 : Int32), oi (2 : Int32), oi x2] [(.int (1 : Int32)), (.int (((1 : Int32) &&& v6) &&& v12))] _
        refine XS.goto X1.here hx rfl (pc0 := 43) (pc' := 47) rfl (hb hby own_d2_43) (by decide) (by decide) ?_
        exact k
  have b20 : ¬ ((3 : Int32) < (3 : Int32)) := (by decide)
  have b21 : ((((1 : Int32) &&& v6) &&& v12) &&& v18) = (0 : Int32) := by rw [hv6, hv12, hv18]; exact hbad
  obtain ⟨T22, h22, X22, e22, W22, st22⟩ := putF X1 hx hZ hown (host := "") (Or.inl (hw _ (List.mem_of_getElem? (i := 15) rfl))) Via.refl e1 F_byteIndices_a0 E_a0 (Or.inr ⟨(hw _ (List.mem_of_getElem? (i := 16) rfl)), rfl, hnm⟩) (hw _ (List.mem_of_getElem? (i := 6) rfl)) (ty := (.array .byte)) (by decide) rfl rfl (g := (mkF m 101 #[oa a0, oa a1, oi ((((1 : Int32) &&& v6) &&& v12) &&& v18), oa a1, oi (3 : Int32), oi (3 : Int32), oi x2] [.null, (.ref a0)])) rfl rfl (hb hby own_d2_101)
  obtain ⟨Lo22, X22, N22⟩ := oOpq X22 (Fr.snoc X22 N0 g_a0)
  have Z22 : n0 ≤ h22.size := Nat.le_trans Z0 (Keep.of_wr W22).1
  have F23 := E_a0.wr W22
  have F24 := F_intIndices_a0.other W22 (Or.inr (slot_ne (Or.inr (hw _ (List.mem_of_getElem? (i := 18) rfl))) (Or.inr (hw _ (List.mem_of_getElem? (i := 16) rfl))) (by decide) (t := (.array .int)) (t' := (.array .byte)) (by decide) (by decide)))
  have F25 := F_hash_a0.other W22 (Or.inr (slot_ne (Or.inr (hw _ (List.mem_of_getElem? (i := 33) rfl))) (Or.inr (hw _ (List.mem_of_getElem? (i := 16) rfl))) (by decide) (t := .int) (t' := (.array .byte)) (by decide) (by decide)))
  have F26 := V_a1.other W22 n10
  have F27 := E_a1.wr W22
  have F_28 : Fld Z h22 a0 "com/example/penstock/penstock/Design" "byteIndices" "[B" .null := F_byteIndices_a0.same W22
  have K_29 : Keep h0 h22 [a0] := (Keep.refl h0 [a0]).wr W22 (Or.inl (List.mem_of_getElem? (i := 0) rfl))
  obtain ⟨T30, h30, X30, e30, E30, A30, B30, st30⟩ := cloneH X22 hx hZ hown (hw _ (List.mem_of_getElem? (i := 39) rfl)) (hw _ (List.mem_of_getElem? (i := 40) rfl)) (hw _ (List.mem_of_getElem? (i := 44) rfl)) (hw _ (List.mem_of_getElem? (i := 42) rfl)) (hw _ (List.mem_of_getElem? (i := 43) rfl)) (hw _ (List.mem_of_getElem? (i := 45) rfl)) e22 (Arv.arh F26) F27 (g := (mkF m 106 #[oa a0, oa a1, oi ((((1 : Int32) &&& v6) &&& v12) &&& v18), oa a1, oi (3 : Int32), oi (3 : Int32), oi x2] [(.ref a1), (.ref a0)])) rfl (by rw [hml]; rfl) rfl (hb hby own_d2_106) (by decide) (W := 1) (by show 2 * 0 + _ ≤ _; exact Nat.le_of_eq rfl) (by decide) (cap := 3) (by decide) (by decide) (by decide)
  obtain ⟨b30, g30⟩ : ∃ z, z = h22.size := ⟨_, rfl⟩
  rw [← g30] at A30 B30 st30
  have g_b30 : n0 ≤ b30 := Nat.le_trans Z22 (Nat.le_of_eq g30.symm)
  have ne31 : a0 ≠ b30 := Nat.ne_of_lt (Nat.lt_of_lt_of_le F23.lt (Nat.le_of_eq g30.symm))
  have ne32 : a1 ≠ b30 := Nat.ne_of_lt (Nat.lt_of_lt_of_le F26.lt (Nat.le_of_eq g30.symm))
  have Z30 : n0 ≤ h30.size := Nat.le_trans Z22 E30.1
  have sz_b30 : h0.size ≤ b30 := Nat.le_trans K_29.1 (Nat.le_of_eq g30.symm)
  have K_33 : Keep h0 h30 [a0] := K_29.ext E30
  have F34 := F23.ext E30
  have F35 := F_28.ext E30
  have F36 := F24.ext E30
  have F37 := F25.ext E30
  have F38 := F26.ext E30
  have F39 := F27.ext E30
  have V_40 : Arv Z h30 b30 k_a1 .int (3 : Int32) [(.int x0), (.int x1), (.int x2)] (.int (0 : Int32)) := A30
  obtain ⟨T41, X41, e41, st41⟩ := castY X30 hx hZ hown (hw _ (List.mem_of_getElem? (i := 46) rfl)) e30 (Ins.self B30) (g := (mkF m 109 #[oa a0, oa a1, oi ((((1 : Int32) &&& v6) &&& v12) &&& v18), oa a1, oi (3 : Int32), oi (3 : Int32), oi x2] [(.ref b30), (.ref a0)])) rfl rfl (hb hby own_d2_109)
  obtain ⟨T42, h42, X42, e42, W42, st42⟩ := putF X41 hx hZ hown (host := "") (Or.inl (hw _ (List.mem_of_getElem? (i := 17) rfl))) Via.refl e41 F36 F34 (Or.inr ⟨(hw _ (List.mem_of_getElem? (i := 18) rfl)), rfl, hnm⟩) (hw _ (List.mem_of_getElem? (i := 6) rfl)) (ty := (.array .int)) (by decide) rfl rfl (g := (mkF m 112 #[oa a0, oa a1, oi ((((1 : Int32) &&& v6) &&& v12) &&& v18), oa a1, oi (3 : Int32), oi (3 : Int32), oi x2] [(.ref b30), (.ref a0)])) rfl rfl (hb hby own_d2_112)
  obtain ⟨Lo42, X42, N42⟩ := oOpq X42 (Fr.snoc X42 N22 g_a0)
  have Z42 : n0 ≤ h42.size := Nat.le_trans Z30 (Keep.of_wr W42).1
  have F43 := F34.wr W42
  have F44 := F35.other W42 (Or.inr (slot_ne (Or.inr (hw _ (List.mem_of_getElem? (i := 16) rfl))) (Or.inr (hw _ (List.mem_of_getElem? (i := 18) rfl))) (by decide) (t := (.array .byte)) (t' := (.array .int)) (by decide) (by decide)))
  have F45 := F37.other W42 (Or.inr (slot_ne (Or.inr (hw _ (List.mem_of_getElem? (i := 33) rfl))) (Or.inr (hw _ (List.mem_of_getElem? (i := 18) rfl))) (by decide) (t := .int) (t' := (.array .int)) (by decide) (by decide)))
  have F46 := F38.other W42 n10
  have F47 := F39.wr W42
  have F48 := V_40.other W42 (Ne.symm ne31)
  have F49 := B30.wr W42
  have F_50 : Fld Z h42 a0 "com/example/penstock/penstock/Design" "intIndices" "[I" (.ref b30) := F36.same W42
  have K_51 : Keep h0 h42 [a0] := K_33.wr W42 (Or.inl (List.mem_of_getElem? (i := 0) rfl))
  obtain ⟨_, _, ⟨T52, L52, k52, n52⟩, -, X52, ⟨Lc52, hQ52, l52, y52, z52⟩, st52⟩ := Jvm.LawKit.callS X42 hx (y := (⟨"java/util/Arrays", "hashCode", "([I)I"⟩ : MethodName)) hown (mvT hZ (hw _ (List.mem_of_getElem? (i := 19) rfl))) (mvT hZ (hw _ (List.mem_of_getElem? (i := 20) rfl))) (mvT hZ (hw _ (List.mem_of_getElem? (i := 21) rfl))) (mvT hZ (hw _ (List.mem_of_getElem? (i := 22) rfl))) (by decide) (backOf (W := 1) (own_rm4_3 l Z av hw [] a1 k_a1 x0 x1 x2 h42 n0 Z42 F46 F47) hZ (hw _ (List.mem_of_getElem? (i := 22) rfl)) (hw _ (List.mem_of_getElem? (i := 21) rfl)) (by decide) (by decide)) (g := (mkF m 117 #[oa a0, oa a1, oi ((((1 : Int32) &&& v6) &&& v12) &&& v18), oa a1, oi (3 : Int32), oi (3 : Int32), oi x2] [(.ref a1), (.ref a0)])) rfl (by rw [hml]; rfl) (argsL := [(.ref a1)]) (rest := [(.ref a0)]) (lenOf own_pd2 rfl) rfl (by show 2 * 0 + _ ≤ _; exact Nat.le_of_eq rfl) (hb hby own_d2_117) (fun _ _ => ⟨rfl, e42, (by decide : 1 + 0 ≤ _), (by decide : 3 + 0 ≤ _)⟩)
  dsimp only [Pt.U, Pt.locs, Pt.cells, Pt.slots] at X52 l52 y52 z52 st52 hQ52
  have yq52 : k52 = 1 := y52
  have zq52 : n52 = 3 := z52
  subst yq52 zq52
  obtain ⟨rfl, Nq52, eq52⟩ := hQ52
  have N52 : Fr n0 L52 := by rw [l52]; exact Fr.app N42 Nq52
  obtain ⟨T53, h53, X53, e53, W53, st53⟩ := putF X52 hx hZ hown (host := "") (Or.inl (hw _ (List.mem_of_getElem? (i := 32) rfl))) Via.refl eq52 F45 F43 (Or.inr ⟨(hw _ (List.mem_of_getElem? (i := 33) rfl)), rfl, hnm⟩) (hw _ (List.mem_of_getElem? (i := 6) rfl)) (ty := .int) (by decide) rfl rfl (g := (mkF m 120 #[oa a0, oa a1, oi ((((1 : Int32) &&& v6) &&& v12) &&& v18), oa a1, oi (3 : Int32), oi (3 : Int32), oi x2] [(.int (own_f4_3 x0 x1 x2)), (.ref a0)])) rfl rfl (hb hby own_d2_120)
  obtain ⟨Lo53, X53, N53⟩ := oOpq X53 (Fr.snoc X53 N52 g_a0)
  have Z53 : n0 ≤ h53.size := Nat.le_trans Z42 (Keep.of_wr W53).1
  have F54 := F43.wr W53
  have F55 := F44.other W53 (Or.inr (slot_ne (Or.inr (hw _ (List.mem_of_getElem? (i := 16) rfl))) (Or.inr (hw _ (List.mem_of_getElem? (i := 33) rfl))) (by decide) (t := (.array .byte)) (t' := .int) (by decide) (by decide)))
  have F56 := F_50.other W53 (Or.inr (slot_ne (Or.inr (hw _ (List.mem_of_getElem? (i := 18) rfl))) (Or.inr (hw _ (List.mem_of_getElem? (i := 33) rfl))) (by decide) (t := (.array .int)) (t' := .int) (by decide) (by decide)))
  have F57 := F46.other W53 n10
  have F58 := F47.wr W53
  have F59 := F48.other W53 (Ne.symm ne31)
  have F60 := F49.wr W53
  have F_61 : Fld Z h53 a0 "com/example/penstock/penstock/Design" "hash" "I" (.int (own_f4_3 x0 x1 x2)) := F45.same W53
  have K_62 : Keep h0 h53 [a0] := K_51.wr W53 (Or.inl (List.mem_of_getElem? (i := 0) rfl))
  obtain ⟨fs, hr, hrun, hended, hW, hsame⟩ := X53.leave (v := none) (fun _ => rfl)
  refine ⟨_, _, pre19 _ ?_, hrun, hended, _, _, rfl, ?_, ⟨_, rfl⟩, hW, hsame.mono (by decide) (by decide)⟩
  · show oS p e below T1 m 47 #[oa a0, oa a1, oi (((1 : Int32) &&& v6) &&& v12), oa a1, oi (3 : Int32), oi (2 : Int32), oi x2] [(.int v18), (.int (((1 : Int32) &&& v6) &&& v12))] _
    refine XS.iand X1.here hx rfl (hb hby own_d2_47) rfl ?_
    show oS p e below T1 m 48 #[oa a0, oa a1, oi (((1 : Int32) &&& v6) &&& v12), oa a1, oi (3 : Int32), oi (2 : Int32), oi x2] [(.int ((((1 : Int32) &&& v6) &&& v12) &&& v18))] _
    refine XS.istoreN X1.here hx rfl (hb hby own_d2_48) rfl (l' := #[oa a0, oa a1, oi ((((1 : Int32) &&& v6) &&& v12) &&& v18), oa a1, oi (3 : Int32), oi (2 : Int32), oi x2]) rfl ?_
    show oS p e below T1 m 49 #[oa a0, oa a1, oi ((((1 : Int32) &&& v6) &&& v12) &&& v18), oa a1, oi (3 : Int32), oi (2 : Int32), oi x2] [] _
    refine XS.iinc X1.here hx rfl (hb hby own_d2_49) rfl (l' := #[oa a0, oa a1, oi ((((1 : Int32) &&& v6) &&& v12) &&& v18), oa a1, oi (3 : Int32), oi (3 : Int32), oi x2]) rfl ?_
    show oS p e below T1 m 52 #[oa a0, oa a1, oi ((((1 : Int32) &&& v6) &&& v12) &&& v18), oa a1, oi (3 : Int32), oi (3 : Int32), oi x2] [] _
    refine XS.goto X1.here hx rfl (pc0 := 52) (pc' := 15) rfl (hb hby own_d2_52) (by decide) (by decide) ?_
    show oS p e below T1 m 15 #[oa a0, oa a1, oi ((((1 : Int32) &&& v6) &&& v12) &&& v18), oa a1, oi (3 : Int32), oi (3 : Int32), oi x2] [] _
    refine XS.iload X1.here hx rfl (hb hby own_d2_15) rfl ?_
    show oS p e below T1 m 17 #[oa a0, oa a1, oi ((((1 : Int32) &&& v6) &&& v12) &&& v18), oa a1, oi (3 : Int32), oi (3 : Int32), oi x2] [(.int (3 : Int32))] _
    refine XS.iload X1.here hx rfl (hb hby own_d2_17) rfl ?_
    show oS p e below T1 m 19 #[oa a0, oa a1, oi ((((1 : Int32) &&& v6) &&& v12) &&& v18), oa a1, oi (3 : Int32), oi (3 : Int32), oi x2] [(.int (3 : Int32)), (.int (3 : Int32))] _
    refine XS.icmpYes X1.here hx rfl (pc0 := 19) (pc' := 55) rfl (hb hby own_d2_19) rfl (flt b20).2.1 (by decide) (by decide) ?_
    show oS p e below T1 m 55 #[oa a0, oa a1, oi ((((1 : Int32) &&& v6) &&& v12) &&& v18), oa a1, oi (3 : Int32), oi (3 : Int32), oi x2] [] _
    refine XS.iloadN X1.here hx rfl (hb hby own_d2_55) rfl ?_
    show oS p e below T1 m 56 #[oa a0, oa a1, oi ((((1 : Int32) &&& v6) &&& v12) &&& v18), oa a1, oi (3 : Int32), oi (3 : Int32), oi x2] [(.int ((((1 : Int32) &&& v6) &&& v12) &&& v18))] _
    refine XS.ifYes X1.here hx rfl (pc0 := 56) (pc' := 99) rfl (hb hby own_d2_56) rfl ((if0 _ _).trans (teq b21).1) (by decide) (by decide) ?_
    show oS p e below T1 m 99 #[oa a0, oa a1, oi ((((1 : Int32) &&& v6) &&& v12) &&& v18), oa a1, oi (3 : Int32), oi (3 : Int32), oi x2] [] _
    refine XS.aloadN X1.here hx rfl (hb hby own_d2_99) rfl rfl ?_
    show oS p e below T1 m 100 #[oa a0, oa a1, oi ((((1 : Int32) &&& v6) &&& v12) &&& v18), oa a1, oi (3 : Int32), oi (3 : Int32), oi x2] [(.ref a0)] _
    refine XS.aconstNull X1.here hx rfl (hb hby own_d2_100) ?_
    show oS p e below T1 m 101 #[oa a0, oa a1, oi ((((1 : Int32) &&& v6) &&& v12) &&& v18), oa a1, oi (3 : Int32), oi (3 : Int32), oi x2] [.null, (.ref a0)] _
    refine st22 _ ?_
    show oS p e below T22 m 104 #[oa a0, oa a1, oi ((((1 : Int32) &&& v6) &&& v12) &&& v18), oa a1, oi (3 : Int32), oi (3 : Int32), oi x2] [] _
    refine XS.aloadN X22.here hx rfl (hb hby own_d2_104) rfl rfl ?_
    show oS p e below T22 m 105 #[oa a0, oa a1, oi ((((1 : Int32) &&& v6) &&& v12) &&& v18), oa a1, oi (3 : Int32), oi (3 : Int32), oi x2] [(.ref a0)] _
    refine XS.aloadN X22.here hx rfl (hb hby own_d2_105) rfl rfl ?_
    show oS p e below T22 m 106 #[oa a0, oa a1, oi ((((1 : Int32) &&& v6) &&& v12) &&& v18), oa a1, oi (3 : Int32), oi (3 : Int32), oi x2] [(.ref a1), (.ref a0)] _
    refine st30 _ ?_
    show oS p e below T30 m 109 #[oa a0, oa a1, oi ((((1 : Int32) &&& v6) &&& v12) &&& v18), oa a1, oi (3 : Int32), oi (3 : Int32), oi x2] [(.ref b30), (.ref a0)] _
    refine st41 _ ?_
    show oS p e below T41 m 112 #[oa a0, oa a1, oi ((((1 : Int32) &&& v6) &&& v12) &&& v18), oa a1, oi (3 : Int32), oi (3 : Int32), oi x2] [(.ref b30), (.ref a0)] _
    refine st42 _ ?_
    show oS p e below T42 m 115 #[oa a0, oa a1, oi ((((1 : Int32) &&& v6) &&& v12) &&& v18), oa a1, oi (3 : Int32), oi (3 : Int32), oi x2] [] _
    refine XS.aloadN X42.here hx rfl (hb hby own_d2_115) rfl rfl ?_
    show oS p e below T42 m 116 #[oa a0, oa a1, oi ((((1 : Int32) &&& v6) &&& v12) &&& v18), oa a1, oi (3 : Int32), oi (3 : Int32), oi x2] [(.ref a0)] _
    refine XS.aloadN X42.here hx rfl (hb hby own_d2_116) rfl rfl ?_
    show oS p e below T42 m 117 #[oa a0, oa a1, oi ((((1 : Int32) &&& v6) &&& v12) &&& v18), oa a1, oi (3 : Int32), oi (3 : Int32), oi x2] [(.ref a1), (.ref a0)] _
    refine st52 _ ?_
    show oS p e below T52 m 120 #[oa a0, oa a1, oi ((((1 : Int32) &&& v6) &&& v12) &&& v18), oa a1, oi (3 : Int32), oi (3 : Int32), oi x2] [(.int (own_f4_3 x0 x1 x2)), (.ref a0)] _
    refine st53 _ ?_
    show oS p e below T53 m 123 #[oa a0, oa a1, oi ((((1 : Int32) &&& v6) &&& v12) &&& v18), oa a1, oi (3 : Int32), oi (3 : Int32), oi x2] [] _
    exact X53.returnOut hx Bd.returns (hb hby own_d2_123) hr
  · show own_Q2i3 Z a0 a1 k_a1 x0 x1 x2 h0 n0 _ T53.heap _
    rw [e53]
    exact ⟨b30, k_a1, rfl, N53, K_62, sz_b30, F54, F55, F56, F60, F59⟩
theorem own_i7 (x : Int32) : ¬ (x &&& (7 : Int32)) < 0 ∧ (x &&& (7 : Int32)) < (8 : Int32) := by
  have h : (x &&& (7 : Int32)).toInt = x.toInt % 8 := c_mask x 7 3 (by decide) (by decide)
  simp only [own_ltp, Int32.reduceToInt, h]
  omega
theorem own_pn3 : plainName "com/example/penstock/penstock/DesignSizeIndexPinLaw" = true := by first | (simp [plainName, overriddenIn]; done) | decide +kernel
theorem own_d1_0 : decode method_2_code 0 = .ok (.iload_n 1, 1) := by decide +kernel
theorem own_d1_1 : decode method_2_code 1 = .ok (.iconst 3, 1) := by decide +kernel
theorem own_d1_2 : decode method_2_code 2 = .ok (.iand, 1) := by decide +kernel
theorem own_d1_3 : decode method_2_code 3 = .ok (.istore_n 2, 1) := by decide +kernel
theorem own_d1_4 : decode method_2_code 4 = .ok (.iload_n 2, 1) := by decide +kernel
theorem own_d1_5 : decode method_2_code 5 = .ok (.ifCond .ne 5, 3) := by decide +kernel
theorem own_d1_8 : decode method_2_code 8 = .ok (.iload_n 0, 1) := by decide +kernel
theorem own_d1_9 : decode method_2_code 9 = .ok (.ireturn, 1) := by decide +kernel
theorem own_d1_10 : decode method_2_code 10 = .ok (.iload_n 2, 1) := by decide +kernel
theorem own_d1_11 : decode method_2_code 11 = .ok (.iconst 1, 1) := by decide +kernel
theorem own_d1_12 : decode method_2_code 12 = .ok (.if_icmp .ne 9, 3) := by decide +kernel
theorem own_d1_15 : decode method_2_code 15 = .ok (.iload_n 0, 1) := by decide +kernel
theorem own_d1_16 : decode method_2_code 16 = .ok (.sipush 255, 3) := by decide +kernel
theorem own_d1_19 : decode method_2_code 19 = .ok (.iand, 1) := by decide +kernel
theorem own_d1_20 : decode method_2_code 20 = .ok (.ireturn, 1) := by decide +kernel
theorem own_d1_21 : decode method_2_code 21 = .ok (.iload_n 2, 1) := by decide +kernel
theorem own_d1_22 : decode method_2_code 22 = .ok (.iconst 2, 1) := by decide +kernel
theorem own_d1_23 : decode method_2_code 23 = .ok (.if_icmp .ne 13, 3) := by decide +kernel
theorem own_d1_26 : decode method_2_code 26 = .ok (.iload_n 0, 1) := by decide +kernel
theorem own_d1_27 : decode method_2_code 27 = .ok (.sipush 511, 3) := by decide +kernel
theorem own_d1_30 : decode method_2_code 30 = .ok (.iand, 1) := by decide +kernel
theorem own_d1_31 : decode method_2_code 31 = .ok (.sipush 128, 3) := by decide +kernel
theorem own_d1_34 : decode method_2_code 34 = .ok (.isub, 1) := by decide +kernel
theorem own_d1_35 : decode method_2_code 35 = .ok (.ireturn, 1) := by decide +kernel
theorem own_d1_36 : decode method_2_code 36 = .ok (.bipush 8, 2) := by decide +kernel
theorem own_d1_38 : decode method_2_code 38 = .ok (.newarray .int, 2) := by decide +kernel
theorem own_d1_40 : decode method_2_code 40 = .ok (.dup, 1) := by decide +kernel
theorem own_d1_41 : decode method_2_code 41 = .ok (.iconst 0, 1) := by decide +kernel
theorem own_d1_42 : decode method_2_code 42 = .ok (.iconst (-1), 1) := by decide +kernel
theorem own_d1_43 : decode method_2_code 43 = .ok (.iastore, 1) := by decide +kernel
theorem own_d1_44 : decode method_2_code 44 = .ok (.dup, 1) := by decide +kernel
theorem own_d1_45 : decode method_2_code 45 = .ok (.iconst 1, 1) := by decide +kernel
theorem own_d1_46 : decode method_2_code 46 = .ok (.iconst 0, 1) := by decide +kernel
theorem own_d1_47 : decode method_2_code 47 = .ok (.iastore, 1) := by decide +kernel
theorem own_d1_48 : decode method_2_code 48 = .ok (.dup, 1) := by decide +kernel
theorem own_d1_49 : decode method_2_code 49 = .ok (.iconst 2, 1) := by decide +kernel
theorem own_d1_50 : decode method_2_code 50 = .ok (.sipush 255, 3) := by decide +kernel
theorem own_d1_53 : decode method_2_code 53 = .ok (.iastore, 1) := by decide +kernel
theorem own_d1_54 : decode method_2_code 54 = .ok (.dup, 1) := by decide +kernel
theorem own_d1_55 : decode method_2_code 55 = .ok (.iconst 3, 1) := by decide +kernel
theorem own_d1_56 : decode method_2_code 56 = .ok (.sipush 256, 3) := by decide +kernel
theorem own_d1_59 : decode method_2_code 59 = .ok (.iastore, 1) := by decide +kernel
theorem own_d1_60 : decode method_2_code 60 = .ok (.dup, 1) := by decide +kernel
theorem own_d1_61 : decode method_2_code 61 = .ok (.iconst 4, 1) := by decide +kernel
theorem own_d1_62 : decode method_2_code 62 = .ok (.ldc 9, 2) := by decide +kernel
theorem own_d1_64 : decode method_2_code 64 = .ok (.iastore, 1) := by decide +kernel
theorem own_d1_65 : decode method_2_code 65 = .ok (.dup, 1) := by decide +kernel
theorem own_d1_66 : decode method_2_code 66 = .ok (.iconst 5, 1) := by decide +kernel
theorem own_d1_67 : decode method_2_code 67 = .ok (.ldc 10, 2) := by decide +kernel
theorem own_d1_69 : decode method_2_code 69 = .ok (.iastore, 1) := by decide +kernel
theorem own_d1_70 : decode method_2_code 70 = .ok (.dup, 1) := by decide +kernel
theorem own_d1_71 : decode method_2_code 71 = .ok (.bipush 6, 2) := by decide +kernel
theorem own_d1_73 : decode method_2_code 73 = .ok (.sipush 128, 3) := by decide +kernel
theorem own_d1_76 : decode method_2_code 76 = .ok (.iastore, 1) := by decide +kernel
theorem own_d1_77 : decode method_2_code 77 = .ok (.dup, 1) := by decide +kernel
theorem own_d1_78 : decode method_2_code 78 = .ok (.bipush 7, 2) := by decide +kernel
theorem own_d1_80 : decode method_2_code 80 = .ok (.bipush 127, 2) := by decide +kernel
theorem own_d1_82 : decode method_2_code 82 = .ok (.iastore, 1) := by decide +kernel
theorem own_d1_83 : decode method_2_code 83 = .ok (.astore_n 3, 1) := by decide +kernel
theorem own_d1_84 : decode method_2_code 84 = .ok (.aload_n 3, 1) := by decide +kernel
theorem own_d1_85 : decode method_2_code 85 = .ok (.iload_n 0, 1) := by decide +kernel
theorem own_d1_86 : decode method_2_code 86 = .ok (.bipush 7, 2) := by decide +kernel
theorem own_d1_88 : decode method_2_code 88 = .ok (.iand, 1) := by decide +kernel
theorem own_d1_89 : decode method_2_code 89 = .ok (.iaload, 1) := by decide +kernel
theorem own_d1_90 : decode method_2_code 90 = .ok (.ireturn, 1) := by decide +kernel
theorem own_ef1 (m : MethodId) (p0 : Int32) (p1 : Int32) : entryFrame m #[(.int p0), (.int p1)] 4 = mkF m 0 #[oi p0, oi p1, .unset, .unset] [] := by first | (simp [entryFrame, mkF, argsToLocals, Value.category]; done) | rfl
def own_Q1 (Z : State) (p0 : Int32) (p1 : Int32) (h0 : Heap) (n0 : Nat) (v : Option Value) (h : Heap) (L : List Loc) : Prop := ∃ w : Int32, v = some (.int w) ∧ Fr n0 L ∧ Keep h0 h []
set_option maxRecDepth 65536 in
set_option maxHeartbeats 40000000 in
theorem own_rm1 (l : Launch) (Z : State) (av : Array Value) (hw : ∀ d ∈ tables_1, d.before av Z = true) (ws : List Jvm.Cond) (p0 : Int32) (p1 : Int32) (h0 : Heap) (n0 : Nat) (Z0 : n0 ≤ h0.size) :
    MetFree l (⟨"com/example/penstock/penstock/DesignSizeIndexPinLaw", "draw", "(II)I"⟩ : MethodName) (head1 (Jvm.Cond.code (⟨"com/example/penstock/penstock/DesignSizeIndexPinLaw", "draw", "(II)I"⟩ : MethodName) method_2_code 4 (some .int) :: ws) ({ frames := 0, cells := 1, slots := 8, locals := 0 } : Room)) (fun a U => a = #[(.int p0), (.int p1)] ∧ Z.Warmed39 U.vm ∧ U.heap = h0) (fun _ _ _ _ _ => True) (fun _ U o U' => ∃ v L, o = .returned v ∧ own_Q1 Z p0 p1 h0 n0 v U'.heap L ∧ FrameEnd U o U' L ({ frames := 0, cells := 1, slots := 8, locals := 0 } : Room).cells ({ frames := 0, cells := 1, slots := 8, locals := 0 } : Room).slots) := by
  refine MetFree.of_bodySF (plainFor_of_name own_pn3) hisR ?_
  intro p e s m args below meth c s₁ Bd hml0 hP hK
  obtain ⟨rfl, hZ, hh⟩ := hP
  have hx := Bd.exec
  have hby := Bd.bytes
  have hml : c.maxLocals = 4 := hml0
  have hown : s.vm.findClass "com/example/penstock/penstock/DesignSizeIndexPinLaw" = some m.cls := findClass_of_methodNamed Bd.named
  have hnm := (name_of_methodNamed Bd.named Bd.method).1
  have X0 : Stand p l e ({ frames := 0, cells := 1, slots := 8, locals := 0 } : Room) s m #[(.int p0), (.int p1)] below meth c s₁ [] 0 0 := Stand.of_body Bd
  have e0 : s₁.heap = h0 := by rw [← hh, Bd.state]; rfl
  have N0 := Fr.nil n0
  have pre0 : ∀ t, Steps p.tables e below (s₁.setTop (mkF m 0 #[oi p0, oi p1, .unset, .unset] [])) t → Steps p.tables e below (s₁.setTop (entryFrame m #[(.int p0), (.int p1)] 4)) t := fun t k => castTop (own_ef1 m p0 p1) k
  have pre1 : ∀ t, Steps p.tables e below (s₁.setTop (mkF m 5 #[oi p0, oi p1, oi (p1 &&& (3 : Int32)), .unset] [(.int (p1 &&& (3 : Int32)))])) t → Steps p.tables e below (s₁.setTop (entryFrame m #[(.int p0), (.int p1)] 4)) t := by
    intro t k
    refine pre0 t ?_
    show oS p e below s₁ m 0 #[oi p0, oi p1, .unset, .unset] [] _
    refine XS.iloadN X0.here hx rfl (hb hby own_d1_0) rfl ?_
    show oS p e below s₁ m 1 #[oi p0, oi p1, .unset, .unset] [(.int p1)] _
    refine XS.iconst X0.here hx rfl (hb hby own_d1_1) ?_
    show oS p e below s₁ m 2 #[oi p0, oi p1, .unset, .unset] [(.int (3 : Int32)), (.int p1)] _
    refine XS.iand X0.here hx rfl (hb hby own_d1_2) rfl ?_
    show oS p e below s₁ m 3 #[oi p0, oi p1, .unset, .unset] [(.int (p1 &&& (3 : Int32)))] _
    refine XS.istoreN X0.here hx rfl (hb hby own_d1_3) rfl (l' := #[oi p0, oi p1, oi (p1 &&& (3 : Int32)), .unset]) rfl ?_
    show oS p e below s₁ m 4 #[oi p0, oi p1, oi (p1 &&& (3 : Int32)), .unset] [] _
    refine XS.iloadN X0.here hx rfl (hb hby own_d1_4) rfl ?_
    exact k
  by_cases c2 : (p1 &&& (3 : Int32)) = (0 : Int32)
  · skip
    obtain ⟨fs, hr, hrun, hended, hW, hsame⟩ := X0.leave (v := (some (.int p0))) (fun h => by rw [Bd.returns] at h; cases h)
    refine ⟨_, _, pre1 _ ?_, hrun, hended, _, _, rfl, ?_, ⟨_, rfl⟩, hW, hsame.mono (by decide) (by decide)⟩
    · show oS p e below s₁ m 5 #[oi p0, oi p1, oi (p1 &&& (3 : Int32)), .unset] [(.int (p1 &&& (3 : Int32)))] _
      refine XS.ifNo X0.here hx rfl (hb hby own_d1_5) rfl ((if0 _ _).trans (teq c2).2) ?_
      show oS p e below s₁ m 8 #[oi p0, oi p1, oi (p1 &&& (3 : Int32)), .unset] [] _
      refine XS.iloadN X0.here hx rfl (hb hby own_d1_8) rfl ?_
      show oS p e below s₁ m 9 #[oi p0, oi p1, oi (p1 &&& (3 : Int32)), .unset] [(.int p0)] _
      exact retOut X0 hx Bd.returns rfl (Or.inl ⟨rfl, Or.inl rfl, _, rfl⟩) (hb hby own_d1_9) hr
    · show own_Q1 Z p0 p1 h0 n0 _ s₁.heap _
      rw [e0]
      exact ⟨_, rfl, N0, (Keep.refl h0 [])⟩
  · skip
    have pre3 : ∀ t, Steps p.tables e below (s₁.setTop (mkF m 12 #[oi p0, oi p1, oi (p1 &&& (3 : Int32)), .unset] [(.int (1 : Int32)), (.int (p1 &&& (3 : Int32)))])) t → Steps p.tables e below (s₁.setTop (entryFrame m #[(.int p0), (.int p1)] 4)) t := by
      intro t k
      refine pre1 t ?_
      show oS p e below s₁ m 5 #[oi p0, oi p1, oi (p1 &&& (3 : Int32)), .unset] [(.int (p1 &&& (3 : Int32)))] _
      refine XS.ifYes X0.here hx rfl (pc0 := 5) (pc' := 10) rfl (hb hby own_d1_5) rfl ((if0 _ _).trans (feq c2).2) (by decide) (by decide) ?_
      show oS p e below s₁ m 10 #[oi p0, oi p1, oi (p1 &&& (3 : Int32)), .unset] [] _
      refine XS.iloadN X0.here hx rfl (hb hby own_d1_10) rfl ?_
      show oS p e below s₁ m 11 #[oi p0, oi p1, oi (p1 &&& (3 : Int32)), .unset] [(.int (p1 &&& (3 : Int32)))] _
      refine XS.iconst X0.here hx rfl (hb hby own_d1_11) ?_
      exact k
    by_cases c4 : (p1 &&& (3 : Int32)) = (1 : Int32)
    · skip
      obtain ⟨fs, hr, hrun, hended, hW, hsame⟩ := X0.leave (v := (some (.int (p0 &&& (255 : Int32))))) (fun h => by rw [Bd.returns] at h; cases h)
      refine ⟨_, _, pre3 _ ?_, hrun, hended, _, _, rfl, ?_, ⟨_, rfl⟩, hW, hsame.mono (by decide) (by decide)⟩
      · show oS p e below s₁ m 12 #[oi p0, oi p1, oi (p1 &&& (3 : Int32)), .unset] [(.int (1 : Int32)), (.int (p1 &&& (3 : Int32)))] _
        refine XS.icmpNo X0.here hx rfl (hb hby own_d1_12) rfl (teq c4).2 ?_
        show oS p e below s₁ m 15 #[oi p0, oi p1, oi (p1 &&& (3 : Int32)), .unset] [] _
        refine XS.iloadN X0.here hx rfl (hb hby own_d1_15) rfl ?_
        show oS p e below s₁ m 16 #[oi p0, oi p1, oi (p1 &&& (3 : Int32)), .unset] [(.int p0)] _
        refine XS.sipush X0.here hx rfl (hb hby own_d1_16) ?_
        show oS p e below s₁ m 19 #[oi p0, oi p1, oi (p1 &&& (3 : Int32)), .unset] [(.int (255 : Int32)), (.int p0)] _
        refine XS.iand X0.here hx rfl (hb hby own_d1_19) rfl ?_
        show oS p e below s₁ m 20 #[oi p0, oi p1, oi (p1 &&& (3 : Int32)), .unset] [(.int (p0 &&& (255 : Int32)))] _
        exact retOut X0 hx Bd.returns rfl (Or.inl ⟨rfl, Or.inl rfl, _, rfl⟩) (hb hby own_d1_20) hr
      · show own_Q1 Z p0 p1 h0 n0 _ s₁.heap _
        rw [e0]
        exact ⟨_, rfl, N0, (Keep.refl h0 [])⟩
    · skip
      have pre5 : ∀ t, Steps p.tables e below (s₁.setTop (mkF m 23 #[oi p0, oi p1, oi (p1 &&& (3 : Int32)), .unset] [(.int (2 : Int32)), (.int (p1 &&& (3 : Int32)))])) t → Steps p.tables e below (s₁.setTop (entryFrame m #[(.int p0), (.int p1)] 4)) t := by
        intro t k
        refine pre3 t ?_
        show oS p e below s₁ m 12 #[oi p0, oi p1, oi (p1 &&& (3 : Int32)), .unset] [(.int (1 : Int32)), (.int (p1 &&& (3 : Int32)))] _
        refine XS.icmpYes X0.here hx rfl (pc0 := 12) (pc' := 21) rfl (hb hby own_d1_12) rfl (feq c4).2 (by decide) (by decide) ?_
        show oS p e below s₁ m 21 #[oi p0, oi p1, oi (p1 &&& (3 : Int32)), .unset] [] _
        refine XS.iloadN X0.here hx rfl (hb hby own_d1_21) rfl ?_
        show oS p e below s₁ m 22 #[oi p0, oi p1, oi (p1 &&& (3 : Int32)), .unset] [(.int (p1 &&& (3 : Int32)))] _
        refine XS.iconst X0.here hx rfl (hb hby own_d1_22) ?_
        exact k
      by_cases c6 : (p1 &&& (3 : Int32)) = (2 : Int32)
      · skip
        obtain ⟨fs, hr, hrun, hended, hW, hsame⟩ := X0.leave (v := (some (.int ((p0 &&& (511 : Int32)) - (128 : Int32))))) (fun h => by rw [Bd.returns] at h; cases h)
        refine ⟨_, _, pre5 _ ?_, hrun, hended, _, _, rfl, ?_, ⟨_, rfl⟩, hW, hsame.mono (by decide) (by decide)⟩
        · show oS p e below s₁ m 23 #[oi p0, oi p1, oi (p1 &&& (3 : Int32)), .unset] [(.int (2 : Int32)), (.int (p1 &&& (3 : Int32)))] _
          refine XS.icmpNo X0.here hx rfl (hb hby own_d1_23) rfl (teq c6).2 ?_
          show oS p e below s₁ m 26 #[oi p0, oi p1, oi (p1 &&& (3 : Int32)), .unset] [] _
          refine XS.iloadN X0.here hx rfl (hb hby own_d1_26) rfl ?_
          show oS p e below s₁ m 27 #[oi p0, oi p1, oi (p1 &&& (3 : Int32)), .unset] [(.int p0)] _
          refine XS.sipush X0.here hx rfl (hb hby own_d1_27) ?_
          show oS p e below s₁ m 30 #[oi p0, oi p1, oi (p1 &&& (3 : Int32)), .unset] [(.int (511 : Int32)), (.int p0)] _
          refine XS.iand X0.here hx rfl (hb hby own_d1_30) rfl ?_
          show oS p e below s₁ m 31 #[oi p0, oi p1, oi (p1 &&& (3 : Int32)), .unset] [(.int (p0 &&& (511 : Int32)))] _
          refine XS.sipush X0.here hx rfl (hb hby own_d1_31) ?_
          show oS p e below s₁ m 34 #[oi p0, oi p1, oi (p1 &&& (3 : Int32)), .unset] [(.int (128 : Int32)), (.int (p0 &&& (511 : Int32)))] _
          refine XS.isub X0.here hx rfl (hb hby own_d1_34) rfl ?_
          show oS p e below s₁ m 35 #[oi p0, oi p1, oi (p1 &&& (3 : Int32)), .unset] [(.int ((p0 &&& (511 : Int32)) - (128 : Int32)))] _
          exact retOut X0 hx Bd.returns rfl (Or.inl ⟨rfl, Or.inl rfl, _, rfl⟩) (hb hby own_d1_35) hr
        · show own_Q1 Z p0 p1 h0 n0 _ s₁.heap _
          rw [e0]
          exact ⟨_, rfl, N0, (Keep.refl h0 [])⟩
      · skip
        obtain ⟨T7, h7, k7, X7, e7, E7, A7, B7, st7⟩ := newPE X0 hx hZ (hw _ (List.mem_of_getElem? (i := 4) rfl)) e0 (g := (mkF m 38 #[oi p0, oi p1, oi (p1 &&& (3 : Int32)), .unset] [(.int (8 : Int32))])) rfl (hb hby own_d1_38) rfl (by decide) (cap := 8) (by decide) (by decide) (by decide) (by decide) (ad := "[I") rfl
        obtain ⟨b7, g7⟩ : ∃ z, z = h0.size := ⟨_, rfl⟩
        rw [← g7] at A7 st7 B7
        have g_b7 : n0 ≤ b7 := Nat.le_trans Z0 (Nat.le_of_eq g7.symm)
        have Z7 : n0 ≤ h7.size := Nat.le_trans Z0 E7.1
        have sz_b7 : h0.size ≤ b7 := Nat.le_trans (Keep.refl h0 []).1 (Nat.le_of_eq g7.symm)
        have K_8 : Keep h0 h7 [] := (Keep.refl h0 []).ext E7
        have V_9 : Arv Z h7 b7 k7 .int (8 : Int32) [(.int (0 : Int32)), (.int (0 : Int32)), (.int (0 : Int32)), (.int (0 : Int32)), (.int (0 : Int32)), (.int (0 : Int32)), (.int (0 : Int32)), (.int (0 : Int32))] (.int (0 : Int32)) := (Arv.new A7 (by decide)).pad (pad_rep [] (.int (0 : Int32)) 8)
        obtain ⟨T10, h10, X10, e10, W10, V10, st10⟩ := oStI X7 hx hZ e7 V_9 (j := (0 : Int32)) ⟨by decide, by decide⟩ 0 rfl (Nat.le_of_ble_eq_true rfl) (g := (mkF m 43 #[oi p0, oi p1, oi (p1 &&& (3 : Int32)), .unset] [(.int (-1 : Int32)), (.int (0 : Int32)), (.ref b7), (.ref b7)])) rfl rfl (hb hby own_d1_43)
        obtain ⟨Lo10, X10, N10⟩ := oOpq X10 (Fr.snoc X10 N0 g_b7)
        have Z10 := Nat.le_trans Z7 (Keep.of_wr W10).1
        have F11 := B7.wr W10
        have V_12 : Arv Z h10 b7 k7 .int (8 : Int32) [(.int (-1 : Int32)), (.int (0 : Int32)), (.int (0 : Int32)), (.int (0 : Int32)), (.int (0 : Int32)), (.int (0 : Int32)), (.int (0 : Int32)), (.int (0 : Int32))] (.int (0 : Int32)) := V10
        have K_13 : Keep h0 h10 [] := K_8.wr W10 (Or.inr sz_b7)
        obtain ⟨T14, h14, X14, e14, W14, V14, st14⟩ := oStI X10 hx hZ e10 V_12 (j := (1 : Int32)) ⟨by decide, by decide⟩ 1 rfl (Nat.le_of_ble_eq_true rfl) (g := (mkF m 47 #[oi p0, oi p1, oi (p1 &&& (3 : Int32)), .unset] [(.int (0 : Int32)), (.int (1 : Int32)), (.ref b7), (.ref b7)])) rfl rfl (hb hby own_d1_47)
        obtain ⟨Lo14, X14, N14⟩ := oOpq X14 (Fr.snoc X14 N10 g_b7)
        have Z14 := Nat.le_trans Z10 (Keep.of_wr W14).1
        have F15 := F11.wr W14
        have V_16 : Arv Z h14 b7 k7 .int (8 : Int32) [(.int (-1 : Int32)), (.int (0 : Int32)), (.int (0 : Int32)), (.int (0 : Int32)), (.int (0 : Int32)), (.int (0 : Int32)), (.int (0 : Int32)), (.int (0 : Int32))] (.int (0 : Int32)) := V14
        have K_17 : Keep h0 h14 [] := K_13.wr W14 (Or.inr sz_b7)
        obtain ⟨T18, h18, X18, e18, W18, V18, st18⟩ := oStI X14 hx hZ e14 V_16 (j := (2 : Int32)) ⟨by decide, by decide⟩ 2 rfl (Nat.le_of_ble_eq_true rfl) (g := (mkF m 53 #[oi p0, oi p1, oi (p1 &&& (3 : Int32)), .unset] [(.int (255 : Int32)), (.int (2 : Int32)), (.ref b7), (.ref b7)])) rfl rfl (hb hby own_d1_53)
        obtain ⟨Lo18, X18, N18⟩ := oOpq X18 (Fr.snoc X18 N14 g_b7)
        have Z18 := Nat.le_trans Z14 (Keep.of_wr W18).1
        have F19 := F15.wr W18
        have V_20 : Arv Z h18 b7 k7 .int (8 : Int32) [(.int (-1 : Int32)), (.int (0 : Int32)), (.int (255 : Int32)), (.int (0 : Int32)), (.int (0 : Int32)), (.int (0 : Int32)), (.int (0 : Int32)), (.int (0 : Int32))] (.int (0 : Int32)) := V18
        have K_21 : Keep h0 h18 [] := K_17.wr W18 (Or.inr sz_b7)
        obtain ⟨T22, h22, X22, e22, W22, V22, st22⟩ := oStI X18 hx hZ e18 V_20 (j := (3 : Int32)) ⟨by decide, by decide⟩ 3 rfl (Nat.le_of_ble_eq_true rfl) (g := (mkF m 59 #[oi p0, oi p1, oi (p1 &&& (3 : Int32)), .unset] [(.int (256 : Int32)), (.int (3 : Int32)), (.ref b7), (.ref b7)])) rfl rfl (hb hby own_d1_59)
        obtain ⟨Lo22, X22, N22⟩ := oOpq X22 (Fr.snoc X22 N18 g_b7)
        have Z22 := Nat.le_trans Z18 (Keep.of_wr W22).1
        have F23 := F19.wr W22
        have V_24 : Arv Z h22 b7 k7 .int (8 : Int32) [(.int (-1 : Int32)), (.int (0 : Int32)), (.int (255 : Int32)), (.int (256 : Int32)), (.int (0 : Int32)), (.int (0 : Int32)), (.int (0 : Int32)), (.int (0 : Int32))] (.int (0 : Int32)) := V22
        have K_25 : Keep h0 h22 [] := K_21.wr W22 (Or.inr sz_b7)
        obtain ⟨T26, h26, X26, e26, W26, V26, st26⟩ := oStI X22 hx hZ e22 V_24 (j := (4 : Int32)) ⟨by decide, by decide⟩ 4 rfl (Nat.le_of_ble_eq_true rfl) (g := (mkF m 64 #[oi p0, oi p1, oi (p1 &&& (3 : Int32)), .unset] [(.int (-2147483648 : Int32)), (.int (4 : Int32)), (.ref b7), (.ref b7)])) rfl rfl (hb hby own_d1_64)
        obtain ⟨Lo26, X26, N26⟩ := oOpq X26 (Fr.snoc X26 N22 g_b7)
        have Z26 := Nat.le_trans Z22 (Keep.of_wr W26).1
        have F27 := F23.wr W26
        have V_28 : Arv Z h26 b7 k7 .int (8 : Int32) [(.int (-1 : Int32)), (.int (0 : Int32)), (.int (255 : Int32)), (.int (256 : Int32)), (.int (-2147483648 : Int32)), (.int (0 : Int32)), (.int (0 : Int32)), (.int (0 : Int32))] (.int (0 : Int32)) := V26
        have K_29 : Keep h0 h26 [] := K_25.wr W26 (Or.inr sz_b7)
        obtain ⟨T30, h30, X30, e30, W30, V30, st30⟩ := oStI X26 hx hZ e26 V_28 (j := (5 : Int32)) ⟨by decide, by decide⟩ 5 rfl (Nat.le_of_ble_eq_true rfl) (g := (mkF m 69 #[oi p0, oi p1, oi (p1 &&& (3 : Int32)), .unset] [(.int (2147483647 : Int32)), (.int (5 : Int32)), (.ref b7), (.ref b7)])) rfl rfl (hb hby own_d1_69)
        obtain ⟨Lo30, X30, N30⟩ := oOpq X30 (Fr.snoc X30 N26 g_b7)
        have Z30 := Nat.le_trans Z26 (Keep.of_wr W30).1
        have F31 := F27.wr W30
        have V_32 : Arv Z h30 b7 k7 .int (8 : Int32) [(.int (-1 : Int32)), (.int (0 : Int32)), (.int (255 : Int32)), (.int (256 : Int32)), (.int (-2147483648 : Int32)), (.int (2147483647 : Int32)), (.int (0 : Int32)), (.int (0 : Int32))] (.int (0 : Int32)) := V30
        have K_33 : Keep h0 h30 [] := K_29.wr W30 (Or.inr sz_b7)
        obtain ⟨T34, h34, X34, e34, W34, V34, st34⟩ := oStI X30 hx hZ e30 V_32 (j := (6 : Int32)) ⟨by decide, by decide⟩ 6 rfl (Nat.le_of_ble_eq_true rfl) (g := (mkF m 76 #[oi p0, oi p1, oi (p1 &&& (3 : Int32)), .unset] [(.int (128 : Int32)), (.int (6 : Int32)), (.ref b7), (.ref b7)])) rfl rfl (hb hby own_d1_76)
        obtain ⟨Lo34, X34, N34⟩ := oOpq X34 (Fr.snoc X34 N30 g_b7)
        have Z34 := Nat.le_trans Z30 (Keep.of_wr W34).1
        have F35 := F31.wr W34
        have V_36 : Arv Z h34 b7 k7 .int (8 : Int32) [(.int (-1 : Int32)), (.int (0 : Int32)), (.int (255 : Int32)), (.int (256 : Int32)), (.int (-2147483648 : Int32)), (.int (2147483647 : Int32)), (.int (128 : Int32)), (.int (0 : Int32))] (.int (0 : Int32)) := V34
        have K_37 : Keep h0 h34 [] := K_33.wr W34 (Or.inr sz_b7)
        obtain ⟨T38, h38, X38, e38, W38, V38, st38⟩ := oStI X34 hx hZ e34 V_36 (j := (7 : Int32)) ⟨by decide, by decide⟩ 7 rfl (Nat.le_of_ble_eq_true rfl) (g := (mkF m 82 #[oi p0, oi p1, oi (p1 &&& (3 : Int32)), .unset] [(.int (127 : Int32)), (.int (7 : Int32)), (.ref b7), (.ref b7)])) rfl rfl (hb hby own_d1_82)
        obtain ⟨Lo38, X38, N38⟩ := oOpq X38 (Fr.snoc X38 N34 g_b7)
        have Z38 := Nat.le_trans Z34 (Keep.of_wr W38).1
        have F39 := F35.wr W38
        have V_40 : Arv Z h38 b7 k7 .int (8 : Int32) [(.int (-1 : Int32)), (.int (0 : Int32)), (.int (255 : Int32)), (.int (256 : Int32)), (.int (-2147483648 : Int32)), (.int (2147483647 : Int32)), (.int (128 : Int32)), (.int (127 : Int32))] (.int (0 : Int32)) := V38
        have K_41 : Keep h0 h38 [] := K_37.wr W38 (Or.inr sz_b7)
        have hin42 : ¬ (p0 &&& (7 : Int32)) < 0 ∧ (p0 &&& (7 : Int32)) < (8 : Int32) := (own_i7 _)
        have hat43 : ([(.int (-1 : Int32)), (.int (0 : Int32)), (.int (255 : Int32)), (.int (256 : Int32)), (.int (-2147483648 : Int32)), (.int (2147483647 : Int32)), (.int (128 : Int32)), (.int (127 : Int32))] : List Value).getD ((p0 &&& (7 : Int32))).toNatClampNeg (.int (0 : Int32)) = (.int (([(-1 : Int32), (0 : Int32), (255 : Int32), (256 : Int32), (-2147483648 : Int32), (2147483647 : Int32), (128 : Int32), (127 : Int32)] : List Int32).getD ((p0 &&& (7 : Int32))).toNatClampNeg 0)) := (own_getD [(-1 : Int32), (0 : Int32), (255 : Int32), (256 : Int32), (-2147483648 : Int32), (2147483647 : Int32), (128 : Int32), (127 : Int32)] _)
        obtain ⟨fs, hr, hrun, hended, hW, hsame⟩ := X38.leave (v := (some (.int (([(-1 : Int32), (0 : Int32), (255 : Int32), (256 : Int32), (-2147483648 : Int32), (2147483647 : Int32), (128 : Int32), (127 : Int32)] : List Int32).getD ((p0 &&& (7 : Int32))).toNatClampNeg 0)))) (fun h => by rw [Bd.returns] at h; cases h)
        refine ⟨_, _, pre5 _ ?_, hrun, hended, _, _, rfl, ?_, ⟨_, rfl⟩, hW, hsame.mono (by decide) (by decide)⟩
        · show oS p e below s₁ m 23 #[oi p0, oi p1, oi (p1 &&& (3 : Int32)), .unset] [(.int (2 : Int32)), (.int (p1 &&& (3 : Int32)))] _
          refine XS.icmpYes X0.here hx rfl (pc0 := 23) (pc' := 36) rfl (hb hby own_d1_23) rfl (feq c6).2 (by decide) (by decide) ?_
          show oS p e below s₁ m 36 #[oi p0, oi p1, oi (p1 &&& (3 : Int32)), .unset] [] _
          refine XS.bipush X0.here hx rfl (hb hby own_d1_36) ?_
          show oS p e below s₁ m 38 #[oi p0, oi p1, oi (p1 &&& (3 : Int32)), .unset] [(.int (8 : Int32))] _
          refine st7 _ ?_
          show oS p e below T7 m 40 #[oi p0, oi p1, oi (p1 &&& (3 : Int32)), .unset] [(.ref b7)] _
          refine XS.dup X7.here hx rfl (hb hby own_d1_40) rfl rfl ?_
          show oS p e below T7 m 41 #[oi p0, oi p1, oi (p1 &&& (3 : Int32)), .unset] [(.ref b7), (.ref b7)] _
          refine XS.iconst X7.here hx rfl (hb hby own_d1_41) ?_
          show oS p e below T7 m 42 #[oi p0, oi p1, oi (p1 &&& (3 : Int32)), .unset] [(.int (0 : Int32)), (.ref b7), (.ref b7)] _
          refine XS.iconst X7.here hx rfl (hb hby own_d1_42) ?_
          show oS p e below T7 m 43 #[oi p0, oi p1, oi (p1 &&& (3 : Int32)), .unset] [(.int (-1 : Int32)), (.int (0 : Int32)), (.ref b7), (.ref b7)] _
          refine st10 _ ?_
          show oS p e below T10 m 44 #[oi p0, oi p1, oi (p1 &&& (3 : Int32)), .unset] [(.ref b7)] _
          refine XS.dup X10.here hx rfl (hb hby own_d1_44) rfl rfl ?_
          show oS p e below T10 m 45 #[oi p0, oi p1, oi (p1 &&& (3 : Int32)), .unset] [(.ref b7), (.ref b7)] _
          refine XS.iconst X10.here hx rfl (hb hby own_d1_45) ?_
          show oS p e below T10 m 46 #[oi p0, oi p1, oi (p1 &&& (3 : Int32)), .unset] [(.int (1 : Int32)), (.ref b7), (.ref b7)] _
          refine XS.iconst X10.here hx rfl (hb hby own_d1_46) ?_
          show oS p e below T10 m 47 #[oi p0, oi p1, oi (p1 &&& (3 : Int32)), .unset] [(.int (0 : Int32)), (.int (1 : Int32)), (.ref b7), (.ref b7)] _
          refine st14 _ ?_
          show oS p e below T14 m 48 #[oi p0, oi p1, oi (p1 &&& (3 : Int32)), .unset] [(.ref b7)] _
          refine XS.dup X14.here hx rfl (hb hby own_d1_48) rfl rfl ?_
          show oS p e below T14 m 49 #[oi p0, oi p1, oi (p1 &&& (3 : Int32)), .unset] [(.ref b7), (.ref b7)] _
          refine XS.iconst X14.here hx rfl (hb hby own_d1_49) ?_
          show oS p e below T14 m 50 #[oi p0, oi p1, oi (p1 &&& (3 : Int32)), .unset] [(.int (2 : Int32)), (.ref b7), (.ref b7)] _
          refine XS.sipush X14.here hx rfl (hb hby own_d1_50) ?_
          show oS p e below T14 m 53 #[oi p0, oi p1, oi (p1 &&& (3 : Int32)), .unset] [(.int (255 : Int32)), (.int (2 : Int32)), (.ref b7), (.ref b7)] _
          refine st18 _ ?_
          show oS p e below T18 m 54 #[oi p0, oi p1, oi (p1 &&& (3 : Int32)), .unset] [(.ref b7)] _
          refine XS.dup X18.here hx rfl (hb hby own_d1_54) rfl rfl ?_
          show oS p e below T18 m 55 #[oi p0, oi p1, oi (p1 &&& (3 : Int32)), .unset] [(.ref b7), (.ref b7)] _
          refine XS.iconst X18.here hx rfl (hb hby own_d1_55) ?_
          show oS p e below T18 m 56 #[oi p0, oi p1, oi (p1 &&& (3 : Int32)), .unset] [(.int (3 : Int32)), (.ref b7), (.ref b7)] _
          refine XS.sipush X18.here hx rfl (hb hby own_d1_56) ?_
          show oS p e below T18 m 59 #[oi p0, oi p1, oi (p1 &&& (3 : Int32)), .unset] [(.int (256 : Int32)), (.int (3 : Int32)), (.ref b7), (.ref b7)] _
          refine st22 _ ?_
          show oS p e below T22 m 60 #[oi p0, oi p1, oi (p1 &&& (3 : Int32)), .unset] [(.ref b7)] _
          refine XS.dup X22.here hx rfl (hb hby own_d1_60) rfl rfl ?_
          show oS p e below T22 m 61 #[oi p0, oi p1, oi (p1 &&& (3 : Int32)), .unset] [(.ref b7), (.ref b7)] _
          refine XS.iconst X22.here hx rfl (hb hby own_d1_61) ?_
          show oS p e below T22 m 62 #[oi p0, oi p1, oi (p1 &&& (3 : Int32)), .unset] [(.int (4 : Int32)), (.ref b7), (.ref b7)] _
          refine X22.ldcInt hx hown (mvT hZ (hw _ (List.mem_of_getElem? (i := 47) rfl))) (g := (mkF m 62 #[oi p0, oi p1, oi (p1 &&& (3 : Int32)), .unset] [(.int (4 : Int32)), (.ref b7), (.ref b7)])) rfl (hb hby own_d1_62) _ ?_
          show oS p e below T22 m 64 #[oi p0, oi p1, oi (p1 &&& (3 : Int32)), .unset] [(.int (-2147483648 : Int32)), (.int (4 : Int32)), (.ref b7), (.ref b7)] _
          refine st26 _ ?_
          show oS p e below T26 m 65 #[oi p0, oi p1, oi (p1 &&& (3 : Int32)), .unset] [(.ref b7)] _
          refine XS.dup X26.here hx rfl (hb hby own_d1_65) rfl rfl ?_
          show oS p e below T26 m 66 #[oi p0, oi p1, oi (p1 &&& (3 : Int32)), .unset] [(.ref b7), (.ref b7)] _
          refine XS.iconst X26.here hx rfl (hb hby own_d1_66) ?_
          show oS p e below T26 m 67 #[oi p0, oi p1, oi (p1 &&& (3 : Int32)), .unset] [(.int (5 : Int32)), (.ref b7), (.ref b7)] _
          refine X26.ldcInt hx hown (mvT hZ (hw _ (List.mem_of_getElem? (i := 48) rfl))) (g := (mkF m 67 #[oi p0, oi p1, oi (p1 &&& (3 : Int32)), .unset] [(.int (5 : Int32)), (.ref b7), (.ref b7)])) rfl (hb hby own_d1_67) _ ?_
          show oS p e below T26 m 69 #[oi p0, oi p1, oi (p1 &&& (3 : Int32)), .unset] [(.int (2147483647 : Int32)), (.int (5 : Int32)), (.ref b7), (.ref b7)] _
          refine st30 _ ?_
          show oS p e below T30 m 70 #[oi p0, oi p1, oi (p1 &&& (3 : Int32)), .unset] [(.ref b7)] _
          refine XS.dup X30.here hx rfl (hb hby own_d1_70) rfl rfl ?_
          show oS p e below T30 m 71 #[oi p0, oi p1, oi (p1 &&& (3 : Int32)), .unset] [(.ref b7), (.ref b7)] _
          refine XS.bipush X30.here hx rfl (hb hby own_d1_71) ?_
          show oS p e below T30 m 73 #[oi p0, oi p1, oi (p1 &&& (3 : Int32)), .unset] [(.int (6 : Int32)), (.ref b7), (.ref b7)] _
          refine XS.sipush X30.here hx rfl (hb hby own_d1_73) ?_
          show oS p e below T30 m 76 #[oi p0, oi p1, oi (p1 &&& (3 : Int32)), .unset] [(.int (128 : Int32)), (.int (6 : Int32)), (.ref b7), (.ref b7)] _
          refine st34 _ ?_
          show oS p e below T34 m 77 #[oi p0, oi p1, oi (p1 &&& (3 : Int32)), .unset] [(.ref b7)] _
          refine XS.dup X34.here hx rfl (hb hby own_d1_77) rfl rfl ?_
          show oS p e below T34 m 78 #[oi p0, oi p1, oi (p1 &&& (3 : Int32)), .unset] [(.ref b7), (.ref b7)] _
          refine XS.bipush X34.here hx rfl (hb hby own_d1_78) ?_
          show oS p e below T34 m 80 #[oi p0, oi p1, oi (p1 &&& (3 : Int32)), .unset] [(.int (7 : Int32)), (.ref b7), (.ref b7)] _
          refine XS.bipush X34.here hx rfl (hb hby own_d1_80) ?_
          show oS p e below T34 m 82 #[oi p0, oi p1, oi (p1 &&& (3 : Int32)), .unset] [(.int (127 : Int32)), (.int (7 : Int32)), (.ref b7), (.ref b7)] _
          refine st38 _ ?_
          show oS p e below T38 m 83 #[oi p0, oi p1, oi (p1 &&& (3 : Int32)), .unset] [(.ref b7)] _
          refine XS.astoreN X38.here hx rfl (hb hby own_d1_83) rfl rfl (l' := #[oi p0, oi p1, oi (p1 &&& (3 : Int32)), oa b7]) rfl ?_
          show oS p e below T38 m 84 #[oi p0, oi p1, oi (p1 &&& (3 : Int32)), oa b7] [] _
          refine XS.aloadN X38.here hx rfl (hb hby own_d1_84) rfl rfl ?_
          show oS p e below T38 m 85 #[oi p0, oi p1, oi (p1 &&& (3 : Int32)), oa b7] [(.ref b7)] _
          refine XS.iloadN X38.here hx rfl (hb hby own_d1_85) rfl ?_
          show oS p e below T38 m 86 #[oi p0, oi p1, oi (p1 &&& (3 : Int32)), oa b7] [(.int p0), (.ref b7)] _
          refine XS.bipush X38.here hx rfl (hb hby own_d1_86) ?_
          show oS p e below T38 m 88 #[oi p0, oi p1, oi (p1 &&& (3 : Int32)), oa b7] [(.int (7 : Int32)), (.int p0), (.ref b7)] _
          refine XS.iand X38.here hx rfl (hb hby own_d1_88) rfl ?_
          show oS p e below T38 m 89 #[oi p0, oi p1, oi (p1 &&& (3 : Int32)), oa b7] [(.int (p0 &&& (7 : Int32))), (.ref b7)] _
          refine oLdI X38 hx hZ e38 V_40 (v := (.int (([(-1 : Int32), (0 : Int32), (255 : Int32), (256 : Int32), (-2147483648 : Int32), (2147483647 : Int32), (128 : Int32), (127 : Int32)] : List Int32).getD ((p0 &&& (7 : Int32))).toNatClampNeg 0))) hin42 hat43 (hb hby own_d1_89) ?_
          show oS p e below T38 m 90 #[oi p0, oi p1, oi (p1 &&& (3 : Int32)), oa b7] [(.int (([(-1 : Int32), (0 : Int32), (255 : Int32), (256 : Int32), (-2147483648 : Int32), (2147483647 : Int32), (128 : Int32), (127 : Int32)] : List Int32).getD ((p0 &&& (7 : Int32))).toNatClampNeg 0))] _
          exact retOut X38 hx Bd.returns rfl (Or.inl ⟨rfl, Or.inl rfl, _, rfl⟩) (hb hby own_d1_90) hr
        · show own_Q1 Z p0 p1 h0 n0 _ T38.heap _
          rw [e38]
          exact ⟨_, rfl, N38, K_41⟩
theorem own_d7_0 : decode prog_9_method_2_code 0 = .ok (.aload_n 0, 1) := by decide +kernel
theorem own_d7_1 : decode prog_9_method_2_code 1 = .ok (.getfield 9, 3) := by decide +kernel
theorem own_d7_4 : decode prog_9_method_2_code 4 = .ok (.ifnull 16, 3) := by decide +kernel
theorem own_d7_7 : decode prog_9_method_2_code 7 = .ok (.aload_n 0, 1) := by decide +kernel
theorem own_d7_8 : decode prog_9_method_2_code 8 = .ok (.getfield 9, 3) := by decide +kernel
theorem own_d7_11 : decode prog_9_method_2_code 11 = .ok (.iload_n 1, 1) := by decide +kernel
theorem own_d7_12 : decode prog_9_method_2_code 12 = .ok (.baload, 1) := by decide +kernel
theorem own_d7_13 : decode prog_9_method_2_code 13 = .ok (.sipush 255, 3) := by decide +kernel
theorem own_d7_16 : decode prog_9_method_2_code 16 = .ok (.iand, 1) := by decide +kernel
theorem own_d7_17 : decode prog_9_method_2_code 17 = .ok (.goto 9, 3) := by decide +kernel
theorem own_d7_26 : decode prog_9_method_2_code 26 = .ok (.ireturn, 1) := by decide +kernel
theorem own_ef7b0 (m : MethodId) (a0 : Addr) : entryFrame m #[(.ref a0), (.int (0 : Int32))] 2 = mkF m 0 #[oa a0, oi (0 : Int32)] [] := by first | (simp [entryFrame, mkF, argsToLocals, Value.category]; done) | rfl
def own_f7b0 (y0 : Int32) : Int32 := (y0 &&& (255 : Int32))
def own_Q7b0 (Z : State) (a0 : Addr) (b : Addr) (k_b : ClassId) (y0 : Int32) (y1 : Int32) (y2 : Int32) (h0 : Heap) (n0 : Nat) (v : Option Value) (h : Heap) (L : List Loc) : Prop := v = some (Value.int (own_f7b0 y0)) ∧ Fr n0 L ∧ h = h0
set_option maxRecDepth 65536 in
set_option maxHeartbeats 40000000 in
theorem own_rm7b0 (l : Launch) (Z : State) (av : Array Value) (hw : ∀ d ∈ tables_1, d.before av Z = true) (ws : List Jvm.Cond) (a0 : Addr) (b : Addr) (k_b : ClassId) (y0 : Int32) (y1 : Int32) (y2 : Int32) (h0 : Heap) (n0 : Nat) (Z0 : n0 ≤ h0.size) (F_byteIndices_a0 : Fld Z h0 a0 "com/example/penstock/penstock/Design" "byteIndices" "[B" (.ref b)) (V_b : Arv Z h0 b k_b .byte (3 : Int32) [(.int y0), (.int y1), (.int y2)] (.int (0 : Int32))) :
    MetFree l (⟨"com/example/penstock/penstock/Design", "sizeIndex", "(I)I"⟩ : MethodName) (head1 (Jvm.Cond.code (⟨"com/example/penstock/penstock/Design", "sizeIndex", "(I)I"⟩ : MethodName) prog_9_method_2_code 2 (some .int) :: ws) ({ frames := 0, cells := 0, slots := 0, locals := 0 } : Room)) (fun a U => a = #[(.ref a0), (.int (0 : Int32))] ∧ Z.Warmed39 U.vm ∧ U.heap = h0) (fun _ _ _ _ _ => True) (fun _ U o U' => ∃ v L, o = .returned v ∧ own_Q7b0 Z a0 b k_b y0 y1 y2 h0 n0 v U'.heap L ∧ FrameEnd U o U' L ({ frames := 0, cells := 0, slots := 0, locals := 0 } : Room).cells ({ frames := 0, cells := 0, slots := 0, locals := 0 } : Room).slots) := by
  refine MetFree.of_bodySF (plainFor_of_name own_pn2) hisR ?_
  intro p e s m args below meth c s₁ Bd hml0 hP hK
  obtain ⟨rfl, hZ, hh⟩ := hP
  have hx := Bd.exec
  have hby := Bd.bytes
  have hml : c.maxLocals = 2 := hml0
  have hown : s.vm.findClass "com/example/penstock/penstock/Design" = some m.cls := findClass_of_methodNamed Bd.named
  have hnm := (name_of_methodNamed Bd.named Bd.method).1
  have X0 : Stand p l e ({ frames := 0, cells := 0, slots := 0, locals := 0 } : Room) s m #[(.ref a0), (.int (0 : Int32))] below meth c s₁ [] 0 0 := Stand.of_body Bd
  have e0 : s₁.heap = h0 := by rw [← hh, Bd.state]; rfl
  have N0 := Fr.nil n0
  have pre0 : ∀ t, Steps p.tables e below (s₁.setTop (mkF m 0 #[oa a0, oi (0 : Int32)] [])) t → Steps p.tables e below (s₁.setTop (entryFrame m #[(.ref a0), (.int (0 : Int32))] 2)) t := fun t k => castTop (own_ef7b0 m a0) k
  obtain ⟨T1, X1, e1, st1⟩ := getF X0 hx hZ hown (host := "") (Or.inl (hw _ (List.mem_of_getElem? (i := 15) rfl))) Via.refl e0 F_byteIndices_a0 (g := (mkF m 1 #[oa a0, oi (0 : Int32)] [(.ref a0)])) rfl rfl (hb hby own_d7_1)
  obtain ⟨T2, X2, e2, st2⟩ := getF X1 hx hZ hown (host := "") (Or.inl (hw _ (List.mem_of_getElem? (i := 15) rfl))) Via.refl e1 F_byteIndices_a0 (g := (mkF m 8 #[oa a0, oi (0 : Int32)] [(.ref a0)])) rfl rfl (hb hby own_d7_8)
  obtain ⟨fs, hr, hrun, hended, hW, hsame⟩ := X2.leave (v := (some (.int (y0 &&& (255 : Int32))))) (fun h => by rw [Bd.returns] at h; cases h)
  refine ⟨_, _, pre0 _ ?_, hrun, hended, _, _, rfl, ?_, ⟨_, rfl⟩, hW, hsame.mono (by decide) (by decide)⟩
  · show oS p e below s₁ m 0 #[oa a0, oi (0 : Int32)] [] _
    refine XS.aloadN X0.here hx rfl (hb hby own_d7_0) rfl rfl ?_
    show oS p e below s₁ m 1 #[oa a0, oi (0 : Int32)] [(.ref a0)] _
    refine st1 _ ?_
    show oS p e below T1 m 4 #[oa a0, oi (0 : Int32)] [(.ref b)] _
    refine XS.ifnullNo X1.here hx rfl (hb hby own_d7_4) rfl ?_
    show oS p e below T1 m 7 #[oa a0, oi (0 : Int32)] [] _
    refine XS.aloadN X1.here hx rfl (hb hby own_d7_7) rfl rfl ?_
    show oS p e below T1 m 8 #[oa a0, oi (0 : Int32)] [(.ref a0)] _
    refine st2 _ ?_
    show oS p e below T2 m 11 #[oa a0, oi (0 : Int32)] [(.ref b)] _
    refine XS.iloadN X2.here hx rfl (hb hby own_d7_11) rfl ?_
    show oS p e below T2 m 12 #[oa a0, oi (0 : Int32)] [(.int (0 : Int32)), (.ref b)] _
    refine oLdB X2 hx hZ e2 V_b (v := (.int y0)) ⟨by decide, by decide⟩ rfl (hb hby own_d7_12) ?_
    show oS p e below T2 m 13 #[oa a0, oi (0 : Int32)] [(.int y0)] _
    refine XS.sipush X2.here hx rfl (hb hby own_d7_13) ?_
    show oS p e below T2 m 16 #[oa a0, oi (0 : Int32)] [(.int (255 : Int32)), (.int y0)] _
    refine XS.iand X2.here hx rfl (hb hby own_d7_16) rfl ?_
    show oS p e below T2 m 17 #[oa a0, oi (0 : Int32)] [(.int (y0 &&& (255 : Int32)))] _
    refine XS.goto X2.here hx rfl (pc0 := 17) (pc' := 26) rfl (hb hby own_d7_17) (by decide) (by decide) ?_
    show oS p e below T2 m 26 #[oa a0, oi (0 : Int32)] [(.int (y0 &&& (255 : Int32)))] _
    exact retOut X2 hx Bd.returns rfl (Or.inl ⟨rfl, Or.inl rfl, _, rfl⟩) (hb hby own_d7_26) hr
  · show own_Q7b0 Z a0 b k_b y0 y1 y2 h0 n0 _ T2.heap _
    rw [e2]
    exact ⟨congrArg (fun z => some (Value.int z)) (by rw [own_f7b0]), N0, rfl⟩
theorem own_d7_20 : decode prog_9_method_2_code 20 = .ok (.aload_n 0, 1) := by decide +kernel
theorem own_d7_21 : decode prog_9_method_2_code 21 = .ok (.getfield 13, 3) := by decide +kernel
theorem own_d7_24 : decode prog_9_method_2_code 24 = .ok (.iload_n 1, 1) := by decide +kernel
theorem own_d7_25 : decode prog_9_method_2_code 25 = .ok (.iaload, 1) := by decide +kernel
theorem own_ef7i0 (m : MethodId) (a0 : Addr) : entryFrame m #[(.ref a0), (.int (0 : Int32))] 2 = mkF m 0 #[oa a0, oi (0 : Int32)] [] := by first | (simp [entryFrame, mkF, argsToLocals, Value.category]; done) | rfl
def own_f7i0 (y0 : Int32) : Int32 := y0
def own_Q7i0 (Z : State) (a0 : Addr) (b : Addr) (k_b : ClassId) (y0 : Int32) (y1 : Int32) (y2 : Int32) (h0 : Heap) (n0 : Nat) (v : Option Value) (h : Heap) (L : List Loc) : Prop := v = some (Value.int (own_f7i0 y0)) ∧ Fr n0 L ∧ h = h0
set_option maxRecDepth 65536 in
set_option maxHeartbeats 40000000 in
theorem own_rm7i0 (l : Launch) (Z : State) (av : Array Value) (hw : ∀ d ∈ tables_1, d.before av Z = true) (ws : List Jvm.Cond) (a0 : Addr) (b : Addr) (k_b : ClassId) (y0 : Int32) (y1 : Int32) (y2 : Int32) (h0 : Heap) (n0 : Nat) (Z0 : n0 ≤ h0.size) (F_byteIndices_a0 : Fld Z h0 a0 "com/example/penstock/penstock/Design" "byteIndices" "[B" .null) (F_intIndices_a0 : Fld Z h0 a0 "com/example/penstock/penstock/Design" "intIndices" "[I" (.ref b)) (V_b : Arv Z h0 b k_b .int (3 : Int32) [(.int y0), (.int y1), (.int y2)] (.int (0 : Int32))) :
    MetFree l (⟨"com/example/penstock/penstock/Design", "sizeIndex", "(I)I"⟩ : MethodName) (head1 (Jvm.Cond.code (⟨"com/example/penstock/penstock/Design", "sizeIndex", "(I)I"⟩ : MethodName) prog_9_method_2_code 2 (some .int) :: ws) ({ frames := 0, cells := 0, slots := 0, locals := 0 } : Room)) (fun a U => a = #[(.ref a0), (.int (0 : Int32))] ∧ Z.Warmed39 U.vm ∧ U.heap = h0) (fun _ _ _ _ _ => True) (fun _ U o U' => ∃ v L, o = .returned v ∧ own_Q7i0 Z a0 b k_b y0 y1 y2 h0 n0 v U'.heap L ∧ FrameEnd U o U' L ({ frames := 0, cells := 0, slots := 0, locals := 0 } : Room).cells ({ frames := 0, cells := 0, slots := 0, locals := 0 } : Room).slots) := by
  refine MetFree.of_bodySF (plainFor_of_name own_pn2) hisR ?_
  intro p e s m args below meth c s₁ Bd hml0 hP hK
  obtain ⟨rfl, hZ, hh⟩ := hP
  have hx := Bd.exec
  have hby := Bd.bytes
  have hml : c.maxLocals = 2 := hml0
  have hown : s.vm.findClass "com/example/penstock/penstock/Design" = some m.cls := findClass_of_methodNamed Bd.named
  have hnm := (name_of_methodNamed Bd.named Bd.method).1
  have X0 : Stand p l e ({ frames := 0, cells := 0, slots := 0, locals := 0 } : Room) s m #[(.ref a0), (.int (0 : Int32))] below meth c s₁ [] 0 0 := Stand.of_body Bd
  have e0 : s₁.heap = h0 := by rw [← hh, Bd.state]; rfl
  have N0 := Fr.nil n0
  have pre0 : ∀ t, Steps p.tables e below (s₁.setTop (mkF m 0 #[oa a0, oi (0 : Int32)] [])) t → Steps p.tables e below (s₁.setTop (entryFrame m #[(.ref a0), (.int (0 : Int32))] 2)) t := fun t k => castTop (own_ef7i0 m a0) k
  obtain ⟨T1, X1, e1, st1⟩ := getF X0 hx hZ hown (host := "") (Or.inl (hw _ (List.mem_of_getElem? (i := 15) rfl))) Via.refl e0 F_byteIndices_a0 (g := (mkF m 1 #[oa a0, oi (0 : Int32)] [(.ref a0)])) rfl rfl (hb hby own_d7_1)
  obtain ⟨T2, X2, e2, st2⟩ := getF X1 hx hZ hown (host := "") (Or.inl (hw _ (List.mem_of_getElem? (i := 17) rfl))) Via.refl e1 F_intIndices_a0 (g := (mkF m 21 #[oa a0, oi (0 : Int32)] [(.ref a0)])) rfl rfl (hb hby own_d7_21)
  obtain ⟨fs, hr, hrun, hended, hW, hsame⟩ := X2.leave (v := (some (.int y0))) (fun h => by rw [Bd.returns] at h; cases h)
  refine ⟨_, _, pre0 _ ?_, hrun, hended, _, _, rfl, ?_, ⟨_, rfl⟩, hW, hsame.mono (by decide) (by decide)⟩
  · show oS p e below s₁ m 0 #[oa a0, oi (0 : Int32)] [] _
    refine XS.aloadN X0.here hx rfl (hb hby own_d7_0) rfl rfl ?_
    show oS p e below s₁ m 1 #[oa a0, oi (0 : Int32)] [(.ref a0)] _
    refine st1 _ ?_
    show oS p e below T1 m 4 #[oa a0, oi (0 : Int32)] [.null] _
    refine XS.ifnullYes X1.here hx rfl (pc0 := 4) (pc' := 20) rfl (hb hby own_d7_4) rfl (by decide) (by decide) ?_
    show oS p e below T1 m 20 #[oa a0, oi (0 : Int32)] [] _
    refine XS.aloadN X1.here hx rfl (hb hby own_d7_20) rfl rfl ?_
    show oS p e below T1 m 21 #[oa a0, oi (0 : Int32)] [(.ref a0)] _
    refine st2 _ ?_
    show oS p e below T2 m 24 #[oa a0, oi (0 : Int32)] [(.ref b)] _
    refine XS.iloadN X2.here hx rfl (hb hby own_d7_24) rfl ?_
    show oS p e below T2 m 25 #[oa a0, oi (0 : Int32)] [(.int (0 : Int32)), (.ref b)] _
    refine oLdI X2 hx hZ e2 V_b (v := (.int y0)) ⟨by decide, by decide⟩ rfl (hb hby own_d7_25) ?_
    show oS p e below T2 m 26 #[oa a0, oi (0 : Int32)] [(.int y0)] _
    exact retOut X2 hx Bd.returns rfl (Or.inl ⟨rfl, Or.inl rfl, _, rfl⟩) (hb hby own_d7_26) hr
  · show own_Q7i0 Z a0 b k_b y0 y1 y2 h0 n0 _ T2.heap _
    rw [e2]
    exact ⟨congrArg (fun z => some (Value.int z)) (by rw [own_f7i0]), N0, rfl⟩
theorem own_ef7b1 (m : MethodId) (a0 : Addr) : entryFrame m #[(.ref a0), (.int (1 : Int32))] 2 = mkF m 0 #[oa a0, oi (1 : Int32)] [] := by first | (simp [entryFrame, mkF, argsToLocals, Value.category]; done) | rfl
def own_f7b1 (y1 : Int32) : Int32 := (y1 &&& (255 : Int32))
def own_Q7b1 (Z : State) (a0 : Addr) (b : Addr) (k_b : ClassId) (y0 : Int32) (y1 : Int32) (y2 : Int32) (h0 : Heap) (n0 : Nat) (v : Option Value) (h : Heap) (L : List Loc) : Prop := v = some (Value.int (own_f7b1 y1)) ∧ Fr n0 L ∧ h = h0
set_option maxRecDepth 65536 in
set_option maxHeartbeats 40000000 in
theorem own_rm7b1 (l : Launch) (Z : State) (av : Array Value) (hw : ∀ d ∈ tables_1, d.before av Z = true) (ws : List Jvm.Cond) (a0 : Addr) (b : Addr) (k_b : ClassId) (y0 : Int32) (y1 : Int32) (y2 : Int32) (h0 : Heap) (n0 : Nat) (Z0 : n0 ≤ h0.size) (F_byteIndices_a0 : Fld Z h0 a0 "com/example/penstock/penstock/Design" "byteIndices" "[B" (.ref b)) (V_b : Arv Z h0 b k_b .byte (3 : Int32) [(.int y0), (.int y1), (.int y2)] (.int (0 : Int32))) :
    MetFree l (⟨"com/example/penstock/penstock/Design", "sizeIndex", "(I)I"⟩ : MethodName) (head1 (Jvm.Cond.code (⟨"com/example/penstock/penstock/Design", "sizeIndex", "(I)I"⟩ : MethodName) prog_9_method_2_code 2 (some .int) :: ws) ({ frames := 0, cells := 0, slots := 0, locals := 0 } : Room)) (fun a U => a = #[(.ref a0), (.int (1 : Int32))] ∧ Z.Warmed39 U.vm ∧ U.heap = h0) (fun _ _ _ _ _ => True) (fun _ U o U' => ∃ v L, o = .returned v ∧ own_Q7b1 Z a0 b k_b y0 y1 y2 h0 n0 v U'.heap L ∧ FrameEnd U o U' L ({ frames := 0, cells := 0, slots := 0, locals := 0 } : Room).cells ({ frames := 0, cells := 0, slots := 0, locals := 0 } : Room).slots) := by
  refine MetFree.of_bodySF (plainFor_of_name own_pn2) hisR ?_
  intro p e s m args below meth c s₁ Bd hml0 hP hK
  obtain ⟨rfl, hZ, hh⟩ := hP
  have hx := Bd.exec
  have hby := Bd.bytes
  have hml : c.maxLocals = 2 := hml0
  have hown : s.vm.findClass "com/example/penstock/penstock/Design" = some m.cls := findClass_of_methodNamed Bd.named
  have hnm := (name_of_methodNamed Bd.named Bd.method).1
  have X0 : Stand p l e ({ frames := 0, cells := 0, slots := 0, locals := 0 } : Room) s m #[(.ref a0), (.int (1 : Int32))] below meth c s₁ [] 0 0 := Stand.of_body Bd
  have e0 : s₁.heap = h0 := by rw [← hh, Bd.state]; rfl
  have N0 := Fr.nil n0
  have pre0 : ∀ t, Steps p.tables e below (s₁.setTop (mkF m 0 #[oa a0, oi (1 : Int32)] [])) t → Steps p.tables e below (s₁.setTop (entryFrame m #[(.ref a0), (.int (1 : Int32))] 2)) t := fun t k => castTop (own_ef7b1 m a0) k
  obtain ⟨T1, X1, e1, st1⟩ := getF X0 hx hZ hown (host := "") (Or.inl (hw _ (List.mem_of_getElem? (i := 15) rfl))) Via.refl e0 F_byteIndices_a0 (g := (mkF m 1 #[oa a0, oi (1 : Int32)] [(.ref a0)])) rfl rfl (hb hby own_d7_1)
  obtain ⟨T2, X2, e2, st2⟩ := getF X1 hx hZ hown (host := "") (Or.inl (hw _ (List.mem_of_getElem? (i := 15) rfl))) Via.refl e1 F_byteIndices_a0 (g := (mkF m 8 #[oa a0, oi (1 : Int32)] [(.ref a0)])) rfl rfl (hb hby own_d7_8)
  obtain ⟨fs, hr, hrun, hended, hW, hsame⟩ := X2.leave (v := (some (.int (y1 &&& (255 : Int32))))) (fun h => by rw [Bd.returns] at h; cases h)
  refine ⟨_, _, pre0 _ ?_, hrun, hended, _, _, rfl, ?_, ⟨_, rfl⟩, hW, hsame.mono (by decide) (by decide)⟩
  · show oS p e below s₁ m 0 #[oa a0, oi (1 : Int32)] [] _
    refine XS.aloadN X0.here hx rfl (hb hby own_d7_0) rfl rfl ?_
    show oS p e below s₁ m 1 #[oa a0, oi (1 : Int32)] [(.ref a0)] _
    refine st1 _ ?_
    show oS p e below T1 m 4 #[oa a0, oi (1 : Int32)] [(.ref b)] _
    refine XS.ifnullNo X1.here hx rfl (hb hby own_d7_4) rfl ?_
    show oS p e below T1 m 7 #[oa a0, oi (1 : Int32)] [] _
    refine XS.aloadN X1.here hx rfl (hb hby own_d7_7) rfl rfl ?_
    show oS p e below T1 m 8 #[oa a0, oi (1 : Int32)] [(.ref a0)] _
    refine st2 _ ?_
    show oS p e below T2 m 11 #[oa a0, oi (1 : Int32)] [(.ref b)] _
    refine XS.iloadN X2.here hx rfl (hb hby own_d7_11) rfl ?_
    show oS p e below T2 m 12 #[oa a0, oi (1 : Int32)] [(.int (1 : Int32)), (.ref b)] _
    refine oLdB X2 hx hZ e2 V_b (v := (.int y1)) ⟨by decide, by decide⟩ rfl (hb hby own_d7_12) ?_
    show oS p e below T2 m 13 #[oa a0, oi (1 : Int32)] [(.int y1)] _
    refine XS.sipush X2.here hx rfl (hb hby own_d7_13) ?_
    show oS p e below T2 m 16 #[oa a0, oi (1 : Int32)] [(.int (255 : Int32)), (.int y1)] _
    refine XS.iand X2.here hx rfl (hb hby own_d7_16) rfl ?_
    show oS p e below T2 m 17 #[oa a0, oi (1 : Int32)] [(.int (y1 &&& (255 : Int32)))] _
    refine XS.goto X2.here hx rfl (pc0 := 17) (pc' := 26) rfl (hb hby own_d7_17) (by decide) (by decide) ?_
    show oS p e below T2 m 26 #[oa a0, oi (1 : Int32)] [(.int (y1 &&& (255 : Int32)))] _
    exact retOut X2 hx Bd.returns rfl (Or.inl ⟨rfl, Or.inl rfl, _, rfl⟩) (hb hby own_d7_26) hr
  · show own_Q7b1 Z a0 b k_b y0 y1 y2 h0 n0 _ T2.heap _
    rw [e2]
    exact ⟨congrArg (fun z => some (Value.int z)) (by rw [own_f7b1]), N0, rfl⟩
theorem own_ef7i1 (m : MethodId) (a0 : Addr) : entryFrame m #[(.ref a0), (.int (1 : Int32))] 2 = mkF m 0 #[oa a0, oi (1 : Int32)] [] := by first | (simp [entryFrame, mkF, argsToLocals, Value.category]; done) | rfl
def own_f7i1 (y1 : Int32) : Int32 := y1
def own_Q7i1 (Z : State) (a0 : Addr) (b : Addr) (k_b : ClassId) (y0 : Int32) (y1 : Int32) (y2 : Int32) (h0 : Heap) (n0 : Nat) (v : Option Value) (h : Heap) (L : List Loc) : Prop := v = some (Value.int (own_f7i1 y1)) ∧ Fr n0 L ∧ h = h0
set_option maxRecDepth 65536 in
set_option maxHeartbeats 40000000 in
theorem own_rm7i1 (l : Launch) (Z : State) (av : Array Value) (hw : ∀ d ∈ tables_1, d.before av Z = true) (ws : List Jvm.Cond) (a0 : Addr) (b : Addr) (k_b : ClassId) (y0 : Int32) (y1 : Int32) (y2 : Int32) (h0 : Heap) (n0 : Nat) (Z0 : n0 ≤ h0.size) (F_byteIndices_a0 : Fld Z h0 a0 "com/example/penstock/penstock/Design" "byteIndices" "[B" .null) (F_intIndices_a0 : Fld Z h0 a0 "com/example/penstock/penstock/Design" "intIndices" "[I" (.ref b)) (V_b : Arv Z h0 b k_b .int (3 : Int32) [(.int y0), (.int y1), (.int y2)] (.int (0 : Int32))) :
    MetFree l (⟨"com/example/penstock/penstock/Design", "sizeIndex", "(I)I"⟩ : MethodName) (head1 (Jvm.Cond.code (⟨"com/example/penstock/penstock/Design", "sizeIndex", "(I)I"⟩ : MethodName) prog_9_method_2_code 2 (some .int) :: ws) ({ frames := 0, cells := 0, slots := 0, locals := 0 } : Room)) (fun a U => a = #[(.ref a0), (.int (1 : Int32))] ∧ Z.Warmed39 U.vm ∧ U.heap = h0) (fun _ _ _ _ _ => True) (fun _ U o U' => ∃ v L, o = .returned v ∧ own_Q7i1 Z a0 b k_b y0 y1 y2 h0 n0 v U'.heap L ∧ FrameEnd U o U' L ({ frames := 0, cells := 0, slots := 0, locals := 0 } : Room).cells ({ frames := 0, cells := 0, slots := 0, locals := 0 } : Room).slots) := by
  refine MetFree.of_bodySF (plainFor_of_name own_pn2) hisR ?_
  intro p e s m args below meth c s₁ Bd hml0 hP hK
  obtain ⟨rfl, hZ, hh⟩ := hP
  have hx := Bd.exec
  have hby := Bd.bytes
  have hml : c.maxLocals = 2 := hml0
  have hown : s.vm.findClass "com/example/penstock/penstock/Design" = some m.cls := findClass_of_methodNamed Bd.named
  have hnm := (name_of_methodNamed Bd.named Bd.method).1
  have X0 : Stand p l e ({ frames := 0, cells := 0, slots := 0, locals := 0 } : Room) s m #[(.ref a0), (.int (1 : Int32))] below meth c s₁ [] 0 0 := Stand.of_body Bd
  have e0 : s₁.heap = h0 := by rw [← hh, Bd.state]; rfl
  have N0 := Fr.nil n0
  have pre0 : ∀ t, Steps p.tables e below (s₁.setTop (mkF m 0 #[oa a0, oi (1 : Int32)] [])) t → Steps p.tables e below (s₁.setTop (entryFrame m #[(.ref a0), (.int (1 : Int32))] 2)) t := fun t k => castTop (own_ef7i1 m a0) k
  obtain ⟨T1, X1, e1, st1⟩ := getF X0 hx hZ hown (host := "") (Or.inl (hw _ (List.mem_of_getElem? (i := 15) rfl))) Via.refl e0 F_byteIndices_a0 (g := (mkF m 1 #[oa a0, oi (1 : Int32)] [(.ref a0)])) rfl rfl (hb hby own_d7_1)
  obtain ⟨T2, X2, e2, st2⟩ := getF X1 hx hZ hown (host := "") (Or.inl (hw _ (List.mem_of_getElem? (i := 17) rfl))) Via.refl e1 F_intIndices_a0 (g := (mkF m 21 #[oa a0, oi (1 : Int32)] [(.ref a0)])) rfl rfl (hb hby own_d7_21)
  obtain ⟨fs, hr, hrun, hended, hW, hsame⟩ := X2.leave (v := (some (.int y1))) (fun h => by rw [Bd.returns] at h; cases h)
  refine ⟨_, _, pre0 _ ?_, hrun, hended, _, _, rfl, ?_, ⟨_, rfl⟩, hW, hsame.mono (by decide) (by decide)⟩
  · show oS p e below s₁ m 0 #[oa a0, oi (1 : Int32)] [] _
    refine XS.aloadN X0.here hx rfl (hb hby own_d7_0) rfl rfl ?_
    show oS p e below s₁ m 1 #[oa a0, oi (1 : Int32)] [(.ref a0)] _
    refine st1 _ ?_
    show oS p e below T1 m 4 #[oa a0, oi (1 : Int32)] [.null] _
    refine XS.ifnullYes X1.here hx rfl (pc0 := 4) (pc' := 20) rfl (hb hby own_d7_4) rfl (by decide) (by decide) ?_
    show oS p e below T1 m 20 #[oa a0, oi (1 : Int32)] [] _
    refine XS.aloadN X1.here hx rfl (hb hby own_d7_20) rfl rfl ?_
    show oS p e below T1 m 21 #[oa a0, oi (1 : Int32)] [(.ref a0)] _
    refine st2 _ ?_
    show oS p e below T2 m 24 #[oa a0, oi (1 : Int32)] [(.ref b)] _
    refine XS.iloadN X2.here hx rfl (hb hby own_d7_24) rfl ?_
    show oS p e below T2 m 25 #[oa a0, oi (1 : Int32)] [(.int (1 : Int32)), (.ref b)] _
    refine oLdI X2 hx hZ e2 V_b (v := (.int y1)) ⟨by decide, by decide⟩ rfl (hb hby own_d7_25) ?_
    show oS p e below T2 m 26 #[oa a0, oi (1 : Int32)] [(.int y1)] _
    exact retOut X2 hx Bd.returns rfl (Or.inl ⟨rfl, Or.inl rfl, _, rfl⟩) (hb hby own_d7_26) hr
  · show own_Q7i1 Z a0 b k_b y0 y1 y2 h0 n0 _ T2.heap _
    rw [e2]
    exact ⟨congrArg (fun z => some (Value.int z)) (by rw [own_f7i1]), N0, rfl⟩
theorem own_ef7b2 (m : MethodId) (a0 : Addr) : entryFrame m #[(.ref a0), (.int (2 : Int32))] 2 = mkF m 0 #[oa a0, oi (2 : Int32)] [] := by first | (simp [entryFrame, mkF, argsToLocals, Value.category]; done) | rfl
def own_f7b2 (y2 : Int32) : Int32 := (y2 &&& (255 : Int32))
def own_Q7b2 (Z : State) (a0 : Addr) (b : Addr) (k_b : ClassId) (y0 : Int32) (y1 : Int32) (y2 : Int32) (h0 : Heap) (n0 : Nat) (v : Option Value) (h : Heap) (L : List Loc) : Prop := v = some (Value.int (own_f7b2 y2)) ∧ Fr n0 L ∧ h = h0
set_option maxRecDepth 65536 in
set_option maxHeartbeats 40000000 in
theorem own_rm7b2 (l : Launch) (Z : State) (av : Array Value) (hw : ∀ d ∈ tables_1, d.before av Z = true) (ws : List Jvm.Cond) (a0 : Addr) (b : Addr) (k_b : ClassId) (y0 : Int32) (y1 : Int32) (y2 : Int32) (h0 : Heap) (n0 : Nat) (Z0 : n0 ≤ h0.size) (F_byteIndices_a0 : Fld Z h0 a0 "com/example/penstock/penstock/Design" "byteIndices" "[B" (.ref b)) (V_b : Arv Z h0 b k_b .byte (3 : Int32) [(.int y0), (.int y1), (.int y2)] (.int (0 : Int32))) :
    MetFree l (⟨"com/example/penstock/penstock/Design", "sizeIndex", "(I)I"⟩ : MethodName) (head1 (Jvm.Cond.code (⟨"com/example/penstock/penstock/Design", "sizeIndex", "(I)I"⟩ : MethodName) prog_9_method_2_code 2 (some .int) :: ws) ({ frames := 0, cells := 0, slots := 0, locals := 0 } : Room)) (fun a U => a = #[(.ref a0), (.int (2 : Int32))] ∧ Z.Warmed39 U.vm ∧ U.heap = h0) (fun _ _ _ _ _ => True) (fun _ U o U' => ∃ v L, o = .returned v ∧ own_Q7b2 Z a0 b k_b y0 y1 y2 h0 n0 v U'.heap L ∧ FrameEnd U o U' L ({ frames := 0, cells := 0, slots := 0, locals := 0 } : Room).cells ({ frames := 0, cells := 0, slots := 0, locals := 0 } : Room).slots) := by
  refine MetFree.of_bodySF (plainFor_of_name own_pn2) hisR ?_
  intro p e s m args below meth c s₁ Bd hml0 hP hK
  obtain ⟨rfl, hZ, hh⟩ := hP
  have hx := Bd.exec
  have hby := Bd.bytes
  have hml : c.maxLocals = 2 := hml0
  have hown : s.vm.findClass "com/example/penstock/penstock/Design" = some m.cls := findClass_of_methodNamed Bd.named
  have hnm := (name_of_methodNamed Bd.named Bd.method).1
  have X0 : Stand p l e ({ frames := 0, cells := 0, slots := 0, locals := 0 } : Room) s m #[(.ref a0), (.int (2 : Int32))] below meth c s₁ [] 0 0 := Stand.of_body Bd
  have e0 : s₁.heap = h0 := by rw [← hh, Bd.state]; rfl
  have N0 := Fr.nil n0
  have pre0 : ∀ t, Steps p.tables e below (s₁.setTop (mkF m 0 #[oa a0, oi (2 : Int32)] [])) t → Steps p.tables e below (s₁.setTop (entryFrame m #[(.ref a0), (.int (2 : Int32))] 2)) t := fun t k => castTop (own_ef7b2 m a0) k
  obtain ⟨T1, X1, e1, st1⟩ := getF X0 hx hZ hown (host := "") (Or.inl (hw _ (List.mem_of_getElem? (i := 15) rfl))) Via.refl e0 F_byteIndices_a0 (g := (mkF m 1 #[oa a0, oi (2 : Int32)] [(.ref a0)])) rfl rfl (hb hby own_d7_1)
  obtain ⟨T2, X2, e2, st2⟩ := getF X1 hx hZ hown (host := "") (Or.inl (hw _ (List.mem_of_getElem? (i := 15) rfl))) Via.refl e1 F_byteIndices_a0 (g := (mkF m 8 #[oa a0, oi (2 : Int32)] [(.ref a0)])) rfl rfl (hb hby own_d7_8)
  obtain ⟨fs, hr, hrun, hended, hW, hsame⟩ := X2.leave (v := (some (.int (y2 &&& (255 : Int32))))) (fun h => by rw [Bd.returns] at h; cases h)
  refine ⟨_, _, pre0 _ ?_, hrun, hended, _, _, rfl, ?_, ⟨_, rfl⟩, hW, hsame.mono (by decide) (by decide)⟩
  · show oS p e below s₁ m 0 #[oa a0, oi (2 : Int32)] [] _
    refine XS.aloadN X0.here hx rfl (hb hby own_d7_0) rfl rfl ?_
    show oS p e below s₁ m 1 #[oa a0, oi (2 : Int32)] [(.ref a0)] _
    refine st1 _ ?_
    show oS p e below T1 m 4 #[oa a0, oi (2 : Int32)] [(.ref b)] _
    refine XS.ifnullNo X1.here hx rfl (hb hby own_d7_4) rfl ?_
    show oS p e below T1 m 7 #[oa a0, oi (2 : Int32)] [] _
    refine XS.aloadN X1.here hx rfl (hb hby own_d7_7) rfl rfl ?_
    show oS p e below T1 m 8 #[oa a0, oi (2 : Int32)] [(.ref a0)] _
    refine st2 _ ?_
    show oS p e below T2 m 11 #[oa a0, oi (2 : Int32)] [(.ref b)] _
    refine XS.iloadN X2.here hx rfl (hb hby own_d7_11) rfl ?_
    show oS p e below T2 m 12 #[oa a0, oi (2 : Int32)] [(.int (2 : Int32)), (.ref b)] _
    refine oLdB X2 hx hZ e2 V_b (v := (.int y2)) ⟨by decide, by decide⟩ rfl (hb hby own_d7_12) ?_
    show oS p e below T2 m 13 #[oa a0, oi (2 : Int32)] [(.int y2)] _
    refine XS.sipush X2.here hx rfl (hb hby own_d7_13) ?_
    show oS p e below T2 m 16 #[oa a0, oi (2 : Int32)] [(.int (255 : Int32)), (.int y2)] _
    refine XS.iand X2.here hx rfl (hb hby own_d7_16) rfl ?_
    show oS p e below T2 m 17 #[oa a0, oi (2 : Int32)] [(.int (y2 &&& (255 : Int32)))] _
    refine XS.goto X2.here hx rfl (pc0 := 17) (pc' := 26) rfl (hb hby own_d7_17) (by decide) (by decide) ?_
    show oS p e below T2 m 26 #[oa a0, oi (2 : Int32)] [(.int (y2 &&& (255 : Int32)))] _
    exact retOut X2 hx Bd.returns rfl (Or.inl ⟨rfl, Or.inl rfl, _, rfl⟩) (hb hby own_d7_26) hr
  · show own_Q7b2 Z a0 b k_b y0 y1 y2 h0 n0 _ T2.heap _
    rw [e2]
    exact ⟨congrArg (fun z => some (Value.int z)) (by rw [own_f7b2]), N0, rfl⟩
theorem own_ef7i2 (m : MethodId) (a0 : Addr) : entryFrame m #[(.ref a0), (.int (2 : Int32))] 2 = mkF m 0 #[oa a0, oi (2 : Int32)] [] := by first | (simp [entryFrame, mkF, argsToLocals, Value.category]; done) | rfl
def own_f7i2 (y2 : Int32) : Int32 := y2
def own_Q7i2 (Z : State) (a0 : Addr) (b : Addr) (k_b : ClassId) (y0 : Int32) (y1 : Int32) (y2 : Int32) (h0 : Heap) (n0 : Nat) (v : Option Value) (h : Heap) (L : List Loc) : Prop := v = some (Value.int (own_f7i2 y2)) ∧ Fr n0 L ∧ h = h0
set_option maxRecDepth 65536 in
set_option maxHeartbeats 40000000 in
theorem own_rm7i2 (l : Launch) (Z : State) (av : Array Value) (hw : ∀ d ∈ tables_1, d.before av Z = true) (ws : List Jvm.Cond) (a0 : Addr) (b : Addr) (k_b : ClassId) (y0 : Int32) (y1 : Int32) (y2 : Int32) (h0 : Heap) (n0 : Nat) (Z0 : n0 ≤ h0.size) (F_byteIndices_a0 : Fld Z h0 a0 "com/example/penstock/penstock/Design" "byteIndices" "[B" .null) (F_intIndices_a0 : Fld Z h0 a0 "com/example/penstock/penstock/Design" "intIndices" "[I" (.ref b)) (V_b : Arv Z h0 b k_b .int (3 : Int32) [(.int y0), (.int y1), (.int y2)] (.int (0 : Int32))) :
    MetFree l (⟨"com/example/penstock/penstock/Design", "sizeIndex", "(I)I"⟩ : MethodName) (head1 (Jvm.Cond.code (⟨"com/example/penstock/penstock/Design", "sizeIndex", "(I)I"⟩ : MethodName) prog_9_method_2_code 2 (some .int) :: ws) ({ frames := 0, cells := 0, slots := 0, locals := 0 } : Room)) (fun a U => a = #[(.ref a0), (.int (2 : Int32))] ∧ Z.Warmed39 U.vm ∧ U.heap = h0) (fun _ _ _ _ _ => True) (fun _ U o U' => ∃ v L, o = .returned v ∧ own_Q7i2 Z a0 b k_b y0 y1 y2 h0 n0 v U'.heap L ∧ FrameEnd U o U' L ({ frames := 0, cells := 0, slots := 0, locals := 0 } : Room).cells ({ frames := 0, cells := 0, slots := 0, locals := 0 } : Room).slots) := by
  refine MetFree.of_bodySF (plainFor_of_name own_pn2) hisR ?_
  intro p e s m args below meth c s₁ Bd hml0 hP hK
  obtain ⟨rfl, hZ, hh⟩ := hP
  have hx := Bd.exec
  have hby := Bd.bytes
  have hml : c.maxLocals = 2 := hml0
  have hown : s.vm.findClass "com/example/penstock/penstock/Design" = some m.cls := findClass_of_methodNamed Bd.named
  have hnm := (name_of_methodNamed Bd.named Bd.method).1
  have X0 : Stand p l e ({ frames := 0, cells := 0, slots := 0, locals := 0 } : Room) s m #[(.ref a0), (.int (2 : Int32))] below meth c s₁ [] 0 0 := Stand.of_body Bd
  have e0 : s₁.heap = h0 := by rw [← hh, Bd.state]; rfl
  have N0 := Fr.nil n0
  have pre0 : ∀ t, Steps p.tables e below (s₁.setTop (mkF m 0 #[oa a0, oi (2 : Int32)] [])) t → Steps p.tables e below (s₁.setTop (entryFrame m #[(.ref a0), (.int (2 : Int32))] 2)) t := fun t k => castTop (own_ef7i2 m a0) k
  obtain ⟨T1, X1, e1, st1⟩ := getF X0 hx hZ hown (host := "") (Or.inl (hw _ (List.mem_of_getElem? (i := 15) rfl))) Via.refl e0 F_byteIndices_a0 (g := (mkF m 1 #[oa a0, oi (2 : Int32)] [(.ref a0)])) rfl rfl (hb hby own_d7_1)
  obtain ⟨T2, X2, e2, st2⟩ := getF X1 hx hZ hown (host := "") (Or.inl (hw _ (List.mem_of_getElem? (i := 17) rfl))) Via.refl e1 F_intIndices_a0 (g := (mkF m 21 #[oa a0, oi (2 : Int32)] [(.ref a0)])) rfl rfl (hb hby own_d7_21)
  obtain ⟨fs, hr, hrun, hended, hW, hsame⟩ := X2.leave (v := (some (.int y2))) (fun h => by rw [Bd.returns] at h; cases h)
  refine ⟨_, _, pre0 _ ?_, hrun, hended, _, _, rfl, ?_, ⟨_, rfl⟩, hW, hsame.mono (by decide) (by decide)⟩
  · show oS p e below s₁ m 0 #[oa a0, oi (2 : Int32)] [] _
    refine XS.aloadN X0.here hx rfl (hb hby own_d7_0) rfl rfl ?_
    show oS p e below s₁ m 1 #[oa a0, oi (2 : Int32)] [(.ref a0)] _
    refine st1 _ ?_
    show oS p e below T1 m 4 #[oa a0, oi (2 : Int32)] [.null] _
    refine XS.ifnullYes X1.here hx rfl (pc0 := 4) (pc' := 20) rfl (hb hby own_d7_4) rfl (by decide) (by decide) ?_
    show oS p e below T1 m 20 #[oa a0, oi (2 : Int32)] [] _
    refine XS.aloadN X1.here hx rfl (hb hby own_d7_20) rfl rfl ?_
    show oS p e below T1 m 21 #[oa a0, oi (2 : Int32)] [(.ref a0)] _
    refine st2 _ ?_
    show oS p e below T2 m 24 #[oa a0, oi (2 : Int32)] [(.ref b)] _
    refine XS.iloadN X2.here hx rfl (hb hby own_d7_24) rfl ?_
    show oS p e below T2 m 25 #[oa a0, oi (2 : Int32)] [(.int (2 : Int32)), (.ref b)] _
    refine oLdI X2 hx hZ e2 V_b (v := (.int y2)) ⟨by decide, by decide⟩ rfl (hb hby own_d7_25) ?_
    show oS p e below T2 m 26 #[oa a0, oi (2 : Int32)] [(.int y2)] _
    exact retOut X2 hx Bd.returns rfl (Or.inl ⟨rfl, Or.inl rfl, _, rfl⟩) (hb hby own_d7_26) hr
  · show own_Q7i2 Z a0 b k_b y0 y1 y2 h0 n0 _ T2.heap _
    rw [e2]
    exact ⟨congrArg (fun z => some (Value.int z)) (by rw [own_f7i2]), N0, rfl⟩
theorem own_pd3 : parseMethodDescriptor "(II)I" = some ⟨[.int, .int], some .int⟩ := by decide +kernel
theorem own_pd4 : parseMethodDescriptor "([I)V" = some ⟨[(.array .int)], none⟩ := by decide +kernel
theorem own_pd5 : parseMethodDescriptor "(I)I" = some ⟨[.int], some .int⟩ := by decide +kernel
theorem own_ef0 (m : MethodId) (p0 : Int32) (p1 : Int32) (p2 : Int32) (p3 : Int32) : entryFrame m #[(.int p0), (.int p1), (.int p2), (.int p3)] maxLocals = mkF m 0 #[oi p0, oi p1, oi p2, oi p3, .unset, .unset, .unset, .unset, .unset] [] := by first | (simp [entryFrame, mkF, argsToLocals, Value.category, maxLocals]; done) | rfl
def own_Q0 (Z : State) (p0 : Int32) (p1 : Int32) (p2 : Int32) (p3 : Int32) (h0 : Heap) (n0 : Nat) (v : Option Value) (h : Heap) (L : List Loc) : Prop := v = some (Value.int (1 : Int32)) ∧ Fr n0 L
set_option maxRecDepth 65536 in
set_option maxHeartbeats 40000000 in
theorem own_rm0 (l : Launch) (Z : State) (av : Array Value) (hw : ∀ d ∈ tables_1, d.before av Z = true) (ws : List Jvm.Cond) (p0 : Int32) (p1 : Int32) (p2 : Int32) (p3 : Int32) (h0 : Heap) (n0 : Nat) (Z0 : n0 ≤ h0.size) :
    MetFree l x (head1 (Jvm.Cond.code x code maxLocals ret :: ws) room_1) (fun a U => a = #[(.int p0), (.int p1), (.int p2), (.int p3)] ∧ Z.Warmed39 U.vm ∧ U.heap = h0) (fun _ _ _ _ _ => True) (fun _ U o U' => ∃ v L, o = .returned v ∧ own_Q0 Z p0 p1 p2 p3 h0 n0 v U'.heap L ∧ FrameEnd U o U' L room_1.cells room_1.slots) := by
  refine MetFree.of_bodySF (plainFor_of_name own_pn3) hisR ?_
  intro p e s m args below meth c s₁ Bd hml0 hP hK
  obtain ⟨rfl, hZ, hh⟩ := hP
  have hx := Bd.exec
  have hby := Bd.bytes
  have hml : c.maxLocals = 9 := hml0
  have hown : s.vm.findClass "com/example/penstock/penstock/DesignSizeIndexPinLaw" = some m.cls := findClass_of_methodNamed Bd.named
  have hnm := (name_of_methodNamed Bd.named Bd.method).1
  have X0 : Stand p l e room_1 s m #[(.int p0), (.int p1), (.int p2), (.int p3)] below meth c s₁ [] 0 0 := Stand.of_body Bd
  have e0 : s₁.heap = h0 := by rw [← hh, Bd.state]; rfl
  have N0 := Fr.nil n0
  have pre0 : ∀ t, Steps p.tables e below (s₁.setTop (mkF m 0 #[oi p0, oi p1, oi p2, oi p3, .unset, .unset, .unset, .unset, .unset] [])) t → Steps p.tables e below (s₁.setTop (entryFrame m #[(.int p0), (.int p1), (.int p2), (.int p3)] maxLocals)) t := fun t k => castTop (own_ef0 m p0 p1 p2 p3) k
  obtain ⟨_, _, ⟨T1, L1, k1, n1⟩, -, X1, ⟨Lc1, hQ1, l1, y1, z1⟩, st1⟩ := Jvm.LawKit.callS X0 hx (y := (⟨"com/example/penstock/penstock/DesignSizeIndexPinLaw", "draw", "(II)I"⟩ : MethodName)) hown (mvT hZ (hw _ (List.mem_of_getElem? (i := 0) rfl))) (mvT hZ (hw _ (List.mem_of_getElem? (i := 1) rfl))) (mvT hZ (hw _ (List.mem_of_getElem? (i := 2) rfl))) (mvT hZ (hw _ (List.mem_of_getElem? (i := 3) rfl))) (by decide) (backOf (W := 0) (own_rm1 l Z av hw [] p0 p3 h0 n0 Z0 ) hZ (hw _ (List.mem_of_getElem? (i := 3) rfl)) (hw _ (List.mem_of_getElem? (i := 2) rfl)) (by decide) (by decide)) (g := (mkF m 2 #[oi p0, oi p1, oi p2, oi p3, .unset, .unset, .unset, .unset, .unset] [(.int p3), (.int p0)])) rfl (by rw [hml]; rfl) (argsL := [(.int p0), (.int p3)]) (rest := []) (lenOf own_pd3 rfl) rfl (by show 2 * 0 + _ ≤ _; exact Nat.le_of_eq rfl) (hb hby at_2) (fun _ _ => ⟨rfl, e0, (by decide : 0 + 1 ≤ _), (by decide : 0 + 8 ≤ _)⟩)
  dsimp only [Pt.U, Pt.locs, Pt.cells, Pt.slots] at X1 l1 y1 z1 st1 hQ1
  have yq1 : k1 = 1 := y1
  have zq1 : n1 = 8 := z1
  subst yq1 zq1
  obtain ⟨w_1, rfl, Nq1, Kq1⟩ := hQ1
  have N1 : Fr n0 L1 := by rw [l1]; exact Fr.app N0 Nq1
  have Z1 : n0 ≤ T1.heap.size := Nat.le_trans Z0 Kq1.1
  obtain ⟨_, _, ⟨T2, L2, k2, n2⟩, -, X2, ⟨Lc2, hQ2, l2, y2, z2⟩, st2⟩ := Jvm.LawKit.callS X1 hx (y := (⟨"com/example/penstock/penstock/DesignSizeIndexPinLaw", "draw", "(II)I"⟩ : MethodName)) hown (mvT hZ (hw _ (List.mem_of_getElem? (i := 0) rfl))) (mvT hZ (hw _ (List.mem_of_getElem? (i := 1) rfl))) (mvT hZ (hw _ (List.mem_of_getElem? (i := 2) rfl))) (mvT hZ (hw _ (List.mem_of_getElem? (i := 3) rfl))) (by decide) (backOf (W := 0) (own_rm1 l Z av hw [] p1 ((p3.toUInt32 >>> ((2 : Int32) &&& 31).toUInt32).toInt32) T1.heap n0 Z1 ) hZ (hw _ (List.mem_of_getElem? (i := 3) rfl)) (hw _ (List.mem_of_getElem? (i := 2) rfl)) (by decide) (by decide)) (g := (mkF m 11 #[oi p0, oi p1, oi p2, oi p3, oi w_1, .unset, .unset, .unset, .unset] [(.int ((p3.toUInt32 >>> ((2 : Int32) &&& 31).toUInt32).toInt32)), (.int p1)])) rfl (by rw [hml]; rfl) (argsL := [(.int p1), (.int ((p3.toUInt32 >>> ((2 : Int32) &&& 31).toUInt32).toInt32))]) (rest := []) (lenOf own_pd3 rfl) rfl (by show 2 * 0 + _ ≤ _; exact Nat.le_of_eq rfl) (hb hby at_11) (fun _ _ => ⟨rfl, rfl, (by decide : 1 + 1 ≤ _), (by decide : 8 + 8 ≤ _)⟩)
  dsimp only [Pt.U, Pt.locs, Pt.cells, Pt.slots] at X2 l2 y2 z2 st2 hQ2
  have yq2 : k2 = 2 := y2
  have zq2 : n2 = 16 := z2
  subst yq2 zq2
  obtain ⟨w_2, rfl, Nq2, Kq2⟩ := hQ2
  have N2 : Fr n0 L2 := by rw [l2]; exact Fr.app N1 Nq2
  have Z2 : n0 ≤ T2.heap.size := Nat.le_trans Z1 Kq2.1
  obtain ⟨_, _, ⟨T3, L3, k3, n3⟩, -, X3, ⟨Lc3, hQ3, l3, y3, z3⟩, st3⟩ := Jvm.LawKit.callS X2 hx (y := (⟨"com/example/penstock/penstock/DesignSizeIndexPinLaw", "draw", "(II)I"⟩ : MethodName)) hown (mvT hZ (hw _ (List.mem_of_getElem? (i := 0) rfl))) (mvT hZ (hw _ (List.mem_of_getElem? (i := 1) rfl))) (mvT hZ (hw _ (List.mem_of_getElem? (i := 2) rfl))) (mvT hZ (hw _ (List.mem_of_getElem? (i := 3) rfl))) (by decide) (backOf (W := 0) (own_rm1 l Z av hw [] p2 ((p3.toUInt32 >>> ((4 : Int32) &&& 31).toUInt32).toInt32) T2.heap n0 Z2 ) hZ (hw _ (List.mem_of_getElem? (i := 3) rfl)) (hw _ (List.mem_of_getElem? (i := 2) rfl)) (by decide) (by decide)) (g := (mkF m 20 #[oi p0, oi p1, oi p2, oi p3, oi w_1, oi w_2, .unset, .unset, .unset] [(.int ((p3.toUInt32 >>> ((4 : Int32) &&& 31).toUInt32).toInt32)), (.int p2)])) rfl (by rw [hml]; rfl) (argsL := [(.int p2), (.int ((p3.toUInt32 >>> ((4 : Int32) &&& 31).toUInt32).toInt32))]) (rest := []) (lenOf own_pd3 rfl) rfl (by show 2 * 0 + _ ≤ _; exact Nat.le_of_eq rfl) (hb hby at_20) (fun _ _ => ⟨rfl, rfl, (by decide : 2 + 1 ≤ _), (by decide : 16 + 8 ≤ _)⟩)
  dsimp only [Pt.U, Pt.locs, Pt.cells, Pt.slots] at X3 l3 y3 z3 st3 hQ3
  have yq3 : k3 = 3 := y3
  have zq3 : n3 = 24 := z3
  subst yq3 zq3
  obtain ⟨w_3, rfl, Nq3, Kq3⟩ := hQ3
  have N3 : Fr n0 L3 := by rw [l3]; exact Fr.app N2 Nq3
  have Z3 : n0 ≤ T3.heap.size := Nat.le_trans Z2 Kq3.1
  obtain ⟨T4, h4, k4, X4, e4, E4, A4, B4, st4⟩ := newPE X3 hx hZ (hw _ (List.mem_of_getElem? (i := 4) rfl)) rfl (g := (mkF m 26 #[oi p0, oi p1, oi p2, oi p3, oi w_1, oi w_2, oi w_3, .unset, .unset] [(.int (3 : Int32))])) rfl (hb hby at_26) rfl (by decide) (cap := 3) (by decide) (by decide) (by decide) (by decide) (ad := "[I") rfl
  obtain ⟨b4, g4⟩ : ∃ z, z = T3.heap.size := ⟨_, rfl⟩
  rw [← g4] at A4 st4 B4
  have g_b4 : n0 ≤ b4 := Nat.le_trans Z3 (Nat.le_of_eq g4.symm)
  have Z4 : n0 ≤ h4.size := Nat.le_trans Z3 E4.1
  have V_5 : Arv Z h4 b4 k4 .int (3 : Int32) [(.int (0 : Int32)), (.int (0 : Int32)), (.int (0 : Int32))] (.int (0 : Int32)) := (Arv.new A4 (by decide)).pad (pad_rep [] (.int (0 : Int32)) 3)
  obtain ⟨T6, h6, X6, e6, W6, V6, st6⟩ := oStI X4 hx hZ e4 V_5 (j := (0 : Int32)) ⟨by decide, by decide⟩ 0 rfl (Nat.le_of_ble_eq_true rfl) (g := (mkF m 35 #[oi p0, oi p1, oi p2, oi p3, oi w_1, oi w_2, oi w_3, oa b4, .unset] [(.int w_1), (.int (0 : Int32)), (.ref b4)])) rfl rfl (hb hby at_35)
  obtain ⟨Lo6, X6, N6⟩ := oOpq X6 (Fr.snoc X6 N3 g_b4)
  have Z6 := Nat.le_trans Z4 (Keep.of_wr W6).1
  have F7 := B4.wr W6
  have V_8 : Arv Z h6 b4 k4 .int (3 : Int32) [(.int w_1), (.int (0 : Int32)), (.int (0 : Int32))] (.int (0 : Int32)) := V6
  obtain ⟨T9, h9, X9, e9, W9, V9, st9⟩ := oStI X6 hx hZ e6 V_8 (j := (1 : Int32)) ⟨by decide, by decide⟩ 1 rfl (Nat.le_of_ble_eq_true rfl) (g := (mkF m 41 #[oi p0, oi p1, oi p2, oi p3, oi w_1, oi w_2, oi w_3, oa b4, .unset] [(.int w_2), (.int (1 : Int32)), (.ref b4)])) rfl rfl (hb hby at_41)
  obtain ⟨Lo9, X9, N9⟩ := oOpq X9 (Fr.snoc X9 N6 g_b4)
  have Z9 := Nat.le_trans Z6 (Keep.of_wr W9).1
  have F10 := F7.wr W9
  have V_11 : Arv Z h9 b4 k4 .int (3 : Int32) [(.int w_1), (.int w_2), (.int (0 : Int32))] (.int (0 : Int32)) := V9
  obtain ⟨T12, h12, X12, e12, W12, V12, st12⟩ := oStI X9 hx hZ e9 V_11 (j := (2 : Int32)) ⟨by decide, by decide⟩ 2 rfl (Nat.le_of_ble_eq_true rfl) (g := (mkF m 47 #[oi p0, oi p1, oi p2, oi p3, oi w_1, oi w_2, oi w_3, oa b4, .unset] [(.int w_3), (.int (2 : Int32)), (.ref b4)])) rfl rfl (hb hby at_47)
  obtain ⟨Lo12, X12, N12⟩ := oOpq X12 (Fr.snoc X12 N9 g_b4)
  have Z12 := Nat.le_trans Z9 (Keep.of_wr W12).1
  have F13 := F10.wr W12
  have V_14 : Arv Z h12 b4 k4 .int (3 : Int32) [(.int w_1), (.int w_2), (.int w_3)] (.int (0 : Int32)) := V12
  obtain ⟨T15, h15, X15, e15, E15, A15, D15, -, st15⟩ := newO X12 hx hZ hown (hw _ (List.mem_of_getElem? (i := 5) rfl)) (hw _ (List.mem_of_getElem? (i := 6) rfl)) (hw _ (List.mem_of_getElem? (i := 7) rfl)) e12 (g := (mkF m 48 #[oi p0, oi p1, oi p2, oi p3, oi w_1, oi w_2, oi w_3, oa b4, .unset] [])) rfl (hb hby at_48) (by decide) (by decide)
  obtain ⟨b15, g15⟩ : ∃ z, z = h12.size := ⟨_, rfl⟩
  rw [← g15] at A15 D15 st15
  have g_b15 : n0 ≤ b15 := Nat.le_trans Z12 (Nat.le_of_eq g15.symm)
  have ne16 : b4 ≠ b15 := Nat.ne_of_lt (Nat.lt_of_lt_of_le V_14.lt (Nat.le_of_eq g15.symm))
  have Z15 : n0 ≤ h15.size := Nat.le_trans Z12 E15.1
  have F17 := V_14.ext E15
  have F18 := F13.ext E15
  have F_19 : Fld Z h15 b15 "com/example/penstock/penstock/Design" "byteIndices" "[B" .null := D15 (Or.inr (hw _ (List.mem_of_getElem? (i := 16) rfl))) (ty := (.array .byte)) (by decide)
  have F_20 : Fld Z h15 b15 "com/example/penstock/penstock/Design" "intIndices" "[I" .null := D15 (Or.inr (hw _ (List.mem_of_getElem? (i := 18) rfl))) (ty := (.array .int)) (by decide)
  have F_21 : Fld Z h15 b15 "com/example/penstock/penstock/Design" "hash" "I" (.int (0 : Int32)) := D15 (Or.inr (hw _ (List.mem_of_getElem? (i := 33) rfl))) (ty := .int) (by decide)
  have pre22 : ∀ t, Steps p.tables e below (T15.setTop (mkF m 54 #[oi p0, oi p1, oi p2, oi p3, oi w_1, oi w_2, oi w_3, oa b4, .unset] [(.ref b4), (.ref b15), (.ref b15)])) t → Steps p.tables e below (s₁.setTop (entryFrame m #[(.int p0), (.int p1), (.int p2), (.int p3)] maxLocals)) t := by
    intro t k
    refine pre0 t ?_
    show oS p e below s₁ m 0 #[oi p0, oi p1, oi p2, oi p3, .unset, .unset, .unset, .unset, .unset] [] _
    refine XS.iloadN X0.here hx rfl (hb hby at_0) rfl ?_
    show oS p e below s₁ m 1 #[oi p0, oi p1, oi p2, oi p3, .unset, .unset, .unset, .unset, .unset] [(.int p0)] _
    refine XS.iloadN X0.here hx rfl (hb hby at_1) rfl ?_
    show oS p e below s₁ m 2 #[oi p0, oi p1, oi p2, oi p3, .unset, .unset, .unset, .unset, .unset] [(.int p3), (.int p0)] _
    refine st1 _ ?_
    show oS p e below T1 m 5 #[oi p0, oi p1, oi p2, oi p3, .unset, .unset, .unset, .unset, .unset] [(.int w_1)] _
    refine XS.istore X1.here hx rfl (hb hby at_5) rfl (l' := #[oi p0, oi p1, oi p2, oi p3, oi w_1, .unset, .unset, .unset, .unset]) rfl ?_
    show oS p e below T1 m 7 #[oi p0, oi p1, oi p2, oi p3, oi w_1, .unset, .unset, .unset, .unset] [] _
    refine XS.iloadN X1.here hx rfl (hb hby at_7) rfl ?_
    show oS p e below T1 m 8 #[oi p0, oi p1, oi p2, oi p3, oi w_1, .unset, .unset, .unset, .unset] [(.int p1)] _
    refine XS.iloadN X1.here hx rfl (hb hby at_8) rfl ?_
    show oS p e below T1 m 9 #[oi p0, oi p1, oi p2, oi p3, oi w_1, .unset, .unset, .unset, .unset] [(.int p3), (.int p1)] _
    refine XS.iconst X1.here hx rfl (hb hby at_9) ?_
    show oS p e below T1 m 10 #[oi p0, oi p1, oi p2, oi p3, oi w_1, .unset, .unset, .unset, .unset] [(.int (2 : Int32)), (.int p3), (.int p1)] _
    refine XS.iushr X1.here hx rfl (hb hby at_10) rfl ?_
    show oS p e below T1 m 11 #[oi p0, oi p1, oi p2, oi p3, oi w_1, .unset, .unset, .unset, .unset] [(.int ((p3.toUInt32 >>> ((2 : Int32) &&& 31).toUInt32).toInt32)), (.int p1)] _
    refine st2 _ ?_
    show oS p e below T2 m 14 #[oi p0, oi p1, oi p2, oi p3, oi w_1, .unset, .unset, .unset, .unset] [(.int w_2)] _
    refine XS.istore X2.here hx rfl (hb hby at_14) rfl (l' := #[oi p0, oi p1, oi p2, oi p3, oi w_1, oi w_2, .unset, .unset, .unset]) rfl ?_
    show oS p e below T2 m 16 #[oi p0, oi p1, oi p2, oi p3, oi w_1, oi w_2, .unset, .unset, .unset] [] _
    refine XS.iloadN X2.here hx rfl (hb hby at_16) rfl ?_
    show oS p e below T2 m 17 #[oi p0, oi p1, oi p2, oi p3, oi w_1, oi w_2, .unset, .unset, .unset] [(.int p2)] _
    refine XS.iloadN X2.here hx rfl (hb hby at_17) rfl ?_
    show oS p e below T2 m 18 #[oi p0, oi p1, oi p2, oi p3, oi w_1, oi w_2, .unset, .unset, .unset] [(.int p3), (.int p2)] _
    refine XS.iconst X2.here hx rfl (hb hby at_18) ?_
    show oS p e below T2 m 19 #[oi p0, oi p1, oi p2, oi p3, oi w_1, oi w_2, .unset, .unset, .unset] [(.int (4 : Int32)), (.int p3), (.int p2)] _
    refine XS.iushr X2.here hx rfl (hb hby at_19) rfl ?_
    show oS p e below T2 m 20 #[oi p0, oi p1, oi p2, oi p3, oi w_1, oi w_2, .unset, .unset, .unset] [(.int ((p3.toUInt32 >>> ((4 : Int32) &&& 31).toUInt32).toInt32)), (.int p2)] _
    refine st3 _ ?_
    show oS p e below T3 m 23 #[oi p0, oi p1, oi p2, oi p3, oi w_1, oi w_2, .unset, .unset, .unset] [(.int w_3)] _
    refine XS.istore X3.here hx rfl (hb hby at_23) rfl (l' := #[oi p0, oi p1, oi p2, oi p3, oi w_1, oi w_2, oi w_3, .unset, .unset]) rfl ?_
    show oS p e below T3 m 25 #[oi p0, oi p1, oi p2, oi p3, oi w_1, oi w_2, oi w_3, .unset, .unset] [] _
    refine XS.iconst X3.here hx rfl (hb hby at_25) ?_
    show oS p e below T3 m 26 #[oi p0, oi p1, oi p2, oi p3, oi w_1, oi w_2, oi w_3, .unset, .unset] [(.int (3 : Int32))] _
    refine st4 _ ?_
    show oS p e below T4 m 28 #[oi p0, oi p1, oi p2, oi p3, oi w_1, oi w_2, oi w_3, .unset, .unset] [(.ref b4)] _
    refine XS.astore X4.here hx rfl (hb hby at_28) rfl rfl (l' := #[oi p0, oi p1, oi p2, oi p3, oi w_1, oi w_2, oi w_3, oa b4, .unset]) rfl ?_
    show oS p e below T4 m 30 #[oi p0, oi p1, oi p2, oi p3, oi w_1, oi w_2, oi w_3, oa b4, .unset] [] _
    refine XS.aload X4.here hx rfl (hb hby at_30) rfl rfl ?_
    show oS p e below T4 m 32 #[oi p0, oi p1, oi p2, oi p3, oi w_1, oi w_2, oi w_3, oa b4, .unset] [(.ref b4)] _
    refine XS.iconst X4.here hx rfl (hb hby at_32) ?_
    show oS p e below T4 m 33 #[oi p0, oi p1, oi p2, oi p3, oi w_1, oi w_2, oi w_3, oa b4, .unset] [(.int (0 : Int32)), (.ref b4)] _
    refine XS.iload X4.here hx rfl (hb hby at_33) rfl ?_
    show oS p e below T4 m 35 #[oi p0, oi p1, oi p2, oi p3, oi w_1, oi w_2, oi w_3, oa b4, .unset] [(.int w_1), (.int (0 : Int32)), (.ref b4)] _
    refine st6 _ ?_
    show oS p e below T6 m 36 #[oi p0, oi p1, oi p2, oi p3, oi w_1, oi w_2, oi w_3, oa b4, .unset] [] _
    refine XS.aload X6.here hx rfl (hb hby at_36) rfl rfl ?_
    show oS p e below T6 m 38 #[oi p0, oi p1, oi p2, oi p3, oi w_1, oi w_2, oi w_3, oa b4, .unset] [(.ref b4)] _
    refine XS.iconst X6.here hx rfl (hb hby at_38) ?_
    show oS p e below T6 m 39 #[oi p0, oi p1, oi p2, oi p3, oi w_1, oi w_2, oi w_3, oa b4, .unset] [(.int (1 : Int32)), (.ref b4)] _
    refine XS.iload X6.here hx rfl (hb hby at_39) rfl ?_
    show oS p e below T6 m 41 #[oi p0, oi p1, oi p2, oi p3, oi w_1, oi w_2, oi w_3, oa b4, .unset] [(.int w_2), (.int (1 : Int32)), (.ref b4)] _
    refine st9 _ ?_
    show oS p e below T9 m 42 #[oi p0, oi p1, oi p2, oi p3, oi w_1, oi w_2, oi w_3, oa b4, .unset] [] _
    refine XS.aload X9.here hx rfl (hb hby at_42) rfl rfl ?_
    show oS p e below T9 m 44 #[oi p0, oi p1, oi p2, oi p3, oi w_1, oi w_2, oi w_3, oa b4, .unset] [(.ref b4)] _
    refine XS.iconst X9.here hx rfl (hb hby at_44) ?_
    show oS p e below T9 m 45 #[oi p0, oi p1, oi p2, oi p3, oi w_1, oi w_2, oi w_3, oa b4, .unset] [(.int (2 : Int32)), (.ref b4)] _
    refine XS.iload X9.here hx rfl (hb hby at_45) rfl ?_
    show oS p e below T9 m 47 #[oi p0, oi p1, oi p2, oi p3, oi w_1, oi w_2, oi w_3, oa b4, .unset] [(.int w_3), (.int (2 : Int32)), (.ref b4)] _
    refine st12 _ ?_
    show oS p e below T12 m 48 #[oi p0, oi p1, oi p2, oi p3, oi w_1, oi w_2, oi w_3, oa b4, .unset] [] _
    refine st15 _ ?_
    show oS p e below T15 m 51 #[oi p0, oi p1, oi p2, oi p3, oi w_1, oi w_2, oi w_3, oa b4, .unset] [(.ref b15)] _
    refine XS.dup X15.here hx rfl (hb hby at_51) rfl rfl ?_
    show oS p e below T15 m 52 #[oi p0, oi p1, oi p2, oi p3, oi w_1, oi w_2, oi w_3, oa b4, .unset] [(.ref b15), (.ref b15)] _
    refine XS.aload X15.here hx rfl (hb hby at_52) rfl rfl ?_
    exact k
  by_cases hbad : ((((1 : Int32) &&& own_g w_1) &&& own_g w_2) &&& own_g w_3) = (0 : Int32)
  · skip
    obtain ⟨_, _, ⟨T23, L23, k23, n23⟩, -, X23, ⟨Lc23, hQ23, l23, y23, z23⟩, st23⟩ := X15.specialBack hx (y := (⟨"com/example/penstock/penstock/Design", "<init>", "([I)V"⟩ : MethodName)) rfl hown (mvT hZ (hw _ (List.mem_of_getElem? (i := 8) rfl))) (mvT hZ (hw _ (List.mem_of_getElem? (i := 9) rfl))) (mvT hZ (hw _ (List.mem_of_getElem? (i := 10) rfl))) (by decide) (backOf (W := 1) (own_rm2i3 l Z av hw [] b15 b4 k4 w_1 w_2 w_3 h15 n0 Z15 A15 F_19 F_20 F_21 g_b15 F17 F18 (ne16) (hbad)) hZ (hw _ (List.mem_of_getElem? (i := 10) rfl)) (hw _ (List.mem_of_getElem? (i := 7) rfl)) (by decide) (by decide)) (g := (mkF m 54 #[oi p0, oi p1, oi p2, oi p3, oi w_1, oi w_2, oi w_3, oa b4, .unset] [(.ref b4), (.ref b15), (.ref b15)])) rfl (by rw [hml]; rfl) (Steps.refl _) (a := b15) (argsL := [(.ref b4)]) (rest := [(.ref b15)]) (lenOf own_pd4 rfl) rfl (by show 2 * 0 + _ ≤ _; exact Nat.le_of_eq rfl) (hb hby at_54) (fun _ _ => ⟨rfl, e15, (by decide : 5 + 1 ≤ _), (by decide : 30 + 3 ≤ _)⟩)
    dsimp only [Pt.U, Pt.locs, Pt.cells, Pt.slots] at X23 l23 y23 z23 st23 hQ23
    have yq23 : k23 = 6 := y23
    have zq23 : n23 = 33 := z23
    subst yq23 zq23
    obtain ⟨b_23, k_b_23, rfl, Nq23, Kq23, gq23_b, Oq23_0, Oq23_1, Oq23_2, Oq23_3, Oq23_4⟩ := hQ23
    have N23 : Fr n0 L23 := by rw [l23]; exact Fr.app N12 Nq23
    have Z23 : n0 ≤ T23.heap.size := Nat.le_trans Z15 Kq23.1
    have g_b_23 : n0 ≤ b_23 := Nat.le_trans Z15 gq23_b
    have ne24 : b4 ≠ b_23 := Nat.ne_of_lt (Nat.lt_of_lt_of_le F17.lt gq23_b)
    have ne25 : b15 ≠ b_23 := Nat.ne_of_lt (Nat.lt_of_lt_of_le A15.lt gq23_b)
    have F26 := F17.keep Kq23 (ninS ne16 nin0)
    have F27 := F18.keep Kq23
    have F28 := A15.keep Kq23
    obtain ⟨T29, h29, X29, e29, W29, V29, st29⟩ := oStI X23 hx hZ rfl F26 (j := (0 : Int32)) ⟨by decide, by decide⟩ 0 rfl (Nat.le_of_ble_eq_true rfl) (g := (mkF m 66 #[oi p0, oi p1, oi p2, oi p3, oi w_1, oi w_2, oi w_3, oa b4, oa b15] [(.int (w_1 ^^^ (-1 : Int32))), (.int (0 : Int32)), (.ref b4)])) rfl rfl (hb hby at_66)
    obtain ⟨Lo29, X29, N29⟩ := oOpq X29 (Fr.snoc X29 N23 g_b4)
    have Z29 := Nat.le_trans Z23 (Keep.of_wr W29).1
    have F30 := F27.wr W29
    have F31 := Oq23_0.wr W29
    have F32 := Oq23_1.other W29 (Or.inl (Ne.symm ne16))
    have F33 := Oq23_2.other W29 (Or.inl (Ne.symm ne16))
    have F34 := Oq23_3.wr W29
    have F35 := Oq23_4.other W29 (Ne.symm ne24)
    have V_36 : Arv Z h29 b4 k4 .int (3 : Int32) [(.int (w_1 ^^^ (-1 : Int32))), (.int w_2), (.int w_3)] (.int (0 : Int32)) := V29
    obtain ⟨T37, h37, X37, e37, W37, V37, st37⟩ := oStI X29 hx hZ e29 V_36 (j := (1 : Int32)) ⟨by decide, by decide⟩ 1 rfl (Nat.le_of_ble_eq_true rfl) (g := (mkF m 74 #[oi p0, oi p1, oi p2, oi p3, oi w_1, oi w_2, oi w_3, oa b4, oa b15] [(.int (w_2 ^^^ (-1 : Int32))), (.int (1 : Int32)), (.ref b4)])) rfl rfl (hb hby at_74)
    obtain ⟨Lo37, X37, N37⟩ := oOpq X37 (Fr.snoc X37 N29 g_b4)
    have Z37 := Nat.le_trans Z29 (Keep.of_wr W37).1
    have F38 := F30.wr W37
    have F39 := F31.wr W37
    have F40 := F32.other W37 (Or.inl (Ne.symm ne16))
    have F41 := F33.other W37 (Or.inl (Ne.symm ne16))
    have F42 := F34.wr W37
    have F43 := F35.other W37 (Ne.symm ne24)
    have V_44 : Arv Z h37 b4 k4 .int (3 : Int32) [(.int (w_1 ^^^ (-1 : Int32))), (.int (w_2 ^^^ (-1 : Int32))), (.int w_3)] (.int (0 : Int32)) := V37
    obtain ⟨T45, h45, X45, e45, W45, V45, st45⟩ := oStI X37 hx hZ e37 V_44 (j := (2 : Int32)) ⟨by decide, by decide⟩ 2 rfl (Nat.le_of_ble_eq_true rfl) (g := (mkF m 82 #[oi p0, oi p1, oi p2, oi p3, oi w_1, oi w_2, oi w_3, oa b4, oa b15] [(.int (w_3 ^^^ (-1 : Int32))), (.int (2 : Int32)), (.ref b4)])) rfl rfl (hb hby at_82)
    obtain ⟨Lo45, X45, N45⟩ := oOpq X45 (Fr.snoc X45 N37 g_b4)
    have Z45 := Nat.le_trans Z37 (Keep.of_wr W45).1
    have F46 := F38.wr W45
    have F47 := F39.wr W45
    have F48 := F40.other W45 (Or.inl (Ne.symm ne16))
    have F49 := F41.other W45 (Or.inl (Ne.symm ne16))
    have F50 := F42.wr W45
    have F51 := F43.other W45 (Ne.symm ne24)
    have V_52 : Arv Z h45 b4 k4 .int (3 : Int32) [(.int (w_1 ^^^ (-1 : Int32))), (.int (w_2 ^^^ (-1 : Int32))), (.int (w_3 ^^^ (-1 : Int32)))] (.int (0 : Int32)) := V45
    obtain ⟨cq53, kq53, q53a, q53b, q53c⟩ := isOf hZ e45 F47
    obtain ⟨_, _, ⟨T53, L53, k53, n53⟩, -, X53, ⟨Lc53, hQ53, l53, y53, z53⟩, st53⟩ := X45.virtualBack hx (y := (⟨"com/example/penstock/penstock/Design", "sizeIndex", "(I)I"⟩ : MethodName)) (z := (⟨"com/example/penstock/penstock/Design", "sizeIndex", "(I)I"⟩ : MethodName)) hown (mvT hZ (hw _ (List.mem_of_getElem? (i := 34) rfl))) (mvT hZ (hw _ (List.mem_of_getElem? (i := 35) rfl))) (notFace_of_selects (args := #[]) (mvT hZ (hw _ (List.mem_of_getElem? (i := 37) rfl)))) (mvT hZ (hw _ (List.mem_of_getElem? (i := 37) rfl))) (mvT hZ (hw _ (List.mem_of_getElem? (i := 36) rfl))) (by decide) (backOf (W := 0) (own_rm7i0 l Z av hw [] b15 b_23 k_b_23 w_1 w_2 w_3 h45 n0 Z45 F48 F49 F51) hZ (hw _ (List.mem_of_getElem? (i := 38) rfl)) (hw _ (List.mem_of_getElem? (i := 7) rfl)) (by decide) (by decide)) q53a q53c (g := (mkF m 86 #[oi p0, oi p1, oi p2, oi p3, oi w_1, oi w_2, oi w_3, oa b4, oa b15] [(.int (0 : Int32)), (.ref b15)])) rfl (by rw [hml]; rfl) (Steps.refl _) (argsL := [(.int (0 : Int32))]) (rest := []) (lenOf own_pd5 rfl) rfl (by show 2 * 0 + _ ≤ _; exact Nat.le_of_eq rfl) (hb hby at_86) (fun _ _ => ⟨rfl, e45, (by decide : 6 + 0 ≤ _), (by decide : 33 + 0 ≤ _)⟩)
    dsimp only [Pt.U, Pt.locs, Pt.cells, Pt.slots] at X53 l53 y53 z53 st53 hQ53
    have yq53 : k53 = 6 := y53
    have zq53 : n53 = 33 := z53
    subst yq53 zq53
    obtain ⟨rfl, Nq53, eq53⟩ := hQ53
    have N53 : Fr n0 L53 := by rw [l53]; exact Fr.app N45 Nq53
    have b54 : (own_f7i0 w_1) = w_1 := rfl
    obtain ⟨cq55, kq55, q55a, q55b, q55c⟩ := isOf hZ eq53 F47
    obtain ⟨_, _, ⟨T55, L55, k55, n55⟩, -, X55, ⟨Lc55, hQ55, l55, y55, z55⟩, st55⟩ := X53.virtualBack hx (y := (⟨"com/example/penstock/penstock/Design", "sizeIndex", "(I)I"⟩ : MethodName)) (z := (⟨"com/example/penstock/penstock/Design", "sizeIndex", "(I)I"⟩ : MethodName)) hown (mvT hZ (hw _ (List.mem_of_getElem? (i := 34) rfl))) (mvT hZ (hw _ (List.mem_of_getElem? (i := 35) rfl))) (notFace_of_selects (args := #[]) (mvT hZ (hw _ (List.mem_of_getElem? (i := 37) rfl)))) (mvT hZ (hw _ (List.mem_of_getElem? (i := 37) rfl))) (mvT hZ (hw _ (List.mem_of_getElem? (i := 36) rfl))) (by decide) (backOf (W := 0) (own_rm7i1 l Z av hw [] b15 b_23 k_b_23 w_1 w_2 w_3 h45 n0 Z45 F48 F49 F51) hZ (hw _ (List.mem_of_getElem? (i := 38) rfl)) (hw _ (List.mem_of_getElem? (i := 7) rfl)) (by decide) (by decide)) q55a q55c (g := (mkF m 97 #[oi p0, oi p1, oi p2, oi p3, oi w_1, oi w_2, oi w_3, oa b4, oa b15] [(.int (1 : Int32)), (.ref b15)])) rfl (by rw [hml]; rfl) (Steps.refl _) (argsL := [(.int (1 : Int32))]) (rest := []) (lenOf own_pd5 rfl) rfl (by show 2 * 0 + _ ≤ _; exact Nat.le_of_eq rfl) (hb hby at_97) (fun _ _ => ⟨rfl, eq53, (by decide : 6 + 0 ≤ _), (by decide : 33 + 0 ≤ _)⟩)
    dsimp only [Pt.U, Pt.locs, Pt.cells, Pt.slots] at X55 l55 y55 z55 st55 hQ55
    have yq55 : k55 = 6 := y55
    have zq55 : n55 = 33 := z55
    subst yq55 zq55
    obtain ⟨rfl, Nq55, eq55⟩ := hQ55
    have N55 : Fr n0 L55 := by rw [l55]; exact Fr.app N53 Nq55
    have b56 : (own_f7i1 w_2) = w_2 := rfl
    obtain ⟨cq57, kq57, q57a, q57b, q57c⟩ := isOf hZ eq55 F47
    obtain ⟨_, _, ⟨T57, L57, k57, n57⟩, -, X57, ⟨Lc57, hQ57, l57, y57, z57⟩, st57⟩ := X55.virtualBack hx (y := (⟨"com/example/penstock/penstock/Design", "sizeIndex", "(I)I"⟩ : MethodName)) (z := (⟨"com/example/penstock/penstock/Design", "sizeIndex", "(I)I"⟩ : MethodName)) hown (mvT hZ (hw _ (List.mem_of_getElem? (i := 34) rfl))) (mvT hZ (hw _ (List.mem_of_getElem? (i := 35) rfl))) (notFace_of_selects (args := #[]) (mvT hZ (hw _ (List.mem_of_getElem? (i := 37) rfl)))) (mvT hZ (hw _ (List.mem_of_getElem? (i := 37) rfl))) (mvT hZ (hw _ (List.mem_of_getElem? (i := 36) rfl))) (by decide) (backOf (W := 0) (own_rm7i2 l Z av hw [] b15 b_23 k_b_23 w_1 w_2 w_3 h45 n0 Z45 F48 F49 F51) hZ (hw _ (List.mem_of_getElem? (i := 38) rfl)) (hw _ (List.mem_of_getElem? (i := 7) rfl)) (by decide) (by decide)) q57a q57c (g := (mkF m 108 #[oi p0, oi p1, oi p2, oi p3, oi w_1, oi w_2, oi w_3, oa b4, oa b15] [(.int (2 : Int32)), (.ref b15)])) rfl (by rw [hml]; rfl) (Steps.refl _) (argsL := [(.int (2 : Int32))]) (rest := []) (lenOf own_pd5 rfl) rfl (by show 2 * 0 + _ ≤ _; exact Nat.le_of_eq rfl) (hb hby at_108) (fun _ _ => ⟨rfl, eq55, (by decide : 6 + 0 ≤ _), (by decide : 33 + 0 ≤ _)⟩)
    dsimp only [Pt.U, Pt.locs, Pt.cells, Pt.slots] at X57 l57 y57 z57 st57 hQ57
    have yq57 : k57 = 6 := y57
    have zq57 : n57 = 33 := z57
    subst yq57 zq57
    obtain ⟨rfl, Nq57, eq57⟩ := hQ57
    have N57 : Fr n0 L57 := by rw [l57]; exact Fr.app N55 Nq57
    have b58 : (own_f7i2 w_3) = w_3 := rfl
    obtain ⟨fs, hr, hrun, hended, hW, hsame⟩ := X57.leave (v := (some (.int (1 : Int32)))) (fun h => by rw [Bd.returns] at h; cases h)
    refine ⟨_, _, pre22 _ ?_, hrun, hended, _, _, rfl, ?_, ⟨_, rfl⟩, hW, hsame.mono (by decide) (by decide)⟩
    · show oS p e below T15 m 54 #[oi p0, oi p1, oi p2, oi p3, oi w_1, oi w_2, oi w_3, oa b4, .unset] [(.ref b4), (.ref b15), (.ref b15)] _
      refine st23.trans ?_
      show oS p e below T23 m 57 #[oi p0, oi p1, oi p2, oi p3, oi w_1, oi w_2, oi w_3, oa b4, .unset] [(.ref b15)] _
      refine XS.astore X23.here hx rfl (hb hby at_57) rfl rfl (l' := #[oi p0, oi p1, oi p2, oi p3, oi w_1, oi w_2, oi w_3, oa b4, oa b15]) rfl ?_
      show oS p e below T23 m 59 #[oi p0, oi p1, oi p2, oi p3, oi w_1, oi w_2, oi w_3, oa b4, oa b15] [] _
      refine XS.aload X23.here hx rfl (hb hby at_59) rfl rfl ?_
      show oS p e below T23 m 61 #[oi p0, oi p1, oi p2, oi p3, oi w_1, oi w_2, oi w_3, oa b4, oa b15] [(.ref b4)] _
      refine XS.iconst X23.here hx rfl (hb hby at_61) ?_
      show oS p e below T23 m 62 #[oi p0, oi p1, oi p2, oi p3, oi w_1, oi w_2, oi w_3, oa b4, oa b15] [(.int (0 : Int32)), (.ref b4)] _
      refine XS.iload X23.here hx rfl (hb hby at_62) rfl ?_
      show oS p e below T23 m 64 #[oi p0, oi p1, oi p2, oi p3, oi w_1, oi w_2, oi w_3, oa b4, oa b15] [(.int w_1), (.int (0 : Int32)), (.ref b4)] _
      refine XS.iconst X23.here hx rfl (hb hby at_64) ?_
      show oS p e below T23 m 65 #[oi p0, oi p1, oi p2, oi p3, oi w_1, oi w_2, oi w_3, oa b4, oa b15] [(.int (-1 : Int32)), (.int w_1), (.int (0 : Int32)), (.ref b4)] _
      refine XS.ixor X23.here hx rfl (hb hby at_65) rfl ?_
      show oS p e below T23 m 66 #[oi p0, oi p1, oi p2, oi p3, oi w_1, oi w_2, oi w_3, oa b4, oa b15] [(.int (w_1 ^^^ (-1 : Int32))), (.int (0 : Int32)), (.ref b4)] _
      refine st29 _ ?_
      show oS p e below T29 m 67 #[oi p0, oi p1, oi p2, oi p3, oi w_1, oi w_2, oi w_3, oa b4, oa b15] [] _
      refine XS.aload X29.here hx rfl (hb hby at_67) rfl rfl ?_
      show oS p e below T29 m 69 #[oi p0, oi p1, oi p2, oi p3, oi w_1, oi w_2, oi w_3, oa b4, oa b15] [(.ref b4)] _
      refine XS.iconst X29.here hx rfl (hb hby at_69) ?_
      show oS p e below T29 m 70 #[oi p0, oi p1, oi p2, oi p3, oi w_1, oi w_2, oi w_3, oa b4, oa b15] [(.int (1 : Int32)), (.ref b4)] _
      refine XS.iload X29.here hx rfl (hb hby at_70) rfl ?_
      show oS p e below T29 m 72 #[oi p0, oi p1, oi p2, oi p3, oi w_1, oi w_2, oi w_3, oa b4, oa b15] [(.int w_2), (.int (1 : Int32)), (.ref b4)] _
      refine XS.iconst X29.here hx rfl (hb hby at_72) ?_
      show oS p e below T29 m 73 #[oi p0, oi p1, oi p2, oi p3, oi w_1, oi w_2, oi w_3, oa b4, oa b15] [(.int (-1 : Int32)), (.int w_2), (.int (1 : Int32)), (.ref b4)] _
      refine XS.ixor X29.here hx rfl (hb hby at_73) rfl ?_
      show oS p e below T29 m 74 #[oi p0, oi p1, oi p2, oi p3, oi w_1, oi w_2, oi w_3, oa b4, oa b15] [(.int (w_2 ^^^ (-1 : Int32))), (.int (1 : Int32)), (.ref b4)] _
      refine st37 _ ?_
      show oS p e below T37 m 75 #[oi p0, oi p1, oi p2, oi p3, oi w_1, oi w_2, oi w_3, oa b4, oa b15] [] _
      refine XS.aload X37.here hx rfl (hb hby at_75) rfl rfl ?_
      show oS p e below T37 m 77 #[oi p0, oi p1, oi p2, oi p3, oi w_1, oi w_2, oi w_3, oa b4, oa b15] [(.ref b4)] _
      refine XS.iconst X37.here hx rfl (hb hby at_77) ?_
      show oS p e below T37 m 78 #[oi p0, oi p1, oi p2, oi p3, oi w_1, oi w_2, oi w_3, oa b4, oa b15] [(.int (2 : Int32)), (.ref b4)] _
      refine XS.iload X37.here hx rfl (hb hby at_78) rfl ?_
      show oS p e below T37 m 80 #[oi p0, oi p1, oi p2, oi p3, oi w_1, oi w_2, oi w_3, oa b4, oa b15] [(.int w_3), (.int (2 : Int32)), (.ref b4)] _
      refine XS.iconst X37.here hx rfl (hb hby at_80) ?_
      show oS p e below T37 m 81 #[oi p0, oi p1, oi p2, oi p3, oi w_1, oi w_2, oi w_3, oa b4, oa b15] [(.int (-1 : Int32)), (.int w_3), (.int (2 : Int32)), (.ref b4)] _
      refine XS.ixor X37.here hx rfl (hb hby at_81) rfl ?_
      show oS p e below T37 m 82 #[oi p0, oi p1, oi p2, oi p3, oi w_1, oi w_2, oi w_3, oa b4, oa b15] [(.int (w_3 ^^^ (-1 : Int32))), (.int (2 : Int32)), (.ref b4)] _
      refine st45 _ ?_
      show oS p e below T45 m 83 #[oi p0, oi p1, oi p2, oi p3, oi w_1, oi w_2, oi w_3, oa b4, oa b15] [] _
      refine XS.aload X45.here hx rfl (hb hby at_83) rfl rfl ?_
      show oS p e below T45 m 85 #[oi p0, oi p1, oi p2, oi p3, oi w_1, oi w_2, oi w_3, oa b4, oa b15] [(.ref b15)] _
      refine XS.iconst X45.here hx rfl (hb hby at_85) ?_
      show oS p e below T45 m 86 #[oi p0, oi p1, oi p2, oi p3, oi w_1, oi w_2, oi w_3, oa b4, oa b15] [(.int (0 : Int32)), (.ref b15)] _
      refine st53.trans ?_
      show oS p e below T53 m 89 #[oi p0, oi p1, oi p2, oi p3, oi w_1, oi w_2, oi w_3, oa b4, oa b15] [(.int (own_f7i0 w_1))] _
      refine XS.iload X53.here hx rfl (hb hby at_89) rfl ?_
      show oS p e below T53 m 91 #[oi p0, oi p1, oi p2, oi p3, oi w_1, oi w_2, oi w_3, oa b4, oa b15] [(.int w_1), (.int (own_f7i0 w_1))] _
      refine XS.icmpNo X53.here hx rfl (hb hby at_91) rfl (teq b54).2 ?_
      show oS p e below T53 m 94 #[oi p0, oi p1, oi p2, oi p3, oi w_1, oi w_2, oi w_3, oa b4, oa b15] [] _
      refine XS.aload X53.here hx rfl (hb hby at_94) rfl rfl ?_
      show oS p e below T53 m 96 #[oi p0, oi p1, oi p2, oi p3, oi w_1, oi w_2, oi w_3, oa b4, oa b15] [(.ref b15)] _
      refine XS.iconst X53.here hx rfl (hb hby at_96) ?_
      show oS p e below T53 m 97 #[oi p0, oi p1, oi p2, oi p3, oi w_1, oi w_2, oi w_3, oa b4, oa b15] [(.int (1 : Int32)), (.ref b15)] _
      refine st55.trans ?_
      show oS p e below T55 m 100 #[oi p0, oi p1, oi p2, oi p3, oi w_1, oi w_2, oi w_3, oa b4, oa b15] [(.int (own_f7i1 w_2))] _
      refine XS.iload X55.here hx rfl (hb hby at_100) rfl ?_
      show oS p e below T55 m 102 #[oi p0, oi p1, oi p2, oi p3, oi w_1, oi w_2, oi w_3, oa b4, oa b15] [(.int w_2), (.int (own_f7i1 w_2))] _
      refine XS.icmpNo X55.here hx rfl (hb hby at_102) rfl (teq b56).2 ?_
      show oS p e below T55 m 105 #[oi p0, oi p1, oi p2, oi p3, oi w_1, oi w_2, oi w_3, oa b4, oa b15] [] _
      refine XS.aload X55.here hx rfl (hb hby at_105) rfl rfl ?_
      show oS p e below T55 m 107 #[oi p0, oi p1, oi p2, oi p3, oi w_1, oi w_2, oi w_3, oa b4, oa b15] [(.ref b15)] _
      refine XS.iconst X55.here hx rfl (hb hby at_107) ?_
      show oS p e below T55 m 108 #[oi p0, oi p1, oi p2, oi p3, oi w_1, oi w_2, oi w_3, oa b4, oa b15] [(.int (2 : Int32)), (.ref b15)] _
      refine st57.trans ?_
      show oS p e below T57 m 111 #[oi p0, oi p1, oi p2, oi p3, oi w_1, oi w_2, oi w_3, oa b4, oa b15] [(.int (own_f7i2 w_3))] _
      refine XS.iload X57.here hx rfl (hb hby at_111) rfl ?_
      show oS p e below T57 m 113 #[oi p0, oi p1, oi p2, oi p3, oi w_1, oi w_2, oi w_3, oa b4, oa b15] [(.int w_3), (.int (own_f7i2 w_3))] _
      refine XS.icmpNo X57.here hx rfl (hb hby at_113) rfl (teq b58).2 ?_
      show oS p e below T57 m 116 #[oi p0, oi p1, oi p2, oi p3, oi w_1, oi w_2, oi w_3, oa b4, oa b15] [] _
      refine XS.iconst X57.here hx rfl (hb hby at_116) ?_
      show oS p e below T57 m 117 #[oi p0, oi p1, oi p2, oi p3, oi w_1, oi w_2, oi w_3, oa b4, oa b15] [(.int (1 : Int32))] _
      refine XS.goto X57.here hx rfl (pc0 := 117) (pc' := 121) rfl (hb hby at_117) (by decide) (by decide) ?_
      show oS p e below T57 m 121 #[oi p0, oi p1, oi p2, oi p3, oi w_1, oi w_2, oi w_3, oa b4, oa b15] [(.int (1 : Int32))] _
      exact retN X57 hx (t := .boolean) Bd.returns (by simp) (hb hby at_121) hr
    · show own_Q0 Z p0 p1 p2 p3 h0 n0 _ T57.heap _
      rw [eq57]
      exact ⟨rfl, N57⟩
  · skip
    obtain ⟨r0, r1, r2⟩ := own_all3 hbad
    obtain ⟨_, _, ⟨T59, L59, k59, n59⟩, -, X59, ⟨Lc59, hQ59, l59, y59, z59⟩, st59⟩ := X15.specialBack hx (y := (⟨"com/example/penstock/penstock/Design", "<init>", "([I)V"⟩ : MethodName)) rfl hown (mvT hZ (hw _ (List.mem_of_getElem? (i := 8) rfl))) (mvT hZ (hw _ (List.mem_of_getElem? (i := 9) rfl))) (mvT hZ (hw _ (List.mem_of_getElem? (i := 10) rfl))) (by decide) (backOf (W := 1) (own_rm2b3 l Z av hw [] b15 b4 k4 w_1 w_2 w_3 h15 n0 Z15 A15 F_19 F_20 F_21 g_b15 F17 F18 (ne16) (r0.1) (r1.1) (r2.1) (r0.2) (r1.2) (r2.2)) hZ (hw _ (List.mem_of_getElem? (i := 10) rfl)) (hw _ (List.mem_of_getElem? (i := 7) rfl)) (by decide) (by decide)) (g := (mkF m 54 #[oi p0, oi p1, oi p2, oi p3, oi w_1, oi w_2, oi w_3, oa b4, .unset] [(.ref b4), (.ref b15), (.ref b15)])) rfl (by rw [hml]; rfl) (Steps.refl _) (a := b15) (argsL := [(.ref b4)]) (rest := [(.ref b15)]) (lenOf own_pd4 rfl) rfl (by show 2 * 0 + _ ≤ _; exact Nat.le_of_eq rfl) (hb hby at_54) (fun _ _ => ⟨rfl, e15, (by decide : 5 + 1 ≤ _), (by decide : 30 + 3 ≤ _)⟩)
    dsimp only [Pt.U, Pt.locs, Pt.cells, Pt.slots] at X59 l59 y59 z59 st59 hQ59
    have yq59 : k59 = 6 := y59
    have zq59 : n59 = 33 := z59
    subst yq59 zq59
    obtain ⟨b_59, k_b_59, rfl, Nq59, Kq59, gq59_b, Oq59_0, Oq59_1, Oq59_2, Oq59_3⟩ := hQ59
    have N59 : Fr n0 L59 := by rw [l59]; exact Fr.app N12 Nq59
    have Z59 : n0 ≤ T59.heap.size := Nat.le_trans Z15 Kq59.1
    have g_b_59 : n0 ≤ b_59 := Nat.le_trans Z15 gq59_b
    have ne60 : b4 ≠ b_59 := Nat.ne_of_lt (Nat.lt_of_lt_of_le F17.lt gq59_b)
    have ne61 : b15 ≠ b_59 := Nat.ne_of_lt (Nat.lt_of_lt_of_le A15.lt gq59_b)
    have F62 := F17.keep Kq59 (ninS ne16 nin0)
    have F63 := F18.keep Kq59
    have F64 := A15.keep Kq59
    obtain ⟨T65, h65, X65, e65, W65, V65, st65⟩ := oStI X59 hx hZ rfl F62 (j := (0 : Int32)) ⟨by decide, by decide⟩ 0 rfl (Nat.le_of_ble_eq_true rfl) (g := (mkF m 66 #[oi p0, oi p1, oi p2, oi p3, oi w_1, oi w_2, oi w_3, oa b4, oa b15] [(.int (w_1 ^^^ (-1 : Int32))), (.int (0 : Int32)), (.ref b4)])) rfl rfl (hb hby at_66)
    obtain ⟨Lo65, X65, N65⟩ := oOpq X65 (Fr.snoc X65 N59 g_b4)
    have Z65 := Nat.le_trans Z59 (Keep.of_wr W65).1
    have F66 := F63.wr W65
    have F67 := Oq59_0.wr W65
    have F68 := Oq59_1.other W65 (Or.inl (Ne.symm ne16))
    have F69 := Oq59_2.other W65 (Or.inl (Ne.symm ne16))
    have F70 := Oq59_3.other W65 (Ne.symm ne60)
    have V_71 : Arv Z h65 b4 k4 .int (3 : Int32) [(.int (w_1 ^^^ (-1 : Int32))), (.int w_2), (.int w_3)] (.int (0 : Int32)) := V65
    obtain ⟨T72, h72, X72, e72, W72, V72, st72⟩ := oStI X65 hx hZ e65 V_71 (j := (1 : Int32)) ⟨by decide, by decide⟩ 1 rfl (Nat.le_of_ble_eq_true rfl) (g := (mkF m 74 #[oi p0, oi p1, oi p2, oi p3, oi w_1, oi w_2, oi w_3, oa b4, oa b15] [(.int (w_2 ^^^ (-1 : Int32))), (.int (1 : Int32)), (.ref b4)])) rfl rfl (hb hby at_74)
    obtain ⟨Lo72, X72, N72⟩ := oOpq X72 (Fr.snoc X72 N65 g_b4)
    have Z72 := Nat.le_trans Z65 (Keep.of_wr W72).1
    have F73 := F66.wr W72
    have F74 := F67.wr W72
    have F75 := F68.other W72 (Or.inl (Ne.symm ne16))
    have F76 := F69.other W72 (Or.inl (Ne.symm ne16))
    have F77 := F70.other W72 (Ne.symm ne60)
    have V_78 : Arv Z h72 b4 k4 .int (3 : Int32) [(.int (w_1 ^^^ (-1 : Int32))), (.int (w_2 ^^^ (-1 : Int32))), (.int w_3)] (.int (0 : Int32)) := V72
    obtain ⟨T79, h79, X79, e79, W79, V79, st79⟩ := oStI X72 hx hZ e72 V_78 (j := (2 : Int32)) ⟨by decide, by decide⟩ 2 rfl (Nat.le_of_ble_eq_true rfl) (g := (mkF m 82 #[oi p0, oi p1, oi p2, oi p3, oi w_1, oi w_2, oi w_3, oa b4, oa b15] [(.int (w_3 ^^^ (-1 : Int32))), (.int (2 : Int32)), (.ref b4)])) rfl rfl (hb hby at_82)
    obtain ⟨Lo79, X79, N79⟩ := oOpq X79 (Fr.snoc X79 N72 g_b4)
    have Z79 := Nat.le_trans Z72 (Keep.of_wr W79).1
    have F80 := F73.wr W79
    have F81 := F74.wr W79
    have F82 := F75.other W79 (Or.inl (Ne.symm ne16))
    have F83 := F76.other W79 (Or.inl (Ne.symm ne16))
    have F84 := F77.other W79 (Ne.symm ne60)
    have V_85 : Arv Z h79 b4 k4 .int (3 : Int32) [(.int (w_1 ^^^ (-1 : Int32))), (.int (w_2 ^^^ (-1 : Int32))), (.int (w_3 ^^^ (-1 : Int32)))] (.int (0 : Int32)) := V79
    obtain ⟨cq86, kq86, q86a, q86b, q86c⟩ := isOf hZ e79 F81
    obtain ⟨_, _, ⟨T86, L86, k86, n86⟩, -, X86, ⟨Lc86, hQ86, l86, y86, z86⟩, st86⟩ := X79.virtualBack hx (y := (⟨"com/example/penstock/penstock/Design", "sizeIndex", "(I)I"⟩ : MethodName)) (z := (⟨"com/example/penstock/penstock/Design", "sizeIndex", "(I)I"⟩ : MethodName)) hown (mvT hZ (hw _ (List.mem_of_getElem? (i := 34) rfl))) (mvT hZ (hw _ (List.mem_of_getElem? (i := 35) rfl))) (notFace_of_selects (args := #[]) (mvT hZ (hw _ (List.mem_of_getElem? (i := 37) rfl)))) (mvT hZ (hw _ (List.mem_of_getElem? (i := 37) rfl))) (mvT hZ (hw _ (List.mem_of_getElem? (i := 36) rfl))) (by decide) (backOf (W := 0) (own_rm7b0 l Z av hw [] b15 b_59 k_b_59 (w_1.toInt8.toInt32) (w_2.toInt8.toInt32) (w_3.toInt8.toInt32) h79 n0 Z79 F82 F84) hZ (hw _ (List.mem_of_getElem? (i := 38) rfl)) (hw _ (List.mem_of_getElem? (i := 7) rfl)) (by decide) (by decide)) q86a q86c (g := (mkF m 86 #[oi p0, oi p1, oi p2, oi p3, oi w_1, oi w_2, oi w_3, oa b4, oa b15] [(.int (0 : Int32)), (.ref b15)])) rfl (by rw [hml]; rfl) (Steps.refl _) (argsL := [(.int (0 : Int32))]) (rest := []) (lenOf own_pd5 rfl) rfl (by show 2 * 0 + _ ≤ _; exact Nat.le_of_eq rfl) (hb hby at_86) (fun _ _ => ⟨rfl, e79, (by decide : 6 + 0 ≤ _), (by decide : 33 + 0 ≤ _)⟩)
    dsimp only [Pt.U, Pt.locs, Pt.cells, Pt.slots] at X86 l86 y86 z86 st86 hQ86
    have yq86 : k86 = 6 := y86
    have zq86 : n86 = 33 := z86
    subst yq86 zq86
    obtain ⟨rfl, Nq86, eq86⟩ := hQ86
    have N86 : Fr n0 L86 := by rw [l86]; exact Fr.app N79 Nq86
    have b87 : (own_f7b0 (w_1.toInt8.toInt32)) = w_1 := own_bb r0
    obtain ⟨cq88, kq88, q88a, q88b, q88c⟩ := isOf hZ eq86 F81
    obtain ⟨_, _, ⟨T88, L88, k88, n88⟩, -, X88, ⟨Lc88, hQ88, l88, y88, z88⟩, st88⟩ := X86.virtualBack hx (y := (⟨"com/example/penstock/penstock/Design", "sizeIndex", "(I)I"⟩ : MethodName)) (z := (⟨"com/example/penstock/penstock/Design", "sizeIndex", "(I)I"⟩ : MethodName)) hown (mvT hZ (hw _ (List.mem_of_getElem? (i := 34) rfl))) (mvT hZ (hw _ (List.mem_of_getElem? (i := 35) rfl))) (notFace_of_selects (args := #[]) (mvT hZ (hw _ (List.mem_of_getElem? (i := 37) rfl)))) (mvT hZ (hw _ (List.mem_of_getElem? (i := 37) rfl))) (mvT hZ (hw _ (List.mem_of_getElem? (i := 36) rfl))) (by decide) (backOf (W := 0) (own_rm7b1 l Z av hw [] b15 b_59 k_b_59 (w_1.toInt8.toInt32) (w_2.toInt8.toInt32) (w_3.toInt8.toInt32) h79 n0 Z79 F82 F84) hZ (hw _ (List.mem_of_getElem? (i := 38) rfl)) (hw _ (List.mem_of_getElem? (i := 7) rfl)) (by decide) (by decide)) q88a q88c (g := (mkF m 97 #[oi p0, oi p1, oi p2, oi p3, oi w_1, oi w_2, oi w_3, oa b4, oa b15] [(.int (1 : Int32)), (.ref b15)])) rfl (by rw [hml]; rfl) (Steps.refl _) (argsL := [(.int (1 : Int32))]) (rest := []) (lenOf own_pd5 rfl) rfl (by show 2 * 0 + _ ≤ _; exact Nat.le_of_eq rfl) (hb hby at_97) (fun _ _ => ⟨rfl, eq86, (by decide : 6 + 0 ≤ _), (by decide : 33 + 0 ≤ _)⟩)
    dsimp only [Pt.U, Pt.locs, Pt.cells, Pt.slots] at X88 l88 y88 z88 st88 hQ88
    have yq88 : k88 = 6 := y88
    have zq88 : n88 = 33 := z88
    subst yq88 zq88
    obtain ⟨rfl, Nq88, eq88⟩ := hQ88
    have N88 : Fr n0 L88 := by rw [l88]; exact Fr.app N86 Nq88
    have b89 : (own_f7b1 (w_2.toInt8.toInt32)) = w_2 := own_bb r1
    obtain ⟨cq90, kq90, q90a, q90b, q90c⟩ := isOf hZ eq88 F81
    obtain ⟨_, _, ⟨T90, L90, k90, n90⟩, -, X90, ⟨Lc90, hQ90, l90, y90, z90⟩, st90⟩ := X88.virtualBack hx (y := (⟨"com/example/penstock/penstock/Design", "sizeIndex", "(I)I"⟩ : MethodName)) (z := (⟨"com/example/penstock/penstock/Design", "sizeIndex", "(I)I"⟩ : MethodName)) hown (mvT hZ (hw _ (List.mem_of_getElem? (i := 34) rfl))) (mvT hZ (hw _ (List.mem_of_getElem? (i := 35) rfl))) (notFace_of_selects (args := #[]) (mvT hZ (hw _ (List.mem_of_getElem? (i := 37) rfl)))) (mvT hZ (hw _ (List.mem_of_getElem? (i := 37) rfl))) (mvT hZ (hw _ (List.mem_of_getElem? (i := 36) rfl))) (by decide) (backOf (W := 0) (own_rm7b2 l Z av hw [] b15 b_59 k_b_59 (w_1.toInt8.toInt32) (w_2.toInt8.toInt32) (w_3.toInt8.toInt32) h79 n0 Z79 F82 F84) hZ (hw _ (List.mem_of_getElem? (i := 38) rfl)) (hw _ (List.mem_of_getElem? (i := 7) rfl)) (by decide) (by decide)) q90a q90c (g := (mkF m 108 #[oi p0, oi p1, oi p2, oi p3, oi w_1, oi w_2, oi w_3, oa b4, oa b15] [(.int (2 : Int32)), (.ref b15)])) rfl (by rw [hml]; rfl) (Steps.refl _) (argsL := [(.int (2 : Int32))]) (rest := []) (lenOf own_pd5 rfl) rfl (by show 2 * 0 + _ ≤ _; exact Nat.le_of_eq rfl) (hb hby at_108) (fun _ _ => ⟨rfl, eq88, (by decide : 6 + 0 ≤ _), (by decide : 33 + 0 ≤ _)⟩)
    dsimp only [Pt.U, Pt.locs, Pt.cells, Pt.slots] at X90 l90 y90 z90 st90 hQ90
    have yq90 : k90 = 6 := y90
    have zq90 : n90 = 33 := z90
    subst yq90 zq90
    obtain ⟨rfl, Nq90, eq90⟩ := hQ90
    have N90 : Fr n0 L90 := by rw [l90]; exact Fr.app N88 Nq90
    have b91 : (own_f7b2 (w_3.toInt8.toInt32)) = w_3 := own_bb r2
    obtain ⟨fs, hr, hrun, hended, hW, hsame⟩ := X90.leave (v := (some (.int (1 : Int32)))) (fun h => by rw [Bd.returns] at h; cases h)
    refine ⟨_, _, pre22 _ ?_, hrun, hended, _, _, rfl, ?_, ⟨_, rfl⟩, hW, hsame.mono (by decide) (by decide)⟩
    · show oS p e below T15 m 54 #[oi p0, oi p1, oi p2, oi p3, oi w_1, oi w_2, oi w_3, oa b4, .unset] [(.ref b4), (.ref b15), (.ref b15)] _
      refine st59.trans ?_
      show oS p e below T59 m 57 #[oi p0, oi p1, oi p2, oi p3, oi w_1, oi w_2, oi w_3, oa b4, .unset] [(.ref b15)] _
      refine XS.astore X59.here hx rfl (hb hby at_57) rfl rfl (l' := #[oi p0, oi p1, oi p2, oi p3, oi w_1, oi w_2, oi w_3, oa b4, oa b15]) rfl ?_
      show oS p e below T59 m 59 #[oi p0, oi p1, oi p2, oi p3, oi w_1, oi w_2, oi w_3, oa b4, oa b15] [] _
      refine XS.aload X59.here hx rfl (hb hby at_59) rfl rfl ?_
      show oS p e below T59 m 61 #[oi p0, oi p1, oi p2, oi p3, oi w_1, oi w_2, oi w_3, oa b4, oa b15] [(.ref b4)] _
      refine XS.iconst X59.here hx rfl (hb hby at_61) ?_
      show oS p e below T59 m 62 #[oi p0, oi p1, oi p2, oi p3, oi w_1, oi w_2, oi w_3, oa b4, oa b15] [(.int (0 : Int32)), (.ref b4)] _
      refine XS.iload X59.here hx rfl (hb hby at_62) rfl ?_
      show oS p e below T59 m 64 #[oi p0, oi p1, oi p2, oi p3, oi w_1, oi w_2, oi w_3, oa b4, oa b15] [(.int w_1), (.int (0 : Int32)), (.ref b4)] _
      refine XS.iconst X59.here hx rfl (hb hby at_64) ?_
      show oS p e below T59 m 65 #[oi p0, oi p1, oi p2, oi p3, oi w_1, oi w_2, oi w_3, oa b4, oa b15] [(.int (-1 : Int32)), (.int w_1), (.int (0 : Int32)), (.ref b4)] _
      refine XS.ixor X59.here hx rfl (hb hby at_65) rfl ?_
      show oS p e below T59 m 66 #[oi p0, oi p1, oi p2, oi p3, oi w_1, oi w_2, oi w_3, oa b4, oa b15] [(.int (w_1 ^^^ (-1 : Int32))), (.int (0 : Int32)), (.ref b4)] _
      refine st65 _ ?_
      show oS p e below T65 m 67 #[oi p0, oi p1, oi p2, oi p3, oi w_1, oi w_2, oi w_3, oa b4, oa b15] [] _
      refine XS.aload X65.here hx rfl (hb hby at_67) rfl rfl ?_
      show oS p e below T65 m 69 #[oi p0, oi p1, oi p2, oi p3, oi w_1, oi w_2, oi w_3, oa b4, oa b15] [(.ref b4)] _
      refine XS.iconst X65.here hx rfl (hb hby at_69) ?_
      show oS p e below T65 m 70 #[oi p0, oi p1, oi p2, oi p3, oi w_1, oi w_2, oi w_3, oa b4, oa b15] [(.int (1 : Int32)), (.ref b4)] _
      refine XS.iload X65.here hx rfl (hb hby at_70) rfl ?_
      show oS p e below T65 m 72 #[oi p0, oi p1, oi p2, oi p3, oi w_1, oi w_2, oi w_3, oa b4, oa b15] [(.int w_2), (.int (1 : Int32)), (.ref b4)] _
      refine XS.iconst X65.here hx rfl (hb hby at_72) ?_
      show oS p e below T65 m 73 #[oi p0, oi p1, oi p2, oi p3, oi w_1, oi w_2, oi w_3, oa b4, oa b15] [(.int (-1 : Int32)), (.int w_2), (.int (1 : Int32)), (.ref b4)] _
      refine XS.ixor X65.here hx rfl (hb hby at_73) rfl ?_
      show oS p e below T65 m 74 #[oi p0, oi p1, oi p2, oi p3, oi w_1, oi w_2, oi w_3, oa b4, oa b15] [(.int (w_2 ^^^ (-1 : Int32))), (.int (1 : Int32)), (.ref b4)] _
      refine st72 _ ?_
      show oS p e below T72 m 75 #[oi p0, oi p1, oi p2, oi p3, oi w_1, oi w_2, oi w_3, oa b4, oa b15] [] _
      refine XS.aload X72.here hx rfl (hb hby at_75) rfl rfl ?_
      show oS p e below T72 m 77 #[oi p0, oi p1, oi p2, oi p3, oi w_1, oi w_2, oi w_3, oa b4, oa b15] [(.ref b4)] _
      refine XS.iconst X72.here hx rfl (hb hby at_77) ?_
      show oS p e below T72 m 78 #[oi p0, oi p1, oi p2, oi p3, oi w_1, oi w_2, oi w_3, oa b4, oa b15] [(.int (2 : Int32)), (.ref b4)] _
      refine XS.iload X72.here hx rfl (hb hby at_78) rfl ?_
      show oS p e below T72 m 80 #[oi p0, oi p1, oi p2, oi p3, oi w_1, oi w_2, oi w_3, oa b4, oa b15] [(.int w_3), (.int (2 : Int32)), (.ref b4)] _
      refine XS.iconst X72.here hx rfl (hb hby at_80) ?_
      show oS p e below T72 m 81 #[oi p0, oi p1, oi p2, oi p3, oi w_1, oi w_2, oi w_3, oa b4, oa b15] [(.int (-1 : Int32)), (.int w_3), (.int (2 : Int32)), (.ref b4)] _
      refine XS.ixor X72.here hx rfl (hb hby at_81) rfl ?_
      show oS p e below T72 m 82 #[oi p0, oi p1, oi p2, oi p3, oi w_1, oi w_2, oi w_3, oa b4, oa b15] [(.int (w_3 ^^^ (-1 : Int32))), (.int (2 : Int32)), (.ref b4)] _
      refine st79 _ ?_
      show oS p e below T79 m 83 #[oi p0, oi p1, oi p2, oi p3, oi w_1, oi w_2, oi w_3, oa b4, oa b15] [] _
      refine XS.aload X79.here hx rfl (hb hby at_83) rfl rfl ?_
      show oS p e below T79 m 85 #[oi p0, oi p1, oi p2, oi p3, oi w_1, oi w_2, oi w_3, oa b4, oa b15] [(.ref b15)] _
      refine XS.iconst X79.here hx rfl (hb hby at_85) ?_
      show oS p e below T79 m 86 #[oi p0, oi p1, oi p2, oi p3, oi w_1, oi w_2, oi w_3, oa b4, oa b15] [(.int (0 : Int32)), (.ref b15)] _
      refine st86.trans ?_
      show oS p e below T86 m 89 #[oi p0, oi p1, oi p2, oi p3, oi w_1, oi w_2, oi w_3, oa b4, oa b15] [(.int (own_f7b0 (w_1.toInt8.toInt32)))] _
      refine XS.iload X86.here hx rfl (hb hby at_89) rfl ?_
      show oS p e below T86 m 91 #[oi p0, oi p1, oi p2, oi p3, oi w_1, oi w_2, oi w_3, oa b4, oa b15] [(.int w_1), (.int (own_f7b0 (w_1.toInt8.toInt32)))] _
      refine XS.icmpNo X86.here hx rfl (hb hby at_91) rfl (teq b87).2 ?_
      show oS p e below T86 m 94 #[oi p0, oi p1, oi p2, oi p3, oi w_1, oi w_2, oi w_3, oa b4, oa b15] [] _
      refine XS.aload X86.here hx rfl (hb hby at_94) rfl rfl ?_
      show oS p e below T86 m 96 #[oi p0, oi p1, oi p2, oi p3, oi w_1, oi w_2, oi w_3, oa b4, oa b15] [(.ref b15)] _
      refine XS.iconst X86.here hx rfl (hb hby at_96) ?_
      show oS p e below T86 m 97 #[oi p0, oi p1, oi p2, oi p3, oi w_1, oi w_2, oi w_3, oa b4, oa b15] [(.int (1 : Int32)), (.ref b15)] _
      refine st88.trans ?_
      show oS p e below T88 m 100 #[oi p0, oi p1, oi p2, oi p3, oi w_1, oi w_2, oi w_3, oa b4, oa b15] [(.int (own_f7b1 (w_2.toInt8.toInt32)))] _
      refine XS.iload X88.here hx rfl (hb hby at_100) rfl ?_
      show oS p e below T88 m 102 #[oi p0, oi p1, oi p2, oi p3, oi w_1, oi w_2, oi w_3, oa b4, oa b15] [(.int w_2), (.int (own_f7b1 (w_2.toInt8.toInt32)))] _
      refine XS.icmpNo X88.here hx rfl (hb hby at_102) rfl (teq b89).2 ?_
      show oS p e below T88 m 105 #[oi p0, oi p1, oi p2, oi p3, oi w_1, oi w_2, oi w_3, oa b4, oa b15] [] _
      refine XS.aload X88.here hx rfl (hb hby at_105) rfl rfl ?_
      show oS p e below T88 m 107 #[oi p0, oi p1, oi p2, oi p3, oi w_1, oi w_2, oi w_3, oa b4, oa b15] [(.ref b15)] _
      refine XS.iconst X88.here hx rfl (hb hby at_107) ?_
      show oS p e below T88 m 108 #[oi p0, oi p1, oi p2, oi p3, oi w_1, oi w_2, oi w_3, oa b4, oa b15] [(.int (2 : Int32)), (.ref b15)] _
      refine st90.trans ?_
      show oS p e below T90 m 111 #[oi p0, oi p1, oi p2, oi p3, oi w_1, oi w_2, oi w_3, oa b4, oa b15] [(.int (own_f7b2 (w_3.toInt8.toInt32)))] _
      refine XS.iload X90.here hx rfl (hb hby at_111) rfl ?_
      show oS p e below T90 m 113 #[oi p0, oi p1, oi p2, oi p3, oi w_1, oi w_2, oi w_3, oa b4, oa b15] [(.int w_3), (.int (own_f7b2 (w_3.toInt8.toInt32)))] _
      refine XS.icmpNo X90.here hx rfl (hb hby at_113) rfl (teq b91).2 ?_
      show oS p e below T90 m 116 #[oi p0, oi p1, oi p2, oi p3, oi w_1, oi w_2, oi w_3, oa b4, oa b15] [] _
      refine XS.iconst X90.here hx rfl (hb hby at_116) ?_
      show oS p e below T90 m 117 #[oi p0, oi p1, oi p2, oi p3, oi w_1, oi w_2, oi w_3, oa b4, oa b15] [(.int (1 : Int32))] _
      refine XS.goto X90.here hx rfl (pc0 := 117) (pc' := 121) rfl (hb hby at_117) (by decide) (by decide) ?_
      show oS p e below T90 m 121 #[oi p0, oi p1, oi p2, oi p3, oi w_1, oi w_2, oi w_3, oa b4, oa b15] [(.int (1 : Int32))] _
      exact retN X90 hx (t := .boolean) Bd.returns (by simp) (hb hby at_121) hr
    · show own_Q0 Z p0 p1 p2 p3 h0 n0 _ T90.heap _
      rw [eq90]
      exact ⟨rfl, N90⟩
set_option maxRecDepth 65536 in
set_option maxHeartbeats 40000000 in
theorem own_comes {Post : Tables → Env → Array Value → State → Outcome → State → Prop} (hpost : ∀ tb e args s v u, (limb_1_1.after args s (.returned v) u = true ∧ limb_1_2.after args s (.returned v) u = true ∧ True) → FrameEnd s (.returned v) u (Jvm.fieldLocs frame_1_writes args s ++ Jvm.arrayLocs frame_1_arrays args s ++ Jvm.staticLocs frame_1_statics s) 24 192 → Post tb e args s (.returned v) u) :
    ArmFor flags0 classFile x code maxLocals ret World_1 tables_1 room_1 Calls_1 rest_1 Pre_1 Post := by
  intro l hfl _ _ p e ha hc hk s m args below hf hA hF happ hP
  obtain ⟨hcalls, hrest, hpre⟩ := hP
  obtain ⟨-, -, -, hnamed, -, -, -, hat⟩ := (Spec.applies_iff hf).mp happ
  obtain ⟨hg, hn⟩ := and_e (Cond.before_iff.mp (show (Jvm.Cond.and given_1 narrow_1).before args s = true from hpre))
  obtain ⟨gv1, gv2⟩ := and_e hg
  obtain ⟨gv3, gv4⟩ := and_e gv2
  obtain ⟨gv5, gv6⟩ := and_e gv4
  obtain ⟨gv7, gv8⟩ := and_e gv6
  obtain ⟨w0, w1, w2, w3, rfl⟩ : ∃ w0 w1 w2 w3 : Value, args = #[w0, w1, w2, w3] := by
    have hs : args.size = 4 := by simpa [Cond.value, given_1] using gv1
    obtain ⟨L⟩ := args
    match L, hs with
    | [w0, w1, w2, w3], _ => exact ⟨w0, w1, w2, w3, rfl⟩
  have hw := fun d (hd : d ∈ tables_1) => atoms_spec (ws := Jvm.Cond.code x code maxLocals ret :: tables_1) hat d (List.mem_cons_of_mem _ hd)
  have hfit : Fit s := fun {y c} hc i hi => by
    obtain ⟨ha, rfl⟩ := Array.getElem?_eq_some_iff.mp hc
    have q := List.all_eq_true.mp ((Array.all_eq_true_iff_forall_mem.mp hF) _ (Array.getElem_mem ha)) i (List.mem_range.mpr hi)
    simpa [Array.getElem?_eq_getElem hi] using q
  obtain ⟨i0, ei0⟩ := is_v gv3
  obtain rfl : w0 = (.int i0) := Option.some.inj ei0
  obtain ⟨i1, ei1⟩ := is_v gv5
  obtain rfl : w1 = (.int i1) := Option.some.inj ei1
  obtain ⟨i2, ei2⟩ := is_v gv7
  obtain rfl : w2 = (.int i2) := Option.some.inj ei2
  obtain ⟨i3, ei3⟩ := is_v gv8
  obtain rfl : w3 = (.int i3) := Option.some.inj ei3
  obtain ⟨n, o, h1, h2, h3, _, L, rfl, ⟨rfl, N⟩, hq⟩ := own_rm0 l s _ hw tables_1 i0 i1 i2 i3  s.heap s.heap.size (Nat.le_refl _)  p e ha hc hk s m _ below hf ((Spec.applies_iff_loose hf).mp happ).1 ⟨rfl, State.Warmed39.refl s, rfl⟩ trivial
  refine ⟨n, _, h1, h2, h3, hpost _ _ _ _ _ _ ⟨Cond.after_iff.mpr rfl, Cond.after_iff.mpr (eq_i res_at (Term.int_eval (1)) rfl), trivial⟩ ⟨hq.1, hq.2.1, (hq.2.2.sift fun y hy => Or.inr (N y hy)).mono (by decide) (by decide)⟩⟩
theorem main_1_1 : Claimed_1_1 := own_comes fun _ _ _ _ _ _ h hF => ⟨h.1, hF⟩
theorem main_1_2 : Claimed_1_2 := own_comes fun _ _ _ _ _ _ h hF => ⟨h.2.1, hF⟩
end Jvm.Pilot.@@N@@
namespace Jvm.Pilot.@@N@@
open Jvm Jvm.ClassFile Sem Op Lib Jvm.Free Jvm.Stand Jvm.Pilot.@@N@@.Jvm.D
/-! MADE BY PROGRAM (witnessworld.py) out of the Statement's table words and the real class files: 11 classes; the members and pool entries that the words name. The judged class is class 1, her method 2. -/
namespace start1
open Jvm.ClassFile
def u (s : String) : CpInfo := .utf8 (stringToUtf16 s)
/-- a pool by its gaps: so many unusable entries, then the entry; so many at the end -/
def gap : Nat → List CpInfo → List CpInfo
  | 0, r => r
  | n + 1, r => .unusable :: gap n r
def poolList (es : List (Nat × CpInfo)) (last : Nat) : List CpInfo := es.foldr (fun e r => gap e.1 (e.2 :: r)) (gap last [])
def pool (es : List (Nat × CpInfo)) (last : Nat) : Array CpInfo := ⟨poolList es last⟩
def fileOf (pool : Array CpInfo) (this : Nat) (attrs : Array Attribute := #[]) (ms : Array MethodInfo := #[]) (fl : Nat := 33) (sup : Nat := 0) (ifs : Array Nat := #[]) (fds : Array FieldInfo := #[]) : ClassFile where
  minorVersion := 0
  majorVersion := 65
  constantPool := pool
  accessFlags := fl
  thisClass := this
  superClass := sup
  interfaces := ifs
  fields := fds
  methods := ms
  attributes := attrs
def plain (name : String) (sup : Option ClassId) : Class where
  name := name
  kind := .ordinary
  loader := none
  accessFlags := 33
  super := sup
  interfaces := #[]
  cf := none
  fields := #[]
  methods := #[]
  instanceTypes := #[]
  staticTypes := #[]
  resolved := #[]
  callSites := []
  init := .initialized
  statics := none
  mirror := none

def pool0 : Array CpInfo := pool [(5, u "<init>"), (0, u "()V"), (1, .class_ 10), (1, u "java/lang/Object"), (85, u "clone"), (0, u "()Ljava/lang/Object;")] 26

def k0c0 : Code := { maxStack := 0, maxLocals := 1, code := object_method_1_code, exceptionTable := #[], attributes := #[] }
def k0m0 : Method := { name := "<init>", desc := "()V", sig := { parameters := [], returnType := none }, accessFlags := 1, code := some k0c0 }
def k0m1 : Method := { name := "clone", desc := "()Ljava/lang/Object;", sig := { parameters := [], returnType := some (.object "java/lang/Object") }, accessFlags := 260, code := none }
/-- java/lang/Object -/
def k0 : Class := { plain "java/lang/Object" none with
  accessFlags := 33
  interfaces := #[]
  cf := some (fileOf pool0 8 #[] #[{ accessFlags := 1, nameIndex := 5, descriptorIndex := 6, attributes := #[] }, { accessFlags := 260, nameIndex := 96, descriptorIndex := 97, attributes := #[] }] 33 0 #[] #[])
  fields := #[]
  methods := #[k0m0, k0m1]
  instanceTypes := #[]
  staticTypes := #[]
  resolved := Array.replicate 124 none
  statics := none }

def pool1 : Array CpInfo := pool [(2, .class_ 4), (1, u "java/lang/Object"), (0, u "<init>"), (0, u "()V"), (2, .integer 2147483648), (0, .integer 2147483647), (0, .methodref 12 13), (0, .class_ 14), (0, .nameAndType 15 16), (0, u "com/example/penstock/penstock/DesignSizeIndexPinLaw"), (0, u "draw"), (0, u "(II)I"), (0, .class_ 18), (0, u "com/example/penstock/penstock/Design"), (0, .methodref 17 20), (0, .nameAndType 5 21), (0, u "([I)V"), (0, .methodref 17 23), (0, .nameAndType 24 25), (0, u "sizeIndex"), (0, u "(I)I"), (3, u "law"), (0, u "(IIII)Z")] 4

def k1m0 : Method := { name := "<init>", desc := "()V", sig := { parameters := [], returnType := none }, accessFlags := 1, code := none }
def k1c1 : Code := { maxStack := 4, maxLocals := 4, code := method_2_code, exceptionTable := #[], attributes := #[] }
def k1m1 : Method := { name := "draw", desc := "(II)I", sig := { parameters := [.int, .int], returnType := some .int }, accessFlags := 10, code := some k1c1 }
def k1c2 : Code := { maxStack := 4, maxLocals := 9, code := code, exceptionTable := #[], attributes := #[] }
def k1m2 : Method := { name := "law", desc := "(IIII)Z", sig := { parameters := [.int, .int, .int, .int], returnType := some .boolean }, accessFlags := 9, code := some k1c2 }
/-- com/example/penstock/penstock/DesignSizeIndexPinLaw -/
def k1 : Class := { plain "com/example/penstock/penstock/DesignSizeIndexPinLaw" (some 0) with
  accessFlags := 49
  interfaces := #[]
  cf := some (fileOf pool1 12 #[] #[{ accessFlags := 1, nameIndex := 5, descriptorIndex := 6, attributes := #[] }, { accessFlags := 10, nameIndex := 15, descriptorIndex := 16, attributes := #[] }, { accessFlags := 9, nameIndex := 29, descriptorIndex := 30, attributes := #[] }] 49 2 #[] #[])
  fields := #[]
  methods := #[k1m0, k1m1, k1m2]
  instanceTypes := #[]
  staticTypes := #[]
  resolved := Array.replicate 35 none
  statics := none }

def pool2 : Array CpInfo := pool [(1, .methodref 2 3), (0, .class_ 4), (0, .nameAndType 5 6), (0, u "java/lang/Object"), (0, u "<init>"), (0, u "()V"), (0, .class_ 8), (0, u "com/example/penstock/penstock/Design"), (0, .fieldref 7 10), (0, .nameAndType 11 12), (0, u "byteIndices"), (0, u "[B"), (0, .fieldref 7 14), (0, .nameAndType 15 16), (0, u "intIndices"), (0, u "[I"), (0, .methodref 18 19), (0, .class_ 16), (0, .nameAndType 20 21), (0, u "clone"), (0, u "()Ljava/lang/Object;"), (0, .methodref 23 24), (0, .class_ 25), (0, .nameAndType 26 27), (0, u "java/util/Arrays"), (0, u "hashCode"), (0, u "([I)I"), (0, .fieldref 7 29), (0, .nameAndType 30 31), (0, u "hash"), (0, u "I"), (7, u "LARGEST_BYTE_INDEX"), (2, u "([I)V"), (3, u "sizeIndex"), (0, u "(I)I")] 6

def k2c0 : Code := { maxStack := 4, maxLocals := 7, code := prog_9_method_1_code, exceptionTable := #[], attributes := #[] }
def k2m0 : Method := { name := "<init>", desc := "([I)V", sig := { parameters := [(.array .int)], returnType := none }, accessFlags := 0, code := some k2c0 }
def k2c1 : Code := { maxStack := 2, maxLocals := 2, code := prog_9_method_2_code, exceptionTable := #[], attributes := #[] }
def k2m1 : Method := { name := "sizeIndex", desc := "(I)I", sig := { parameters := [.int], returnType := some .int }, accessFlags := 0, code := some k2c1 }
/-- com/example/penstock/penstock/Design -/
def k2 : Class := { plain "com/example/penstock/penstock/Design" (some 0) with
  accessFlags := 48
  interfaces := #[]
  cf := some (fileOf pool2 7 #[] #[{ accessFlags := 0, nameIndex := 5, descriptorIndex := 42, attributes := #[] }, { accessFlags := 0, nameIndex := 46, descriptorIndex := 47, attributes := #[] }] 48 2 #[] #[{ accessFlags := 26, nameIndex := 39, descriptorIndex := 31, attributes := #[] }, { accessFlags := 18, nameIndex := 11, descriptorIndex := 12, attributes := #[] }, { accessFlags := 18, nameIndex := 15, descriptorIndex := 16, attributes := #[] }, { accessFlags := 18, nameIndex := 30, descriptorIndex := 31, attributes := #[] }])
  fields := #[{ name := "LARGEST_BYTE_INDEX", type := .int, accessFlags := 26, slot := 0, constantValue := 0 }, { name := "byteIndices", type := (.array .byte), accessFlags := 18, slot := 0, constantValue := 0 }, { name := "intIndices", type := (.array .int), accessFlags := 18, slot := 1, constantValue := 0 }, { name := "hash", type := .int, accessFlags := 18, slot := 2, constantValue := 0 }]
  methods := #[k2m0, k2m1]
  instanceTypes := #[(.array .byte), (.array .int), .int]
  staticTypes := #[.int]
  resolved := Array.replicate 54 none
  statics := none }

def pool3 : Array CpInfo := pool [(2, .class_ 4), (1, u "java/lang/Object"), (0, u "<init>"), (0, u "()V"), (7, .class_ 16), (1, u "java/util/Arrays"), (57, .class_ 76), (1, u "java/util/Arrays$NaturalOrder"), (36, .class_ 115), (1, u "java/util/Arrays$LegacyMergeSort"), (1, u "Z"), (128, .class_ 248), (1, u "jdk/internal/util/ArraysSupport"), (126, .class_ 376), (0, u "java/util/Arrays$ArrayList"), (2, .methodref 246 380), (0, .nameAndType 381 382), (0, u "vectorizedHashCode"), (0, u "(Ljava/lang/Object;IIII)I"), (2, u "hashCode"), (22, u "([I)I"), (36, u "$assertionsDisabled"), (269, u "MIN_ARRAY_SORT_GRAN"), (0, u "I"), (2, u "INSERTIONSORT_THRESHOLD"), (255, .class_ 976), (0, u "java/util/Arrays$ArrayItr")] 52

def k3m0 : Method := { name := "<init>", desc := "()V", sig := { parameters := [], returnType := none }, accessFlags := 2, code := none }
def k3c1 : Code := { maxStack := 5, maxLocals := 1, code := jdk_65_method_150_code, exceptionTable := #[], attributes := #[] }
def k3m1 : Method := { name := "hashCode", desc := "([I)I", sig := { parameters := [(.array .int)], returnType := some .int }, accessFlags := 9, code := some k3c1 }
/-- java/util/Arrays -/
def k3 : Class := { plain "java/util/Arrays" (some 0) with
  accessFlags := 49
  interfaces := #[]
  cf := some (fileOf pool3 14 #[.nestMembers #[975, 375, 113, 74]] #[{ accessFlags := 2, nameIndex := 5, descriptorIndex := 6, attributes := #[] }, { accessFlags := 9, nameIndex := 385, descriptorIndex := 408, attributes := #[] }] 49 2 #[] #[{ accessFlags := 26, nameIndex := 715, descriptorIndex := 716, attributes := #[] }, { accessFlags := 26, nameIndex := 719, descriptorIndex := 716, attributes := #[] }, { accessFlags := 4120, nameIndex := 445, descriptorIndex := 117, attributes := #[] }])
  fields := #[{ name := "MIN_ARRAY_SORT_GRAN", type := .int, accessFlags := 26, slot := 0, constantValue := 0 }, { name := "INSERTIONSORT_THRESHOLD", type := .int, accessFlags := 26, slot := 1, constantValue := 0 }, { name := "$assertionsDisabled", type := .boolean, accessFlags := 4120, slot := 2, constantValue := 0 }]
  methods := #[k3m0, k3m1]
  instanceTypes := #[]
  staticTypes := #[.int, .int, .boolean]
  resolved := Array.replicate 1029 none
  statics := none }

def pool4 : Array CpInfo := pool [(9, u "<init>"), (6, .class_ 18), (1, u "java/lang/Object"), (0, u "()V"), (1, .class_ 23), (1, u "jdk/internal/util/ArraysSupport"), (0, u "LOG2_ARRAY_LONG_INDEX_SCALE"), (0, u "I"), (2, u "U"), (0, u "Ljdk/internal/misc/Unsafe;"), (8, u "BIG_ENDIAN"), (0, u "Z"), (8, u "LOG2_BYTE_BIT_SIZE"), (4, u "LOG2_ARRAY_INT_INDEX_SCALE"), (19, u "hashCode"), (8, .class_ 83), (0, u "[I"), (0, .methodref 21 85), (0, .nameAndType 73 86), (0, u "(I[III)I"), (21, u "JLA"), (0, u "Ljdk/internal/access/JavaLangAccess;"), (11, u "LOG2_ARRAY_BOOLEAN_INDEX_SCALE"), (9, u "LOG2_ARRAY_BYTE_INDEX_SCALE"), (5, u "LOG2_ARRAY_CHAR_INDEX_SCALE"), (5, u "LOG2_ARRAY_SHORT_INDEX_SCALE"), (18, u "LOG2_ARRAY_FLOAT_INDEX_SCALE"), (24, u "LOG2_ARRAY_DOUBLE_INDEX_SCALE"), (89, u "T_BOOLEAN"), (2, u "T_CHAR"), (1, u "T_FLOAT"), (1, u "T_DOUBLE"), (1, u "T_BYTE"), (1, u "T_SHORT"), (1, u "T_INT"), (1, u "T_LONG"), (1, u "SOFT_MAX_ARRAY_LENGTH"), (26, u "vectorizedHashCode"), (0, u "(Ljava/lang/Object;IIII)I")] 55

def k4m0 : Method := { name := "<init>", desc := "()V", sig := { parameters := [], returnType := none }, accessFlags := 2, code := none }
def k4c1 : Code := { maxStack := 4, maxLocals := 5, code := jdk_48_method_4_code, exceptionTable := #[], attributes := #[] }
def k4m1 : Method := { name := "vectorizedHashCode", desc := "(Ljava/lang/Object;IIII)I", sig := { parameters := [(.object "java/lang/Object"), .int, .int, .int, .int], returnType := some .int }, accessFlags := 9, code := some k4c1 }
def k4c2 : Code := { maxStack := 3, maxLocals := 6, code := jdk_48_method_9_code, exceptionTable := #[], attributes := #[] }
def k4m2 : Method := { name := "hashCode", desc := "(I[III)I", sig := { parameters := [.int, (.array .int), .int, .int], returnType := some .int }, accessFlags := 10, code := some k4c2 }
/-- jdk/internal/util/ArraysSupport -/
def k4 : Class := { plain "jdk/internal/util/ArraysSupport" (some 0) with
  accessFlags := 33
  interfaces := #[]
  cf := some (fileOf pool4 21 #[] #[{ accessFlags := 2, nameIndex := 9, descriptorIndex := 19, attributes := #[] }, { accessFlags := 9, nameIndex := 321, descriptorIndex := 322, attributes := #[] }, { accessFlags := 10, nameIndex := 73, descriptorIndex := 86, attributes := #[] }] 33 16 #[] #[{ accessFlags := 24, nameIndex := 28, descriptorIndex := 29, attributes := #[] }, { accessFlags := 26, nameIndex := 38, descriptorIndex := 39, attributes := #[] }, { accessFlags := 25, nameIndex := 121, descriptorIndex := 25, attributes := #[] }, { accessFlags := 25, nameIndex := 131, descriptorIndex := 25, attributes := #[] }, { accessFlags := 25, nameIndex := 137, descriptorIndex := 25, attributes := #[] }, { accessFlags := 25, nameIndex := 143, descriptorIndex := 25, attributes := #[] }, { accessFlags := 25, nameIndex := 53, descriptorIndex := 25, attributes := #[] }, { accessFlags := 25, nameIndex := 24, descriptorIndex := 25, attributes := #[] }, { accessFlags := 25, nameIndex := 162, descriptorIndex := 25, attributes := #[] }, { accessFlags := 25, nameIndex := 187, descriptorIndex := 25, attributes := #[] }, { accessFlags := 26, nameIndex := 48, descriptorIndex := 25, attributes := #[] }, { accessFlags := 25, nameIndex := 277, descriptorIndex := 25, attributes := #[] }, { accessFlags := 25, nameIndex := 280, descriptorIndex := 25, attributes := #[] }, { accessFlags := 25, nameIndex := 282, descriptorIndex := 25, attributes := #[] }, { accessFlags := 25, nameIndex := 284, descriptorIndex := 25, attributes := #[] }, { accessFlags := 25, nameIndex := 286, descriptorIndex := 25, attributes := #[] }, { accessFlags := 25, nameIndex := 288, descriptorIndex := 25, attributes := #[] }, { accessFlags := 25, nameIndex := 290, descriptorIndex := 25, attributes := #[] }, { accessFlags := 25, nameIndex := 292, descriptorIndex := 25, attributes := #[] }, { accessFlags := 26, nameIndex := 108, descriptorIndex := 109, attributes := #[] }, { accessFlags := 25, nameIndex := 294, descriptorIndex := 25, attributes := #[] }])
  fields := #[{ name := "U", type := (.object "jdk/internal/misc/Unsafe"), accessFlags := 24, slot := 0, constantValue := 0 }, { name := "BIG_ENDIAN", type := .boolean, accessFlags := 26, slot := 1, constantValue := 0 }, { name := "LOG2_ARRAY_BOOLEAN_INDEX_SCALE", type := .int, accessFlags := 25, slot := 2, constantValue := 0 }, { name := "LOG2_ARRAY_BYTE_INDEX_SCALE", type := .int, accessFlags := 25, slot := 3, constantValue := 0 }, { name := "LOG2_ARRAY_CHAR_INDEX_SCALE", type := .int, accessFlags := 25, slot := 4, constantValue := 0 }, { name := "LOG2_ARRAY_SHORT_INDEX_SCALE", type := .int, accessFlags := 25, slot := 5, constantValue := 0 }, { name := "LOG2_ARRAY_INT_INDEX_SCALE", type := .int, accessFlags := 25, slot := 6, constantValue := 0 }, { name := "LOG2_ARRAY_LONG_INDEX_SCALE", type := .int, accessFlags := 25, slot := 7, constantValue := 0 }, { name := "LOG2_ARRAY_FLOAT_INDEX_SCALE", type := .int, accessFlags := 25, slot := 8, constantValue := 0 }, { name := "LOG2_ARRAY_DOUBLE_INDEX_SCALE", type := .int, accessFlags := 25, slot := 9, constantValue := 0 }, { name := "LOG2_BYTE_BIT_SIZE", type := .int, accessFlags := 26, slot := 10, constantValue := 0 }, { name := "T_BOOLEAN", type := .int, accessFlags := 25, slot := 11, constantValue := 0 }, { name := "T_CHAR", type := .int, accessFlags := 25, slot := 12, constantValue := 0 }, { name := "T_FLOAT", type := .int, accessFlags := 25, slot := 13, constantValue := 0 }, { name := "T_DOUBLE", type := .int, accessFlags := 25, slot := 14, constantValue := 0 }, { name := "T_BYTE", type := .int, accessFlags := 25, slot := 15, constantValue := 0 }, { name := "T_SHORT", type := .int, accessFlags := 25, slot := 16, constantValue := 0 }, { name := "T_INT", type := .int, accessFlags := 25, slot := 17, constantValue := 0 }, { name := "T_LONG", type := .int, accessFlags := 25, slot := 18, constantValue := 0 }, { name := "JLA", type := (.object "jdk/internal/access/JavaLangAccess"), accessFlags := 26, slot := 19, constantValue := 0 }, { name := "SOFT_MAX_ARRAY_LENGTH", type := .int, accessFlags := 25, slot := 20, constantValue := 0 }]
  methods := #[k4m0, k4m1, k4m2]
  instanceTypes := #[]
  staticTypes := #[(.object "jdk/internal/misc/Unsafe"), .boolean, .int, .int, .int, .int, .int, .int, .int, .int, .int, .int, .int, .int, .int, .int, .int, .int, .int, (.object "jdk/internal/access/JavaLangAccess"), .int]
  resolved := Array.replicate 378 none
  statics := none }

def pool5 : Array CpInfo := pool [(1, .class_ 2), (0, u "java/lang/Cloneable"), (0, .class_ 4), (0, u "java/lang/Object")] 2

/-- java/lang/Cloneable -/
def k5 : Class := { plain "java/lang/Cloneable" (some 0) with
  accessFlags := 1537
  interfaces := #[]
  cf := some (fileOf pool5 1 #[] #[] 1537 3 #[] #[])
  fields := #[]
  methods := #[]
  instanceTypes := #[]
  staticTypes := #[]
  resolved := Array.replicate 7 none
  statics := none }

def pool6 : Array CpInfo := pool [(1, u "java/io/Serializable"), (0, .class_ 1), (0, u "java/lang/Object"), (0, .class_ 3)] 3

/-- java/io/Serializable -/
def k6 : Class := { plain "java/io/Serializable" (some 0) with
  accessFlags := 1537
  interfaces := #[]
  cf := some (fileOf pool6 2 #[] #[] 1537 4 #[] #[])
  fields := #[]
  methods := #[]
  instanceTypes := #[]
  staticTypes := #[]
  resolved := Array.replicate 8 none
  statics := none }

/-- the primitive byte -/
def k7 : Class := { plain "byte" none with kind := .primitive 'B', accessFlags := 0x411 }
/-- [B -/
def k8 : Class := { plain "[B" (some 0) with kind := .array 7 .byte, interfaces := #[5, 6], accessFlags := 1041 }

/-- the primitive int -/
def k9 : Class := { plain "int" none with kind := .primitive 'I', accessFlags := 0x411 }
/-- [I -/
def k10 : Class := { plain "[I" (some 0) with kind := .array 9 .int, interfaces := #[5, 6], accessFlags := 1041 }

def heap : Heap := #[]
def classes : Array Class := #[k0, k1, k2, k3, k4, k5, k6, k7, k8, k9, k10]
def interned : List (Array UInt16 × Addr) := []
def slotsUsed : Nat := 0
def theMethod : MethodId := ⟨1, 2⟩
def args0 : Array Value := #[.int 5, .int 6, .int 7, .int 0]
def aboutOver (below : List Frame) : State where
  vm := { classes := classes, interned := interned.toArray }
  heap := heap
  slotsUsed := slotsUsed
  threads := #[{ frames := .invoking theMethod args0 :: below }]
def below0 : List Frame := [.native { method := ⟨0, 0⟩, args := #[] }]
def about1 : State := aboutOver below0
def p0 : Program := .bare "" "" ""
def e0 : Env := launch0.env 0 0 0
theorem w_frames : about1.frames = Frame.invoking theMethod args0 :: below0 := rfl
set_option maxRecDepth 65536 in
theorem w_args : argsFit about1.vm theMethod args0 = true := by decide +kernel
set_option maxRecDepth 65536 in
theorem w_heap : heapFits about1 = true := by decide +kernel
set_option maxRecDepth 65536 in
theorem w_runnable : about1.curStatus? = some .runnable := by decide +kernel
set_option maxRecDepth 65536 in
theorem w_alone : about1.alone = true := by decide +kernel
set_option maxRecDepth 65536 in
theorem w_named : about1.methodNamed? x = some theMethod := by decide +kernel
set_option maxRecDepth 65536 in
theorem w_hears : about1.hears theMethod below0 = true := by decide +kernel
set_option maxRecDepth 65536 in
theorem w_ripe : about1.ripe theMethod args0 below0 = true := by decide +kernel
theorem w_running : about1.status = .running := rfl
set_option maxRecDepth 65536 in
theorem w_room : about1.hasRoom e0.platform room_1 = true :=
  launch0.hasRoom_least _ room_1 (by decide +kernel) (by decide +kernel) (by decide +kernel) (by decide +kernel) (by decide +kernel) (by decide +kernel)
theorem allAtoms_all (ts : List Jvm.Cond) (a : Array Jvm.Value) (st : Jvm.State) : (allAtoms ts).before a st = ts.all (fun c => c.before a st) := by
  induction ts with
  | nil => rfl
  | cons c t ih =>
    show (Jvm.Cond.and c (allAtoms t)).before a st = _
    rw [Jvm.Cond.before_and, ih, List.all_cons]
def words1 : List Jvm.Cond := Jvm.Cond.code x code maxLocals ret :: tables_1
/-- a 'code' word, met by the world's own term for the bytes: nothing is compared byte by byte -/
theorem code_word {y : MethodName} {bytes : ByteArray} {mx : Nat} {rt : Option FieldType} {a : Array Value} {s : State} {m : MethodId} {meth : Method} {c : Code} (h1 : s.methodNamed? y = some m) (h2 : s.vm.method? m = some meth) (h3 : meth.code = some c) (h4 : c.code = bytes)
    (h5 : (c.maxLocals == mx && c.exceptionTable.isEmpty && decide (c.maxStack ≤ mostOperands) && decide (meth.sig.returnType = rt) && !meth.locks && decide (parseMethodDescriptor y.desc = some meth.sig)) = true) : (Jvm.Cond.code y bytes mx rt).before a s = true := by
  simp only [Bool.and_eq_true, beq_iff_eq, Bool.not_eq_true', decide_eq_true_eq] at h5
  obtain ⟨⟨⟨⟨⟨g1, g2⟩, g3⟩, g4⟩, g5⟩, g6⟩ := h5
  simp [Cond.before, Cond.holds, Cond.value, h1, h2, h3, h4, g1, g2, g3, g4, g5, g6]
def isCode : Jvm.Cond → Bool
  | .code _ _ _ _ => true
  | _ => false
theorem all_split {L : List Jvm.Cond} {P : Jvm.Cond → Bool} (h1 : L.all (fun c => isCode c || P c) = true) (h2 : ∀ c ∈ L.filter isCode, P c = true) : L.all P = true := by
  refine List.all_eq_true.mpr fun c hc => ?_
  have h := List.all_eq_true.mp h1 c hc
  rcases Bool.eq_false_or_eq_true (isCode c) with hi | hi
  · exact h2 c (List.mem_filter.mpr ⟨hc, hi⟩)
  · simpa [hi] using h
set_option maxRecDepth 65536 in
theorem w_c0 : (Jvm.Cond.code x code maxLocals ret).before args0 about1 = true := code_word (m := ⟨1, 2⟩) (meth := k1m2) (c := k1c2) (by decide +kernel) rfl rfl rfl (by decide +kernel)
set_option maxRecDepth 65536 in
theorem w_c1 : (Jvm.Cond.code ({ cls := "com/example/penstock/penstock/DesignSizeIndexPinLaw", name := "draw", desc := "(II)I" } : Jvm.MethodName) method_2_code (4 : Nat) (Option.some Jvm.ClassFile.FieldType.int)).before args0 about1 = true := code_word (m := ⟨1, 1⟩) (meth := k1m1) (c := k1c1) (by decide +kernel) rfl rfl rfl (by decide +kernel)
set_option maxRecDepth 65536 in
theorem w_c2 : (Jvm.Cond.code ({ cls := "com/example/penstock/penstock/Design", name := "<init>", desc := "([I)V" } : Jvm.MethodName) prog_9_method_1_code (7 : Nat) (Option.none : Option Jvm.ClassFile.FieldType)).before args0 about1 = true := code_word (m := ⟨2, 0⟩) (meth := k2m0) (c := k2c0) (by decide +kernel) rfl rfl rfl (by decide +kernel)
set_option maxRecDepth 65536 in
theorem w_c3 : (Jvm.Cond.code ({ cls := "java/lang/Object", name := "<init>", desc := "()V" } : Jvm.MethodName) object_method_1_code (1 : Nat) (Option.none : Option Jvm.ClassFile.FieldType)).before args0 about1 = true := code_word (m := ⟨0, 0⟩) (meth := k0m0) (c := k0c0) (by decide +kernel) rfl rfl rfl (by decide +kernel)
set_option maxRecDepth 65536 in
theorem w_c4 : (Jvm.Cond.code ({ cls := "java/util/Arrays", name := "hashCode", desc := "([I)I" } : Jvm.MethodName) jdk_65_method_150_code (1 : Nat) (Option.some Jvm.ClassFile.FieldType.int)).before args0 about1 = true := code_word (m := ⟨3, 1⟩) (meth := k3m1) (c := k3c1) (by decide +kernel) rfl rfl rfl (by decide +kernel)
set_option maxRecDepth 65536 in
theorem w_c5 : (Jvm.Cond.code ({ cls := "jdk/internal/util/ArraysSupport", name := "vectorizedHashCode", desc := "(Ljava/lang/Object;IIII)I" } : Jvm.MethodName) jdk_48_method_4_code (5 : Nat) (Option.some Jvm.ClassFile.FieldType.int)).before args0 about1 = true := code_word (m := ⟨4, 1⟩) (meth := k4m1) (c := k4c1) (by decide +kernel) rfl rfl rfl (by decide +kernel)
set_option maxRecDepth 65536 in
theorem w_c6 : (Jvm.Cond.code ({ cls := "jdk/internal/util/ArraysSupport", name := "hashCode", desc := "(I[III)I" } : Jvm.MethodName) jdk_48_method_9_code (6 : Nat) (Option.some Jvm.ClassFile.FieldType.int)).before args0 about1 = true := code_word (m := ⟨4, 2⟩) (meth := k4m2) (c := k4c2) (by decide +kernel) rfl rfl rfl (by decide +kernel)
set_option maxRecDepth 65536 in
theorem w_c7 : (Jvm.Cond.code ({ cls := "com/example/penstock/penstock/Design", name := "sizeIndex", desc := "(I)I" } : Jvm.MethodName) prog_9_method_2_code (2 : Nat) (Option.some Jvm.ClassFile.FieldType.int)).before args0 about1 = true := code_word (m := ⟨2, 1⟩) (meth := k2m1) (c := k2c1) (by decide +kernel) rfl rfl rfl (by decide +kernel)
def codes1 : List Jvm.Cond := [Jvm.Cond.code x code maxLocals ret, Jvm.Cond.code ({ cls := "com/example/penstock/penstock/DesignSizeIndexPinLaw", name := "draw", desc := "(II)I" } : Jvm.MethodName) method_2_code (4 : Nat) (Option.some Jvm.ClassFile.FieldType.int), Jvm.Cond.code ({ cls := "com/example/penstock/penstock/Design", name := "<init>", desc := "([I)V" } : Jvm.MethodName) prog_9_method_1_code (7 : Nat) (Option.none : Option Jvm.ClassFile.FieldType), Jvm.Cond.code ({ cls := "java/lang/Object", name := "<init>", desc := "()V" } : Jvm.MethodName) object_method_1_code (1 : Nat) (Option.none : Option Jvm.ClassFile.FieldType), Jvm.Cond.code ({ cls := "java/util/Arrays", name := "hashCode", desc := "([I)I" } : Jvm.MethodName) jdk_65_method_150_code (1 : Nat) (Option.some Jvm.ClassFile.FieldType.int), Jvm.Cond.code ({ cls := "jdk/internal/util/ArraysSupport", name := "vectorizedHashCode", desc := "(Ljava/lang/Object;IIII)I" } : Jvm.MethodName) jdk_48_method_4_code (5 : Nat) (Option.some Jvm.ClassFile.FieldType.int), Jvm.Cond.code ({ cls := "jdk/internal/util/ArraysSupport", name := "hashCode", desc := "(I[III)I" } : Jvm.MethodName) jdk_48_method_9_code (6 : Nat) (Option.some Jvm.ClassFile.FieldType.int), Jvm.Cond.code ({ cls := "com/example/penstock/penstock/Design", name := "sizeIndex", desc := "(I)I" } : Jvm.MethodName) prog_9_method_2_code (2 : Nat) (Option.some Jvm.ClassFile.FieldType.int)]
set_option maxRecDepth 65536 in
theorem codes_eq : words1.filter isCode = codes1 := rfl
theorem w_codes : ∀ c ∈ words1.filter isCode, c.before args0 about1 = true := by
  rw [codes_eq]
  intro c hc
  simp only [codes1, List.mem_cons, List.not_mem_nil, or_false] at hc
  rcases hc with rfl | rfl | rfl | rfl | rfl | rfl | rfl | rfl
  · exact w_c0
  · exact w_c1
  · exact w_c2
  · exact w_c3
  · exact w_c4
  · exact w_c5
  · exact w_c6
  · exact w_c7
set_option maxRecDepth 65536 in
theorem w_t1 : (words1.take 24).all (fun c => isCode c || c.before args0 about1) = true := by decide +kernel
set_option maxRecDepth 65536 in
theorem w_t2 : ((words1.drop 24).take 24).all (fun c => isCode c || c.before args0 about1) = true := by decide +kernel
set_option maxRecDepth 65536 in
theorem w_t3 : ((words1.drop 24).drop 24).all (fun c => isCode c || c.before args0 about1) = true := by decide +kernel
theorem w_tables : (allAtoms (Jvm.Cond.code x code maxLocals ret :: tables_1)).before args0 about1 = true := by
  rw [allAtoms_all]
  show words1.all (fun c => c.before args0 about1) = true
  refine all_split ?_ w_codes
  rw [← List.take_append_drop 24 words1, List.all_append, w_t1, ← List.take_append_drop 24 (words1.drop 24), List.all_append, w_t2, w_t3]
  rfl
set_option maxRecDepth 65536 in
theorem w_case : (Jvm.Cond.and given_1 narrow_1).before args0 about1 = true := by decide +kernel
theorem w_applies : (headSpec (Jvm.Cond.code x code maxLocals ret :: tables_1) room_1).applies x e0.platform about1 = true :=
  (Spec.applies_iff w_frames).mpr ⟨w_running, w_runnable, w_alone, w_named, w_hears, w_ripe, w_room, w_tables⟩
theorem atStart : AtStart classFile x code maxLocals ret World_1 tables_1 room_1 Calls_1 rest_1 Pre_1 launch0 p0 e0 about1 theMethod args0 below0 :=
  ⟨lists_1, trivial, launch0.admits_env _ _ _, launch0.least_env, fairChoices_fair.cas, fairChoices_fair.clock, w_frames, w_args, w_heap, w_applies, trivial, trivial, w_case⟩
end start1
theorem witness_1 : WitnessClaimed_1 := ⟨start1.p0, start1.e0, start1.about1, start1.theMethod, start1.args0, start1.below0, start1.atStart⟩
end Jvm.Pilot.@@N@@
