import JvmDerived
import JvmDerived.Pilot.@@N@@Statement
import JvmDerived.Pilot.@@N@@Code
set_option linter.unusedVariables false
set_option linter.unusedSimpArgs false
namespace Jvm.Pilot.@@N@@
open Jvm Jvm.ClassFile Sem Op Lib Jvm.Free Jvm.Stand Jvm.LawKit Jvm.RoadKit Bundle Jvm.Pilot.@@N@@.Jvm.D
section OwnKit
variable {p : Program} {l : Launch} {e : Env} {R : Room} {s : State} {m : MethodId} {args : Array Value} {below : List Frame} {meth : Method} {c : Code} {T : State} {locs : List Loc} {cells slots : Nat} {Z : State} {h h' : Heap} {a b : Addr} {ty : FieldType} {n : Nat} {f f' : Nat → Value} {sl : Nat} {v : Value} {ws : List Addr}
theorem own_dia {t : State} {B F : JFrame} (hh : Steps p.tables e below (T.setTop F) t → Steps p.tables e below (T.setTop B) t) (k : Steps p.tables e below (T.setTop F) t) : Steps p.tables e below (T.setTop B) t := hh k
/-- the place j lies in an array of n places -/
abbrev own_in (j : Int32) (n : Nat) : Prop := 0 ≤ j.toInt ∧ j.toInt < n
theorem own_in_nat {j : Int32} (hj : own_in j n) : j.toNatClampNeg < n := by simp only [Int32.toNatClampNeg]; omega
theorem own_in_arr {cl : Cell} {j : Int32} (hs : cl.slots.size = n) (hj : own_in j n) : ¬ (j < 0 ∨ cl.slots.size ≤ j.toNatClampNeg) := by
  have := own_in_nat hj
  have k0 : (0 : Int32).toInt = 0 := by decide
  rw [Int32.lt_iff_toInt_lt, hs, k0]; omega
/-- an array: its kind, its length, and what each place holds -/
def AF (Z : State) (h : Heap) (a : Addr) (ty : FieldType) (n : Nat) (f : Nat → Value) : Prop := ∃ c : Cell, Arr Z h a c ty ∧ c.slots.size = n ∧ n < 2147483648 ∧ ∀ j, j < n → c.slots[j]? = some (f j)
theorem AF.lt (F : AF Z h a ty n f) : a < h.size := by obtain ⟨c, A, -⟩ := F; exact A.lt
theorem AF.small (F : AF Z h a ty n f) : n < 2147483648 := by obtain ⟨c, -, -, q, -⟩ := F; exact q
theorem AF.ext (F : AF Z h a ty n f) (E : Ext h h') : AF Z h' a ty n f := by obtain ⟨c, A, r⟩ := F; exact ⟨c, A.ext E, r⟩
theorem AF.other (F : AF Z h b ty n f) (W : Wr h h' a sl v) (q : b ≠ a) : AF Z h' b ty n f := by obtain ⟨c, A, r⟩ := F; exact ⟨c, A.other W q, r⟩
theorem AF.keep (F : AF Z h a ty n f) (K : Keep h h' ws) (q : a ∉ ws) : AF Z h' a ty n f := by obtain ⟨c, A, r⟩ := F; exact ⟨c, ⟨K.2.1 a c A.1 q, A.2⟩, r⟩
theorem AF.cong (F : AF Z h a ty n f) (q : ∀ j, j < n → f j = f' j) : AF Z h a ty n f' := by obtain ⟨c, A, r1, r2, r3⟩ := F; exact ⟨c, A, r1, r2, fun j hj => by rw [← q j hj]; exact r3 j hj⟩
theorem AF.new {k : ClassId} {z : Int32} (A : Arr Z h a (newA k ty z) ty) (q : ¬ z < 0) : AF Z h a ty z.toNatClampNeg (fun _ => defaultValue ty) := ⟨_, A, sz_new _ _ _, (back32 q).2, fun j hj => by simp [newA, hj]⟩
theorem AF.set (F : AF Z h a ty n f) {k : Nat} (W : Wr h h' a k v) : AF Z h' a ty n (fun i => if i = k then v else f i) := by
  obtain ⟨c, A, r1, r2, r3⟩ := F
  refine ⟨_, Arr.same W A, by rw [sz_set]; exact r1, r2, fun j hj => ?_⟩
  obtain ⟨cell, h1, -, h3, -⟩ := W
  cases h1.symm.trans A.1
  by_cases q : j = k
  · subst q; simp [Cell.setSlot, h3]
  · have q' : ¬ k = j := fun z => q z.symm
    simp only [Cell.setSlot, Array.getElem?_setIfInBounds, if_neg q, if_neg q']; exact r3 j hj
theorem own_updI {g fN : Nat → Int32} {x : Int32} {J k : Nat} (hk : k = J) (hf : fN = fun i => if i = J then x else g i) : ∀ j, j < n → (if j = k then Value.int x else Value.int (g j)) = Value.int (fN j) := by
  subst hk hf; intro j _; by_cases q : j = k <;> simp [q]
theorem own_updJ {g fN : Nat → Int64} {x : Int64} {J k : Nat} (hk : k = J) (hf : fN = fun i => if i = J then x else g i) : ∀ j, j < n → (if j = k then Value.long x else Value.long (g j)) = Value.long (fN j) := by
  subst hk hf; intro j _; by_cases q : j = k <;> simp [q]
theorem AF.ldI (X : Stand p l e R s m args below meth c T locs cells slots) (hx : p.tables.exec = Jvm.exec) (hZ : Z.Warmed39 s.vm) (eT : T.heap = h) {f : Nat → Int32} (A : AF Z h a .int n (fun j => .int (f j))) {j : Int32} (hj : own_in j n) {g : JFrame} (hg : g.method = m) {rest : List Value} (hs : g.stack = .int j :: .ref a :: rest) (hd : decode c.code g.pc = .ok (.iaload, 1)) (target : State)
    (k : Steps p.tables e below (T.setTop { g with pc := g.pc + 1, stack := .int (f j.toNatClampNeg) :: rest }) target) : Steps p.tables e below (T.setTop g) target := by
  obtain ⟨cl, A, r1, r2, r3⟩ := A
  exact X.iaload hx (j := j) (v := .int (f j.toNatClampNeg)) (by rw [eT]; exact A.1) (State.isArrayOf_alike hZ.alike A.2.1) A.2.2 (own_in_arr r1 hj) (r3 _ (own_in_nat hj)) hg hs hd _ k
theorem AF.ldJ (X : Stand p l e R s m args below meth c T locs cells slots) (hx : p.tables.exec = Jvm.exec) (hZ : Z.Warmed39 s.vm) (eT : T.heap = h) {f : Nat → Int64} (A : AF Z h a .long n (fun j => .long (f j))) {j : Int32} (hj : own_in j n) {g : JFrame} (hg : g.method = m) {rest : List Value} (hs : g.stack = .int j :: .ref a :: rest) (hd : decode c.code g.pc = .ok (.laload, 1)) (target : State)
    (k : Steps p.tables e below (T.setTop { g with pc := g.pc + 1, stack := .long (f j.toNatClampNeg) :: rest }) target) : Steps p.tables e below (T.setTop g) target := by
  obtain ⟨cl, A, r1, r2, r3⟩ := A
  exact X.laload hx (j := j) (v := .long (f j.toNatClampNeg)) (by rw [eT]; exact A.1) (State.isArrayOf_alike hZ.alike A.2.1) A.2.2 (own_in_arr r1 hj) (r3 _ (own_in_nat hj)) hg hs hd _ k
theorem AF.ldB (X : Stand p l e R s m args below meth c T locs cells slots) (hx : p.tables.exec = Jvm.exec) (hZ : Z.Warmed39 s.vm) (eT : T.heap = h) {f : Nat → Int32} (A : AF Z h a .byte n (fun j => .int (f j))) {j : Int32} (hj : own_in j n) {g : JFrame} (hg : g.method = m) {rest : List Value} (hs : g.stack = .int j :: .ref a :: rest) (hd : decode c.code g.pc = .ok (.baload, 1)) (target : State)
    (k : Steps p.tables e below (T.setTop { g with pc := g.pc + 1, stack := .int (f j.toNatClampNeg) :: rest }) target) : Steps p.tables e below (T.setTop g) target := by
  obtain ⟨cl, A, r1, r2, r3⟩ := A
  exact X.baloadBytes hx (j := j) (v := .int (f j.toNatClampNeg)) (by rw [eT]; exact A.1) (State.isArrayOf_alike hZ.alike A.2.1) A.2.2 (own_in_arr r1 hj) (r3 _ (own_in_nat hj)) hg hs hd _ k
theorem AF.len (X : Stand p l e R s m args below meth c T locs cells slots) (hx : p.tables.exec = Jvm.exec) (hZ : Z.Warmed39 s.vm) (eT : T.heap = h) (A : AF Z h a ty n f) {g : JFrame} (hg : g.method = m) {rest : List Value} (hs : g.stack = .ref a :: rest) (hd : decode c.code g.pc = .ok (.arraylength, 1)) (target : State)
    (k : Steps p.tables e below (T.setTop { g with pc := g.pc + 1, stack := .int (Int32.ofNat n) :: rest }) target) : Steps p.tables e below (T.setTop g) target := by
  obtain ⟨cl, A, r1, r2, r3⟩ := A
  subst r1
  exact X.arraylength hx (by rw [eT]; exact A.1) (State.isArrayOf_alike hZ.alike A.2.1) hg hs hd _ k
theorem AF.stI (X : Stand p l e R s m args below meth c T locs cells slots) (hx : p.tables.exec = Jvm.exec) (hZ : Z.Warmed39 s.vm) (eT : T.heap = h) (A : AF Z h a .int n f) {j x : Int32} (hj : own_in j n) {g : JFrame} (hg : g.method = m) {rest : List Value} (hs : g.stack = .int x :: .int j :: .ref a :: rest) (hd : decode c.code g.pc = .ok (.iastore, 1)) :
    ∃ T' h', Stand p l e R s m args below meth c T' (locs ++ [⟨a, j.toNatClampNeg⟩]) cells slots ∧ T'.heap = h' ∧ Wr h h' a j.toNatClampNeg (.int x) ∧ AF Z h' a .int n (fun i => if i = j.toNatClampNeg then .int x else f i) ∧ ∀ target, Steps p.tables e below (T'.setTop { g with pc := g.pc + 1, stack := rest }) target → Steps p.tables e below (T.setTop g) target := by
  have A0 := A
  obtain ⟨cl, A, r1, r2, r3⟩ := A
  obtain ⟨T', h', X', e', W, st⟩ := Jvm.RoadKit.stI X hx hZ eT A (j := j) (own_in_arr r1 hj) hg hs hd
  exact ⟨T', h', X', e', W, A0.set W, st⟩
theorem AF.stJ (X : Stand p l e R s m args below meth c T locs cells slots) (hx : p.tables.exec = Jvm.exec) (hZ : Z.Warmed39 s.vm) (eT : T.heap = h) (A : AF Z h a .long n f) {j : Int32} {x : Int64} (hj : own_in j n) {g : JFrame} (hg : g.method = m) {rest : List Value} (hs : g.stack = .long x :: .int j :: .ref a :: rest) (hd : decode c.code g.pc = .ok (.lastore, 1)) :
    ∃ T' h', Stand p l e R s m args below meth c T' (locs ++ [⟨a, j.toNatClampNeg⟩]) cells slots ∧ T'.heap = h' ∧ Wr h h' a j.toNatClampNeg (.long x) ∧ AF Z h' a .long n (fun i => if i = j.toNatClampNeg then .long x else f i) ∧ ∀ target, Steps p.tables e below (T'.setTop { g with pc := g.pc + 1, stack := rest }) target → Steps p.tables e below (T.setTop g) target := by
  have A0 := A
  obtain ⟨cl, A, r1, r2, r3⟩ := A
  obtain ⟨T', h', X', e', W, st⟩ := Jvm.RoadKit.stJ X hx hZ eT A (j := j) (own_in_arr r1 hj) hg hs hd
  exact ⟨T', h', X', e', W, A0.set W, st⟩
theorem AF.stB (X : Stand p l e R s m args below meth c T locs cells slots) (hx : p.tables.exec = Jvm.exec) (hZ : Z.Warmed39 s.vm) (eT : T.heap = h) (A : AF Z h a .byte n f) {j x : Int32} (hj : own_in j n) {g : JFrame} (hg : g.method = m) {rest : List Value} (hs : g.stack = .int x :: .int j :: .ref a :: rest) (hd : decode c.code g.pc = .ok (.bastore, 1)) :
    ∃ T' h', Stand p l e R s m args below meth c T' (locs ++ [⟨a, j.toNatClampNeg⟩]) cells slots ∧ T'.heap = h' ∧ Wr h h' a j.toNatClampNeg (.int x.toInt8.toInt32) ∧ AF Z h' a .byte n (fun i => if i = j.toNatClampNeg then .int x.toInt8.toInt32 else f i) ∧ ∀ target, Steps p.tables e below (T'.setTop { g with pc := g.pc + 1, stack := rest }) target → Steps p.tables e below (T.setTop g) target := by
  have A0 := A
  obtain ⟨cl, A, r1, r2, r3⟩ := A
  obtain ⟨T', h', X', e', W, st⟩ := Jvm.RoadKit.stB X hx hZ eT A (j := j) (own_in_arr r1 hj) hg hs hd
  exact ⟨T', h', X', e', W, A0.set W, st⟩
theorem own_cpyI {f g fN : Nat → Int32} {k : Nat} (hf : fN = fun j => if j < k then f j else g j) : ∀ j, j < n → (if j < k then Value.int (f j) else Value.int (g j)) = Value.int (fN j) := by
  subst hf; intro j _; by_cases q : j < k <;> simp [q]
theorem own_cpyJ {f g fN : Nat → Int64} {k : Nat} (hf : fN = fun j => if j < k then f j else g j) : ∀ j, j < n → (if j < k then Value.long (f j) else Value.long (g j)) = Value.long (fN j) := by
  subst hf; intro j _; by_cases q : j < k <;> simp [q]
theorem own_acW {own : String} {index : Nat} (h1 : (Jvm.Cond.methodLink own index Jvm.Stand.acN).before args s = true) (h2 : (Jvm.Cond.native Jvm.Stand.acN).before args s = true) (h3 : (Jvm.Cond.static Jvm.Stand.acN).before args s = true) (h4 : (Jvm.Cond.initialized "java/lang/System").before args s = true) : ∀ w ∈ Jvm.Free.XT.acW own index, w.before args s = true := by
  intro w hw
  change w ∈ [Jvm.Cond.methodLink own index Jvm.Stand.acN, Jvm.Cond.native Jvm.Stand.acN, Jvm.Cond.static Jvm.Stand.acN, Jvm.Cond.initialized "java/lang/System"] at hw
  simp only [List.mem_cons, List.not_mem_nil, or_false] at hw
  rcases hw with rfl | rfl | rfl | rfl
  · exact h1
  · exact h2
  · exact h3
  · exact h4
theorem own_isArr {c c' : Cell} (q : Z.isArrayOf c ty) (h1 : c'.cls = c.cls) (h2 : c'.vm = c.vm) : Z.isArrayOf c' ty := by
  obtain ⟨q1, k, q2, q3⟩ := q
  exact ⟨by rw [h2]; exact q1, k, by rw [h1]; exact q2, q3⟩
theorem AF.copy (X : Stand p l e R s m args below meth c T locs cells slots) (hx : p.tables.exec = Jvm.exec) (hZ : Z.Warmed39 s.vm) {own : String} {index : Nat} (hown : s.vm.findClass own = some m.cls) (hw : ∀ w ∈ Jvm.Free.XT.acW own index, w.before args s = true)
    (eT : T.heap = h) {k : Nat} {f' : Nat → Value} (A : AF Z h a ty n f) (B : AF Z h b ty k f') (hp : ty.isReference = false) {cnt : Nat} (hfit : ∀ j, j < cnt → fits ty (f j) = true) (h1 : cnt ≤ n) (h2 : cnt ≤ k) {jn : Int32} (hn : jn = Int32.ofNat cnt)
    {g : JFrame} (hg : g.method = m) (hsize : g.locals.size = c.maxLocals) {rest : List Value} (hs : g.stack = .int jn :: .int 0 :: .ref b :: .int 0 :: .ref a :: rest) (hd : decode c.code g.pc = .ok (.invokestatic index, 3))
    {W : Nat} (hW : 2 * g.monitorRoom + (rest.map fun v => v.category).sum ≤ W) (hfr : 1 ≤ R.frames) (hlo : W + 40 ≤ R.locals) :
    ∃ (T' : State) (h' : Heap) (L' : List Loc), Stand p l e R s m args below meth c T' (locs ++ L') cells slots ∧ T'.heap = h' ∧ (∀ y ∈ L', y.base = b) ∧ Keep h h' [b] ∧ AF Z h' b ty k (fun j => if j < cnt then f j else f' j) ∧
      ∀ target, Steps p.tables e below (T'.setTop { g with pc := g.pc + 3, stack := rest }) target → Steps p.tables e below (T.setTop g) target := by
  obtain ⟨ca, A, a1, a2, a3⟩ := A
  obtain ⟨cb, B, b1, b2, b3⟩ := B
  have tA : Jvm.Free.XT.Arr ty a ca T := ⟨by rw [eT]; exact A.1, State.isArrayOf_alike X.warmed.alike (State.isArrayOf_alike hZ.alike A.2.1), A.2.2, by omega⟩
  have tB : Jvm.Free.XT.Arr ty b cb T := ⟨by rw [eT]; exact B.1, State.isArrayOf_alike X.warmed.alike (State.isArrayOf_alike hZ.alike B.2.1), B.2.2, by omega⟩
  have ga : ∀ j, j < n → ca.slots.getD j .null = f j := fun j hj => by
    have q := a3 j hj
    rw [Array.getD_eq_getD_getElem?, q]; rfl
  obtain ⟨T', B', X', P, q1, q2, q3, q4, st⟩ := X.acopy hx (o := 0) (q := 0) (n := cnt) (jo := 0) (jq := 0) hown hw tA tB (by simp) rfl rfl hn (by omega) (by omega)
    (fun i hi => ⟨by rw [Nat.zero_add, ga i (by omega)]; exact hfit i hi, fun z => by rw [hp] at z; cases z⟩) hg hsize hs hd hW hfr hlo
  refine ⟨T', _, _, X', rfl, fun y hy => ?_, ⟨by rw [P.2.2, eT]; exact Nat.le_refl _, fun x cx hx' hn' => ?_, fun x cx hx' => ?_⟩, ⟨B', ⟨P.1, own_isArr B.2.1 q1 q2, by rw [q2]; exact B.2.2⟩, q3.trans b1, b2, fun j hj => ?_⟩, st⟩
  · simp only [copyLocs, List.mem_map] at hy
    obtain ⟨i, -, rfl⟩ := hy
    rfl
  · rw [P.2.1 x (fun z => hn' (by simp [z])), eT]; exact hx'
  · by_cases z : x = b
    · subst z
      cases hx'.symm.trans B.1
      exact ⟨B', P.1, q1, q2, q3⟩
    · exact ⟨cx, by rw [P.2.1 x z, eT]; exact hx', rfl, rfl, rfl⟩
  · show _ = some (if j < cnt then f j else f' j)
    rw [q4 j]
    by_cases z : j < cnt
    · rw [if_pos (by omega), if_pos z]
      have : 0 + (j - 0) = j := by omega
      rw [this, ga j (by omega)]
    · rw [if_neg (by omega), if_neg z]; exact b3 j hj
theorem own_nb (x : Int32) : nar .boolean x = x &&& 1 := rfl
theorem own_nar1 : nar .boolean 1 = 1 := rfl
theorem own_nar0 : nar .boolean 0 = 0 := rfl
theorem own_nbyte (x : Int32) : nar .byte x = x.toInt8.toInt32 := rfl
theorem own_nar_ite (q : Prop) [Decidable q] (x y : Int32) : nar .boolean (if q then x else y) = if q then nar .boolean x else nar .boolean y := by split <;> rfl
theorem own_pos_ne {x : Int64} (q : 0 < x) : x ≠ 0 := fun z => by subst z; exact absurd q (by decide)
theorem own_cat {w : Value} (q : w.isRef = true) : w.category = 1 := by cases w <;> first | rfl | (simp [Value.isRef] at q)
theorem own_fits_ref {ty : FieldType} {w : Value} (q : w.isRef = true) (ht : ty.isReference = true := by rfl) : fits ty w = true := by
  cases w <;> cases ty <;> first | rfl | (exact absurd q (by decide)) | (exact absurd ht (by decide)) | (cases q) | (cases ht)
/-- a static field that holds v, in a heap that keeps all that was old at the start -/
def SO (Z : State) (n0 : Nat) (h : Heap) (C n d : String) (v : Value) : Prop := Sta Z Z.heap C n d v ∧ Old Z n0 h
theorem SO.ext {n0 : Nat} {C nm d : String} (F : SO Z n0 h C nm d v) (E : Ext h h') : SO Z n0 h' C nm d v := ⟨F.1, F.2.ext E⟩
theorem SO.wr {n0 : Nat} {C nm d : String} {w : Value} (F : SO Z n0 h C nm d v) (W : Wr h h' a sl w) (q : n0 ≤ a) : SO Z n0 h' C nm d v := ⟨F.1, F.2.wr W q⟩
theorem SO.keep {n0 : Nat} {C nm d : String} (F : SO Z n0 h C nm d v) (K : Keep h h' ws) (q : ∀ x ∈ ws, n0 ≤ x) : SO Z n0 h' C nm d v := ⟨F.1, F.2.keep K q⟩
theorem SO.sta {n0 : Nat} {C nm d : String} (F : SO Z n0 h C nm d v) : Sta Z h C nm d v := F.1.ext F.2.2
theorem own_selp {y : MethodName} {n : Nat} (wi : (Jvm.Cond.instantiable y.cls n).before args s = true) (hpriv : s.PrivateAt y) (hinst : (Jvm.Cond.instanceMethod y).before args s = true) (hy : y.cls ≠ "java/lang/invoke/MethodHandle" ∧ y.cls ≠ "java/lang/invoke/VarHandle") : (Jvm.Cond.selects y.cls y y).before args s = true := by
  obtain ⟨c, k, h1, h2, -, h4, -⟩ := Cond.instantiable_spec wi
  exact Jvm.Stand.selects_self_of_private h1 h2 (by simp only [Bool.or_eq_false_iff] at h4; exact h4.1) hpriv hinst hy
end OwnKit

theorem pn_0 : plainName "com/example/commitlog/commitlog/codec/JsonWriterResetPinLaw" = true := by first | (simp [plainName, overriddenIn]; done) | decide +kernel
theorem d1_0 : decode prog_9_method_1_code 0 = .ok (.aload_n 0, 1) := by decide +kernel
theorem d1_1 : decode prog_9_method_1_code 1 = .ok (.invokespecial 3, 3) := by decide +kernel
theorem d1_4 : decode prog_9_method_1_code 4 = .ok (.aload_n 0, 1) := by decide +kernel
theorem d1_5 : decode prog_9_method_1_code 5 = .ok (.iload_n 1, 1) := by decide +kernel
theorem d1_6 : decode prog_9_method_1_code 6 = .ok (.newarray .byte, 2) := by decide +kernel
theorem d1_8 : decode prog_9_method_1_code 8 = .ok (.putfield 9, 3) := by decide +kernel
theorem d1_11 : decode prog_9_method_1_code 11 = .ok (.return_, 1) := by decide +kernel
theorem pn_1 : plainName "com/example/commitlog/commitlog/codec/JsonWriter" = true := by first | (simp [plainName, overriddenIn]; done) | decide +kernel
theorem d3_0 : decode prog_9_method_13_code 0 = .ok (.aload_n 0, 1) := by decide +kernel
theorem d3_1 : decode prog_9_method_13_code 1 = .ok (.getfield 9, 3) := by decide +kernel
theorem d3_4 : decode prog_9_method_13_code 4 = .ok (.areturn, 1) := by decide +kernel
theorem pn_3 : plainName "com/example/commitlog/commitlog/codec/JsonWriter" = true := by first | (simp [plainName, overriddenIn]; done) | decide +kernel
theorem d4_0 : decode prog_9_method_10_code 0 = .ok (.aload_n 0, 1) := by decide +kernel
theorem d4_1 : decode prog_9_method_10_code 1 = .ok (.getfield 9, 3) := by decide +kernel
theorem d4_4 : decode prog_9_method_10_code 4 = .ok (.arraylength, 1) := by decide +kernel
theorem d4_5 : decode prog_9_method_10_code 5 = .ok (.iload_n 1, 1) := by decide +kernel
theorem d4_6 : decode prog_9_method_10_code 6 = .ok (.if_icmp .le 10, 3) := by decide +kernel
theorem d4_9 : decode prog_9_method_10_code 9 = .ok (.aload_n 0, 1) := by decide +kernel
theorem d4_10 : decode prog_9_method_10_code 10 = .ok (.iload_n 1, 1) := by decide +kernel
theorem d4_11 : decode prog_9_method_10_code 11 = .ok (.newarray .byte, 2) := by decide +kernel
theorem d4_13 : decode prog_9_method_10_code 13 = .ok (.putfield 9, 3) := by decide +kernel
theorem d4_16 : decode prog_9_method_10_code 16 = .ok (.aload_n 0, 1) := by decide +kernel
theorem d4_17 : decode prog_9_method_10_code 17 = .ok (.iconst 0, 1) := by decide +kernel
theorem d4_18 : decode prog_9_method_10_code 18 = .ok (.putfield 30, 3) := by decide +kernel
theorem d4_21 : decode prog_9_method_10_code 21 = .ok (.aload_n 0, 1) := by decide +kernel
theorem d4_22 : decode prog_9_method_10_code 22 = .ok (.iconst 0, 1) := by decide +kernel
theorem d4_23 : decode prog_9_method_10_code 23 = .ok (.putfield 19, 3) := by decide +kernel
theorem d4_26 : decode prog_9_method_10_code 26 = .ok (.aload_n 0, 1) := by decide +kernel
theorem d4_27 : decode prog_9_method_10_code 27 = .ok (.areturn, 1) := by decide +kernel
theorem pn_4 : plainName "com/example/commitlog/commitlog/codec/JsonWriter" = true := by first | (simp [plainName, overriddenIn]; done) | decide +kernel
theorem d5_0 : decode prog_9_method_9_code 0 = .ok (.aload_n 0, 1) := by decide +kernel
theorem d5_1 : decode prog_9_method_9_code 1 = .ok (.getfield 30, 3) := by decide +kernel
theorem d5_4 : decode prog_9_method_9_code 4 = .ok (.ireturn, 1) := by decide +kernel
theorem pn_5 : plainName "com/example/commitlog/commitlog/codec/JsonWriter" = true := by first | (simp [plainName, overriddenIn]; done) | decide +kernel
theorem d6_0 : decode prog_9_method_4_code 0 = .ok (.aload_n 0, 1) := by decide +kernel
theorem d6_1 : decode prog_9_method_4_code 1 = .ok (.getfield 19, 3) := by decide +kernel
theorem d6_4 : decode prog_9_method_4_code 4 = .ok (.ifCond .eq 9, 3) := by decide +kernel
theorem d6_13 : decode prog_9_method_4_code 13 = .ok (.aload_n 0, 1) := by decide +kernel
theorem d6_14 : decode prog_9_method_4_code 14 = .ok (.aload_n 1, 1) := by decide +kernel
theorem d6_15 : decode prog_9_method_4_code 15 = .ok (.invokevirtual 23, 3) := by decide +kernel
theorem d6_18 : decode prog_9_method_4_code 18 = .ok (.aload_n 0, 1) := by decide +kernel
theorem d6_19 : decode prog_9_method_4_code 19 = .ok (.bipush 58, 2) := by decide +kernel
theorem d6_21 : decode prog_9_method_4_code 21 = .ok (.invokevirtual 15, 3) := by decide +kernel
theorem d6_24 : decode prog_9_method_4_code 24 = .ok (.aload_n 0, 1) := by decide +kernel
theorem d6_25 : decode prog_9_method_4_code 25 = .ok (.iconst 0, 1) := by decide +kernel
theorem d6_26 : decode prog_9_method_4_code 26 = .ok (.putfield 19, 3) := by decide +kernel
theorem d6_29 : decode prog_9_method_4_code 29 = .ok (.aload_n 0, 1) := by decide +kernel
theorem d6_30 : decode prog_9_method_4_code 30 = .ok (.areturn, 1) := by decide +kernel
theorem pn_6 : plainName "com/example/commitlog/commitlog/codec/JsonWriter" = true := by first | (simp [plainName, overriddenIn]; done) | decide +kernel
theorem d7_0 : decode prog_9_method_14_code 0 = .ok (.aload_n 1, 1) := by decide +kernel
theorem d7_1 : decode prog_9_method_14_code 1 = .ok (.invokevirtual 40, 3) := by decide +kernel
theorem d7_4 : decode prog_9_method_14_code 4 = .ok (.istore_n 2, 1) := by decide +kernel
theorem d7_5 : decode prog_9_method_14_code 5 = .ok (.aload_n 0, 1) := by decide +kernel
theorem d7_6 : decode prog_9_method_14_code 6 = .ok (.iload_n 2, 1) := by decide +kernel
theorem d7_7 : decode prog_9_method_14_code 7 = .ok (.iconst 2, 1) := by decide +kernel
theorem d7_8 : decode prog_9_method_14_code 8 = .ok (.iadd, 1) := by decide +kernel
theorem d7_9 : decode prog_9_method_14_code 9 = .ok (.invokevirtual 27, 3) := by decide +kernel
theorem d7_12 : decode prog_9_method_14_code 12 = .ok (.aload_n 0, 1) := by decide +kernel
theorem d7_13 : decode prog_9_method_14_code 13 = .ok (.getfield 9, 3) := by decide +kernel
theorem d7_16 : decode prog_9_method_14_code 16 = .ok (.aload_n 0, 1) := by decide +kernel
theorem d7_17 : decode prog_9_method_14_code 17 = .ok (.dup, 1) := by decide +kernel
theorem d7_18 : decode prog_9_method_14_code 18 = .ok (.getfield 30, 3) := by decide +kernel
theorem d7_21 : decode prog_9_method_14_code 21 = .ok (.dup_x1, 1) := by decide +kernel
theorem d7_22 : decode prog_9_method_14_code 22 = .ok (.iconst 1, 1) := by decide +kernel
theorem d7_23 : decode prog_9_method_14_code 23 = .ok (.iadd, 1) := by decide +kernel
theorem d7_24 : decode prog_9_method_14_code 24 = .ok (.putfield 30, 3) := by decide +kernel
theorem d7_27 : decode prog_9_method_14_code 27 = .ok (.bipush 34, 2) := by decide +kernel
theorem d7_29 : decode prog_9_method_14_code 29 = .ok (.bastore, 1) := by decide +kernel
theorem d7_30 : decode prog_9_method_14_code 30 = .ok (.iconst 0, 1) := by decide +kernel
theorem d7_31 : decode prog_9_method_14_code 31 = .ok (.istore_n 3, 1) := by decide +kernel
theorem d7_32 : decode prog_9_method_14_code 32 = .ok (.iload_n 3, 1) := by decide +kernel
theorem d7_33 : decode prog_9_method_14_code 33 = .ok (.iload_n 2, 1) := by decide +kernel
theorem d7_34 : decode prog_9_method_14_code 34 = .ok (.if_icmp .ge 189, 3) := by decide +kernel
theorem d7_37 : decode prog_9_method_14_code 37 = .ok (.aload_n 1, 1) := by decide +kernel
theorem d7_38 : decode prog_9_method_14_code 38 = .ok (.iload_n 3, 1) := by decide +kernel
theorem d7_39 : decode prog_9_method_14_code 39 = .ok (.invokevirtual 61, 3) := by decide +kernel
theorem d7_42 : decode prog_9_method_14_code 42 = .ok (.istore 4, 2) := by decide +kernel
theorem d7_44 : decode prog_9_method_14_code 44 = .ok (.iload 4, 2) := by decide +kernel
theorem d7_46 : decode prog_9_method_14_code 46 = .ok (.bipush 32, 2) := by decide +kernel
theorem d7_48 : decode prog_9_method_14_code 48 = .ok (.if_icmp .lt 47, 3) := by decide +kernel
theorem d7_51 : decode prog_9_method_14_code 51 = .ok (.iload 4, 2) := by decide +kernel
theorem d7_53 : decode prog_9_method_14_code 53 = .ok (.sipush 128, 3) := by decide +kernel
theorem d7_56 : decode prog_9_method_14_code 56 = .ok (.if_icmp .ge 39, 3) := by decide +kernel
theorem d7_59 : decode prog_9_method_14_code 59 = .ok (.iload 4, 2) := by decide +kernel
theorem d7_61 : decode prog_9_method_14_code 61 = .ok (.bipush 34, 2) := by decide +kernel
theorem d7_63 : decode prog_9_method_14_code 63 = .ok (.if_icmp .eq 32, 3) := by decide +kernel
theorem d7_66 : decode prog_9_method_14_code 66 = .ok (.iload 4, 2) := by decide +kernel
theorem d7_68 : decode prog_9_method_14_code 68 = .ok (.bipush 92, 2) := by decide +kernel
theorem d7_70 : decode prog_9_method_14_code 70 = .ok (.if_icmp .eq 25, 3) := by decide +kernel
theorem d7_73 : decode prog_9_method_14_code 73 = .ok (.aload_n 0, 1) := by decide +kernel
theorem d7_74 : decode prog_9_method_14_code 74 = .ok (.getfield 9, 3) := by decide +kernel
theorem d7_77 : decode prog_9_method_14_code 77 = .ok (.aload_n 0, 1) := by decide +kernel
theorem d7_78 : decode prog_9_method_14_code 78 = .ok (.dup, 1) := by decide +kernel
theorem d7_79 : decode prog_9_method_14_code 79 = .ok (.getfield 30, 3) := by decide +kernel
theorem d7_82 : decode prog_9_method_14_code 82 = .ok (.dup_x1, 1) := by decide +kernel
theorem d7_83 : decode prog_9_method_14_code 83 = .ok (.iconst 1, 1) := by decide +kernel
theorem d7_84 : decode prog_9_method_14_code 84 = .ok (.iadd, 1) := by decide +kernel
theorem d7_85 : decode prog_9_method_14_code 85 = .ok (.putfield 30, 3) := by decide +kernel
theorem d7_88 : decode prog_9_method_14_code 88 = .ok (.iload 4, 2) := by decide +kernel
theorem d7_90 : decode prog_9_method_14_code 90 = .ok (.i2b, 1) := by decide +kernel
theorem d7_91 : decode prog_9_method_14_code 91 = .ok (.bastore, 1) := by decide +kernel
theorem d7_92 : decode prog_9_method_14_code 92 = .ok (.goto 125, 3) := by decide +kernel
theorem d7_217 : decode prog_9_method_14_code 217 = .ok (.iinc 3 1, 3) := by decide +kernel
theorem d7_220 : decode prog_9_method_14_code 220 = .ok (.goto (-188), 3) := by decide +kernel
theorem d7_223 : decode prog_9_method_14_code 223 = .ok (.aload_n 0, 1) := by decide +kernel
theorem d7_224 : decode prog_9_method_14_code 224 = .ok (.getfield 9, 3) := by decide +kernel
theorem d7_227 : decode prog_9_method_14_code 227 = .ok (.aload_n 0, 1) := by decide +kernel
theorem d7_228 : decode prog_9_method_14_code 228 = .ok (.dup, 1) := by decide +kernel
theorem d7_229 : decode prog_9_method_14_code 229 = .ok (.getfield 30, 3) := by decide +kernel
theorem d7_232 : decode prog_9_method_14_code 232 = .ok (.dup_x1, 1) := by decide +kernel
theorem d7_233 : decode prog_9_method_14_code 233 = .ok (.iconst 1, 1) := by decide +kernel
theorem d7_234 : decode prog_9_method_14_code 234 = .ok (.iadd, 1) := by decide +kernel
theorem d7_235 : decode prog_9_method_14_code 235 = .ok (.putfield 30, 3) := by decide +kernel
theorem d7_238 : decode prog_9_method_14_code 238 = .ok (.bipush 34, 2) := by decide +kernel
theorem d7_240 : decode prog_9_method_14_code 240 = .ok (.bastore, 1) := by decide +kernel
theorem d7_241 : decode prog_9_method_14_code 241 = .ok (.return_, 1) := by decide +kernel
theorem pn_7 : plainName "com/example/commitlog/commitlog/codec/JsonWriter" = true := by first | (simp [plainName, overriddenIn]; done) | decide +kernel
theorem d8_0 : decode jdk_42_method_54_code 0 = .ok (.aload_n 0, 1) := by decide +kernel
theorem d8_1 : decode jdk_42_method_54_code 1 = .ok (.getfield 9, 3) := by decide +kernel
theorem d8_4 : decode jdk_42_method_54_code 4 = .ok (.arraylength, 1) := by decide +kernel
theorem d8_5 : decode jdk_42_method_54_code 5 = .ok (.aload_n 0, 1) := by decide +kernel
theorem d8_6 : decode jdk_42_method_54_code 6 = .ok (.invokevirtual 335, 3) := by decide +kernel
theorem d8_9 : decode jdk_42_method_54_code 9 = .ok (.ishr, 1) := by decide +kernel
theorem d8_10 : decode jdk_42_method_54_code 10 = .ok (.ireturn, 1) := by decide +kernel
theorem pn_8 : plainName "java/lang/String" = true := by first | (simp [plainName, overriddenIn]; done) | decide +kernel
theorem d9_0 : decode jdk_42_method_152_code 0 = .ok (.getstatic 38, 3) := by decide +kernel
theorem d9_3 : decode jdk_42_method_152_code 3 = .ok (.ifCond .eq 10, 3) := by decide +kernel
theorem d9_6 : decode jdk_42_method_152_code 6 = .ok (.aload_n 0, 1) := by decide +kernel
theorem d9_7 : decode jdk_42_method_152_code 7 = .ok (.getfield 15, 3) := by decide +kernel
theorem d9_10 : decode jdk_42_method_152_code 10 = .ok (.goto 4, 3) := by decide +kernel
theorem d9_14 : decode jdk_42_method_152_code 14 = .ok (.ireturn, 1) := by decide +kernel
theorem pn_9 : plainName "java/lang/String" = true := by first | (simp [plainName, overriddenIn]; done) | decide +kernel
theorem d10_0 : decode prog_9_method_19_code 0 = .ok (.aload_n 0, 1) := by decide +kernel
theorem d10_1 : decode prog_9_method_19_code 1 = .ok (.getfield 9, 3) := by decide +kernel
theorem d10_4 : decode prog_9_method_19_code 4 = .ok (.arraylength, 1) := by decide +kernel
theorem d10_5 : decode prog_9_method_19_code 5 = .ok (.aload_n 0, 1) := by decide +kernel
theorem d10_6 : decode prog_9_method_19_code 6 = .ok (.getfield 30, 3) := by decide +kernel
theorem d10_9 : decode prog_9_method_19_code 9 = .ok (.isub, 1) := by decide +kernel
theorem d10_10 : decode prog_9_method_19_code 10 = .ok (.iload_n 1, 1) := by decide +kernel
theorem d10_11 : decode prog_9_method_19_code 11 = .ok (.if_icmp .ge 42, 3) := by decide +kernel
theorem d10_14 : decode prog_9_method_19_code 14 = .ok (.aload_n 0, 1) := by decide +kernel
theorem d10_15 : decode prog_9_method_19_code 15 = .ok (.aload_n 0, 1) := by decide +kernel
theorem d10_16 : decode prog_9_method_19_code 16 = .ok (.getfield 9, 3) := by decide +kernel
theorem d10_19 : decode prog_9_method_19_code 19 = .ok (.ldc2_w 96, 3) := by decide +kernel
theorem d10_22 : decode prog_9_method_19_code 22 = .ok (.ldc2_w 98, 3) := by decide +kernel
theorem d10_25 : decode prog_9_method_19_code 25 = .ok (.aload_n 0, 1) := by decide +kernel
theorem d10_26 : decode prog_9_method_19_code 26 = .ok (.getfield 9, 3) := by decide +kernel
theorem d10_29 : decode prog_9_method_19_code 29 = .ok (.arraylength, 1) := by decide +kernel
theorem d10_30 : decode prog_9_method_19_code 30 = .ok (.i2l, 1) := by decide +kernel
theorem d10_31 : decode prog_9_method_19_code 31 = .ok (.lmul, 1) := by decide +kernel
theorem d10_32 : decode prog_9_method_19_code 32 = .ok (.aload_n 0, 1) := by decide +kernel
theorem d10_33 : decode prog_9_method_19_code 33 = .ok (.getfield 30, 3) := by decide +kernel
theorem d10_36 : decode prog_9_method_19_code 36 = .ok (.i2l, 1) := by decide +kernel
theorem d10_37 : decode prog_9_method_19_code 37 = .ok (.iload_n 1, 1) := by decide +kernel
theorem d10_38 : decode prog_9_method_19_code 38 = .ok (.i2l, 1) := by decide +kernel
theorem d10_39 : decode prog_9_method_19_code 39 = .ok (.ladd, 1) := by decide +kernel
theorem d10_40 : decode prog_9_method_19_code 40 = .ok (.invokestatic 100, 3) := by decide +kernel
theorem d10_43 : decode prog_9_method_19_code 43 = .ok (.invokestatic 106, 3) := by decide +kernel
theorem d10_46 : decode prog_9_method_19_code 46 = .ok (.l2i, 1) := by decide +kernel
theorem d10_47 : decode prog_9_method_19_code 47 = .ok (.invokestatic 51, 3) := by decide +kernel
theorem d10_50 : decode prog_9_method_19_code 50 = .ok (.putfield 9, 3) := by decide +kernel
theorem d10_53 : decode prog_9_method_19_code 53 = .ok (.return_, 1) := by decide +kernel
theorem pn_10 : plainName "com/example/commitlog/commitlog/codec/JsonWriter" = true := by first | (simp [plainName, overriddenIn]; done) | decide +kernel
theorem d11_0 : decode jdk_29_method_66_code 0 = .ok (.lload_n 0, 1) := by decide +kernel
theorem d11_1 : decode jdk_29_method_66_code 1 = .ok (.lload_n 2, 1) := by decide +kernel
theorem d11_2 : decode jdk_29_method_66_code 2 = .ok (.lcmp, 1) := by decide +kernel
theorem d11_3 : decode jdk_29_method_66_code 3 = .ok (.ifCond .lt 7, 3) := by decide +kernel
theorem d11_6 : decode jdk_29_method_66_code 6 = .ok (.lload_n 0, 1) := by decide +kernel
theorem d11_7 : decode jdk_29_method_66_code 7 = .ok (.goto 4, 3) := by decide +kernel
theorem d11_10 : decode jdk_29_method_66_code 10 = .ok (.lload_n 2, 1) := by decide +kernel
theorem d11_11 : decode jdk_29_method_66_code 11 = .ok (.lreturn, 1) := by decide +kernel
theorem d12_0 : decode jdk_29_method_70_code 0 = .ok (.lload_n 0, 1) := by decide +kernel
theorem d12_1 : decode jdk_29_method_70_code 1 = .ok (.lload_n 2, 1) := by decide +kernel
theorem d12_2 : decode jdk_29_method_70_code 2 = .ok (.lcmp, 1) := by decide +kernel
theorem d12_3 : decode jdk_29_method_70_code 3 = .ok (.ifCond .gt 7, 3) := by decide +kernel
theorem d12_6 : decode jdk_29_method_70_code 6 = .ok (.lload_n 0, 1) := by decide +kernel
theorem d12_7 : decode jdk_29_method_70_code 7 = .ok (.goto 4, 3) := by decide +kernel
theorem d12_10 : decode jdk_29_method_70_code 10 = .ok (.lload_n 2, 1) := by decide +kernel
theorem d12_11 : decode jdk_29_method_70_code 11 = .ok (.lreturn, 1) := by decide +kernel
theorem d13_0 : decode jdk_65_method_121_code 0 = .ok (.iload_n 1, 1) := by decide +kernel
theorem d13_1 : decode jdk_65_method_121_code 1 = .ok (.aload_n 0, 1) := by decide +kernel
theorem d13_2 : decode jdk_65_method_121_code 2 = .ok (.arraylength, 1) := by decide +kernel
theorem d13_3 : decode jdk_65_method_121_code 3 = .ok (.if_icmp .ne 11, 3) := by decide +kernel
theorem d13_14 : decode jdk_65_method_121_code 14 = .ok (.iload_n 1, 1) := by decide +kernel
theorem d13_15 : decode jdk_65_method_121_code 15 = .ok (.newarray .byte, 2) := by decide +kernel
theorem d13_17 : decode jdk_65_method_121_code 17 = .ok (.astore_n 2, 1) := by decide +kernel
theorem d13_18 : decode jdk_65_method_121_code 18 = .ok (.aload_n 0, 1) := by decide +kernel
theorem d13_19 : decode jdk_65_method_121_code 19 = .ok (.iconst 0, 1) := by decide +kernel
theorem d13_20 : decode jdk_65_method_121_code 20 = .ok (.aload_n 2, 1) := by decide +kernel
theorem d13_21 : decode jdk_65_method_121_code 21 = .ok (.iconst 0, 1) := by decide +kernel
theorem d13_22 : decode jdk_65_method_121_code 22 = .ok (.aload_n 0, 1) := by decide +kernel
theorem d13_23 : decode jdk_65_method_121_code 23 = .ok (.arraylength, 1) := by decide +kernel
theorem d13_24 : decode jdk_65_method_121_code 24 = .ok (.iload_n 1, 1) := by decide +kernel
theorem d13_25 : decode jdk_65_method_121_code 25 = .ok (.invokestatic 304, 3) := by decide +kernel
theorem d13_28 : decode jdk_65_method_121_code 28 = .ok (.invokestatic 150, 3) := by decide +kernel
theorem d13_31 : decode jdk_65_method_121_code 31 = .ok (.aload_n 2, 1) := by decide +kernel
theorem d13_32 : decode jdk_65_method_121_code 32 = .ok (.areturn, 1) := by decide +kernel
theorem pn_13 : plainName "java/util/Arrays" = true := by first | (simp [plainName, overriddenIn]; done) | decide +kernel
theorem d14_0 : decode jdk_29_method_69_code 0 = .ok (.iload_n 0, 1) := by decide +kernel
theorem d14_1 : decode jdk_29_method_69_code 1 = .ok (.iload_n 1, 1) := by decide +kernel
theorem d14_2 : decode jdk_29_method_69_code 2 = .ok (.if_icmp .gt 7, 3) := by decide +kernel
theorem d14_5 : decode jdk_29_method_69_code 5 = .ok (.iload_n 0, 1) := by decide +kernel
theorem d14_6 : decode jdk_29_method_69_code 6 = .ok (.goto 4, 3) := by decide +kernel
theorem d14_9 : decode jdk_29_method_69_code 9 = .ok (.iload_n 1, 1) := by decide +kernel
theorem d14_10 : decode jdk_29_method_69_code 10 = .ok (.ireturn, 1) := by decide +kernel
theorem d15_0 : decode jdk_42_method_56_code 0 = .ok (.aload_n 0, 1) := by decide +kernel
theorem d15_1 : decode jdk_42_method_56_code 1 = .ok (.invokevirtual 492, 3) := by decide +kernel
theorem d15_4 : decode jdk_42_method_56_code 4 = .ok (.ifCond .eq 12, 3) := by decide +kernel
theorem d15_7 : decode jdk_42_method_56_code 7 = .ok (.aload_n 0, 1) := by decide +kernel
theorem d15_8 : decode jdk_42_method_56_code 8 = .ok (.getfield 9, 3) := by decide +kernel
theorem d15_11 : decode jdk_42_method_56_code 11 = .ok (.iload_n 1, 1) := by decide +kernel
theorem d15_12 : decode jdk_42_method_56_code 12 = .ok (.invokestatic 495, 3) := by decide +kernel
theorem d15_15 : decode jdk_42_method_56_code 15 = .ok (.ireturn, 1) := by decide +kernel
theorem pn_15 : plainName "java/lang/String" = true := by first | (simp [plainName, overriddenIn]; done) | decide +kernel
theorem d16_0 : decode jdk_42_method_154_code 0 = .ok (.getstatic 38, 3) := by decide +kernel
theorem d16_3 : decode jdk_42_method_154_code 3 = .ok (.ifCond .eq 14, 3) := by decide +kernel
theorem d16_6 : decode jdk_42_method_154_code 6 = .ok (.aload_n 0, 1) := by decide +kernel
theorem d16_7 : decode jdk_42_method_154_code 7 = .ok (.getfield 15, 3) := by decide +kernel
theorem d16_10 : decode jdk_42_method_154_code 10 = .ok (.ifCond .ne 7, 3) := by decide +kernel
theorem d16_13 : decode jdk_42_method_154_code 13 = .ok (.iconst 1, 1) := by decide +kernel
theorem d16_14 : decode jdk_42_method_154_code 14 = .ok (.goto 4, 3) := by decide +kernel
theorem d16_18 : decode jdk_42_method_154_code 18 = .ok (.ireturn, 1) := by decide +kernel
theorem pn_16 : plainName "java/lang/String" = true := by first | (simp [plainName, overriddenIn]; done) | decide +kernel
theorem d17_0 : decode jdk_43_method_2_code 0 = .ok (.iload_n 1, 1) := by decide +kernel
theorem d17_1 : decode jdk_43_method_2_code 1 = .ok (.aload_n 0, 1) := by decide +kernel
theorem d17_2 : decode jdk_43_method_2_code 2 = .ok (.arraylength, 1) := by decide +kernel
theorem d17_3 : decode jdk_43_method_2_code 3 = .ok (.invokestatic 9, 3) := by decide +kernel
theorem d17_6 : decode jdk_43_method_2_code 6 = .ok (.aload_n 0, 1) := by decide +kernel
theorem d17_7 : decode jdk_43_method_2_code 7 = .ok (.iload_n 1, 1) := by decide +kernel
theorem d17_8 : decode jdk_43_method_2_code 8 = .ok (.baload, 1) := by decide +kernel
theorem d17_9 : decode jdk_43_method_2_code 9 = .ok (.sipush 255, 3) := by decide +kernel
theorem d17_12 : decode jdk_43_method_2_code 12 = .ok (.iand, 1) := by decide +kernel
theorem d17_13 : decode jdk_43_method_2_code 13 = .ok (.i2c, 1) := by decide +kernel
theorem d17_14 : decode jdk_43_method_2_code 14 = .ok (.ireturn, 1) := by decide +kernel
theorem pn_17 : plainName "java/lang/StringLatin1" = true := by first | (simp [plainName, overriddenIn]; done) | decide +kernel
theorem d18_0 : decode jdk_42_method_155_code 0 = .ok (.iload_n 0, 1) := by decide +kernel
theorem d18_1 : decode jdk_42_method_155_code 1 = .ok (.iload_n 1, 1) := by decide +kernel
theorem d18_2 : decode jdk_42_method_155_code 2 = .ok (.getstatic 1053, 3) := by decide +kernel
theorem d18_5 : decode jdk_42_method_155_code 5 = .ok (.invokestatic 1059, 3) := by decide +kernel
theorem d18_8 : decode jdk_42_method_155_code 8 = .ok (.pop, 1) := by decide +kernel
theorem d18_9 : decode jdk_42_method_155_code 9 = .ok (.return_, 1) := by decide +kernel
theorem pn_18 : plainName "java/lang/String" = true := by first | (simp [plainName, overriddenIn]; done) | decide +kernel
theorem d19_0 : decode jdk_41_method_11_code 0 = .ok (.iload_n 0, 1) := by decide +kernel
theorem d19_1 : decode jdk_41_method_11_code 1 = .ok (.ifCond .lt 8, 3) := by decide +kernel
theorem d19_4 : decode jdk_41_method_11_code 4 = .ok (.iload_n 0, 1) := by decide +kernel
theorem d19_5 : decode jdk_41_method_11_code 5 = .ok (.iload_n 1, 1) := by decide +kernel
theorem d19_6 : decode jdk_41_method_11_code 6 = .ok (.if_icmp .lt 10, 3) := by decide +kernel
theorem d19_16 : decode jdk_41_method_11_code 16 = .ok (.iload_n 0, 1) := by decide +kernel
theorem d19_17 : decode jdk_41_method_11_code 17 = .ok (.ireturn, 1) := by decide +kernel
theorem pn_19 : plainName "jdk/internal/util/Preconditions" = true := by first | (simp [plainName, overriddenIn]; done) | decide +kernel
theorem d20_0 : decode prog_9_method_18_code 0 = .ok (.aload_n 0, 1) := by decide +kernel
theorem d20_1 : decode prog_9_method_18_code 1 = .ok (.iconst 1, 1) := by decide +kernel
theorem d20_2 : decode prog_9_method_18_code 2 = .ok (.invokevirtual 27, 3) := by decide +kernel
theorem d20_5 : decode prog_9_method_18_code 5 = .ok (.aload_n 0, 1) := by decide +kernel
theorem d20_6 : decode prog_9_method_18_code 6 = .ok (.getfield 9, 3) := by decide +kernel
theorem d20_9 : decode prog_9_method_18_code 9 = .ok (.aload_n 0, 1) := by decide +kernel
theorem d20_10 : decode prog_9_method_18_code 10 = .ok (.dup, 1) := by decide +kernel
theorem d20_11 : decode prog_9_method_18_code 11 = .ok (.getfield 30, 3) := by decide +kernel
theorem d20_14 : decode prog_9_method_18_code 14 = .ok (.dup_x1, 1) := by decide +kernel
theorem d20_15 : decode prog_9_method_18_code 15 = .ok (.iconst 1, 1) := by decide +kernel
theorem d20_16 : decode prog_9_method_18_code 16 = .ok (.iadd, 1) := by decide +kernel
theorem d20_17 : decode prog_9_method_18_code 17 = .ok (.putfield 30, 3) := by decide +kernel
theorem d20_20 : decode prog_9_method_18_code 20 = .ok (.iload_n 1, 1) := by decide +kernel
theorem d20_21 : decode prog_9_method_18_code 21 = .ok (.i2b, 1) := by decide +kernel
theorem d20_22 : decode prog_9_method_18_code 22 = .ok (.bastore, 1) := by decide +kernel
theorem d20_23 : decode prog_9_method_18_code 23 = .ok (.return_, 1) := by decide +kernel
theorem pn_20 : plainName "com/example/commitlog/commitlog/codec/JsonWriter" = true := by first | (simp [plainName, overriddenIn]; done) | decide +kernel
theorem d21_0 : decode prog_9_method_8_code 0 = .ok (.aload_n 0, 1) := by decide +kernel
theorem d21_1 : decode prog_9_method_8_code 1 = .ok (.bipush 20, 2) := by decide +kernel
theorem d21_3 : decode prog_9_method_8_code 3 = .ok (.invokevirtual 27, 3) := by decide +kernel
theorem d21_6 : decode prog_9_method_8_code 6 = .ok (.lload_n 1, 1) := by decide +kernel
theorem d21_7 : decode prog_9_method_8_code 7 = .ok (.lstore_n 3, 1) := by decide +kernel
theorem d21_8 : decode prog_9_method_8_code 8 = .ok (.lload_n 3, 1) := by decide +kernel
theorem d21_9 : decode prog_9_method_8_code 9 = .ok (.lconst 0, 1) := by decide +kernel
theorem d21_10 : decode prog_9_method_8_code 10 = .ok (.lcmp, 1) := by decide +kernel
theorem d21_11 : decode prog_9_method_8_code 11 = .ok (.ifCond .ge 24, 3) := by decide +kernel
theorem d21_14 : decode prog_9_method_8_code 14 = .ok (.aload_n 0, 1) := by decide +kernel
theorem d21_15 : decode prog_9_method_8_code 15 = .ok (.getfield 9, 3) := by decide +kernel
theorem d21_18 : decode prog_9_method_8_code 18 = .ok (.aload_n 0, 1) := by decide +kernel
theorem d21_19 : decode prog_9_method_8_code 19 = .ok (.dup, 1) := by decide +kernel
theorem d21_20 : decode prog_9_method_8_code 20 = .ok (.getfield 30, 3) := by decide +kernel
theorem d21_23 : decode prog_9_method_8_code 23 = .ok (.dup_x1, 1) := by decide +kernel
theorem d21_24 : decode prog_9_method_8_code 24 = .ok (.iconst 1, 1) := by decide +kernel
theorem d21_25 : decode prog_9_method_8_code 25 = .ok (.iadd, 1) := by decide +kernel
theorem d21_26 : decode prog_9_method_8_code 26 = .ok (.putfield 30, 3) := by decide +kernel
theorem d21_29 : decode prog_9_method_8_code 29 = .ok (.bipush 45, 2) := by decide +kernel
theorem d21_31 : decode prog_9_method_8_code 31 = .ok (.bastore, 1) := by decide +kernel
theorem d21_32 : decode prog_9_method_8_code 32 = .ok (.goto 6, 3) := by decide +kernel
theorem d21_35 : decode prog_9_method_8_code 35 = .ok (.lload_n 3, 1) := by decide +kernel
theorem d21_36 : decode prog_9_method_8_code 36 = .ok (.lneg, 1) := by decide +kernel
theorem d21_37 : decode prog_9_method_8_code 37 = .ok (.lstore_n 3, 1) := by decide +kernel
theorem d21_38 : decode prog_9_method_8_code 38 = .ok (.aload_n 0, 1) := by decide +kernel
theorem d21_39 : decode prog_9_method_8_code 39 = .ok (.getfield 30, 3) := by decide +kernel
theorem d21_42 : decode prog_9_method_8_code 42 = .ok (.istore 5, 2) := by decide +kernel
theorem d21_44 : decode prog_9_method_8_code 44 = .ok (.aload_n 0, 1) := by decide +kernel
theorem d21_45 : decode prog_9_method_8_code 45 = .ok (.getfield 9, 3) := by decide +kernel
theorem d21_48 : decode prog_9_method_8_code 48 = .ok (.aload_n 0, 1) := by decide +kernel
theorem d21_49 : decode prog_9_method_8_code 49 = .ok (.dup, 1) := by decide +kernel
theorem d21_50 : decode prog_9_method_8_code 50 = .ok (.getfield 30, 3) := by decide +kernel
theorem d21_53 : decode prog_9_method_8_code 53 = .ok (.dup_x1, 1) := by decide +kernel
theorem d21_54 : decode prog_9_method_8_code 54 = .ok (.iconst 1, 1) := by decide +kernel
theorem d21_55 : decode prog_9_method_8_code 55 = .ok (.iadd, 1) := by decide +kernel
theorem d21_56 : decode prog_9_method_8_code 56 = .ok (.putfield 30, 3) := by decide +kernel
theorem d21_59 : decode prog_9_method_8_code 59 = .ok (.ldc2_w 57, 3) := by decide +kernel
theorem d21_62 : decode prog_9_method_8_code 62 = .ok (.lload_n 3, 1) := by decide +kernel
theorem d21_63 : decode prog_9_method_8_code 63 = .ok (.ldc2_w 59, 3) := by decide +kernel
theorem d21_66 : decode prog_9_method_8_code 66 = .ok (.lrem, 1) := by decide +kernel
theorem d21_67 : decode prog_9_method_8_code 67 = .ok (.lsub, 1) := by decide +kernel
theorem d21_68 : decode prog_9_method_8_code 68 = .ok (.l2i, 1) := by decide +kernel
theorem d21_69 : decode prog_9_method_8_code 69 = .ok (.i2b, 1) := by decide +kernel
theorem d21_70 : decode prog_9_method_8_code 70 = .ok (.bastore, 1) := by decide +kernel
theorem d21_71 : decode prog_9_method_8_code 71 = .ok (.lload_n 3, 1) := by decide +kernel
theorem d21_72 : decode prog_9_method_8_code 72 = .ok (.ldc2_w 59, 3) := by decide +kernel
theorem d21_75 : decode prog_9_method_8_code 75 = .ok (.ldiv, 1) := by decide +kernel
theorem d21_76 : decode prog_9_method_8_code 76 = .ok (.lstore_n 3, 1) := by decide +kernel
theorem d21_77 : decode prog_9_method_8_code 77 = .ok (.lload_n 3, 1) := by decide +kernel
theorem d21_78 : decode prog_9_method_8_code 78 = .ok (.lconst 0, 1) := by decide +kernel
theorem d21_79 : decode prog_9_method_8_code 79 = .ok (.lcmp, 1) := by decide +kernel
theorem d21_80 : decode prog_9_method_8_code 80 = .ok (.ifCond .ne (-36), 3) := by decide +kernel
theorem d21_83 : decode prog_9_method_8_code 83 = .ok (.iload 5, 2) := by decide +kernel
theorem d21_85 : decode prog_9_method_8_code 85 = .ok (.istore 6, 2) := by decide +kernel
theorem d21_87 : decode prog_9_method_8_code 87 = .ok (.aload_n 0, 1) := by decide +kernel
theorem d21_88 : decode prog_9_method_8_code 88 = .ok (.getfield 30, 3) := by decide +kernel
theorem d21_91 : decode prog_9_method_8_code 91 = .ok (.iconst 1, 1) := by decide +kernel
theorem d21_92 : decode prog_9_method_8_code 92 = .ok (.isub, 1) := by decide +kernel
theorem d21_93 : decode prog_9_method_8_code 93 = .ok (.istore 7, 2) := by decide +kernel
theorem d21_95 : decode prog_9_method_8_code 95 = .ok (.iload 6, 2) := by decide +kernel
theorem d21_97 : decode prog_9_method_8_code 97 = .ok (.iload 7, 2) := by decide +kernel
theorem d21_99 : decode prog_9_method_8_code 99 = .ok (.if_icmp .ge 44, 3) := by decide +kernel
theorem d21_102 : decode prog_9_method_8_code 102 = .ok (.aload_n 0, 1) := by decide +kernel
theorem d21_103 : decode prog_9_method_8_code 103 = .ok (.getfield 9, 3) := by decide +kernel
theorem d21_106 : decode prog_9_method_8_code 106 = .ok (.iload 6, 2) := by decide +kernel
theorem d21_108 : decode prog_9_method_8_code 108 = .ok (.baload, 1) := by decide +kernel
theorem d21_109 : decode prog_9_method_8_code 109 = .ok (.istore 8, 2) := by decide +kernel
theorem d21_111 : decode prog_9_method_8_code 111 = .ok (.aload_n 0, 1) := by decide +kernel
theorem d21_112 : decode prog_9_method_8_code 112 = .ok (.getfield 9, 3) := by decide +kernel
theorem d21_115 : decode prog_9_method_8_code 115 = .ok (.iload 6, 2) := by decide +kernel
theorem d21_117 : decode prog_9_method_8_code 117 = .ok (.aload_n 0, 1) := by decide +kernel
theorem d21_118 : decode prog_9_method_8_code 118 = .ok (.getfield 9, 3) := by decide +kernel
theorem d21_121 : decode prog_9_method_8_code 121 = .ok (.iload 7, 2) := by decide +kernel
theorem d21_123 : decode prog_9_method_8_code 123 = .ok (.baload, 1) := by decide +kernel
theorem d21_124 : decode prog_9_method_8_code 124 = .ok (.bastore, 1) := by decide +kernel
theorem d21_125 : decode prog_9_method_8_code 125 = .ok (.aload_n 0, 1) := by decide +kernel
theorem d21_126 : decode prog_9_method_8_code 126 = .ok (.getfield 9, 3) := by decide +kernel
theorem d21_129 : decode prog_9_method_8_code 129 = .ok (.iload 7, 2) := by decide +kernel
theorem d21_131 : decode prog_9_method_8_code 131 = .ok (.iload 8, 2) := by decide +kernel
theorem d21_133 : decode prog_9_method_8_code 133 = .ok (.bastore, 1) := by decide +kernel
theorem d21_134 : decode prog_9_method_8_code 134 = .ok (.iinc 6 1, 3) := by decide +kernel
theorem d21_137 : decode prog_9_method_8_code 137 = .ok (.iinc 7 (-1), 3) := by decide +kernel
theorem d21_140 : decode prog_9_method_8_code 140 = .ok (.goto (-45), 3) := by decide +kernel
theorem d21_143 : decode prog_9_method_8_code 143 = .ok (.aload_n 0, 1) := by decide +kernel
theorem d21_144 : decode prog_9_method_8_code 144 = .ok (.iconst 1, 1) := by decide +kernel
theorem d21_145 : decode prog_9_method_8_code 145 = .ok (.putfield 19, 3) := by decide +kernel
theorem d21_148 : decode prog_9_method_8_code 148 = .ok (.aload_n 0, 1) := by decide +kernel
theorem d21_149 : decode prog_9_method_8_code 149 = .ok (.areturn, 1) := by decide +kernel
theorem pn_21 : plainName "com/example/commitlog/commitlog/codec/JsonWriter" = true := by first | (simp [plainName, overriddenIn]; done) | decide +kernel
theorem pd_10 : parseMethodDescriptor "(II)I" = some ⟨[.int, .int], some .int⟩ := by decide +kernel
theorem pd_8 : parseMethodDescriptor "(JJ)J" = some ⟨[.long, .long], some .long⟩ := by decide +kernel
theorem pd_9 : parseMethodDescriptor "([BI)[B" = some ⟨[(.array .byte), .int], some (.array .byte)⟩ := by decide +kernel
theorem pd_0 : parseMethodDescriptor "(I)V" = some ⟨[.int], none⟩ := by decide +kernel
theorem pd_7 : parseMethodDescriptor "()B" = some ⟨[], some .byte⟩ := by decide +kernel
theorem pd_16 : parseMethodDescriptor "(IILjava/util/function/BiFunction;)I" = some ⟨[.int, .int, (.object "java/util/function/BiFunction")], some .int⟩ := by decide +kernel
theorem pd_15 : parseMethodDescriptor "(II)V" = some ⟨[.int, .int], none⟩ := by decide +kernel
theorem pd_13 : parseMethodDescriptor "()Z" = some ⟨[], some .boolean⟩ := by decide +kernel
theorem pd_14 : parseMethodDescriptor "([BI)C" = some ⟨[(.array .byte), .int], some .char⟩ := by decide +kernel
theorem pd_4 : parseMethodDescriptor "()I" = some ⟨[], some .int⟩ := by decide +kernel
theorem pd_12 : parseMethodDescriptor "(I)C" = some ⟨[.int], some .char⟩ := by decide +kernel
theorem pd_6 : parseMethodDescriptor "(Ljava/lang/String;)V" = some ⟨[(.object "java/lang/String")], none⟩ := by decide +kernel
theorem pd_2 : parseMethodDescriptor "()[B" = some ⟨[], some (.array .byte)⟩ := by decide +kernel
theorem pd_3 : parseMethodDescriptor "(I)Lcom/example/commitlog/commitlog/codec/JsonWriter;" = some ⟨[.int], some (.object "com/example/commitlog/commitlog/codec/JsonWriter")⟩ := by decide +kernel
theorem pd_5 : parseMethodDescriptor "(Ljava/lang/String;)Lcom/example/commitlog/commitlog/codec/JsonWriter;" = some ⟨[(.object "java/lang/String")], some (.object "com/example/commitlog/commitlog/codec/JsonWriter")⟩ := by decide +kernel
theorem pd_17 : parseMethodDescriptor "(J)Lcom/example/commitlog/commitlog/codec/JsonWriter;" = some ⟨[.long], some (.object "com/example/commitlog/commitlog/codec/JsonWriter")⟩ := by decide +kernel

theorem ef_11 (m : MethodId) (q0 : Int64) (q1 : Int64) : entryFrame m #[(.long q0), (.long q1)] 4 = mkF m 0 #[.val (.long q0), .second, .val (.long q1), .second] [] := by first | (simp [entryFrame, mkF, argsToLocals, Value.category]; done) | rfl
def Q11 (Z : State) (q0 : Int64) (q1 : Int64) (h0 : Heap) (n0 : Nat) (v : Option Value) (h : Heap) (L : List Loc) : Prop := v = some (.long (if q0 < q1 then q1 else q0)) ∧ Fr n0 L ∧ h = h0
set_option maxRecDepth 65536 in
set_option maxHeartbeats 40000000 in
theorem rm11 (l : Launch) (Z : State) (A0 : Array Value) (hw : ∀ d ∈ tables_1, d.before A0 Z = true) (ws : List Jvm.Cond) (q0 : Int64) (q1 : Int64) (h0 : Heap) (n0 : Nat) (Z0 : n0 ≤ h0.size) :
    MetFree l (⟨"java/lang/Math", "max", "(JJ)J"⟩ : MethodName) (head1 (Jvm.Cond.code (⟨"java/lang/Math", "max", "(JJ)J"⟩ : MethodName) jdk_29_method_66_code 4 (some .long) :: ws) ({ frames := 0, cells := 0, slots := 0, locals := 0 } : Room)) (fun a U => a = #[(.long q0), (.long q1)] ∧ Z.Warmed39 U.vm ∧ U.heap = h0) (fun _ _ _ _ _ => True) (fun _ U o U' => ∃ v L, o = .returned v ∧ Q11 Z q0 q1 h0 n0 v U'.heap L ∧ FrameEnd U o U' L ({ frames := 0, cells := 0, slots := 0, locals := 0 } : Room).cells ({ frames := 0, cells := 0, slots := 0, locals := 0 } : Room).slots) := by
  refine MetFree.of_bodySF (Jvm.Free.JP.mathPlain rfl (by decide +kernel)) hisR ?_
  intro p e s m args below meth c s₁ Bd hml0 hP hK
  obtain ⟨rfl, hZ, hh⟩ := hP
  have hx := Bd.exec
  have hby := Bd.bytes
  have hml : c.maxLocals = 4 := hml0
  have hown : s.vm.findClass "java/lang/Math" = some m.cls := findClass_of_methodNamed Bd.named
  have hnm := (name_of_methodNamed Bd.named Bd.method).1
  have X0 : Stand p l e ({ frames := 0, cells := 0, slots := 0, locals := 0 } : Room) s m #[(.long q0), (.long q1)] below meth c s₁ [] 0 0 := Stand.of_body Bd
  have e0 : s₁.heap = h0 := by rw [← hh, Bd.state]; rfl
  have N0 := Fr.nil n0
  have pre0 : ∀ t, Steps p.tables e below (s₁.setTop (mkF m 0 #[.val (.long q0), .second, .val (.long q1), .second] [])) t → Steps p.tables e below (s₁.setTop (entryFrame m #[(.long q0), (.long q1)] 4)) t := fun t k => castTop (ef_11 m q0 q1) k
  obtain ⟨v2, hv2⟩ : ∃ z : Int64, z = if q0 < q1 then q1 else q0 := ⟨_, rfl⟩
  obtain ⟨fs, hr, hrun, hended, hW, hsame⟩ := X0.leave (v := some (.long v2)) (fun h => by rw [Bd.returns] at h; cases h)
  refine ⟨_, _, pre0 _ ?_, hrun, hended, _, _, rfl, ?_, ⟨_, rfl⟩, hW, hsame.mono (by decide) (by decide)⟩
  · show Steps p.tables e below (s₁.setTop (mkF m 0 #[.val (.long q0), .second, .val (.long q1), .second] [])) _
    refine XS.lloadN X0.here hx rfl (hb hby d11_0) rfl ?_
    show Steps p.tables e below (s₁.setTop (mkF m 1 #[.val (.long q0), .second, .val (.long q1), .second] [(.long q0)])) _
    refine XS.lloadN X0.here hx rfl (hb hby d11_1) rfl ?_
    show Steps p.tables e below (s₁.setTop (mkF m 2 #[.val (.long q0), .second, .val (.long q1), .second] [(.long q1), (.long q0)])) _
    refine XS.lcmp X0.here hx rfl (hb hby d11_2) rfl ?_
    show Steps p.tables e below (s₁.setTop (mkF m 3 #[.val (.long q0), .second, .val (.long q1), .second] [(.int (lcmpW q0 q1))])) _
    refine own_dia (F := (mkF m 11 #[.val (.long q0), .second, .val (.long q1), .second] [(.long v2)])) ?_ ?_
    · intro kt
      by_cases hc1 : q0 < q1
      · show Steps p.tables e below (s₁.setTop (mkF m 3 #[.val (.long q0), .second, .val (.long q1), .second] [(.int (lcmpW q0 q1))])) _
        refine XS.ifYes X0.here hx rfl (pc0 := 3) (pc' := 10) rfl (hb hby d11_3) rfl ((if0 _ _).trans (tlt ((lw_lt q0 q1).mpr hc1)).1) (by decide) (by decide) ?_
        show Steps p.tables e below (s₁.setTop (mkF m 10 #[.val (.long q0), .second, .val (.long q1), .second] [])) _
        refine XS.lloadN X0.here hx rfl (hb hby d11_10) rfl ?_
        exact castTop (by rw [hv2, if_pos hc1] <;> rfl) kt
      · show Steps p.tables e below (s₁.setTop (mkF m 3 #[.val (.long q0), .second, .val (.long q1), .second] [(.int (lcmpW q0 q1))])) _
        refine XS.ifNo X0.here hx rfl (hb hby d11_3) rfl ((if0 _ _).trans (flt (fun q => hc1 ((lw_lt q0 q1).mp q))).1) ?_
        show Steps p.tables e below (s₁.setTop (mkF m 6 #[.val (.long q0), .second, .val (.long q1), .second] [])) _
        refine XS.lloadN X0.here hx rfl (hb hby d11_6) rfl ?_
        show Steps p.tables e below (s₁.setTop (mkF m 7 #[.val (.long q0), .second, .val (.long q1), .second] [(.long q0)])) _
        refine XS.goto X0.here hx rfl (pc0 := 7) (pc' := 11) rfl (hb hby d11_7) (by decide) (by decide) ?_
        exact castTop (by rw [hv2, if_neg hc1] <;> rfl) kt
    show Steps p.tables e below (s₁.setTop (mkF m 11 #[.val (.long q0), .second, .val (.long q1), .second] [(.long v2)])) _
    exact retOut X0 hx Bd.returns rfl (Or.inr (Or.inl ⟨rfl, rfl, _, rfl⟩)) (hb hby d11_11) hr
  · show Q11 Z q0 q1 h0 n0 _ s₁.heap _
    subst hv2
    exact ⟨rfl, N0, e0⟩
theorem ef_12 (m : MethodId) (q0 : Int64) (q1 : Int64) : entryFrame m #[(.long q0), (.long q1)] 4 = mkF m 0 #[.val (.long q0), .second, .val (.long q1), .second] [] := by first | (simp [entryFrame, mkF, argsToLocals, Value.category]; done) | rfl
def Q12 (Z : State) (q0 : Int64) (q1 : Int64) (h0 : Heap) (n0 : Nat) (v : Option Value) (h : Heap) (L : List Loc) : Prop := v = some (.long (if q1 < q0 then q1 else q0)) ∧ Fr n0 L ∧ h = h0
set_option maxRecDepth 65536 in
set_option maxHeartbeats 40000000 in
theorem rm12 (l : Launch) (Z : State) (A0 : Array Value) (hw : ∀ d ∈ tables_1, d.before A0 Z = true) (ws : List Jvm.Cond) (q0 : Int64) (q1 : Int64) (h0 : Heap) (n0 : Nat) (Z0 : n0 ≤ h0.size) :
    MetFree l (⟨"java/lang/Math", "min", "(JJ)J"⟩ : MethodName) (head1 (Jvm.Cond.code (⟨"java/lang/Math", "min", "(JJ)J"⟩ : MethodName) jdk_29_method_70_code 4 (some .long) :: ws) ({ frames := 0, cells := 0, slots := 0, locals := 0 } : Room)) (fun a U => a = #[(.long q0), (.long q1)] ∧ Z.Warmed39 U.vm ∧ U.heap = h0) (fun _ _ _ _ _ => True) (fun _ U o U' => ∃ v L, o = .returned v ∧ Q12 Z q0 q1 h0 n0 v U'.heap L ∧ FrameEnd U o U' L ({ frames := 0, cells := 0, slots := 0, locals := 0 } : Room).cells ({ frames := 0, cells := 0, slots := 0, locals := 0 } : Room).slots) := by
  refine MetFree.of_bodySF (Jvm.Free.JP.mathPlain rfl (by decide +kernel)) hisR ?_
  intro p e s m args below meth c s₁ Bd hml0 hP hK
  obtain ⟨rfl, hZ, hh⟩ := hP
  have hx := Bd.exec
  have hby := Bd.bytes
  have hml : c.maxLocals = 4 := hml0
  have hown : s.vm.findClass "java/lang/Math" = some m.cls := findClass_of_methodNamed Bd.named
  have hnm := (name_of_methodNamed Bd.named Bd.method).1
  have X0 : Stand p l e ({ frames := 0, cells := 0, slots := 0, locals := 0 } : Room) s m #[(.long q0), (.long q1)] below meth c s₁ [] 0 0 := Stand.of_body Bd
  have e0 : s₁.heap = h0 := by rw [← hh, Bd.state]; rfl
  have N0 := Fr.nil n0
  have pre0 : ∀ t, Steps p.tables e below (s₁.setTop (mkF m 0 #[.val (.long q0), .second, .val (.long q1), .second] [])) t → Steps p.tables e below (s₁.setTop (entryFrame m #[(.long q0), (.long q1)] 4)) t := fun t k => castTop (ef_12 m q0 q1) k
  obtain ⟨v2, hv2⟩ : ∃ z : Int64, z = if q1 < q0 then q1 else q0 := ⟨_, rfl⟩
  obtain ⟨fs, hr, hrun, hended, hW, hsame⟩ := X0.leave (v := some (.long v2)) (fun h => by rw [Bd.returns] at h; cases h)
  refine ⟨_, _, pre0 _ ?_, hrun, hended, _, _, rfl, ?_, ⟨_, rfl⟩, hW, hsame.mono (by decide) (by decide)⟩
  · show Steps p.tables e below (s₁.setTop (mkF m 0 #[.val (.long q0), .second, .val (.long q1), .second] [])) _
    refine XS.lloadN X0.here hx rfl (hb hby d12_0) rfl ?_
    show Steps p.tables e below (s₁.setTop (mkF m 1 #[.val (.long q0), .second, .val (.long q1), .second] [(.long q0)])) _
    refine XS.lloadN X0.here hx rfl (hb hby d12_1) rfl ?_
    show Steps p.tables e below (s₁.setTop (mkF m 2 #[.val (.long q0), .second, .val (.long q1), .second] [(.long q1), (.long q0)])) _
    refine XS.lcmp X0.here hx rfl (hb hby d12_2) rfl ?_
    show Steps p.tables e below (s₁.setTop (mkF m 3 #[.val (.long q0), .second, .val (.long q1), .second] [(.int (lcmpW q0 q1))])) _
    refine own_dia (F := (mkF m 11 #[.val (.long q0), .second, .val (.long q1), .second] [(.long v2)])) ?_ ?_
    · intro kt
      by_cases hc1 : q1 < q0
      · show Steps p.tables e below (s₁.setTop (mkF m 3 #[.val (.long q0), .second, .val (.long q1), .second] [(.int (lcmpW q0 q1))])) _
        refine XS.ifYes X0.here hx rfl (pc0 := 3) (pc' := 10) rfl (hb hby d12_3) rfl ((if0 _ _).trans (tlt ((lw_gt q0 q1).mpr hc1)).2.2.1) (by decide) (by decide) ?_
        show Steps p.tables e below (s₁.setTop (mkF m 10 #[.val (.long q0), .second, .val (.long q1), .second] [])) _
        refine XS.lloadN X0.here hx rfl (hb hby d12_10) rfl ?_
        exact castTop (by rw [hv2, if_pos hc1] <;> rfl) kt
      · show Steps p.tables e below (s₁.setTop (mkF m 3 #[.val (.long q0), .second, .val (.long q1), .second] [(.int (lcmpW q0 q1))])) _
        refine XS.ifNo X0.here hx rfl (hb hby d12_3) rfl ((if0 _ _).trans (flt (fun q => hc1 ((lw_gt q0 q1).mp q))).2.2.1) ?_
        show Steps p.tables e below (s₁.setTop (mkF m 6 #[.val (.long q0), .second, .val (.long q1), .second] [])) _
        refine XS.lloadN X0.here hx rfl (hb hby d12_6) rfl ?_
        show Steps p.tables e below (s₁.setTop (mkF m 7 #[.val (.long q0), .second, .val (.long q1), .second] [(.long q0)])) _
        refine XS.goto X0.here hx rfl (pc0 := 7) (pc' := 11) rfl (hb hby d12_7) (by decide) (by decide) ?_
        exact castTop (by rw [hv2, if_neg hc1] <;> rfl) kt
    show Steps p.tables e below (s₁.setTop (mkF m 11 #[.val (.long q0), .second, .val (.long q1), .second] [(.long v2)])) _
    exact retOut X0 hx Bd.returns rfl (Or.inr (Or.inl ⟨rfl, rfl, _, rfl⟩)) (hb hby d12_11) hr
  · show Q12 Z q0 q1 h0 n0 _ s₁.heap _
    subst hv2
    exact ⟨rfl, N0, e0⟩
theorem ef_14 (m : MethodId) (p0 : Int32) (p1 : Int32) : entryFrame m #[(.int p0), (.int p1)] 2 = mkF m 0 #[.val (.int p0), .val (.int p1)] [] := by first | (simp [entryFrame, mkF, argsToLocals, Value.category]; done) | rfl
def Q14 (Z : State) (p0 : Int32) (p1 : Int32) (h0 : Heap) (n0 : Nat) (v : Option Value) (h : Heap) (L : List Loc) : Prop := v = some (.int (if p1 < p0 then p1 else p0)) ∧ Fr n0 L ∧ h = h0
set_option maxRecDepth 65536 in
set_option maxHeartbeats 40000000 in
theorem rm14 (l : Launch) (Z : State) (A0 : Array Value) (hw : ∀ d ∈ tables_1, d.before A0 Z = true) (ws : List Jvm.Cond) (p0 : Int32) (p1 : Int32) (h0 : Heap) (n0 : Nat) (Z0 : n0 ≤ h0.size) :
    MetFree l (⟨"java/lang/Math", "min", "(II)I"⟩ : MethodName) (head1 (Jvm.Cond.code (⟨"java/lang/Math", "min", "(II)I"⟩ : MethodName) jdk_29_method_69_code 2 (some .int) :: ws) ({ frames := 0, cells := 0, slots := 0, locals := 0 } : Room)) (fun a U => a = #[(.int p0), (.int p1)] ∧ Z.Warmed39 U.vm ∧ U.heap = h0) (fun _ _ _ _ _ => True) (fun _ U o U' => ∃ v L, o = .returned v ∧ Q14 Z p0 p1 h0 n0 v U'.heap L ∧ FrameEnd U o U' L ({ frames := 0, cells := 0, slots := 0, locals := 0 } : Room).cells ({ frames := 0, cells := 0, slots := 0, locals := 0 } : Room).slots) := by
  refine MetFree.of_bodySF (Jvm.Free.JP.mathPlain rfl (by decide +kernel)) hisR ?_
  intro p e s m args below meth c s₁ Bd hml0 hP hK
  obtain ⟨rfl, hZ, hh⟩ := hP
  have hx := Bd.exec
  have hby := Bd.bytes
  have hml : c.maxLocals = 2 := hml0
  have hown : s.vm.findClass "java/lang/Math" = some m.cls := findClass_of_methodNamed Bd.named
  have hnm := (name_of_methodNamed Bd.named Bd.method).1
  have X0 : Stand p l e ({ frames := 0, cells := 0, slots := 0, locals := 0 } : Room) s m #[(.int p0), (.int p1)] below meth c s₁ [] 0 0 := Stand.of_body Bd
  have e0 : s₁.heap = h0 := by rw [← hh, Bd.state]; rfl
  have N0 := Fr.nil n0
  have pre0 : ∀ t, Steps p.tables e below (s₁.setTop (mkF m 0 #[.val (.int p0), .val (.int p1)] [])) t → Steps p.tables e below (s₁.setTop (entryFrame m #[(.int p0), (.int p1)] 2)) t := fun t k => castTop (ef_14 m p0 p1) k
  obtain ⟨v2, hv2⟩ : ∃ z : Int32, z = if p1 < p0 then p1 else p0 := ⟨_, rfl⟩
  obtain ⟨fs, hr, hrun, hended, hW, hsame⟩ := X0.leave (v := some (.int v2)) (fun h => by rw [Bd.returns] at h; cases h)
  refine ⟨_, _, pre0 _ ?_, hrun, hended, _, _, rfl, ?_, ⟨_, rfl⟩, hW, hsame.mono (by decide) (by decide)⟩
  · show Steps p.tables e below (s₁.setTop (mkF m 0 #[.val (.int p0), .val (.int p1)] [])) _
    refine XS.iloadN X0.here hx rfl (hb hby d14_0) rfl ?_
    show Steps p.tables e below (s₁.setTop (mkF m 1 #[.val (.int p0), .val (.int p1)] [(.int p0)])) _
    refine XS.iloadN X0.here hx rfl (hb hby d14_1) rfl ?_
    show Steps p.tables e below (s₁.setTop (mkF m 2 #[.val (.int p0), .val (.int p1)] [(.int p1), (.int p0)])) _
    refine own_dia (F := (mkF m 10 #[.val (.int p0), .val (.int p1)] [(.int v2)])) ?_ ?_
    · intro kt
      by_cases hc1 : p1 < p0
      · show Steps p.tables e below (s₁.setTop (mkF m 2 #[.val (.int p0), .val (.int p1)] [(.int p1), (.int p0)])) _
        refine XS.icmpYes X0.here hx rfl (pc0 := 2) (pc' := 9) rfl (hb hby d14_2) rfl (tlt hc1).2.2.1 (by decide) (by decide) ?_
        show Steps p.tables e below (s₁.setTop (mkF m 9 #[.val (.int p0), .val (.int p1)] [])) _
        refine XS.iloadN X0.here hx rfl (hb hby d14_9) rfl ?_
        exact castTop (by rw [hv2, if_pos hc1] <;> rfl) kt
      · show Steps p.tables e below (s₁.setTop (mkF m 2 #[.val (.int p0), .val (.int p1)] [(.int p1), (.int p0)])) _
        refine XS.icmpNo X0.here hx rfl (hb hby d14_2) rfl (flt hc1).2.2.1 ?_
        show Steps p.tables e below (s₁.setTop (mkF m 5 #[.val (.int p0), .val (.int p1)] [])) _
        refine XS.iloadN X0.here hx rfl (hb hby d14_5) rfl ?_
        show Steps p.tables e below (s₁.setTop (mkF m 6 #[.val (.int p0), .val (.int p1)] [(.int p0)])) _
        refine XS.goto X0.here hx rfl (pc0 := 6) (pc' := 10) rfl (hb hby d14_6) (by decide) (by decide) ?_
        exact castTop (by rw [hv2, if_neg hc1] <;> rfl) kt
    show Steps p.tables e below (s₁.setTop (mkF m 10 #[.val (.int p0), .val (.int p1)] [(.int v2)])) _
    exact retOut X0 hx Bd.returns rfl (Or.inl ⟨rfl, Or.inl rfl, _, rfl⟩) (hb hby d14_10) hr
  · show Q14 Z p0 p1 h0 n0 _ s₁.heap _
    subst hv2
    exact ⟨rfl, N0, e0⟩

theorem own_le_len {n : Nat} {p : Int32} (hn : n < 2147483648) (hle : ¬ p < Int32.ofNat n) : n ≤ p.toNatClampNeg := by
  rw [Int32.lt_iff_toInt_lt, Int32.toInt_ofNat_of_lt hn] at hle
  have : p.toNatClampNeg = p.toInt.toNat := rfl
  omega

theorem ef_13 (m : MethodId) (a0 : Addr) (p1 : Int32) : entryFrame m #[(.ref a0), (.int p1)] 3 = mkF m 0 #[.val (.ref a0), .val (.int p1), .unset] [] := by first | (simp [entryFrame, mkF, argsToLocals, Value.category]; done) | rfl
def Q13 (Z : State) (a0 : Addr) (p1 : Int32) (n_a0 : Nat) (g_a0 : Nat → Int32) (h0 : Heap) (n0 : Nat) (v : Option Value) (h : Heap) (L : List Loc) : Prop := ∃ b1 : Addr, v = some (.ref b1) ∧ Fr n0 L ∧ Keep h0 h [] ∧ h0.size ≤ b1 ∧ AF Z h b1 .byte (p1).toNatClampNeg (fun j => .int ((fun j => if j < n_a0 then g_a0 j else (fun _ => (0 : Int32)) j) j))
set_option maxRecDepth 65536 in
set_option maxHeartbeats 40000000 in
theorem rm13 (l : Launch) (Z : State) (A0 : Array Value) (hw : ∀ d ∈ tables_1, d.before A0 Z = true) (ws : List Jvm.Cond) (a0 : Addr) (p1 : Int32) (n_a0 : Nat) (g_a0 : Nat → Int32) (h0 : Heap) (n0 : Nat) (Z0 : n0 ≤ h0.size) (A_a0 : AF Z h0 a0 .byte n_a0 (fun j => .int (g_a0 j))) (hc3 : ¬ (p1 = (Int32.ofNat n_a0))) (hneg : ¬ p1 < (0 : Int32)) (hcap : p1.toNatClampNeg ≤ 64) (hle : ¬ (p1 < (Int32.ofNat n_a0))) (hfit : ∀ j, j < n_a0 → fits .byte (.int (g_a0 j)) = true) :
    MetFree l (⟨"java/util/Arrays", "copyOf", "([BI)[B"⟩ : MethodName) (head1 (Jvm.Cond.code (⟨"java/util/Arrays", "copyOf", "([BI)[B"⟩ : MethodName) jdk_65_method_121_code 3 (some (.array .byte)) :: ws) ({ frames := 1, cells := 1, slots := 64, locals := 40 } : Room)) (fun a U => a = #[(.ref a0), (.int p1)] ∧ Z.Warmed39 U.vm ∧ U.heap = h0) (fun _ _ _ _ _ => True) (fun _ U o U' => ∃ v L, o = .returned v ∧ Q13 Z a0 p1 n_a0 g_a0 h0 n0 v U'.heap L ∧ FrameEnd U o U' L ({ frames := 1, cells := 1, slots := 64, locals := 40 } : Room).cells ({ frames := 1, cells := 1, slots := 64, locals := 40 } : Room).slots) := by
  refine MetFree.of_bodySF (plainFor_of_name pn_13) hisR ?_
  intro p e s m args below meth c s₁ Bd hml0 hP hK
  obtain ⟨rfl, hZ, hh⟩ := hP
  have hx := Bd.exec
  have hby := Bd.bytes
  have hml : c.maxLocals = 3 := hml0
  have hown : s.vm.findClass "java/util/Arrays" = some m.cls := findClass_of_methodNamed Bd.named
  have hnm := (name_of_methodNamed Bd.named Bd.method).1
  have X0 : Stand p l e ({ frames := 1, cells := 1, slots := 64, locals := 40 } : Room) s m #[(.ref a0), (.int p1)] below meth c s₁ [] 0 0 := Stand.of_body Bd
  have e0 : s₁.heap = h0 := by rw [← hh, Bd.state]; rfl
  have N0 := Fr.nil n0
  have pre0 : ∀ t, Steps p.tables e below (s₁.setTop (mkF m 0 #[.val (.ref a0), .val (.int p1), .unset] [])) t → Steps p.tables e below (s₁.setTop (entryFrame m #[(.ref a0), (.int p1)] 3)) t := fun t k => castTop (ef_13 m a0 p1) k
  obtain ⟨T1, h1, k1, X1, e1, E1, A1, st1⟩ := newP X0 hx hZ (hw _ (List.mem_of_getElem? (i := 10) rfl)) e0 (g := (mkF m 15 #[.val (.ref a0), .val (.int p1), .unset] [(.int p1)])) rfl (hb hby d13_15) rfl hneg (cap := 64) hcap (by decide) (by decide) (by decide)
  obtain ⟨b1, g1⟩ : ∃ z, z = h0.size := ⟨_, rfl⟩
  rw [← g1] at A1 st1
  have ne_a0_b1 : a0 ≠ b1 := Nat.ne_of_lt (Nat.lt_of_lt_of_le A_a0.lt (Nat.le_of_eq g1.symm))
  have nw_b1 : n0 ≤ b1 := Nat.le_trans (Nat.le_trans Z0 (Keep.refl h0 []).1) (Nat.le_of_eq g1.symm)
  have sz_b1 : h0.size ≤ b1 := Nat.le_trans (Keep.refl h0 []).1 (Nat.le_of_eq g1.symm)
  have K1 : Keep h0 h1 [] := (Keep.refl h0 []).ext E1
  have V1 : AF Z h1 b1 .byte (p1).toNatClampNeg (fun j => .int ((fun _ => (0 : Int32)) j)) := AF.new A1 hneg
  have G2 : AF Z h1 a0 .byte n_a0 (fun j => .int (g_a0 j)) := (A_a0.ext E1)
  obtain ⟨_, _, ⟨T3, L3, k3, n3⟩, -, X3, ⟨Lc3, hQ3, l3, y3, z3⟩, st3⟩ := Jvm.LawKit.callS X1 hx (y := (⟨"java/lang/Math", "min", "(II)I"⟩ : MethodName)) hown (mvT hZ (hw _ (List.mem_of_getElem? (i := 78) rfl))) (mvT hZ (hw _ (List.mem_of_getElem? (i := 79) rfl))) (mvT hZ (hw _ (List.mem_of_getElem? (i := 69) rfl))) (mvT hZ (hw _ (List.mem_of_getElem? (i := 80) rfl))) (by decide) (backOf (W := 4) (rm14 l Z A0 hw [] (Int32.ofNat n_a0) p1 h1 n0 (Nat.le_trans Z0 K1.1) ) hZ (hw _ (List.mem_of_getElem? (i := 80) rfl)) (hw _ (List.mem_of_getElem? (i := 69) rfl)) (by decide) (by decide)) (g := (mkF m 25 #[.val (.ref a0), .val (.int p1), .val (.ref b1)] [(.int p1), (.int (Int32.ofNat n_a0)), (.int (0 : Int32)), (.ref b1), (.int (0 : Int32)), (.ref a0)])) rfl (by rw [hml]; rfl) (argsL := [(.int (Int32.ofNat n_a0)), (.int p1)]) (rest := [(.int (0 : Int32)), (.ref b1), (.int (0 : Int32)), (.ref a0)]) (lenOf pd_10 rfl) rfl (by show 2 * 0 + _ ≤ _; exact Nat.le_of_eq rfl) (hb hby d13_25) (fun _ _ => ⟨rfl, e1, (by decide : 1 + 0 ≤ _), (by decide : 64 + 0 ≤ _)⟩)
  dsimp only [Pt.U, Pt.locs, Pt.cells, Pt.slots] at X3 l3 y3 z3 st3 hQ3
  subst l3 y3 z3
  obtain ⟨rfl, N3q, e3⟩ := hQ3
  have N3 := Fr.app N0 N3q
  obtain ⟨T4, h4, L4, X4, e4, M4, Kc4, A4, st4⟩ := AF.copy X3 hx hZ (index := 150) hown (own_acW (mvT hZ (hw _ (List.mem_of_getElem? (i := 81) rfl))) (mvT hZ (hw _ (List.mem_of_getElem? (i := 84) rfl))) (mvT hZ (hw _ (List.mem_of_getElem? (i := 82) rfl))) (mvT hZ (hw _ (List.mem_of_getElem? (i := 83) rfl)))) e3 G2 V1 rfl (cnt := n_a0) hfit (Nat.le_refl _) (own_le_len A_a0.small hle) (if_neg hle) (g := (mkF m 28 #[.val (.ref a0), .val (.int p1), .val (.ref b1)] [(.int (if p1 < (Int32.ofNat n_a0) then p1 else (Int32.ofNat n_a0))), (.int (0 : Int32)), (.ref b1), (.int (0 : Int32)), (.ref a0)])) rfl (by rw [hml]; rfl) (rest := []) rfl (hb hby d13_28) (W := 0) (by show 2 * 0 + _ ≤ _; exact Nat.le_of_eq rfl) (by decide) (by decide)
  have K4 : Keep h0 h4 [] := K1.trans Kc4 (allS (Or.inr sz_b1) all0)
  have N4 := Fr.app N3 (fun y hy => by rw [M4 y hy]; exact nw_b1 : Fr n0 L4)
  obtain ⟨f5, hf5⟩ : ∃ f : Nat → Int32, f = (fun j => if j < n_a0 then g_a0 j else (fun _ => (0 : Int32)) j) := ⟨_, rfl⟩
  have V4 : AF Z h4 b1 .byte (p1).toNatClampNeg (fun j => .int (f5 j)) := AF.cong A4 (own_cpyI hf5)
  obtain ⟨fs, hr, hrun, hended, hW, hsame⟩ := X4.leave (v := some (.ref b1)) (fun h => by rw [Bd.returns] at h; cases h)
  refine ⟨_, _, pre0 _ ?_, hrun, hended, _, _, rfl, ?_, ⟨_, rfl⟩, hW, hsame.mono (by decide) (by decide)⟩
  · show Steps p.tables e below (s₁.setTop (mkF m 0 #[.val (.ref a0), .val (.int p1), .unset] [])) _
    refine XS.iloadN X0.here hx rfl (hb hby d13_0) rfl ?_
    show Steps p.tables e below (s₁.setTop (mkF m 1 #[.val (.ref a0), .val (.int p1), .unset] [(.int p1)])) _
    refine XS.aloadN X0.here hx rfl (hb hby d13_1) rfl rfl ?_
    show Steps p.tables e below (s₁.setTop (mkF m 2 #[.val (.ref a0), .val (.int p1), .unset] [(.ref a0), (.int p1)])) _
    refine AF.len X0 hx hZ e0 A_a0 (g := (mkF m 2 #[.val (.ref a0), .val (.int p1), .unset] [(.ref a0), (.int p1)])) rfl rfl (hb hby d13_2) _ ?_
    show Steps p.tables e below (s₁.setTop (mkF m 3 #[.val (.ref a0), .val (.int p1), .unset] [(.int (Int32.ofNat n_a0)), (.int p1)])) _
    refine XS.icmpYes X0.here hx rfl (pc0 := 3) (pc' := 14) rfl (hb hby d13_3) rfl (feq hc3).2 (by decide) (by decide) ?_
    show Steps p.tables e below (s₁.setTop (mkF m 14 #[.val (.ref a0), .val (.int p1), .unset] [])) _
    refine XS.iloadN X0.here hx rfl (hb hby d13_14) rfl ?_
    show Steps p.tables e below (s₁.setTop (mkF m 15 #[.val (.ref a0), .val (.int p1), .unset] [(.int p1)])) _
    refine st1 _ ?_
    show Steps p.tables e below (T1.setTop (mkF m 17 #[.val (.ref a0), .val (.int p1), .unset] [(.ref b1)])) _
    refine XS.astoreN X1.here hx rfl (hb hby d13_17) rfl rfl (l' := #[.val (.ref a0), .val (.int p1), .val (.ref b1)]) rfl ?_
    show Steps p.tables e below (T1.setTop (mkF m 18 #[.val (.ref a0), .val (.int p1), .val (.ref b1)] [])) _
    refine XS.aloadN X1.here hx rfl (hb hby d13_18) rfl rfl ?_
    show Steps p.tables e below (T1.setTop (mkF m 19 #[.val (.ref a0), .val (.int p1), .val (.ref b1)] [(.ref a0)])) _
    refine XS.iconst X1.here hx rfl (hb hby d13_19) ?_
    show Steps p.tables e below (T1.setTop (mkF m 20 #[.val (.ref a0), .val (.int p1), .val (.ref b1)] [(.int (0 : Int32)), (.ref a0)])) _
    refine XS.aloadN X1.here hx rfl (hb hby d13_20) rfl rfl ?_
    show Steps p.tables e below (T1.setTop (mkF m 21 #[.val (.ref a0), .val (.int p1), .val (.ref b1)] [(.ref b1), (.int (0 : Int32)), (.ref a0)])) _
    refine XS.iconst X1.here hx rfl (hb hby d13_21) ?_
    show Steps p.tables e below (T1.setTop (mkF m 22 #[.val (.ref a0), .val (.int p1), .val (.ref b1)] [(.int (0 : Int32)), (.ref b1), (.int (0 : Int32)), (.ref a0)])) _
    refine XS.aloadN X1.here hx rfl (hb hby d13_22) rfl rfl ?_
    show Steps p.tables e below (T1.setTop (mkF m 23 #[.val (.ref a0), .val (.int p1), .val (.ref b1)] [(.ref a0), (.int (0 : Int32)), (.ref b1), (.int (0 : Int32)), (.ref a0)])) _
    refine AF.len X1 hx hZ e1 G2 (g := (mkF m 23 #[.val (.ref a0), .val (.int p1), .val (.ref b1)] [(.ref a0), (.int (0 : Int32)), (.ref b1), (.int (0 : Int32)), (.ref a0)])) rfl rfl (hb hby d13_23) _ ?_
    show Steps p.tables e below (T1.setTop (mkF m 24 #[.val (.ref a0), .val (.int p1), .val (.ref b1)] [(.int (Int32.ofNat n_a0)), (.int (0 : Int32)), (.ref b1), (.int (0 : Int32)), (.ref a0)])) _
    refine XS.iloadN X1.here hx rfl (hb hby d13_24) rfl ?_
    show Steps p.tables e below (T1.setTop (mkF m 25 #[.val (.ref a0), .val (.int p1), .val (.ref b1)] [(.int p1), (.int (Int32.ofNat n_a0)), (.int (0 : Int32)), (.ref b1), (.int (0 : Int32)), (.ref a0)])) _
    refine st3 _ ?_
    show Steps p.tables e below (T3.setTop (mkF m 28 #[.val (.ref a0), .val (.int p1), .val (.ref b1)] [(.int (if p1 < (Int32.ofNat n_a0) then p1 else (Int32.ofNat n_a0))), (.int (0 : Int32)), (.ref b1), (.int (0 : Int32)), (.ref a0)])) _
    refine st4 _ ?_
    show Steps p.tables e below (T4.setTop (mkF m 31 #[.val (.ref a0), .val (.int p1), .val (.ref b1)] [])) _
    refine XS.aloadN X4.here hx rfl (hb hby d13_31) rfl rfl ?_
    show Steps p.tables e below (T4.setTop (mkF m 32 #[.val (.ref a0), .val (.int p1), .val (.ref b1)] [(.ref b1)])) _
    exact retOut X4 hx Bd.returns rfl (Or.inr (Or.inr (Or.inr (Or.inr ⟨rfl, rfl, rfl⟩)))) (hb hby d13_32) hr
  · show Q13 Z a0 p1 n_a0 g_a0 h0 n0 _ T4.heap _
    rw [e4]
    subst hf5
    exact ⟨b1, rfl, N4, K4, sz_b1, V4⟩
def own_nl (n_w_bytes_a0 : Nat) (w_length_a0 p1 : Int32) : Int32 := ((if (if ((2 : Int64) * ((Int32.ofNat n_w_bytes_a0).toInt64)) < ((w_length_a0.toInt64) + (p1.toInt64)) then ((w_length_a0.toInt64) + (p1.toInt64)) else ((2 : Int64) * ((Int32.ofNat n_w_bytes_a0).toInt64))) < (2147483639 : Int64) then (if ((2 : Int64) * ((Int32.ofNat n_w_bytes_a0).toInt64)) < ((w_length_a0.toInt64) + (p1.toInt64)) then ((w_length_a0.toInt64) + (p1.toInt64)) else ((2 : Int64) * ((Int32.ofNat n_w_bytes_a0).toInt64))) else (2147483639 : Int64)).toInt32)

theorem own_nl_int (n : Nat) (len p : Int32) (hn : n ≤ 64) (h0 : 0 ≤ len.toInt) (h1 : len.toInt ≤ 64) (h2 : 0 ≤ p.toInt) (h3 : p.toInt ≤ 64) : (own_nl n len p).toInt = max (2 * (n : Int)) (len.toInt + p.toInt) := by
  unfold own_nl
  have kn : (Int32.ofNat n).toInt = n := Int32.toInt_ofNat_of_lt (by omega)
  have e1 : ((2 : Int64) * ((Int32.ofNat n).toInt64)).toInt = 2 * n := by
    have m := c_lmul 2 ((Int32.ofNat n).toInt64)
    have r := rng64 ((2 : Int64) * ((Int32.ofNat n).toInt64))
    have k2 : (2 : Int64).toInt = 2 := by decide
    rw [c_i2l, kn, k2] at m
    omega
  have e2 : ((len.toInt64) + (p.toInt64)).toInt = len.toInt + p.toInt := by
    have m := c_ladd len.toInt64 p.toInt64
    have r := rng64 ((len.toInt64) + (p.toInt64))
    rw [c_i2l, c_i2l] at m
    omega
  have kM : (2147483639 : Int64).toInt = 2147483639 := by decide
  generalize (2 : Int64) * ((Int32.ofNat n).toInt64) = x at *
  generalize (len.toInt64) + (p.toInt64) = y at *
  have e3 : (if x < y then y else x).toInt = max (2 * (n : Int)) (len.toInt + p.toInt) := by
    by_cases c : x < y
    · rw [if_pos c]; rw [Int64.lt_iff_toInt_lt] at c; omega
    · rw [if_neg c]; rw [Int64.lt_iff_toInt_lt] at c; omega
  generalize (if x < y then y else x) = z at *
  have c : z < (2147483639 : Int64) := by rw [Int64.lt_iff_toInt_lt, kM]; omega
  rw [if_pos c]
  have m := c_l2i z
  have r := rng32 z.toInt32
  omega

theorem ef_10g (m : MethodId) (a0 : Addr) (p1 : Int32) : entryFrame m #[(.ref a0), (.int p1)] 2 = mkF m 0 #[.val (.ref a0), .val (.int p1)] [] := by first | (simp [entryFrame, mkF, argsToLocals, Value.category]; done) | rfl
def Q10g (Z : State) (a0 : Addr) (p1 : Int32) (w_bytes_a0 : Addr) (w_length_a0 : Int32) (w_afterValue_a0 : Int32) (n_w_bytes_a0 : Nat) (g_w_bytes_a0 : Nat → Int32) (h0 : Heap) (n0 : Nat) (v : Option Value) (h : Heap) (L : List Loc) : Prop := ∃ b9_b1 : Addr, v = none ∧ Fr n0 L ∧ Keep h0 h [a0] ∧ h0.size ≤ b9_b1 ∧ Exa Z h a0 "com/example/commitlog/commitlog/codec/JsonWriter" ∧ Fld Z h a0 "com/example/commitlog/commitlog/codec/JsonWriter" "bytes" "[B" (.ref b9_b1) ∧ Fld Z h a0 "com/example/commitlog/commitlog/codec/JsonWriter" "length" "I" (.int w_length_a0) ∧ Fld Z h a0 "com/example/commitlog/commitlog/codec/JsonWriter" "afterValue" "Z" (.int w_afterValue_a0) ∧ AF Z h b9_b1 .byte ((own_nl n_w_bytes_a0 w_length_a0 p1)).toNatClampNeg (fun j => .int ((fun j => if j < n_w_bytes_a0 then g_w_bytes_a0 j else (fun _ => (0 : Int32)) j) j))
set_option maxRecDepth 65536 in
set_option maxHeartbeats 40000000 in
theorem rm10g (l : Launch) (Z : State) (A0 : Array Value) (hw : ∀ d ∈ tables_1, d.before A0 Z = true) (ws : List Jvm.Cond) (a0 : Addr) (p1 : Int32) (w_bytes_a0 : Addr) (w_length_a0 : Int32) (w_afterValue_a0 : Int32) (n_w_bytes_a0 : Nat) (g_w_bytes_a0 : Nat → Int32) (h0 : Heap) (n0 : Nat) (Z0 : n0 ≤ h0.size) (E_a0 : Exa Z h0 a0 "com/example/commitlog/commitlog/codec/JsonWriter") (F_bytes_a0 : Fld Z h0 a0 "com/example/commitlog/commitlog/codec/JsonWriter" "bytes" "[B" (.ref w_bytes_a0)) (F_length_a0 : Fld Z h0 a0 "com/example/commitlog/commitlog/codec/JsonWriter" "length" "I" (.int w_length_a0)) (F_afterValue_a0 : Fld Z h0 a0 "com/example/commitlog/commitlog/codec/JsonWriter" "afterValue" "Z" (.int w_afterValue_a0)) (A_w_bytes_a0 : AF Z h0 w_bytes_a0 .byte n_w_bytes_a0 (fun j => .int (g_w_bytes_a0 j))) (nw_a0 : n0 ≤ a0) (hc11 : ((Int32.ofNat n_w_bytes_a0) - w_length_a0) < p1) (hc3_47 : ¬ ((own_nl n_w_bytes_a0 w_length_a0 p1) = (Int32.ofNat n_w_bytes_a0))) (hneg_47 : ¬ (own_nl n_w_bytes_a0 w_length_a0 p1) < (0 : Int32)) (hcap_47 : (own_nl n_w_bytes_a0 w_length_a0 p1).toNatClampNeg ≤ 64) (hle_47 : ¬ ((own_nl n_w_bytes_a0 w_length_a0 p1) < (Int32.ofNat n_w_bytes_a0))) (hfit_47 : ∀ j, j < n_w_bytes_a0 → fits .byte (.int (g_w_bytes_a0 j)) = true) :
    MetFree l (⟨"com/example/commitlog/commitlog/codec/JsonWriter", "room", "(I)V"⟩ : MethodName) (head1 (Jvm.Cond.code (⟨"com/example/commitlog/commitlog/codec/JsonWriter", "room", "(I)V"⟩ : MethodName) prog_9_method_19_code 2 none :: ws) ({ frames := 2, cells := 1, slots := 64, locals := 55 } : Room)) (fun a U => a = #[(.ref a0), (.int p1)] ∧ Z.Warmed39 U.vm ∧ U.heap = h0) (fun _ _ _ _ _ => True) (fun _ U o U' => ∃ v L, o = .returned v ∧ Q10g Z a0 p1 w_bytes_a0 w_length_a0 w_afterValue_a0 n_w_bytes_a0 g_w_bytes_a0 h0 n0 v U'.heap L ∧ FrameEnd U o U' L ({ frames := 2, cells := 1, slots := 64, locals := 55 } : Room).cells ({ frames := 2, cells := 1, slots := 64, locals := 55 } : Room).slots) := by
  refine MetFree.of_bodySF (plainFor_of_name pn_10) hisR ?_
  intro p e s m args below meth c s₁ Bd hml0 hP hK
  obtain ⟨rfl, hZ, hh⟩ := hP
  have hx := Bd.exec
  have hby := Bd.bytes
  have hml : c.maxLocals = 2 := hml0
  have hown : s.vm.findClass "com/example/commitlog/commitlog/codec/JsonWriter" = some m.cls := findClass_of_methodNamed Bd.named
  have hnm := (name_of_methodNamed Bd.named Bd.method).1
  have X0 : Stand p l e ({ frames := 2, cells := 1, slots := 64, locals := 55 } : Room) s m #[(.ref a0), (.int p1)] below meth c s₁ [] 0 0 := Stand.of_body Bd
  have e0 : s₁.heap = h0 := by rw [← hh, Bd.state]; rfl
  have N0 := Fr.nil n0
  have pre0 : ∀ t, Steps p.tables e below (s₁.setTop (mkF m 0 #[.val (.ref a0), .val (.int p1)] [])) t → Steps p.tables e below (s₁.setTop (entryFrame m #[(.ref a0), (.int p1)] 2)) t := fun t k => castTop (ef_10g m a0 p1) k
  obtain ⟨T1, X1, e1, st1⟩ := getF X0 hx hZ hown (host := "") (Or.inl (hw _ (List.mem_of_getElem? (i := 11) rfl))) Via.refl e0 F_bytes_a0 (g := (mkF m 1 #[.val (.ref a0), .val (.int p1)] [(.ref a0)])) rfl rfl (hb hby d10_1)
  obtain ⟨T2, X2, e2, st2⟩ := getF X1 hx hZ hown (host := "") (Or.inl (hw _ (List.mem_of_getElem? (i := 23) rfl))) Via.refl e1 F_length_a0 (g := (mkF m 6 #[.val (.ref a0), .val (.int p1)] [(.ref a0), (.int (Int32.ofNat n_w_bytes_a0))])) rfl rfl (hb hby d10_6)
  obtain ⟨T3, X3, e3, st3⟩ := getF X2 hx hZ hown (host := "") (Or.inl (hw _ (List.mem_of_getElem? (i := 11) rfl))) Via.refl e2 F_bytes_a0 (g := (mkF m 16 #[.val (.ref a0), .val (.int p1)] [(.ref a0), (.ref a0)])) rfl rfl (hb hby d10_16)
  obtain ⟨T4, X4, e4, st4⟩ := getF X3 hx hZ hown (host := "") (Or.inl (hw _ (List.mem_of_getElem? (i := 11) rfl))) Via.refl e3 F_bytes_a0 (g := (mkF m 26 #[.val (.ref a0), .val (.int p1)] [(.ref a0), (.long (2 : Int64)), (.long (2147483639 : Int64)), (.ref w_bytes_a0), (.ref a0)])) rfl rfl (hb hby d10_26)
  obtain ⟨T5, X5, e5, st5⟩ := getF X4 hx hZ hown (host := "") (Or.inl (hw _ (List.mem_of_getElem? (i := 23) rfl))) Via.refl e4 F_length_a0 (g := (mkF m 33 #[.val (.ref a0), .val (.int p1)] [(.ref a0), (.long ((2 : Int64) * ((Int32.ofNat n_w_bytes_a0).toInt64))), (.long (2147483639 : Int64)), (.ref w_bytes_a0), (.ref a0)])) rfl rfl (hb hby d10_33)
  obtain ⟨_, _, ⟨T6, L6, k6, n6⟩, -, X6, ⟨Lc6, hQ6, l6, y6, z6⟩, st6⟩ := Jvm.LawKit.callS X5 hx (y := (⟨"java/lang/Math", "max", "(JJ)J"⟩ : MethodName)) hown (mvT hZ (hw _ (List.mem_of_getElem? (i := 67) rfl))) (mvT hZ (hw _ (List.mem_of_getElem? (i := 68) rfl))) (mvT hZ (hw _ (List.mem_of_getElem? (i := 69) rfl))) (mvT hZ (hw _ (List.mem_of_getElem? (i := 70) rfl))) (by decide) (backOf (W := 4) (rm11 l Z A0 hw [] ((2 : Int64) * ((Int32.ofNat n_w_bytes_a0).toInt64)) ((w_length_a0.toInt64) + (p1.toInt64)) h0 n0 (Nat.le_trans Z0 (Keep.refl h0 [a0]).1) ) hZ (hw _ (List.mem_of_getElem? (i := 70) rfl)) (hw _ (List.mem_of_getElem? (i := 69) rfl)) (by decide) (by decide)) (g := (mkF m 40 #[.val (.ref a0), .val (.int p1)] [(.long ((w_length_a0.toInt64) + (p1.toInt64))), (.long ((2 : Int64) * ((Int32.ofNat n_w_bytes_a0).toInt64))), (.long (2147483639 : Int64)), (.ref w_bytes_a0), (.ref a0)])) rfl (by rw [hml]; rfl) (argsL := [(.long ((2 : Int64) * ((Int32.ofNat n_w_bytes_a0).toInt64))), (.long ((w_length_a0.toInt64) + (p1.toInt64)))]) (rest := [(.long (2147483639 : Int64)), (.ref w_bytes_a0), (.ref a0)]) (lenOf pd_8 rfl) rfl (by show 2 * 0 + _ ≤ _; exact Nat.le_of_eq rfl) (hb hby d10_40) (fun _ _ => ⟨rfl, e5, (by decide : 0 + 0 ≤ _), (by decide : 0 + 0 ≤ _)⟩)
  dsimp only [Pt.U, Pt.locs, Pt.cells, Pt.slots] at X6 l6 y6 z6 st6 hQ6
  subst l6 y6 z6
  obtain ⟨rfl, N6q, e6⟩ := hQ6
  have N6 := Fr.app N0 N6q
  obtain ⟨_, _, ⟨T7, L7, k7, n7⟩, -, X7, ⟨Lc7, hQ7, l7, y7, z7⟩, st7⟩ := Jvm.LawKit.callS X6 hx (y := (⟨"java/lang/Math", "min", "(JJ)J"⟩ : MethodName)) hown (mvT hZ (hw _ (List.mem_of_getElem? (i := 71) rfl))) (mvT hZ (hw _ (List.mem_of_getElem? (i := 72) rfl))) (mvT hZ (hw _ (List.mem_of_getElem? (i := 69) rfl))) (mvT hZ (hw _ (List.mem_of_getElem? (i := 73) rfl))) (by decide) (backOf (W := 2) (rm12 l Z A0 hw [] (2147483639 : Int64) (if ((2 : Int64) * ((Int32.ofNat n_w_bytes_a0).toInt64)) < ((w_length_a0.toInt64) + (p1.toInt64)) then ((w_length_a0.toInt64) + (p1.toInt64)) else ((2 : Int64) * ((Int32.ofNat n_w_bytes_a0).toInt64))) h0 n0 (Nat.le_trans Z0 (Keep.refl h0 [a0]).1) ) hZ (hw _ (List.mem_of_getElem? (i := 73) rfl)) (hw _ (List.mem_of_getElem? (i := 69) rfl)) (by decide) (by decide)) (g := (mkF m 43 #[.val (.ref a0), .val (.int p1)] [(.long (if ((2 : Int64) * ((Int32.ofNat n_w_bytes_a0).toInt64)) < ((w_length_a0.toInt64) + (p1.toInt64)) then ((w_length_a0.toInt64) + (p1.toInt64)) else ((2 : Int64) * ((Int32.ofNat n_w_bytes_a0).toInt64)))), (.long (2147483639 : Int64)), (.ref w_bytes_a0), (.ref a0)])) rfl (by rw [hml]; rfl) (argsL := [(.long (2147483639 : Int64)), (.long (if ((2 : Int64) * ((Int32.ofNat n_w_bytes_a0).toInt64)) < ((w_length_a0.toInt64) + (p1.toInt64)) then ((w_length_a0.toInt64) + (p1.toInt64)) else ((2 : Int64) * ((Int32.ofNat n_w_bytes_a0).toInt64))))]) (rest := [(.ref w_bytes_a0), (.ref a0)]) (lenOf pd_8 rfl) rfl (by show 2 * 0 + _ ≤ _; exact Nat.le_of_eq rfl) (hb hby d10_43) (fun _ _ => ⟨rfl, e6, (by decide : 0 + 0 ≤ _), (by decide : 0 + 0 ≤ _)⟩)
  dsimp only [Pt.U, Pt.locs, Pt.cells, Pt.slots] at X7 l7 y7 z7 st7 hQ7
  subst l7 y7 z7
  obtain ⟨rfl, N7q, e7⟩ := hQ7
  have N7 := Fr.app N6 N7q
  have hq8 : ((if (if ((2 : Int64) * ((Int32.ofNat n_w_bytes_a0).toInt64)) < ((w_length_a0.toInt64) + (p1.toInt64)) then ((w_length_a0.toInt64) + (p1.toInt64)) else ((2 : Int64) * ((Int32.ofNat n_w_bytes_a0).toInt64))) < (2147483639 : Int64) then (if ((2 : Int64) * ((Int32.ofNat n_w_bytes_a0).toInt64)) < ((w_length_a0.toInt64) + (p1.toInt64)) then ((w_length_a0.toInt64) + (p1.toInt64)) else ((2 : Int64) * ((Int32.ofNat n_w_bytes_a0).toInt64))) else (2147483639 : Int64)).toInt32) = (own_nl n_w_bytes_a0 w_length_a0 p1) := rfl
  obtain ⟨_, _, ⟨T9, L9, k9, n9⟩, -, X9, ⟨Lc9, hQ9, l9, y9, z9⟩, st9⟩ := Jvm.LawKit.callS X7 hx (y := (⟨"java/util/Arrays", "copyOf", "([BI)[B"⟩ : MethodName)) hown (mvT hZ (hw _ (List.mem_of_getElem? (i := 74) rfl))) (mvT hZ (hw _ (List.mem_of_getElem? (i := 75) rfl))) (mvT hZ (hw _ (List.mem_of_getElem? (i := 76) rfl))) (mvT hZ (hw _ (List.mem_of_getElem? (i := 77) rfl))) (by decide) (backOf (W := 1) (rm13 l Z A0 hw [] w_bytes_a0 (own_nl n_w_bytes_a0 w_length_a0 p1) n_w_bytes_a0 g_w_bytes_a0 h0 n0 (Nat.le_trans Z0 (Keep.refl h0 [a0]).1) A_w_bytes_a0 hc3_47 hneg_47 hcap_47 hle_47 hfit_47) hZ (hw _ (List.mem_of_getElem? (i := 77) rfl)) (hw _ (List.mem_of_getElem? (i := 76) rfl)) (by decide) (by decide)) (g := (mkF m 47 #[.val (.ref a0), .val (.int p1)] [(.int (own_nl n_w_bytes_a0 w_length_a0 p1)), (.ref w_bytes_a0), (.ref a0)])) rfl (by rw [hml]; rfl) (argsL := [(.ref w_bytes_a0), (.int (own_nl n_w_bytes_a0 w_length_a0 p1))]) (rest := [(.ref a0)]) (lenOf pd_9 rfl) rfl (by show 2 * 0 + _ ≤ _; exact Nat.le_of_eq rfl) (hb hby d10_47) (fun _ _ => ⟨rfl, e7, (by decide : 0 + 1 ≤ _), (by decide : 0 + 64 ≤ _)⟩)
  dsimp only [Pt.U, Pt.locs, Pt.cells, Pt.slots] at X9 l9 y9 z9 st9 hQ9
  subst l9 y9 z9
  obtain ⟨b9_b1, rfl, N9q, Kc9, szb9_b1, P10⟩ := hQ9
  have ne_a0_b9_b1 : a0 ≠ b9_b1 := Nat.ne_of_lt (Nat.lt_of_lt_of_le E_a0.lt szb9_b1)
  have ne_w_bytes_a0_b9_b1 : w_bytes_a0 ≠ b9_b1 := Nat.ne_of_lt (Nat.lt_of_lt_of_le A_w_bytes_a0.lt szb9_b1)
  have nw_b9_b1 : n0 ≤ b9_b1 := Nat.le_trans (Nat.le_trans Z0 (Keep.refl h0 [a0]).1) szb9_b1
  have sq_b9_b1 : h0.size ≤ b9_b1 := Nat.le_trans (Keep.refl h0 [a0]).1 szb9_b1
  have K9 : Keep h0 T9.heap [a0] := (Keep.refl h0 [a0]).trans Kc9 all0
  have N9 := Fr.app N7 N9q
  have G11 : Exa Z T9.heap a0 "com/example/commitlog/commitlog/codec/JsonWriter" := (E_a0.keep Kc9)
  have G12 : Fld Z T9.heap a0 "com/example/commitlog/commitlog/codec/JsonWriter" "bytes" "[B" (.ref w_bytes_a0) := (F_bytes_a0.keep Kc9 nin0)
  obtain ⟨T13, h13, X13, e13, W13, st13⟩ := putF X9 hx hZ hown (host := "") (Or.inl (hw _ (List.mem_of_getElem? (i := 11) rfl))) Via.refl rfl G12 G11 (Or.inl (hw _ (List.mem_of_getElem? (i := 12) rfl))) (hw _ (List.mem_of_getElem? (i := 2) rfl)) (ty := (.array .byte)) (by decide) rfl rfl (g := (mkF m 50 #[.val (.ref a0), .val (.int p1)] [(.ref b9_b1), (.ref a0)])) rfl rfl (hb hby d10_50)
  have K13 : Keep h0 h13 [a0] := K9.wr W13 (Or.inl (by simp))
  have Fw13 : Fld Z h13 a0 "com/example/commitlog/commitlog/codec/JsonWriter" "bytes" "[B" (.ref b9_b1) := G12.same W13
  have N13 := Fr.snoc X13 N9 nw_a0
  obtain ⟨fs, hr, hrun, hended, hW, hsame⟩ := X13.leave (v := none) (fun _ => rfl)
  refine ⟨_, _, pre0 _ ?_, hrun, hended, _, _, rfl, ?_, ⟨_, rfl⟩, hW, hsame.mono (by decide) (by decide)⟩
  · show Steps p.tables e below (s₁.setTop (mkF m 0 #[.val (.ref a0), .val (.int p1)] [])) _
    refine XS.aloadN X0.here hx rfl (hb hby d10_0) rfl rfl ?_
    show Steps p.tables e below (s₁.setTop (mkF m 1 #[.val (.ref a0), .val (.int p1)] [(.ref a0)])) _
    refine st1 _ ?_
    show Steps p.tables e below (T1.setTop (mkF m 4 #[.val (.ref a0), .val (.int p1)] [(.ref w_bytes_a0)])) _
    refine AF.len X1 hx hZ e1 A_w_bytes_a0 (g := (mkF m 4 #[.val (.ref a0), .val (.int p1)] [(.ref w_bytes_a0)])) rfl rfl (hb hby d10_4) _ ?_
    show Steps p.tables e below (T1.setTop (mkF m 5 #[.val (.ref a0), .val (.int p1)] [(.int (Int32.ofNat n_w_bytes_a0))])) _
    refine XS.aloadN X1.here hx rfl (hb hby d10_5) rfl rfl ?_
    show Steps p.tables e below (T1.setTop (mkF m 6 #[.val (.ref a0), .val (.int p1)] [(.ref a0), (.int (Int32.ofNat n_w_bytes_a0))])) _
    refine st2 _ ?_
    show Steps p.tables e below (T2.setTop (mkF m 9 #[.val (.ref a0), .val (.int p1)] [(.int w_length_a0), (.int (Int32.ofNat n_w_bytes_a0))])) _
    refine XS.isub X2.here hx rfl (hb hby d10_9) rfl ?_
    show Steps p.tables e below (T2.setTop (mkF m 10 #[.val (.ref a0), .val (.int p1)] [(.int ((Int32.ofNat n_w_bytes_a0) - w_length_a0))])) _
    refine XS.iloadN X2.here hx rfl (hb hby d10_10) rfl ?_
    show Steps p.tables e below (T2.setTop (mkF m 11 #[.val (.ref a0), .val (.int p1)] [(.int p1), (.int ((Int32.ofNat n_w_bytes_a0) - w_length_a0))])) _
    refine XS.icmpNo X2.here hx rfl (hb hby d10_11) rfl (tlt hc11).2.1 ?_
    show Steps p.tables e below (T2.setTop (mkF m 14 #[.val (.ref a0), .val (.int p1)] [])) _
    refine XS.aloadN X2.here hx rfl (hb hby d10_14) rfl rfl ?_
    show Steps p.tables e below (T2.setTop (mkF m 15 #[.val (.ref a0), .val (.int p1)] [(.ref a0)])) _
    refine XS.aloadN X2.here hx rfl (hb hby d10_15) rfl rfl ?_
    show Steps p.tables e below (T2.setTop (mkF m 16 #[.val (.ref a0), .val (.int p1)] [(.ref a0), (.ref a0)])) _
    refine st3 _ ?_
    show Steps p.tables e below (T3.setTop (mkF m 19 #[.val (.ref a0), .val (.int p1)] [(.ref w_bytes_a0), (.ref a0)])) _
    refine X3.ldc2Long hx hown (mvT hZ (hw _ (List.mem_of_getElem? (i := 65) rfl))) (g := (mkF m 19 #[.val (.ref a0), .val (.int p1)] [(.ref w_bytes_a0), (.ref a0)])) rfl (hb hby d10_19) _ ?_
    show Steps p.tables e below (T3.setTop (mkF m 22 #[.val (.ref a0), .val (.int p1)] [(.long (2147483639 : Int64)), (.ref w_bytes_a0), (.ref a0)])) _
    refine X3.ldc2Long hx hown (mvT hZ (hw _ (List.mem_of_getElem? (i := 66) rfl))) (g := (mkF m 22 #[.val (.ref a0), .val (.int p1)] [(.long (2147483639 : Int64)), (.ref w_bytes_a0), (.ref a0)])) rfl (hb hby d10_22) _ ?_
    show Steps p.tables e below (T3.setTop (mkF m 25 #[.val (.ref a0), .val (.int p1)] [(.long (2 : Int64)), (.long (2147483639 : Int64)), (.ref w_bytes_a0), (.ref a0)])) _
    refine XS.aloadN X3.here hx rfl (hb hby d10_25) rfl rfl ?_
    show Steps p.tables e below (T3.setTop (mkF m 26 #[.val (.ref a0), .val (.int p1)] [(.ref a0), (.long (2 : Int64)), (.long (2147483639 : Int64)), (.ref w_bytes_a0), (.ref a0)])) _
    refine st4 _ ?_
    show Steps p.tables e below (T4.setTop (mkF m 29 #[.val (.ref a0), .val (.int p1)] [(.ref w_bytes_a0), (.long (2 : Int64)), (.long (2147483639 : Int64)), (.ref w_bytes_a0), (.ref a0)])) _
    refine AF.len X4 hx hZ e4 A_w_bytes_a0 (g := (mkF m 29 #[.val (.ref a0), .val (.int p1)] [(.ref w_bytes_a0), (.long (2 : Int64)), (.long (2147483639 : Int64)), (.ref w_bytes_a0), (.ref a0)])) rfl rfl (hb hby d10_29) _ ?_
    show Steps p.tables e below (T4.setTop (mkF m 30 #[.val (.ref a0), .val (.int p1)] [(.int (Int32.ofNat n_w_bytes_a0)), (.long (2 : Int64)), (.long (2147483639 : Int64)), (.ref w_bytes_a0), (.ref a0)])) _
    refine XS.i2l X4.here hx rfl (hb hby d10_30) rfl ?_
    show Steps p.tables e below (T4.setTop (mkF m 31 #[.val (.ref a0), .val (.int p1)] [(.long ((Int32.ofNat n_w_bytes_a0).toInt64)), (.long (2 : Int64)), (.long (2147483639 : Int64)), (.ref w_bytes_a0), (.ref a0)])) _
    refine XS.lmul X4.here hx rfl (hb hby d10_31) rfl ?_
    show Steps p.tables e below (T4.setTop (mkF m 32 #[.val (.ref a0), .val (.int p1)] [(.long ((2 : Int64) * ((Int32.ofNat n_w_bytes_a0).toInt64))), (.long (2147483639 : Int64)), (.ref w_bytes_a0), (.ref a0)])) _
    refine XS.aloadN X4.here hx rfl (hb hby d10_32) rfl rfl ?_
    show Steps p.tables e below (T4.setTop (mkF m 33 #[.val (.ref a0), .val (.int p1)] [(.ref a0), (.long ((2 : Int64) * ((Int32.ofNat n_w_bytes_a0).toInt64))), (.long (2147483639 : Int64)), (.ref w_bytes_a0), (.ref a0)])) _
    refine st5 _ ?_
    show Steps p.tables e below (T5.setTop (mkF m 36 #[.val (.ref a0), .val (.int p1)] [(.int w_length_a0), (.long ((2 : Int64) * ((Int32.ofNat n_w_bytes_a0).toInt64))), (.long (2147483639 : Int64)), (.ref w_bytes_a0), (.ref a0)])) _
    refine XS.i2l X5.here hx rfl (hb hby d10_36) rfl ?_
    show Steps p.tables e below (T5.setTop (mkF m 37 #[.val (.ref a0), .val (.int p1)] [(.long (w_length_a0.toInt64)), (.long ((2 : Int64) * ((Int32.ofNat n_w_bytes_a0).toInt64))), (.long (2147483639 : Int64)), (.ref w_bytes_a0), (.ref a0)])) _
    refine XS.iloadN X5.here hx rfl (hb hby d10_37) rfl ?_
    show Steps p.tables e below (T5.setTop (mkF m 38 #[.val (.ref a0), .val (.int p1)] [(.int p1), (.long (w_length_a0.toInt64)), (.long ((2 : Int64) * ((Int32.ofNat n_w_bytes_a0).toInt64))), (.long (2147483639 : Int64)), (.ref w_bytes_a0), (.ref a0)])) _
    refine XS.i2l X5.here hx rfl (hb hby d10_38) rfl ?_
    show Steps p.tables e below (T5.setTop (mkF m 39 #[.val (.ref a0), .val (.int p1)] [(.long (p1.toInt64)), (.long (w_length_a0.toInt64)), (.long ((2 : Int64) * ((Int32.ofNat n_w_bytes_a0).toInt64))), (.long (2147483639 : Int64)), (.ref w_bytes_a0), (.ref a0)])) _
    refine XS.ladd X5.here hx rfl (hb hby d10_39) rfl ?_
    show Steps p.tables e below (T5.setTop (mkF m 40 #[.val (.ref a0), .val (.int p1)] [(.long ((w_length_a0.toInt64) + (p1.toInt64))), (.long ((2 : Int64) * ((Int32.ofNat n_w_bytes_a0).toInt64))), (.long (2147483639 : Int64)), (.ref w_bytes_a0), (.ref a0)])) _
    refine st6 _ ?_
    show Steps p.tables e below (T6.setTop (mkF m 43 #[.val (.ref a0), .val (.int p1)] [(.long (if ((2 : Int64) * ((Int32.ofNat n_w_bytes_a0).toInt64)) < ((w_length_a0.toInt64) + (p1.toInt64)) then ((w_length_a0.toInt64) + (p1.toInt64)) else ((2 : Int64) * ((Int32.ofNat n_w_bytes_a0).toInt64)))), (.long (2147483639 : Int64)), (.ref w_bytes_a0), (.ref a0)])) _
    refine st7 _ ?_
    show Steps p.tables e below (T7.setTop (mkF m 46 #[.val (.ref a0), .val (.int p1)] [(.long (if (if ((2 : Int64) * ((Int32.ofNat n_w_bytes_a0).toInt64)) < ((w_length_a0.toInt64) + (p1.toInt64)) then ((w_length_a0.toInt64) + (p1.toInt64)) else ((2 : Int64) * ((Int32.ofNat n_w_bytes_a0).toInt64))) < (2147483639 : Int64) then (if ((2 : Int64) * ((Int32.ofNat n_w_bytes_a0).toInt64)) < ((w_length_a0.toInt64) + (p1.toInt64)) then ((w_length_a0.toInt64) + (p1.toInt64)) else ((2 : Int64) * ((Int32.ofNat n_w_bytes_a0).toInt64))) else (2147483639 : Int64))), (.ref w_bytes_a0), (.ref a0)])) _
    refine XS.l2i X7.here hx rfl (hb hby d10_46) rfl ?_
    show Steps p.tables e below (T7.setTop (mkF m 47 #[.val (.ref a0), .val (.int p1)] [(.int ((if (if ((2 : Int64) * ((Int32.ofNat n_w_bytes_a0).toInt64)) < ((w_length_a0.toInt64) + (p1.toInt64)) then ((w_length_a0.toInt64) + (p1.toInt64)) else ((2 : Int64) * ((Int32.ofNat n_w_bytes_a0).toInt64))) < (2147483639 : Int64) then (if ((2 : Int64) * ((Int32.ofNat n_w_bytes_a0).toInt64)) < ((w_length_a0.toInt64) + (p1.toInt64)) then ((w_length_a0.toInt64) + (p1.toInt64)) else ((2 : Int64) * ((Int32.ofNat n_w_bytes_a0).toInt64))) else (2147483639 : Int64)).toInt32)), (.ref w_bytes_a0), (.ref a0)])) _
    refine castTop (g' := (mkF m 47 #[.val (.ref a0), .val (.int p1)] [(.int (own_nl n_w_bytes_a0 w_length_a0 p1)), (.ref w_bytes_a0), (.ref a0)])) (by rw [hq8] <;> rfl) ?_
    show Steps p.tables e below (T7.setTop (mkF m 47 #[.val (.ref a0), .val (.int p1)] [(.int (own_nl n_w_bytes_a0 w_length_a0 p1)), (.ref w_bytes_a0), (.ref a0)])) _
    refine st9 _ ?_
    show Steps p.tables e below (T9.setTop (mkF m 50 #[.val (.ref a0), .val (.int p1)] [(.ref b9_b1), (.ref a0)])) _
    refine st13 _ ?_
    show Steps p.tables e below (T13.setTop (mkF m 53 #[.val (.ref a0), .val (.int p1)] [])) _
    exact X13.returnOut hx Bd.returns (hb hby d10_53) hr
  have G14 : Exa Z h13 a0 "com/example/commitlog/commitlog/codec/JsonWriter" := (G11.wr W13)
  have G15 : Fld Z h13 a0 "com/example/commitlog/commitlog/codec/JsonWriter" "length" "I" (.int w_length_a0) := ((F_length_a0.keep Kc9 nin0).other W13 (Or.inr (slot_ne (Or.inl (hw _ (List.mem_of_getElem? (i := 24) rfl))) (Or.inl (hw _ (List.mem_of_getElem? (i := 12) rfl))) (by decide) (t := .int) (t' := (.array .byte)) (by decide) (by decide))))
  have G16 : Fld Z h13 a0 "com/example/commitlog/commitlog/codec/JsonWriter" "afterValue" "Z" (.int w_afterValue_a0) := ((F_afterValue_a0.keep Kc9 nin0).other W13 (Or.inr (slot_ne (Or.inl (hw _ (List.mem_of_getElem? (i := 26) rfl))) (Or.inl (hw _ (List.mem_of_getElem? (i := 12) rfl))) (by decide) (t := .boolean) (t' := (.array .byte)) (by decide) (by decide))))
  have G17 : AF Z h13 b9_b1 .byte ((own_nl n_w_bytes_a0 w_length_a0 p1)).toNatClampNeg (fun j => .int ((fun j => if j < n_w_bytes_a0 then g_w_bytes_a0 j else (fun _ => (0 : Int32)) j) j)) := (P10.other W13 (Ne.symm ne_a0_b9_b1))
  · show Q10g Z a0 p1 w_bytes_a0 w_length_a0 w_afterValue_a0 n_w_bytes_a0 g_w_bytes_a0 h0 n0 _ T13.heap _
    rw [e13]
    exact ⟨b9_b1, rfl, N13, K13, sq_b9_b1, G14, Fw13, G15, G16, G17⟩
theorem ef_10k (m : MethodId) (a0 : Addr) (p1 : Int32) : entryFrame m #[(.ref a0), (.int p1)] 2 = mkF m 0 #[.val (.ref a0), .val (.int p1)] [] := by first | (simp [entryFrame, mkF, argsToLocals, Value.category]; done) | rfl
def Q10k (Z : State) (a0 : Addr) (p1 : Int32) (w_bytes_a0 : Addr) (w_length_a0 : Int32) (w_afterValue_a0 : Int32) (n_w_bytes_a0 : Nat) (g_w_bytes_a0 : Nat → Int32) (h0 : Heap) (n0 : Nat) (v : Option Value) (h : Heap) (L : List Loc) : Prop := v = none ∧ Fr n0 L ∧ h = h0
set_option maxRecDepth 65536 in
set_option maxHeartbeats 40000000 in
theorem rm10k (l : Launch) (Z : State) (A0 : Array Value) (hw : ∀ d ∈ tables_1, d.before A0 Z = true) (ws : List Jvm.Cond) (a0 : Addr) (p1 : Int32) (w_bytes_a0 : Addr) (w_length_a0 : Int32) (w_afterValue_a0 : Int32) (n_w_bytes_a0 : Nat) (g_w_bytes_a0 : Nat → Int32) (h0 : Heap) (n0 : Nat) (Z0 : n0 ≤ h0.size) (E_a0 : Exa Z h0 a0 "com/example/commitlog/commitlog/codec/JsonWriter") (F_bytes_a0 : Fld Z h0 a0 "com/example/commitlog/commitlog/codec/JsonWriter" "bytes" "[B" (.ref w_bytes_a0)) (F_length_a0 : Fld Z h0 a0 "com/example/commitlog/commitlog/codec/JsonWriter" "length" "I" (.int w_length_a0)) (F_afterValue_a0 : Fld Z h0 a0 "com/example/commitlog/commitlog/codec/JsonWriter" "afterValue" "Z" (.int w_afterValue_a0)) (A_w_bytes_a0 : AF Z h0 w_bytes_a0 .byte n_w_bytes_a0 (fun j => .int (g_w_bytes_a0 j))) (hc11 : ¬ (((Int32.ofNat n_w_bytes_a0) - w_length_a0) < p1)) :
    MetFree l (⟨"com/example/commitlog/commitlog/codec/JsonWriter", "room", "(I)V"⟩ : MethodName) (head1 (Jvm.Cond.code (⟨"com/example/commitlog/commitlog/codec/JsonWriter", "room", "(I)V"⟩ : MethodName) prog_9_method_19_code 2 none :: ws) ({ frames := 0, cells := 0, slots := 0, locals := 0 } : Room)) (fun a U => a = #[(.ref a0), (.int p1)] ∧ Z.Warmed39 U.vm ∧ U.heap = h0) (fun _ _ _ _ _ => True) (fun _ U o U' => ∃ v L, o = .returned v ∧ Q10k Z a0 p1 w_bytes_a0 w_length_a0 w_afterValue_a0 n_w_bytes_a0 g_w_bytes_a0 h0 n0 v U'.heap L ∧ FrameEnd U o U' L ({ frames := 0, cells := 0, slots := 0, locals := 0 } : Room).cells ({ frames := 0, cells := 0, slots := 0, locals := 0 } : Room).slots) := by
  refine MetFree.of_bodySF (plainFor_of_name pn_10) hisR ?_
  intro p e s m args below meth c s₁ Bd hml0 hP hK
  obtain ⟨rfl, hZ, hh⟩ := hP
  have hx := Bd.exec
  have hby := Bd.bytes
  have hml : c.maxLocals = 2 := hml0
  have hown : s.vm.findClass "com/example/commitlog/commitlog/codec/JsonWriter" = some m.cls := findClass_of_methodNamed Bd.named
  have hnm := (name_of_methodNamed Bd.named Bd.method).1
  have X0 : Stand p l e ({ frames := 0, cells := 0, slots := 0, locals := 0 } : Room) s m #[(.ref a0), (.int p1)] below meth c s₁ [] 0 0 := Stand.of_body Bd
  have e0 : s₁.heap = h0 := by rw [← hh, Bd.state]; rfl
  have N0 := Fr.nil n0
  have pre0 : ∀ t, Steps p.tables e below (s₁.setTop (mkF m 0 #[.val (.ref a0), .val (.int p1)] [])) t → Steps p.tables e below (s₁.setTop (entryFrame m #[(.ref a0), (.int p1)] 2)) t := fun t k => castTop (ef_10k m a0 p1) k
  obtain ⟨T1, X1, e1, st1⟩ := getF X0 hx hZ hown (host := "") (Or.inl (hw _ (List.mem_of_getElem? (i := 11) rfl))) Via.refl e0 F_bytes_a0 (g := (mkF m 1 #[.val (.ref a0), .val (.int p1)] [(.ref a0)])) rfl rfl (hb hby d10_1)
  obtain ⟨T2, X2, e2, st2⟩ := getF X1 hx hZ hown (host := "") (Or.inl (hw _ (List.mem_of_getElem? (i := 23) rfl))) Via.refl e1 F_length_a0 (g := (mkF m 6 #[.val (.ref a0), .val (.int p1)] [(.ref a0), (.int (Int32.ofNat n_w_bytes_a0))])) rfl rfl (hb hby d10_6)
  obtain ⟨fs, hr, hrun, hended, hW, hsame⟩ := X2.leave (v := none) (fun _ => rfl)
  refine ⟨_, _, pre0 _ ?_, hrun, hended, _, _, rfl, ?_, ⟨_, rfl⟩, hW, hsame.mono (by decide) (by decide)⟩
  · show Steps p.tables e below (s₁.setTop (mkF m 0 #[.val (.ref a0), .val (.int p1)] [])) _
    refine XS.aloadN X0.here hx rfl (hb hby d10_0) rfl rfl ?_
    show Steps p.tables e below (s₁.setTop (mkF m 1 #[.val (.ref a0), .val (.int p1)] [(.ref a0)])) _
    refine st1 _ ?_
    show Steps p.tables e below (T1.setTop (mkF m 4 #[.val (.ref a0), .val (.int p1)] [(.ref w_bytes_a0)])) _
    refine AF.len X1 hx hZ e1 A_w_bytes_a0 (g := (mkF m 4 #[.val (.ref a0), .val (.int p1)] [(.ref w_bytes_a0)])) rfl rfl (hb hby d10_4) _ ?_
    show Steps p.tables e below (T1.setTop (mkF m 5 #[.val (.ref a0), .val (.int p1)] [(.int (Int32.ofNat n_w_bytes_a0))])) _
    refine XS.aloadN X1.here hx rfl (hb hby d10_5) rfl rfl ?_
    show Steps p.tables e below (T1.setTop (mkF m 6 #[.val (.ref a0), .val (.int p1)] [(.ref a0), (.int (Int32.ofNat n_w_bytes_a0))])) _
    refine st2 _ ?_
    show Steps p.tables e below (T2.setTop (mkF m 9 #[.val (.ref a0), .val (.int p1)] [(.int w_length_a0), (.int (Int32.ofNat n_w_bytes_a0))])) _
    refine XS.isub X2.here hx rfl (hb hby d10_9) rfl ?_
    show Steps p.tables e below (T2.setTop (mkF m 10 #[.val (.ref a0), .val (.int p1)] [(.int ((Int32.ofNat n_w_bytes_a0) - w_length_a0))])) _
    refine XS.iloadN X2.here hx rfl (hb hby d10_10) rfl ?_
    show Steps p.tables e below (T2.setTop (mkF m 11 #[.val (.ref a0), .val (.int p1)] [(.int p1), (.int ((Int32.ofNat n_w_bytes_a0) - w_length_a0))])) _
    refine XS.icmpYes X2.here hx rfl (pc0 := 11) (pc' := 53) rfl (hb hby d10_11) rfl (flt hc11).2.1 (by decide) (by decide) ?_
    show Steps p.tables e below (T2.setTop (mkF m 53 #[.val (.ref a0), .val (.int p1)] [])) _
    exact X2.returnOut hx Bd.returns (hb hby d10_53) hr
  · show Q10k Z a0 p1 w_bytes_a0 w_length_a0 w_afterValue_a0 n_w_bytes_a0 g_w_bytes_a0 h0 n0 _ T2.heap _
    exact ⟨rfl, N0, e2⟩

/-- each holds a byte -/
def own_B (g : Nat → Int32) : Prop := ∀ j, fits .byte (.int (g j)) = true
theorem own_fb (x : Int32) : fits .byte (.int (x.toInt8.toInt32)) = true := fits_nar_byte x
theorem own_Bset {g : Nat → Int32} (B : own_B g) (k : Nat) (x : Int32) : own_B (fun i => if i = k then (x.toInt8.toInt32) else g i) := by
  intro j
  by_cases q : j = k
  · simp only [q, if_true]; exact own_fb x
  · simp only [q, if_false]; exact B j
theorem own_Bcpy {g : Nat → Int32} (B : own_B g) (k : Nat) : own_B (fun j => if j < k then g j else (fun _ => (0 : Int32)) j) := by
  intro j
  by_cases q : j < k
  · simp only [q, if_true]; exact B j
  · simp only [q, if_false]; rfl
theorem own_B0 : own_B (fun _ => (0 : Int32)) := fun _ => rfl
theorem own_aeqT {a b : Addr} (q : a = b) : if_acmp.holds .eq (some a) (some b) = true := (acV_eq .eq (x := .ref a) (y := .ref b) rfl rfl).trans (by rw [decide_eq_true (by rw [q])]; rfl)
theorem own_aneF {a b : Addr} (q : a = b) : if_acmp.holds .ne (some a) (some b) = false := (acV_eq .ne (x := .ref a) (y := .ref b) rfl rfl).trans (by rw [decide_eq_true (by rw [q])]; rfl)
theorem own_aeqF {a b : Addr} (q : a ≠ b) : if_acmp.holds .eq (some a) (some b) = false := (acV_eq .eq (x := .ref a) (y := .ref b) rfl rfl).trans (by rw [decide_eq_false (fun z => q (Value.ref.inj z))]; rfl)
theorem own_aneT {a b : Addr} (q : a ≠ b) : if_acmp.holds .ne (some a) (some b) = true := (acV_eq .ne (x := .ref a) (y := .ref b) rfl rfl).trans (by rw [decide_eq_false (fun z => q (Value.ref.inj z))]; rfl)

set_option maxRecDepth 65536 in
set_option maxHeartbeats 40000000 in
theorem tnA {p : Program} {l : Launch} {e : Env} {R : Room} {s : State} {m : MethodId} {args : Array Value} {below : List Frame} {meth : Method} {c : Code} {T0 : State} {locs : List Loc} {cells slots : Nat} {Z : State} {A0 : Array Value} (a0 : Addr) (q1 : Int64) (j3 : Int64) (i5 : Int32) (w_bytes_a0 : Addr) (w_length_a0 : Int32) (w_afterValue_a0 : Int32) (n_w_bytes_a0 : Nat) (g_w_bytes_a0 : Nat → Int32) {h0 : Heap} {n0 : Nat}
    (X0 : Stand p l e R s m args below meth c T0 locs cells slots) (hx : p.tables.exec = Jvm.exec) (hZ : Z.Warmed39 s.vm) (hw : ∀ d ∈ tables_1, d.before A0 Z = true) (hby : c.code = prog_9_method_8_code) (hml : c.maxLocals = 9) (hown : s.vm.findClass "com/example/commitlog/commitlog/codec/JsonWriter" = some m.cls) (e0 : T0.heap = h0) (N0 : Fr n0 locs) (E_a0 : Exa Z h0 a0 "com/example/commitlog/commitlog/codec/JsonWriter") (F_bytes_a0 : Fld Z h0 a0 "com/example/commitlog/commitlog/codec/JsonWriter" "bytes" "[B" (.ref w_bytes_a0)) (F_length_a0 : Fld Z h0 a0 "com/example/commitlog/commitlog/codec/JsonWriter" "length" "I" (.int w_length_a0)) (F_afterValue_a0 : Fld Z h0 a0 "com/example/commitlog/commitlog/codec/JsonWriter" "afterValue" "Z" (.int w_afterValue_a0)) (nw_a0 : n0 ≤ a0) (A_w_bytes_a0 : AF Z h0 w_bytes_a0 .byte n_w_bytes_a0 (fun j => .int (g_w_bytes_a0 j))) (ne_a0_w_bytes_a0 : a0 ≠ w_bytes_a0) (nw_w_bytes_a0 : n0 ≤ w_bytes_a0) (hin70 : own_in w_length_a0 n_w_bytes_a0) (hc80 : ¬ ((j3 / (10 : Int64)) = (0 : Int64))) :
    ∃ (T' : State) (h' : Heap) (L' : List Loc), Stand p l e R s m args below meth c T' L' cells slots ∧ Fr n0 L' ∧ T'.heap = h' ∧ Keep h0 h' [a0, w_bytes_a0] ∧ Exa Z h' a0 "com/example/commitlog/commitlog/codec/JsonWriter" ∧ Fld Z h' a0 "com/example/commitlog/commitlog/codec/JsonWriter" "bytes" "[B" (.ref w_bytes_a0) ∧ Fld Z h' a0 "com/example/commitlog/commitlog/codec/JsonWriter" "length" "I" (.int (w_length_a0 + (1 : Int32))) ∧ Fld Z h' a0 "com/example/commitlog/commitlog/codec/JsonWriter" "afterValue" "Z" (.int w_afterValue_a0) ∧ AF Z h' w_bytes_a0 .byte n_w_bytes_a0 (fun j => .int ((fun i => if i = (w_length_a0).toNatClampNeg then (((((48 : Int64) - (j3 % (10 : Int64))).toInt32).toInt8.toInt32).toInt8.toInt32) else g_w_bytes_a0 i) j)) ∧ ∀ target, Steps p.tables e below (T'.setTop (mkF m 44 #[.val (.ref a0), .val (.long q1), .second, .val (.long (j3 / (10 : Int64))), .second, .val (.int i5), .unset, .unset, .unset] [])) target → Steps p.tables e below (T0.setTop (mkF m 44 #[.val (.ref a0), .val (.long q1), .second, .val (.long j3), .second, .val (.int i5), .unset, .unset, .unset] [])) target := by
  obtain ⟨T1, X1, e1, st1⟩ := getF X0 hx hZ hown (host := "") (Or.inl (hw _ (List.mem_of_getElem? (i := 11) rfl))) Via.refl e0 F_bytes_a0 (g := (mkF m 45 #[.val (.ref a0), .val (.long q1), .second, .val (.long j3), .second, .val (.int i5), .unset, .unset, .unset] [(.ref a0)])) rfl rfl (hb hby d21_45)
  obtain ⟨T2, X2, e2, st2⟩ := getF X1 hx hZ hown (host := "") (Or.inl (hw _ (List.mem_of_getElem? (i := 23) rfl))) Via.refl e1 F_length_a0 (g := (mkF m 50 #[.val (.ref a0), .val (.long q1), .second, .val (.long j3), .second, .val (.int i5), .unset, .unset, .unset] [(.ref a0), (.ref a0), (.ref w_bytes_a0)])) rfl rfl (hb hby d21_50)
  obtain ⟨T3, h3, X3, e3, W3, st3⟩ := putF X2 hx hZ hown (host := "") (Or.inl (hw _ (List.mem_of_getElem? (i := 23) rfl))) Via.refl e2 F_length_a0 E_a0 (Or.inl (hw _ (List.mem_of_getElem? (i := 24) rfl))) (hw _ (List.mem_of_getElem? (i := 2) rfl)) (ty := .int) (by decide) rfl rfl (g := (mkF m 56 #[.val (.ref a0), .val (.long q1), .second, .val (.long j3), .second, .val (.int i5), .unset, .unset, .unset] [(.int (w_length_a0 + (1 : Int32))), (.ref a0), (.int w_length_a0), (.ref w_bytes_a0)])) rfl rfl (hb hby d21_56)
  have K3 : Keep h0 h3 [a0, w_bytes_a0] := (Keep.refl h0 [a0, w_bytes_a0]).wr W3 (Or.inl (by simp))
  have Fw3 : Fld Z h3 a0 "com/example/commitlog/commitlog/codec/JsonWriter" "length" "I" (.int (w_length_a0 + (1 : Int32))) := F_length_a0.same W3
  have N3 := Fr.snoc X3 N0 nw_a0
  have G4 : AF Z h3 w_bytes_a0 .byte n_w_bytes_a0 (fun j => .int (g_w_bytes_a0 j)) := (A_w_bytes_a0.other W3 (Ne.symm ne_a0_w_bytes_a0))
  obtain ⟨v5, hv5⟩ : ∃ z : Int32, z = ((((48 : Int64) - (j3 % (10 : Int64))).toInt32).toInt8.toInt32) := ⟨_, rfl⟩
  obtain ⟨T6, h6, X6, e6, W6, A6, st6⟩ := AF.stB X3 hx hZ e3 G4 hin70 (g := (mkF m 70 #[.val (.ref a0), .val (.long q1), .second, .val (.long j3), .second, .val (.int i5), .unset, .unset, .unset] [(.int v5), (.int w_length_a0), (.ref w_bytes_a0)])) rfl rfl (hb hby d21_70)
  have K6 : Keep h0 h6 [a0, w_bytes_a0] := K3.wr W6 (Or.inl (by simp))
  obtain ⟨f7, hf7⟩ : ∃ f : Nat → Int32, f = (fun i => if i = (w_length_a0).toNatClampNeg then (v5.toInt8.toInt32) else g_w_bytes_a0 i) := ⟨_, rfl⟩
  have V6 : AF Z h6 w_bytes_a0 .byte n_w_bytes_a0 (fun j => .int (f7 j)) := AF.cong A6 (own_updI rfl hf7)
  have N6 := Fr.snoc X6 N3 nw_w_bytes_a0
  have G8 : Exa Z h6 a0 "com/example/commitlog/commitlog/codec/JsonWriter" := ((E_a0.wr W3).wr W6)
  have G9 : Fld Z h6 a0 "com/example/commitlog/commitlog/codec/JsonWriter" "bytes" "[B" (.ref w_bytes_a0) := ((F_bytes_a0.other W3 (Or.inr (slot_ne (Or.inl (hw _ (List.mem_of_getElem? (i := 12) rfl))) (Or.inl (hw _ (List.mem_of_getElem? (i := 24) rfl))) (by decide) (t := (.array .byte)) (t' := .int) (by decide) (by decide)))).other W6 (Or.inl ne_a0_w_bytes_a0))
  have G10 : Fld Z h6 a0 "com/example/commitlog/commitlog/codec/JsonWriter" "length" "I" (.int (w_length_a0 + (1 : Int32))) := (Fw3.other W6 (Or.inl ne_a0_w_bytes_a0))
  have G11 : Fld Z h6 a0 "com/example/commitlog/commitlog/codec/JsonWriter" "afterValue" "Z" (.int w_afterValue_a0) := ((F_afterValue_a0.other W3 (Or.inr (slot_ne (Or.inl (hw _ (List.mem_of_getElem? (i := 26) rfl))) (Or.inl (hw _ (List.mem_of_getElem? (i := 24) rfl))) (by decide) (t := .boolean) (t' := .int) (by decide) (by decide)))).other W6 (Or.inl ne_a0_w_bytes_a0))
  subst hv5 hf7
  refine ⟨T6, _, _, X6, N6, e6, K6, G8, G9, G10, G11, V6, fun target kt => ?_⟩
  show Steps p.tables e below (T0.setTop (mkF m 44 #[.val (.ref a0), .val (.long q1), .second, .val (.long j3), .second, .val (.int i5), .unset, .unset, .unset] [])) _
  refine XS.aloadN X0.here hx rfl (hb hby d21_44) rfl rfl ?_
  show Steps p.tables e below (T0.setTop (mkF m 45 #[.val (.ref a0), .val (.long q1), .second, .val (.long j3), .second, .val (.int i5), .unset, .unset, .unset] [(.ref a0)])) _
  refine st1 _ ?_
  show Steps p.tables e below (T1.setTop (mkF m 48 #[.val (.ref a0), .val (.long q1), .second, .val (.long j3), .second, .val (.int i5), .unset, .unset, .unset] [(.ref w_bytes_a0)])) _
  refine XS.aloadN X1.here hx rfl (hb hby d21_48) rfl rfl ?_
  show Steps p.tables e below (T1.setTop (mkF m 49 #[.val (.ref a0), .val (.long q1), .second, .val (.long j3), .second, .val (.int i5), .unset, .unset, .unset] [(.ref a0), (.ref w_bytes_a0)])) _
  refine XS.dup X1.here hx rfl (hb hby d21_49) rfl rfl ?_
  show Steps p.tables e below (T1.setTop (mkF m 50 #[.val (.ref a0), .val (.long q1), .second, .val (.long j3), .second, .val (.int i5), .unset, .unset, .unset] [(.ref a0), (.ref a0), (.ref w_bytes_a0)])) _
  refine st2 _ ?_
  show Steps p.tables e below (T2.setTop (mkF m 53 #[.val (.ref a0), .val (.long q1), .second, .val (.long j3), .second, .val (.int i5), .unset, .unset, .unset] [(.int w_length_a0), (.ref a0), (.ref w_bytes_a0)])) _
  refine XS.dupX1 X2.here hx rfl (hb hby d21_53) rfl rfl rfl ?_
  show Steps p.tables e below (T2.setTop (mkF m 54 #[.val (.ref a0), .val (.long q1), .second, .val (.long j3), .second, .val (.int i5), .unset, .unset, .unset] [(.int w_length_a0), (.ref a0), (.int w_length_a0), (.ref w_bytes_a0)])) _
  refine XS.iconst X2.here hx rfl (hb hby d21_54) ?_
  show Steps p.tables e below (T2.setTop (mkF m 55 #[.val (.ref a0), .val (.long q1), .second, .val (.long j3), .second, .val (.int i5), .unset, .unset, .unset] [(.int (1 : Int32)), (.int w_length_a0), (.ref a0), (.int w_length_a0), (.ref w_bytes_a0)])) _
  refine XS.iadd X2.here hx rfl (hb hby d21_55) rfl ?_
  show Steps p.tables e below (T2.setTop (mkF m 56 #[.val (.ref a0), .val (.long q1), .second, .val (.long j3), .second, .val (.int i5), .unset, .unset, .unset] [(.int (w_length_a0 + (1 : Int32))), (.ref a0), (.int w_length_a0), (.ref w_bytes_a0)])) _
  refine st3 _ ?_
  show Steps p.tables e below (T3.setTop (mkF m 59 #[.val (.ref a0), .val (.long q1), .second, .val (.long j3), .second, .val (.int i5), .unset, .unset, .unset] [(.int w_length_a0), (.ref w_bytes_a0)])) _
  refine X3.ldc2Long hx hown (mvT hZ (hw _ (List.mem_of_getElem? (i := 116) rfl))) (g := (mkF m 59 #[.val (.ref a0), .val (.long q1), .second, .val (.long j3), .second, .val (.int i5), .unset, .unset, .unset] [(.int w_length_a0), (.ref w_bytes_a0)])) rfl (hb hby d21_59) _ ?_
  show Steps p.tables e below (T3.setTop (mkF m 62 #[.val (.ref a0), .val (.long q1), .second, .val (.long j3), .second, .val (.int i5), .unset, .unset, .unset] [(.long (48 : Int64)), (.int w_length_a0), (.ref w_bytes_a0)])) _
  refine XS.lloadN X3.here hx rfl (hb hby d21_62) rfl ?_
  show Steps p.tables e below (T3.setTop (mkF m 63 #[.val (.ref a0), .val (.long q1), .second, .val (.long j3), .second, .val (.int i5), .unset, .unset, .unset] [(.long j3), (.long (48 : Int64)), (.int w_length_a0), (.ref w_bytes_a0)])) _
  refine X3.ldc2Long hx hown (mvT hZ (hw _ (List.mem_of_getElem? (i := 117) rfl))) (g := (mkF m 63 #[.val (.ref a0), .val (.long q1), .second, .val (.long j3), .second, .val (.int i5), .unset, .unset, .unset] [(.long j3), (.long (48 : Int64)), (.int w_length_a0), (.ref w_bytes_a0)])) rfl (hb hby d21_63) _ ?_
  show Steps p.tables e below (T3.setTop (mkF m 66 #[.val (.ref a0), .val (.long q1), .second, .val (.long j3), .second, .val (.int i5), .unset, .unset, .unset] [(.long (10 : Int64)), (.long j3), (.long (48 : Int64)), (.int w_length_a0), (.ref w_bytes_a0)])) _
  refine XS.lrem X3.here hx rfl (hb hby d21_66) rfl (by decide) ?_
  rw [lrem_mod]
  show Steps p.tables e below (T3.setTop (mkF m 67 #[.val (.ref a0), .val (.long q1), .second, .val (.long j3), .second, .val (.int i5), .unset, .unset, .unset] [(.long (j3 % (10 : Int64))), (.long (48 : Int64)), (.int w_length_a0), (.ref w_bytes_a0)])) _
  refine XS.lsub X3.here hx rfl (hb hby d21_67) rfl ?_
  show Steps p.tables e below (T3.setTop (mkF m 68 #[.val (.ref a0), .val (.long q1), .second, .val (.long j3), .second, .val (.int i5), .unset, .unset, .unset] [(.long ((48 : Int64) - (j3 % (10 : Int64)))), (.int w_length_a0), (.ref w_bytes_a0)])) _
  refine XS.l2i X3.here hx rfl (hb hby d21_68) rfl ?_
  show Steps p.tables e below (T3.setTop (mkF m 69 #[.val (.ref a0), .val (.long q1), .second, .val (.long j3), .second, .val (.int i5), .unset, .unset, .unset] [(.int (((48 : Int64) - (j3 % (10 : Int64))).toInt32)), (.int w_length_a0), (.ref w_bytes_a0)])) _
  refine XS.i2b X3.here hx rfl (hb hby d21_69) rfl ?_
  show Steps p.tables e below (T3.setTop (mkF m 70 #[.val (.ref a0), .val (.long q1), .second, .val (.long j3), .second, .val (.int i5), .unset, .unset, .unset] [(.int ((((48 : Int64) - (j3 % (10 : Int64))).toInt32).toInt8.toInt32)), (.int w_length_a0), (.ref w_bytes_a0)])) _
  show Steps p.tables e below (T3.setTop (mkF m 70 #[.val (.ref a0), .val (.long q1), .second, .val (.long j3), .second, .val (.int i5), .unset, .unset, .unset] [(.int ((((48 : Int64) - (j3 % (10 : Int64))).toInt32).toInt8.toInt32)), (.int w_length_a0), (.ref w_bytes_a0)])) _
  refine st6 _ ?_
  show Steps p.tables e below (T6.setTop (mkF m 71 #[.val (.ref a0), .val (.long q1), .second, .val (.long j3), .second, .val (.int i5), .unset, .unset, .unset] [])) _
  refine XS.lloadN X6.here hx rfl (hb hby d21_71) rfl ?_
  show Steps p.tables e below (T6.setTop (mkF m 72 #[.val (.ref a0), .val (.long q1), .second, .val (.long j3), .second, .val (.int i5), .unset, .unset, .unset] [(.long j3)])) _
  refine X6.ldc2Long hx hown (mvT hZ (hw _ (List.mem_of_getElem? (i := 117) rfl))) (g := (mkF m 72 #[.val (.ref a0), .val (.long q1), .second, .val (.long j3), .second, .val (.int i5), .unset, .unset, .unset] [(.long j3)])) rfl (hb hby d21_72) _ ?_
  show Steps p.tables e below (T6.setTop (mkF m 75 #[.val (.ref a0), .val (.long q1), .second, .val (.long j3), .second, .val (.int i5), .unset, .unset, .unset] [(.long (10 : Int64)), (.long j3)])) _
  refine XS.ldiv X6.here hx rfl (hb hby d21_75) rfl (by decide) ?_
  show Steps p.tables e below (T6.setTop (mkF m 76 #[.val (.ref a0), .val (.long q1), .second, .val (.long j3), .second, .val (.int i5), .unset, .unset, .unset] [(.long (j3 / (10 : Int64)))])) _
  refine XS.lstoreN X6.here hx rfl (hb hby d21_76) rfl (l' := #[.val (.ref a0), .val (.long q1), .second, .val (.long (j3 / (10 : Int64))), .second, .val (.int i5), .unset, .unset, .unset]) rfl ?_
  show Steps p.tables e below (T6.setTop (mkF m 77 #[.val (.ref a0), .val (.long q1), .second, .val (.long (j3 / (10 : Int64))), .second, .val (.int i5), .unset, .unset, .unset] [])) _
  refine XS.lloadN X6.here hx rfl (hb hby d21_77) rfl ?_
  show Steps p.tables e below (T6.setTop (mkF m 78 #[.val (.ref a0), .val (.long q1), .second, .val (.long (j3 / (10 : Int64))), .second, .val (.int i5), .unset, .unset, .unset] [(.long (j3 / (10 : Int64)))])) _
  refine XS.lconst X6.here hx rfl (hb hby d21_78) ?_
  show Steps p.tables e below (T6.setTop (mkF m 79 #[.val (.ref a0), .val (.long q1), .second, .val (.long (j3 / (10 : Int64))), .second, .val (.int i5), .unset, .unset, .unset] [(.long (0 : Int64)), (.long (j3 / (10 : Int64)))])) _
  refine XS.lcmp X6.here hx rfl (hb hby d21_79) rfl ?_
  show Steps p.tables e below (T6.setTop (mkF m 80 #[.val (.ref a0), .val (.long q1), .second, .val (.long (j3 / (10 : Int64))), .second, .val (.int i5), .unset, .unset, .unset] [(.int (lcmpW (j3 / (10 : Int64)) (0 : Int64)))])) _
  refine XS.ifYes X6.here hx rfl (pc0 := 80) (pc' := 44) rfl (hb hby d21_80) rfl ((if0 _ _).trans (feq (fun q => hc80 ((lw_eq (j3 / (10 : Int64)) (0 : Int64)).mp q))).2) (by decide) (by decide) ?_
  exact kt
set_option maxRecDepth 65536 in
set_option maxHeartbeats 40000000 in
theorem tnB {p : Program} {l : Launch} {e : Env} {R : Room} {s : State} {m : MethodId} {args : Array Value} {below : List Frame} {meth : Method} {c : Code} {T0 : State} {locs : List Loc} {cells slots : Nat} {Z : State} {A0 : Array Value} (a0 : Addr) (q1 : Int64) (j3 : Int64) (i5 : Int32) (w_bytes_a0 : Addr) (w_length_a0 : Int32) (w_afterValue_a0 : Int32) (n_w_bytes_a0 : Nat) (g_w_bytes_a0 : Nat → Int32) {h0 : Heap} {n0 : Nat}
    (X0 : Stand p l e R s m args below meth c T0 locs cells slots) (hx : p.tables.exec = Jvm.exec) (hZ : Z.Warmed39 s.vm) (hw : ∀ d ∈ tables_1, d.before A0 Z = true) (hby : c.code = prog_9_method_8_code) (hml : c.maxLocals = 9) (hown : s.vm.findClass "com/example/commitlog/commitlog/codec/JsonWriter" = some m.cls) (e0 : T0.heap = h0) (N0 : Fr n0 locs) (E_a0 : Exa Z h0 a0 "com/example/commitlog/commitlog/codec/JsonWriter") (F_bytes_a0 : Fld Z h0 a0 "com/example/commitlog/commitlog/codec/JsonWriter" "bytes" "[B" (.ref w_bytes_a0)) (F_length_a0 : Fld Z h0 a0 "com/example/commitlog/commitlog/codec/JsonWriter" "length" "I" (.int w_length_a0)) (F_afterValue_a0 : Fld Z h0 a0 "com/example/commitlog/commitlog/codec/JsonWriter" "afterValue" "Z" (.int w_afterValue_a0)) (nw_a0 : n0 ≤ a0) (A_w_bytes_a0 : AF Z h0 w_bytes_a0 .byte n_w_bytes_a0 (fun j => .int (g_w_bytes_a0 j))) (ne_a0_w_bytes_a0 : a0 ≠ w_bytes_a0) (nw_w_bytes_a0 : n0 ≤ w_bytes_a0) (hin70 : own_in w_length_a0 n_w_bytes_a0) (hc80 : (j3 / (10 : Int64)) = (0 : Int64)) :
    ∃ (T' : State) (h' : Heap) (L' : List Loc), Stand p l e R s m args below meth c T' L' cells slots ∧ Fr n0 L' ∧ T'.heap = h' ∧ Keep h0 h' [a0, w_bytes_a0] ∧ Exa Z h' a0 "com/example/commitlog/commitlog/codec/JsonWriter" ∧ Fld Z h' a0 "com/example/commitlog/commitlog/codec/JsonWriter" "bytes" "[B" (.ref w_bytes_a0) ∧ Fld Z h' a0 "com/example/commitlog/commitlog/codec/JsonWriter" "length" "I" (.int (w_length_a0 + (1 : Int32))) ∧ Fld Z h' a0 "com/example/commitlog/commitlog/codec/JsonWriter" "afterValue" "Z" (.int w_afterValue_a0) ∧ AF Z h' w_bytes_a0 .byte n_w_bytes_a0 (fun j => .int ((fun i => if i = (w_length_a0).toNatClampNeg then (((((48 : Int64) - (j3 % (10 : Int64))).toInt32).toInt8.toInt32).toInt8.toInt32) else g_w_bytes_a0 i) j)) ∧ ∀ target, Steps p.tables e below (T'.setTop (mkF m 83 #[.val (.ref a0), .val (.long q1), .second, .val (.long (j3 / (10 : Int64))), .second, .val (.int i5), .unset, .unset, .unset] [])) target → Steps p.tables e below (T0.setTop (mkF m 44 #[.val (.ref a0), .val (.long q1), .second, .val (.long j3), .second, .val (.int i5), .unset, .unset, .unset] [])) target := by
  obtain ⟨T1, X1, e1, st1⟩ := getF X0 hx hZ hown (host := "") (Or.inl (hw _ (List.mem_of_getElem? (i := 11) rfl))) Via.refl e0 F_bytes_a0 (g := (mkF m 45 #[.val (.ref a0), .val (.long q1), .second, .val (.long j3), .second, .val (.int i5), .unset, .unset, .unset] [(.ref a0)])) rfl rfl (hb hby d21_45)
  obtain ⟨T2, X2, e2, st2⟩ := getF X1 hx hZ hown (host := "") (Or.inl (hw _ (List.mem_of_getElem? (i := 23) rfl))) Via.refl e1 F_length_a0 (g := (mkF m 50 #[.val (.ref a0), .val (.long q1), .second, .val (.long j3), .second, .val (.int i5), .unset, .unset, .unset] [(.ref a0), (.ref a0), (.ref w_bytes_a0)])) rfl rfl (hb hby d21_50)
  obtain ⟨T3, h3, X3, e3, W3, st3⟩ := putF X2 hx hZ hown (host := "") (Or.inl (hw _ (List.mem_of_getElem? (i := 23) rfl))) Via.refl e2 F_length_a0 E_a0 (Or.inl (hw _ (List.mem_of_getElem? (i := 24) rfl))) (hw _ (List.mem_of_getElem? (i := 2) rfl)) (ty := .int) (by decide) rfl rfl (g := (mkF m 56 #[.val (.ref a0), .val (.long q1), .second, .val (.long j3), .second, .val (.int i5), .unset, .unset, .unset] [(.int (w_length_a0 + (1 : Int32))), (.ref a0), (.int w_length_a0), (.ref w_bytes_a0)])) rfl rfl (hb hby d21_56)
  have K3 : Keep h0 h3 [a0, w_bytes_a0] := (Keep.refl h0 [a0, w_bytes_a0]).wr W3 (Or.inl (by simp))
  have Fw3 : Fld Z h3 a0 "com/example/commitlog/commitlog/codec/JsonWriter" "length" "I" (.int (w_length_a0 + (1 : Int32))) := F_length_a0.same W3
  have N3 := Fr.snoc X3 N0 nw_a0
  have G4 : AF Z h3 w_bytes_a0 .byte n_w_bytes_a0 (fun j => .int (g_w_bytes_a0 j)) := (A_w_bytes_a0.other W3 (Ne.symm ne_a0_w_bytes_a0))
  obtain ⟨v5, hv5⟩ : ∃ z : Int32, z = ((((48 : Int64) - (j3 % (10 : Int64))).toInt32).toInt8.toInt32) := ⟨_, rfl⟩
  obtain ⟨T6, h6, X6, e6, W6, A6, st6⟩ := AF.stB X3 hx hZ e3 G4 hin70 (g := (mkF m 70 #[.val (.ref a0), .val (.long q1), .second, .val (.long j3), .second, .val (.int i5), .unset, .unset, .unset] [(.int v5), (.int w_length_a0), (.ref w_bytes_a0)])) rfl rfl (hb hby d21_70)
  have K6 : Keep h0 h6 [a0, w_bytes_a0] := K3.wr W6 (Or.inl (by simp))
  obtain ⟨f7, hf7⟩ : ∃ f : Nat → Int32, f = (fun i => if i = (w_length_a0).toNatClampNeg then (v5.toInt8.toInt32) else g_w_bytes_a0 i) := ⟨_, rfl⟩
  have V6 : AF Z h6 w_bytes_a0 .byte n_w_bytes_a0 (fun j => .int (f7 j)) := AF.cong A6 (own_updI rfl hf7)
  have N6 := Fr.snoc X6 N3 nw_w_bytes_a0
  have G8 : Exa Z h6 a0 "com/example/commitlog/commitlog/codec/JsonWriter" := ((E_a0.wr W3).wr W6)
  have G9 : Fld Z h6 a0 "com/example/commitlog/commitlog/codec/JsonWriter" "bytes" "[B" (.ref w_bytes_a0) := ((F_bytes_a0.other W3 (Or.inr (slot_ne (Or.inl (hw _ (List.mem_of_getElem? (i := 12) rfl))) (Or.inl (hw _ (List.mem_of_getElem? (i := 24) rfl))) (by decide) (t := (.array .byte)) (t' := .int) (by decide) (by decide)))).other W6 (Or.inl ne_a0_w_bytes_a0))
  have G10 : Fld Z h6 a0 "com/example/commitlog/commitlog/codec/JsonWriter" "length" "I" (.int (w_length_a0 + (1 : Int32))) := (Fw3.other W6 (Or.inl ne_a0_w_bytes_a0))
  have G11 : Fld Z h6 a0 "com/example/commitlog/commitlog/codec/JsonWriter" "afterValue" "Z" (.int w_afterValue_a0) := ((F_afterValue_a0.other W3 (Or.inr (slot_ne (Or.inl (hw _ (List.mem_of_getElem? (i := 26) rfl))) (Or.inl (hw _ (List.mem_of_getElem? (i := 24) rfl))) (by decide) (t := .boolean) (t' := .int) (by decide) (by decide)))).other W6 (Or.inl ne_a0_w_bytes_a0))
  subst hv5 hf7
  refine ⟨T6, _, _, X6, N6, e6, K6, G8, G9, G10, G11, V6, fun target kt => ?_⟩
  show Steps p.tables e below (T0.setTop (mkF m 44 #[.val (.ref a0), .val (.long q1), .second, .val (.long j3), .second, .val (.int i5), .unset, .unset, .unset] [])) _
  refine XS.aloadN X0.here hx rfl (hb hby d21_44) rfl rfl ?_
  show Steps p.tables e below (T0.setTop (mkF m 45 #[.val (.ref a0), .val (.long q1), .second, .val (.long j3), .second, .val (.int i5), .unset, .unset, .unset] [(.ref a0)])) _
  refine st1 _ ?_
  show Steps p.tables e below (T1.setTop (mkF m 48 #[.val (.ref a0), .val (.long q1), .second, .val (.long j3), .second, .val (.int i5), .unset, .unset, .unset] [(.ref w_bytes_a0)])) _
  refine XS.aloadN X1.here hx rfl (hb hby d21_48) rfl rfl ?_
  show Steps p.tables e below (T1.setTop (mkF m 49 #[.val (.ref a0), .val (.long q1), .second, .val (.long j3), .second, .val (.int i5), .unset, .unset, .unset] [(.ref a0), (.ref w_bytes_a0)])) _
  refine XS.dup X1.here hx rfl (hb hby d21_49) rfl rfl ?_
  show Steps p.tables e below (T1.setTop (mkF m 50 #[.val (.ref a0), .val (.long q1), .second, .val (.long j3), .second, .val (.int i5), .unset, .unset, .unset] [(.ref a0), (.ref a0), (.ref w_bytes_a0)])) _
  refine st2 _ ?_
  show Steps p.tables e below (T2.setTop (mkF m 53 #[.val (.ref a0), .val (.long q1), .second, .val (.long j3), .second, .val (.int i5), .unset, .unset, .unset] [(.int w_length_a0), (.ref a0), (.ref w_bytes_a0)])) _
  refine XS.dupX1 X2.here hx rfl (hb hby d21_53) rfl rfl rfl ?_
  show Steps p.tables e below (T2.setTop (mkF m 54 #[.val (.ref a0), .val (.long q1), .second, .val (.long j3), .second, .val (.int i5), .unset, .unset, .unset] [(.int w_length_a0), (.ref a0), (.int w_length_a0), (.ref w_bytes_a0)])) _
  refine XS.iconst X2.here hx rfl (hb hby d21_54) ?_
  show Steps p.tables e below (T2.setTop (mkF m 55 #[.val (.ref a0), .val (.long q1), .second, .val (.long j3), .second, .val (.int i5), .unset, .unset, .unset] [(.int (1 : Int32)), (.int w_length_a0), (.ref a0), (.int w_length_a0), (.ref w_bytes_a0)])) _
  refine XS.iadd X2.here hx rfl (hb hby d21_55) rfl ?_
  show Steps p.tables e below (T2.setTop (mkF m 56 #[.val (.ref a0), .val (.long q1), .second, .val (.long j3), .second, .val (.int i5), .unset, .unset, .unset] [(.int (w_length_a0 + (1 : Int32))), (.ref a0), (.int w_length_a0), (.ref w_bytes_a0)])) _
  refine st3 _ ?_
  show Steps p.tables e below (T3.setTop (mkF m 59 #[.val (.ref a0), .val (.long q1), .second, .val (.long j3), .second, .val (.int i5), .unset, .unset, .unset] [(.int w_length_a0), (.ref w_bytes_a0)])) _
  refine X3.ldc2Long hx hown (mvT hZ (hw _ (List.mem_of_getElem? (i := 116) rfl))) (g := (mkF m 59 #[.val (.ref a0), .val (.long q1), .second, .val (.long j3), .second, .val (.int i5), .unset, .unset, .unset] [(.int w_length_a0), (.ref w_bytes_a0)])) rfl (hb hby d21_59) _ ?_
  show Steps p.tables e below (T3.setTop (mkF m 62 #[.val (.ref a0), .val (.long q1), .second, .val (.long j3), .second, .val (.int i5), .unset, .unset, .unset] [(.long (48 : Int64)), (.int w_length_a0), (.ref w_bytes_a0)])) _
  refine XS.lloadN X3.here hx rfl (hb hby d21_62) rfl ?_
  show Steps p.tables e below (T3.setTop (mkF m 63 #[.val (.ref a0), .val (.long q1), .second, .val (.long j3), .second, .val (.int i5), .unset, .unset, .unset] [(.long j3), (.long (48 : Int64)), (.int w_length_a0), (.ref w_bytes_a0)])) _
  refine X3.ldc2Long hx hown (mvT hZ (hw _ (List.mem_of_getElem? (i := 117) rfl))) (g := (mkF m 63 #[.val (.ref a0), .val (.long q1), .second, .val (.long j3), .second, .val (.int i5), .unset, .unset, .unset] [(.long j3), (.long (48 : Int64)), (.int w_length_a0), (.ref w_bytes_a0)])) rfl (hb hby d21_63) _ ?_
  show Steps p.tables e below (T3.setTop (mkF m 66 #[.val (.ref a0), .val (.long q1), .second, .val (.long j3), .second, .val (.int i5), .unset, .unset, .unset] [(.long (10 : Int64)), (.long j3), (.long (48 : Int64)), (.int w_length_a0), (.ref w_bytes_a0)])) _
  refine XS.lrem X3.here hx rfl (hb hby d21_66) rfl (by decide) ?_
  rw [lrem_mod]
  show Steps p.tables e below (T3.setTop (mkF m 67 #[.val (.ref a0), .val (.long q1), .second, .val (.long j3), .second, .val (.int i5), .unset, .unset, .unset] [(.long (j3 % (10 : Int64))), (.long (48 : Int64)), (.int w_length_a0), (.ref w_bytes_a0)])) _
  refine XS.lsub X3.here hx rfl (hb hby d21_67) rfl ?_
  show Steps p.tables e below (T3.setTop (mkF m 68 #[.val (.ref a0), .val (.long q1), .second, .val (.long j3), .second, .val (.int i5), .unset, .unset, .unset] [(.long ((48 : Int64) - (j3 % (10 : Int64)))), (.int w_length_a0), (.ref w_bytes_a0)])) _
  refine XS.l2i X3.here hx rfl (hb hby d21_68) rfl ?_
  show Steps p.tables e below (T3.setTop (mkF m 69 #[.val (.ref a0), .val (.long q1), .second, .val (.long j3), .second, .val (.int i5), .unset, .unset, .unset] [(.int (((48 : Int64) - (j3 % (10 : Int64))).toInt32)), (.int w_length_a0), (.ref w_bytes_a0)])) _
  refine XS.i2b X3.here hx rfl (hb hby d21_69) rfl ?_
  show Steps p.tables e below (T3.setTop (mkF m 70 #[.val (.ref a0), .val (.long q1), .second, .val (.long j3), .second, .val (.int i5), .unset, .unset, .unset] [(.int ((((48 : Int64) - (j3 % (10 : Int64))).toInt32).toInt8.toInt32)), (.int w_length_a0), (.ref w_bytes_a0)])) _
  show Steps p.tables e below (T3.setTop (mkF m 70 #[.val (.ref a0), .val (.long q1), .second, .val (.long j3), .second, .val (.int i5), .unset, .unset, .unset] [(.int ((((48 : Int64) - (j3 % (10 : Int64))).toInt32).toInt8.toInt32)), (.int w_length_a0), (.ref w_bytes_a0)])) _
  refine st6 _ ?_
  show Steps p.tables e below (T6.setTop (mkF m 71 #[.val (.ref a0), .val (.long q1), .second, .val (.long j3), .second, .val (.int i5), .unset, .unset, .unset] [])) _
  refine XS.lloadN X6.here hx rfl (hb hby d21_71) rfl ?_
  show Steps p.tables e below (T6.setTop (mkF m 72 #[.val (.ref a0), .val (.long q1), .second, .val (.long j3), .second, .val (.int i5), .unset, .unset, .unset] [(.long j3)])) _
  refine X6.ldc2Long hx hown (mvT hZ (hw _ (List.mem_of_getElem? (i := 117) rfl))) (g := (mkF m 72 #[.val (.ref a0), .val (.long q1), .second, .val (.long j3), .second, .val (.int i5), .unset, .unset, .unset] [(.long j3)])) rfl (hb hby d21_72) _ ?_
  show Steps p.tables e below (T6.setTop (mkF m 75 #[.val (.ref a0), .val (.long q1), .second, .val (.long j3), .second, .val (.int i5), .unset, .unset, .unset] [(.long (10 : Int64)), (.long j3)])) _
  refine XS.ldiv X6.here hx rfl (hb hby d21_75) rfl (by decide) ?_
  show Steps p.tables e below (T6.setTop (mkF m 76 #[.val (.ref a0), .val (.long q1), .second, .val (.long j3), .second, .val (.int i5), .unset, .unset, .unset] [(.long (j3 / (10 : Int64)))])) _
  refine XS.lstoreN X6.here hx rfl (hb hby d21_76) rfl (l' := #[.val (.ref a0), .val (.long q1), .second, .val (.long (j3 / (10 : Int64))), .second, .val (.int i5), .unset, .unset, .unset]) rfl ?_
  show Steps p.tables e below (T6.setTop (mkF m 77 #[.val (.ref a0), .val (.long q1), .second, .val (.long (j3 / (10 : Int64))), .second, .val (.int i5), .unset, .unset, .unset] [])) _
  refine XS.lloadN X6.here hx rfl (hb hby d21_77) rfl ?_
  show Steps p.tables e below (T6.setTop (mkF m 78 #[.val (.ref a0), .val (.long q1), .second, .val (.long (j3 / (10 : Int64))), .second, .val (.int i5), .unset, .unset, .unset] [(.long (j3 / (10 : Int64)))])) _
  refine XS.lconst X6.here hx rfl (hb hby d21_78) ?_
  show Steps p.tables e below (T6.setTop (mkF m 79 #[.val (.ref a0), .val (.long q1), .second, .val (.long (j3 / (10 : Int64))), .second, .val (.int i5), .unset, .unset, .unset] [(.long (0 : Int64)), (.long (j3 / (10 : Int64)))])) _
  refine XS.lcmp X6.here hx rfl (hb hby d21_79) rfl ?_
  show Steps p.tables e below (T6.setTop (mkF m 80 #[.val (.ref a0), .val (.long q1), .second, .val (.long (j3 / (10 : Int64))), .second, .val (.int i5), .unset, .unset, .unset] [(.int (lcmpW (j3 / (10 : Int64)) (0 : Int64)))])) _
  refine XS.ifNo X6.here hx rfl (hb hby d21_80) rfl ((if0 _ _).trans (teq ((lw_eq (j3 / (10 : Int64)) (0 : Int64)).mpr hc80)).2) ?_
  exact kt
set_option maxRecDepth 65536 in
set_option maxHeartbeats 40000000 in
theorem tnC {p : Program} {l : Launch} {e : Env} {R : Room} {s : State} {m : MethodId} {args : Array Value} {below : List Frame} {meth : Method} {c : Code} {T0 : State} {locs : List Loc} {cells slots : Nat} {Z : State} {A0 : Array Value} (a0 : Addr) (q1 : Int64) (j3 : Int64) (i5 : Int32) (i6 : Int32) (i7 : Int32) (s8 : Slot) (w_bytes_a0 : Addr) (w_length_a0 : Int32) (w_afterValue_a0 : Int32) (n_w_bytes_a0 : Nat) (g_w_bytes_a0 : Nat → Int32) {h0 : Heap} {n0 : Nat}
    (X0 : Stand p l e R s m args below meth c T0 locs cells slots) (hx : p.tables.exec = Jvm.exec) (hZ : Z.Warmed39 s.vm) (hw : ∀ d ∈ tables_1, d.before A0 Z = true) (hby : c.code = prog_9_method_8_code) (hml : c.maxLocals = 9) (hown : s.vm.findClass "com/example/commitlog/commitlog/codec/JsonWriter" = some m.cls) (e0 : T0.heap = h0) (N0 : Fr n0 locs) (E_a0 : Exa Z h0 a0 "com/example/commitlog/commitlog/codec/JsonWriter") (F_bytes_a0 : Fld Z h0 a0 "com/example/commitlog/commitlog/codec/JsonWriter" "bytes" "[B" (.ref w_bytes_a0)) (F_length_a0 : Fld Z h0 a0 "com/example/commitlog/commitlog/codec/JsonWriter" "length" "I" (.int w_length_a0)) (F_afterValue_a0 : Fld Z h0 a0 "com/example/commitlog/commitlog/codec/JsonWriter" "afterValue" "Z" (.int w_afterValue_a0)) (A_w_bytes_a0 : AF Z h0 w_bytes_a0 .byte n_w_bytes_a0 (fun j => .int (g_w_bytes_a0 j))) (nw_w_bytes_a0 : n0 ≤ w_bytes_a0) (ne_a0_w_bytes_a0 : a0 ≠ w_bytes_a0) (hc99 : i6 < i7) (hin108 : own_in i6 n_w_bytes_a0) (one_s8 : One s8) (hin123 : own_in i7 n_w_bytes_a0) (hin124 : own_in i6 n_w_bytes_a0) (hin133 : own_in i7 n_w_bytes_a0) :
    ∃ (T' : State) (h' : Heap) (L' : List Loc), Stand p l e R s m args below meth c T' L' cells slots ∧ Fr n0 L' ∧ T'.heap = h' ∧ Keep h0 h' [w_bytes_a0] ∧ AF Z h' w_bytes_a0 .byte n_w_bytes_a0 (fun j => .int ((fun i => if i = (i7).toNatClampNeg then ((g_w_bytes_a0 (i6).toNatClampNeg).toInt8.toInt32) else (fun i => if i = (i6).toNatClampNeg then ((g_w_bytes_a0 (i7).toNatClampNeg).toInt8.toInt32) else g_w_bytes_a0 i) i) j)) ∧ ∀ target, Steps p.tables e below (T'.setTop (mkF m 95 #[.val (.ref a0), .val (.long q1), .second, .val (.long j3), .second, .val (.int i5), .val (.int (i6 + (1 : Int32))), .val (.int (i7 + (-1 : Int32))), .val (.int (g_w_bytes_a0 (i6).toNatClampNeg))] [])) target → Steps p.tables e below (T0.setTop (mkF m 95 #[.val (.ref a0), .val (.long q1), .second, .val (.long j3), .second, .val (.int i5), .val (.int i6), .val (.int i7), s8] [])) target := by
  obtain ⟨T1, X1, e1, st1⟩ := getF X0 hx hZ hown (host := "") (Or.inl (hw _ (List.mem_of_getElem? (i := 11) rfl))) Via.refl e0 F_bytes_a0 (g := (mkF m 103 #[.val (.ref a0), .val (.long q1), .second, .val (.long j3), .second, .val (.int i5), .val (.int i6), .val (.int i7), s8] [(.ref a0)])) rfl rfl (hb hby d21_103)
  obtain ⟨T2, X2, e2, st2⟩ := getF X1 hx hZ hown (host := "") (Or.inl (hw _ (List.mem_of_getElem? (i := 11) rfl))) Via.refl e1 F_bytes_a0 (g := (mkF m 112 #[.val (.ref a0), .val (.long q1), .second, .val (.long j3), .second, .val (.int i5), .val (.int i6), .val (.int i7), .val (.int (g_w_bytes_a0 (i6).toNatClampNeg))] [(.ref a0)])) rfl rfl (hb hby d21_112)
  obtain ⟨T3, X3, e3, st3⟩ := getF X2 hx hZ hown (host := "") (Or.inl (hw _ (List.mem_of_getElem? (i := 11) rfl))) Via.refl e2 F_bytes_a0 (g := (mkF m 118 #[.val (.ref a0), .val (.long q1), .second, .val (.long j3), .second, .val (.int i5), .val (.int i6), .val (.int i7), .val (.int (g_w_bytes_a0 (i6).toNatClampNeg))] [(.ref a0), (.int i6), (.ref w_bytes_a0)])) rfl rfl (hb hby d21_118)
  obtain ⟨T4, h4, X4, e4, W4, A4, st4⟩ := AF.stB X3 hx hZ e3 A_w_bytes_a0 hin124 (g := (mkF m 124 #[.val (.ref a0), .val (.long q1), .second, .val (.long j3), .second, .val (.int i5), .val (.int i6), .val (.int i7), .val (.int (g_w_bytes_a0 (i6).toNatClampNeg))] [(.int (g_w_bytes_a0 (i7).toNatClampNeg)), (.int i6), (.ref w_bytes_a0)])) rfl rfl (hb hby d21_124)
  have K4 : Keep h0 h4 [w_bytes_a0] := (Keep.refl h0 [w_bytes_a0]).wr W4 (Or.inl (by simp))
  obtain ⟨f5, hf5⟩ : ∃ f : Nat → Int32, f = (fun i => if i = (i6).toNatClampNeg then ((g_w_bytes_a0 (i7).toNatClampNeg).toInt8.toInt32) else g_w_bytes_a0 i) := ⟨_, rfl⟩
  have V4 : AF Z h4 w_bytes_a0 .byte n_w_bytes_a0 (fun j => .int (f5 j)) := AF.cong A4 (own_updI rfl hf5)
  have N4 := Fr.snoc X4 N0 nw_w_bytes_a0
  have G6 : Fld Z h4 a0 "com/example/commitlog/commitlog/codec/JsonWriter" "bytes" "[B" (.ref w_bytes_a0) := (F_bytes_a0.other W4 (Or.inl ne_a0_w_bytes_a0))
  obtain ⟨T7, X7, e7, st7⟩ := getF X4 hx hZ hown (host := "") (Or.inl (hw _ (List.mem_of_getElem? (i := 11) rfl))) Via.refl e4 G6 (g := (mkF m 126 #[.val (.ref a0), .val (.long q1), .second, .val (.long j3), .second, .val (.int i5), .val (.int i6), .val (.int i7), .val (.int (g_w_bytes_a0 (i6).toNatClampNeg))] [(.ref a0)])) rfl rfl (hb hby d21_126)
  obtain ⟨T8, h8, X8, e8, W8, A8, st8⟩ := AF.stB X7 hx hZ e7 V4 hin133 (g := (mkF m 133 #[.val (.ref a0), .val (.long q1), .second, .val (.long j3), .second, .val (.int i5), .val (.int i6), .val (.int i7), .val (.int (g_w_bytes_a0 (i6).toNatClampNeg))] [(.int (g_w_bytes_a0 (i6).toNatClampNeg)), (.int i7), (.ref w_bytes_a0)])) rfl rfl (hb hby d21_133)
  have K8 : Keep h0 h8 [w_bytes_a0] := K4.wr W8 (Or.inl (by simp))
  obtain ⟨f9, hf9⟩ : ∃ f : Nat → Int32, f = (fun i => if i = (i7).toNatClampNeg then ((g_w_bytes_a0 (i6).toNatClampNeg).toInt8.toInt32) else f5 i) := ⟨_, rfl⟩
  have V8 : AF Z h8 w_bytes_a0 .byte n_w_bytes_a0 (fun j => .int (f9 j)) := AF.cong A8 (own_updI rfl hf9)
  have N8 := Fr.snoc X8 N4 nw_w_bytes_a0
  subst hf5 hf9
  refine ⟨T8, _, _, X8, N8, e8, K8, V8, fun target kt => ?_⟩
  show Steps p.tables e below (T0.setTop (mkF m 95 #[.val (.ref a0), .val (.long q1), .second, .val (.long j3), .second, .val (.int i5), .val (.int i6), .val (.int i7), s8] [])) _
  refine XS.iload X0.here hx rfl (hb hby d21_95) rfl ?_
  show Steps p.tables e below (T0.setTop (mkF m 97 #[.val (.ref a0), .val (.long q1), .second, .val (.long j3), .second, .val (.int i5), .val (.int i6), .val (.int i7), s8] [(.int i6)])) _
  refine XS.iload X0.here hx rfl (hb hby d21_97) rfl ?_
  show Steps p.tables e below (T0.setTop (mkF m 99 #[.val (.ref a0), .val (.long q1), .second, .val (.long j3), .second, .val (.int i5), .val (.int i6), .val (.int i7), s8] [(.int i7), (.int i6)])) _
  refine XS.icmpNo X0.here hx rfl (hb hby d21_99) rfl (tlt hc99).2.1 ?_
  show Steps p.tables e below (T0.setTop (mkF m 102 #[.val (.ref a0), .val (.long q1), .second, .val (.long j3), .second, .val (.int i5), .val (.int i6), .val (.int i7), s8] [])) _
  refine XS.aloadN X0.here hx rfl (hb hby d21_102) rfl rfl ?_
  show Steps p.tables e below (T0.setTop (mkF m 103 #[.val (.ref a0), .val (.long q1), .second, .val (.long j3), .second, .val (.int i5), .val (.int i6), .val (.int i7), s8] [(.ref a0)])) _
  refine st1 _ ?_
  show Steps p.tables e below (T1.setTop (mkF m 106 #[.val (.ref a0), .val (.long q1), .second, .val (.long j3), .second, .val (.int i5), .val (.int i6), .val (.int i7), s8] [(.ref w_bytes_a0)])) _
  refine XS.iload X1.here hx rfl (hb hby d21_106) rfl ?_
  show Steps p.tables e below (T1.setTop (mkF m 108 #[.val (.ref a0), .val (.long q1), .second, .val (.long j3), .second, .val (.int i5), .val (.int i6), .val (.int i7), s8] [(.int i6), (.ref w_bytes_a0)])) _
  refine AF.ldB X1 hx hZ e1 A_w_bytes_a0 hin108 (g := (mkF m 108 #[.val (.ref a0), .val (.long q1), .second, .val (.long j3), .second, .val (.int i5), .val (.int i6), .val (.int i7), s8] [(.int i6), (.ref w_bytes_a0)])) rfl rfl (hb hby d21_108) _ ?_
  show Steps p.tables e below (T1.setTop (mkF m 109 #[.val (.ref a0), .val (.long q1), .second, .val (.long j3), .second, .val (.int i5), .val (.int i6), .val (.int i7), s8] [(.int (g_w_bytes_a0 (i6).toNatClampNeg))])) _
  refine XS.istoreS X1.here hx rfl (hb hby d21_109) rfl rfl one_s8 ?_
  show Steps p.tables e below (T1.setTop (mkF m 111 #[.val (.ref a0), .val (.long q1), .second, .val (.long j3), .second, .val (.int i5), .val (.int i6), .val (.int i7), .val (.int (g_w_bytes_a0 (i6).toNatClampNeg))] [])) _
  refine XS.aloadN X1.here hx rfl (hb hby d21_111) rfl rfl ?_
  show Steps p.tables e below (T1.setTop (mkF m 112 #[.val (.ref a0), .val (.long q1), .second, .val (.long j3), .second, .val (.int i5), .val (.int i6), .val (.int i7), .val (.int (g_w_bytes_a0 (i6).toNatClampNeg))] [(.ref a0)])) _
  refine st2 _ ?_
  show Steps p.tables e below (T2.setTop (mkF m 115 #[.val (.ref a0), .val (.long q1), .second, .val (.long j3), .second, .val (.int i5), .val (.int i6), .val (.int i7), .val (.int (g_w_bytes_a0 (i6).toNatClampNeg))] [(.ref w_bytes_a0)])) _
  refine XS.iload X2.here hx rfl (hb hby d21_115) rfl ?_
  show Steps p.tables e below (T2.setTop (mkF m 117 #[.val (.ref a0), .val (.long q1), .second, .val (.long j3), .second, .val (.int i5), .val (.int i6), .val (.int i7), .val (.int (g_w_bytes_a0 (i6).toNatClampNeg))] [(.int i6), (.ref w_bytes_a0)])) _
  refine XS.aloadN X2.here hx rfl (hb hby d21_117) rfl rfl ?_
  show Steps p.tables e below (T2.setTop (mkF m 118 #[.val (.ref a0), .val (.long q1), .second, .val (.long j3), .second, .val (.int i5), .val (.int i6), .val (.int i7), .val (.int (g_w_bytes_a0 (i6).toNatClampNeg))] [(.ref a0), (.int i6), (.ref w_bytes_a0)])) _
  refine st3 _ ?_
  show Steps p.tables e below (T3.setTop (mkF m 121 #[.val (.ref a0), .val (.long q1), .second, .val (.long j3), .second, .val (.int i5), .val (.int i6), .val (.int i7), .val (.int (g_w_bytes_a0 (i6).toNatClampNeg))] [(.ref w_bytes_a0), (.int i6), (.ref w_bytes_a0)])) _
  refine XS.iload X3.here hx rfl (hb hby d21_121) rfl ?_
  show Steps p.tables e below (T3.setTop (mkF m 123 #[.val (.ref a0), .val (.long q1), .second, .val (.long j3), .second, .val (.int i5), .val (.int i6), .val (.int i7), .val (.int (g_w_bytes_a0 (i6).toNatClampNeg))] [(.int i7), (.ref w_bytes_a0), (.int i6), (.ref w_bytes_a0)])) _
  refine AF.ldB X3 hx hZ e3 A_w_bytes_a0 hin123 (g := (mkF m 123 #[.val (.ref a0), .val (.long q1), .second, .val (.long j3), .second, .val (.int i5), .val (.int i6), .val (.int i7), .val (.int (g_w_bytes_a0 (i6).toNatClampNeg))] [(.int i7), (.ref w_bytes_a0), (.int i6), (.ref w_bytes_a0)])) rfl rfl (hb hby d21_123) _ ?_
  show Steps p.tables e below (T3.setTop (mkF m 124 #[.val (.ref a0), .val (.long q1), .second, .val (.long j3), .second, .val (.int i5), .val (.int i6), .val (.int i7), .val (.int (g_w_bytes_a0 (i6).toNatClampNeg))] [(.int (g_w_bytes_a0 (i7).toNatClampNeg)), (.int i6), (.ref w_bytes_a0)])) _
  refine st4 _ ?_
  show Steps p.tables e below (T4.setTop (mkF m 125 #[.val (.ref a0), .val (.long q1), .second, .val (.long j3), .second, .val (.int i5), .val (.int i6), .val (.int i7), .val (.int (g_w_bytes_a0 (i6).toNatClampNeg))] [])) _
  refine XS.aloadN X4.here hx rfl (hb hby d21_125) rfl rfl ?_
  show Steps p.tables e below (T4.setTop (mkF m 126 #[.val (.ref a0), .val (.long q1), .second, .val (.long j3), .second, .val (.int i5), .val (.int i6), .val (.int i7), .val (.int (g_w_bytes_a0 (i6).toNatClampNeg))] [(.ref a0)])) _
  refine st7 _ ?_
  show Steps p.tables e below (T7.setTop (mkF m 129 #[.val (.ref a0), .val (.long q1), .second, .val (.long j3), .second, .val (.int i5), .val (.int i6), .val (.int i7), .val (.int (g_w_bytes_a0 (i6).toNatClampNeg))] [(.ref w_bytes_a0)])) _
  refine XS.iload X7.here hx rfl (hb hby d21_129) rfl ?_
  show Steps p.tables e below (T7.setTop (mkF m 131 #[.val (.ref a0), .val (.long q1), .second, .val (.long j3), .second, .val (.int i5), .val (.int i6), .val (.int i7), .val (.int (g_w_bytes_a0 (i6).toNatClampNeg))] [(.int i7), (.ref w_bytes_a0)])) _
  refine XS.iload X7.here hx rfl (hb hby d21_131) rfl ?_
  show Steps p.tables e below (T7.setTop (mkF m 133 #[.val (.ref a0), .val (.long q1), .second, .val (.long j3), .second, .val (.int i5), .val (.int i6), .val (.int i7), .val (.int (g_w_bytes_a0 (i6).toNatClampNeg))] [(.int (g_w_bytes_a0 (i6).toNatClampNeg)), (.int i7), (.ref w_bytes_a0)])) _
  refine st8 _ ?_
  show Steps p.tables e below (T8.setTop (mkF m 134 #[.val (.ref a0), .val (.long q1), .second, .val (.long j3), .second, .val (.int i5), .val (.int i6), .val (.int i7), .val (.int (g_w_bytes_a0 (i6).toNatClampNeg))] [])) _
  refine XS.iinc X8.here hx rfl (hb hby d21_134) rfl (l' := #[.val (.ref a0), .val (.long q1), .second, .val (.long j3), .second, .val (.int i5), .val (.int (i6 + (1 : Int32))), .val (.int i7), .val (.int (g_w_bytes_a0 (i6).toNatClampNeg))]) rfl ?_
  show Steps p.tables e below (T8.setTop (mkF m 137 #[.val (.ref a0), .val (.long q1), .second, .val (.long j3), .second, .val (.int i5), .val (.int (i6 + (1 : Int32))), .val (.int i7), .val (.int (g_w_bytes_a0 (i6).toNatClampNeg))] [])) _
  refine XS.iinc X8.here hx rfl (hb hby d21_137) rfl (l' := #[.val (.ref a0), .val (.long q1), .second, .val (.long j3), .second, .val (.int i5), .val (.int (i6 + (1 : Int32))), .val (.int (i7 + (-1 : Int32))), .val (.int (g_w_bytes_a0 (i6).toNatClampNeg))]) rfl ?_
  show Steps p.tables e below (T8.setTop (mkF m 140 #[.val (.ref a0), .val (.long q1), .second, .val (.long j3), .second, .val (.int i5), .val (.int (i6 + (1 : Int32))), .val (.int (i7 + (-1 : Int32))), .val (.int (g_w_bytes_a0 (i6).toNatClampNeg))] [])) _
  refine XS.goto X8.here hx rfl (pc0 := 140) (pc' := 95) rfl (hb hby d21_140) (by decide) (by decide) ?_
  exact kt
set_option maxRecDepth 65536 in
set_option maxHeartbeats 40000000 in
theorem tnD {p : Program} {l : Launch} {e : Env} {R : Room} {s : State} {m : MethodId} {args : Array Value} {below : List Frame} {meth : Method} {c : Code} {T0 : State} {locs : List Loc} {cells slots : Nat} {Z : State} {A0 : Array Value} (a0 : Addr) (q1 : Int64) (j3 : Int64) (i5 : Int32) (i6 : Int32) (i7 : Int32) (s8 : Slot) (w_bytes_a0 : Addr) (w_length_a0 : Int32) (w_afterValue_a0 : Int32) {h0 : Heap} {n0 : Nat}
    (X0 : Stand p l e R s m args below meth c T0 locs cells slots) (hx : p.tables.exec = Jvm.exec) (hZ : Z.Warmed39 s.vm) (hw : ∀ d ∈ tables_1, d.before A0 Z = true) (hby : c.code = prog_9_method_8_code) (hml : c.maxLocals = 9) (hown : s.vm.findClass "com/example/commitlog/commitlog/codec/JsonWriter" = some m.cls) (e0 : T0.heap = h0) (N0 : Fr n0 locs) (E_a0 : Exa Z h0 a0 "com/example/commitlog/commitlog/codec/JsonWriter") (F_bytes_a0 : Fld Z h0 a0 "com/example/commitlog/commitlog/codec/JsonWriter" "bytes" "[B" (.ref w_bytes_a0)) (F_length_a0 : Fld Z h0 a0 "com/example/commitlog/commitlog/codec/JsonWriter" "length" "I" (.int w_length_a0)) (F_afterValue_a0 : Fld Z h0 a0 "com/example/commitlog/commitlog/codec/JsonWriter" "afterValue" "Z" (.int w_afterValue_a0)) (hc99 : ¬ (i6 < i7)) :
    ∃ (T' : State) (L' : List Loc), Stand p l e R s m args below meth c T' L' cells slots ∧ Fr n0 L' ∧ T'.heap = h0 ∧ ∀ target, Steps p.tables e below (T'.setTop (mkF m 143 #[.val (.ref a0), .val (.long q1), .second, .val (.long j3), .second, .val (.int i5), .val (.int i6), .val (.int i7), s8] [])) target → Steps p.tables e below (T0.setTop (mkF m 95 #[.val (.ref a0), .val (.long q1), .second, .val (.long j3), .second, .val (.int i5), .val (.int i6), .val (.int i7), s8] [])) target := by
  refine ⟨T0, _, X0, N0, e0, fun target kt => ?_⟩
  show Steps p.tables e below (T0.setTop (mkF m 95 #[.val (.ref a0), .val (.long q1), .second, .val (.long j3), .second, .val (.int i5), .val (.int i6), .val (.int i7), s8] [])) _
  refine XS.iload X0.here hx rfl (hb hby d21_95) rfl ?_
  show Steps p.tables e below (T0.setTop (mkF m 97 #[.val (.ref a0), .val (.long q1), .second, .val (.long j3), .second, .val (.int i5), .val (.int i6), .val (.int i7), s8] [(.int i6)])) _
  refine XS.iload X0.here hx rfl (hb hby d21_97) rfl ?_
  show Steps p.tables e below (T0.setTop (mkF m 99 #[.val (.ref a0), .val (.long q1), .second, .val (.long j3), .second, .val (.int i5), .val (.int i6), .val (.int i7), s8] [(.int i7), (.int i6)])) _
  refine XS.icmpYes X0.here hx rfl (pc0 := 99) (pc' := 143) rfl (hb hby d21_99) rfl (flt hc99).2.1 (by decide) (by decide) ?_
  exact kt

theorem own_d10 (j : Int64) (h0 : j.toInt ≤ 0) : (j / (10 : Int64)).toInt = -(-j.toInt / 10) := by
  have k : (10 : Int64).toInt = 10 := by decide
  have d := c_ldiv j 10 10 k (by decide)
  by_cases z : 0 ≤ j.toInt
  · have := d.1 z; omega
  · have := d.2 (by omega); omega
theorem own_i1 (x : Int32) (h0 : 0 ≤ x.toInt) (h1 : x.toInt ≤ 100) : (x + (1 : Int32)).toInt = x.toInt + 1 := by
  have a := c_iadd x 1
  have r := rng32 (x + (1 : Int32))
  have k : (1 : Int32).toInt = 1 := by decide
  omega
theorem own_im (x : Int32) (h0 : 0 ≤ x.toInt) (h1 : x.toInt ≤ 100) : (x + (-1 : Int32)).toInt = x.toInt - 1 := by
  have a := c_iadd x (-1)
  have r := rng32 (x + (-1 : Int32))
  have k : (-1 : Int32).toInt = -1 := by decide
  omega
theorem loopD {p : Program} {l : Launch} {e : Env} {R : Room} {s : State} {m : MethodId} {args : Array Value} {below : List Frame} {meth : Method} {c : Code} {cells slots : Nat} {Z : State} {A0 : Array Value} {n0 N : Nat} (a0 b : Addr) (q1 : Int64) (i5 av : Int32)
    (hx : p.tables.exec = Jvm.exec) (hZ : Z.Warmed39 s.vm) (hw : ∀ d ∈ tables_1, d.before A0 Z = true) (hby : c.code = prog_9_method_8_code) (hml : c.maxLocals = 9) (hown : s.vm.findClass "com/example/commitlog/commitlog/codec/JsonWriter" = some m.cls) (nwa : n0 ≤ a0) (nwb : n0 ≤ b) (ne : a0 ≠ b) (hN : N ≤ 64) (k : Nat) :
    ∀ (j3 : Int64) (len : Int32) (g : Nat → Int32) (h0 : Heap) (T0 : State) (locs : List Loc), Stand p l e R s m args below meth c T0 locs cells slots → T0.heap = h0 → Fr n0 locs → Exa Z h0 a0 "com/example/commitlog/commitlog/codec/JsonWriter" → Fld Z h0 a0 "com/example/commitlog/commitlog/codec/JsonWriter" "bytes" "[B" (.ref b) → Fld Z h0 a0 "com/example/commitlog/commitlog/codec/JsonWriter" "length" "I" (.int len) → Fld Z h0 a0 "com/example/commitlog/commitlog/codec/JsonWriter" "afterValue" "Z" (.int av) → AF Z h0 b .byte N (fun j => .int (g j)) → own_B g → 0 ≤ len.toInt → len.toInt + k + 1 ≤ N → j3.toInt ≤ 0 → -j3.toInt < (10 : Int) ^ (k + 1) →
    ∃ (T' : State) (h' : Heap) (L' : List Loc) (j' : Int64) (len' : Int32) (g' : Nat → Int32), Stand p l e R s m args below meth c T' L' cells slots ∧ Fr n0 L' ∧ T'.heap = h' ∧ Keep h0 h' [a0, b] ∧ Exa Z h' a0 "com/example/commitlog/commitlog/codec/JsonWriter" ∧ Fld Z h' a0 "com/example/commitlog/commitlog/codec/JsonWriter" "bytes" "[B" (.ref b) ∧ Fld Z h' a0 "com/example/commitlog/commitlog/codec/JsonWriter" "length" "I" (.int len') ∧ Fld Z h' a0 "com/example/commitlog/commitlog/codec/JsonWriter" "afterValue" "Z" (.int av) ∧ AF Z h' b .byte N (fun j => .int (g' j)) ∧ own_B g' ∧ len.toInt < len'.toInt ∧ len'.toInt ≤ N ∧
      ∀ target, Steps p.tables e below (T'.setTop (mkF m 83 #[.val (.ref a0), .val (.long q1), .second, .val (.long j'), .second, .val (.int i5), .unset, .unset, .unset] [])) target → Steps p.tables e below (T0.setTop (mkF m 44 #[.val (.ref a0), .val (.long q1), .second, .val (.long j3), .second, .val (.int i5), .unset, .unset, .unset] [])) target := by
  induction k with
  | zero =>
    intro j3 len g h0 T0 locs X0 e0 N0 E Fb Fl Fa A B l0 l1 z0 z1
    have d := own_d10 j3 z0
    have hz : (j3 / (10 : Int64)) = (0 : Int64) := by
      apply Int64.toInt_inj.mp
      have k0 : (0 : Int64).toInt = 0 := by decide
      have z2 : -j3.toInt < 10 := z1
      omega
    have hin : own_in len N := ⟨l0, by omega⟩
    obtain ⟨T', h', L', X', N', e', K', E', Fb', Fl', Fa', A', st⟩ := tnB a0 q1 j3 i5 b len av N g X0 hx hZ hw hby hml hown e0 N0 E Fb Fl Fa nwa A ne nwb hin hz
    exact ⟨T', h', L', _, _, _, X', N', e', K', E', Fb', Fl', Fa', A', own_Bset B _ _, by rw [own_i1 len l0 (by omega)]; omega, by rw [own_i1 len l0 (by omega)]; omega, st⟩
  | succ k ih =>
    intro j3 len g h0 T0 locs X0 e0 N0 E Fb Fl Fa A B l0 l1 z0 z1
    have d := own_d10 j3 z0
    have hin : own_in len N := ⟨l0, by omega⟩
    have i1 := own_i1 len l0 (by omega)
    by_cases hz : (j3 / (10 : Int64)) = (0 : Int64)
    · obtain ⟨T', h', L', X', N', e', K', E', Fb', Fl', Fa', A', st⟩ := tnB a0 q1 j3 i5 b len av N g X0 hx hZ hw hby hml hown e0 N0 E Fb Fl Fa nwa A ne nwb hin hz
      exact ⟨T', h', L', _, _, _, X', N', e', K', E', Fb', Fl', Fa', A', own_Bset B _ _, by omega, by omega, st⟩
    · obtain ⟨T', h', L', X', N', e', K', E', Fb', Fl', Fa', A', st⟩ := tnA a0 q1 j3 i5 b len av N g X0 hx hZ hw hby hml hown e0 N0 E Fb Fl Fa nwa A ne nwb hin hz
      have p10 : (10 : Int) ^ (k + 1 + 1) = 10 ^ (k + 1) * 10 := Int.pow_succ 10 (k + 1)
      obtain ⟨T2, h2, L2, j2, len2, g2, X2, N2, e2, K2, E2, Fb2, Fl2, Fa2, A2, B2, q1, q2, st2⟩ := ih (j3 / (10 : Int64)) (len + (1 : Int32)) _ h' T' L' X' e' N' E' Fb' Fl' Fa' A' (own_Bset B _ _) (by omega) (by omega) (by omega) (by omega)
      exact ⟨T2, h2, L2, j2, len2, g2, X2, N2, e2, K'.trans K2 (allS (Or.inl (by simp)) (allS (Or.inl (by simp)) all0)), E2, Fb2, Fl2, Fa2, A2, B2, by omega, q2, fun t kt => st t (st2 t kt)⟩
theorem loopR {p : Program} {l : Launch} {e : Env} {R : Room} {s : State} {m : MethodId} {args : Array Value} {below : List Frame} {meth : Method} {c : Code} {cells slots : Nat} {Z : State} {A0 : Array Value} {n0 N : Nat} (a0 b : Addr) (q1 : Int64) (i5 av : Int32)
    (hx : p.tables.exec = Jvm.exec) (hZ : Z.Warmed39 s.vm) (hw : ∀ d ∈ tables_1, d.before A0 Z = true) (hby : c.code = prog_9_method_8_code) (hml : c.maxLocals = 9) (hown : s.vm.findClass "com/example/commitlog/commitlog/codec/JsonWriter" = some m.cls) (nwa : n0 ≤ a0) (nwb : n0 ≤ b) (ne : a0 ≠ b) (hN : N ≤ 64) (j3 : Int64) (len : Int32) (k : Nat) :
    ∀ (i6 i7 : Int32) (s8 : Slot) (g : Nat → Int32) (h0 : Heap) (T0 : State) (locs : List Loc), Stand p l e R s m args below meth c T0 locs cells slots → T0.heap = h0 → Fr n0 locs → Exa Z h0 a0 "com/example/commitlog/commitlog/codec/JsonWriter" → Fld Z h0 a0 "com/example/commitlog/commitlog/codec/JsonWriter" "bytes" "[B" (.ref b) → Fld Z h0 a0 "com/example/commitlog/commitlog/codec/JsonWriter" "length" "I" (.int len) → Fld Z h0 a0 "com/example/commitlog/commitlog/codec/JsonWriter" "afterValue" "Z" (.int av) → AF Z h0 b .byte N (fun j => .int (g j)) → own_B g → One s8 → 0 ≤ i6.toInt → i6.toInt ≤ 64 → 0 ≤ i7.toInt → i7.toInt < N → i7.toInt - i6.toInt ≤ k →
    ∃ (T' : State) (h' : Heap) (L' : List Loc) (i6' i7' : Int32) (s8' : Slot) (g' : Nat → Int32), Stand p l e R s m args below meth c T' L' cells slots ∧ Fr n0 L' ∧ T'.heap = h' ∧ Keep h0 h' [a0, b] ∧ Exa Z h' a0 "com/example/commitlog/commitlog/codec/JsonWriter" ∧ Fld Z h' a0 "com/example/commitlog/commitlog/codec/JsonWriter" "bytes" "[B" (.ref b) ∧ Fld Z h' a0 "com/example/commitlog/commitlog/codec/JsonWriter" "length" "I" (.int len) ∧ Fld Z h' a0 "com/example/commitlog/commitlog/codec/JsonWriter" "afterValue" "Z" (.int av) ∧ AF Z h' b .byte N (fun j => .int (g' j)) ∧ own_B g' ∧
      ∀ target, Steps p.tables e below (T'.setTop (mkF m 143 #[.val (.ref a0), .val (.long q1), .second, .val (.long j3), .second, .val (.int i5), .val (.int i6'), .val (.int i7'), s8'] [])) target → Steps p.tables e below (T0.setTop (mkF m 95 #[.val (.ref a0), .val (.long q1), .second, .val (.long j3), .second, .val (.int i5), .val (.int i6), .val (.int i7), s8] [])) target := by
  induction k with
  | zero =>
    intro i6 i7 s8 g h0 T0 locs X0 e0 N0 E Fb Fl Fa A B O l0 l6 l7 l8 z1
    have hz : ¬ (i6 < i7) := by rw [Int32.lt_iff_toInt_lt]; omega
    obtain ⟨T', L', X', N', e', st⟩ := tnD a0 q1 j3 i5 i6 i7 s8 b len av X0 hx hZ hw hby hml hown e0 N0 E Fb Fl Fa hz
    exact ⟨T', h0, L', i6, i7, s8, g, X', N', e', Keep.refl h0 _, E, Fb, Fl, Fa, A, B, st⟩
  | succ k ih =>
    intro i6 i7 s8 g h0 T0 locs X0 e0 N0 E Fb Fl Fa A B O l0 l6 l7 l8 z1
    by_cases hz : i6 < i7
    · have hz' := Int32.lt_iff_toInt_lt.mp hz
      have hi : own_in i6 N := ⟨l0, by omega⟩
      have hj : own_in i7 N := ⟨l7, l8⟩
      have a1 := own_i1 i6 l0 (by omega)
      have a2 := own_im i7 l7 (by omega)
      obtain ⟨T', h', L', X', N', e', K', A', st⟩ := tnC a0 q1 j3 i5 i6 i7 s8 b len av N g X0 hx hZ hw hby hml hown e0 N0 E Fb Fl Fa A nwb ne hz hi O hj hi hj
      have nin : a0 ∉ [b] := ninS ne nin0
      have K2' : Keep h0 h' [a0, b] := (Keep.refl h0 _).trans K' (allS (Or.inl (by simp)) all0)
      obtain ⟨T2, h2, L2, x6, x7, x8, g2, X2, N2, e2, K2, E2, Fb2, Fl2, Fa2, A2, B2, st2⟩ := ih (i6 + (1 : Int32)) (i7 + (-1 : Int32)) (.val (.int (g (i6).toNatClampNeg))) _ h' T' L' X' e' N' (E.keep K') (Fb.keep K' nin) (Fl.keep K' nin) (Fa.keep K' nin) A' (own_Bset (own_Bset B _ _) _ _) (One.val rfl) (by omega) (by omega) (by omega) (by omega) (by omega)
      exact ⟨T2, h2, L2, x6, x7, x8, g2, X2, N2, e2, K2'.trans K2 (allS (Or.inl (by simp)) (allS (Or.inl (by simp)) all0)), E2, Fb2, Fl2, Fa2, A2, B2, fun t kt => st t (st2 t kt)⟩
    · obtain ⟨T', L', X', N', e', st⟩ := tnD a0 q1 j3 i5 i6 i7 s8 b len av X0 hx hZ hw hby hml hown e0 N0 E Fb Fl Fa hz
      exact ⟨T', h0, L', i6, i7, s8, g, X', N', e', Keep.refl h0 _, E, Fb, Fl, Fa, A, B, st⟩

theorem own_nlf (n : Nat) (len p : Int32) (hn : n ≤ 40) (h0 : 0 ≤ len.toInt) (h1 : len.toInt ≤ n) (h2 : 0 ≤ p.toInt) (h3 : p.toInt ≤ 20) (hb0 : n < 20) (hc : ((Int32.ofNat n) - len) < p) :
    ¬ ((own_nl n len p) = (Int32.ofNat n)) ∧ ¬ (own_nl n len p) < (0 : Int32) ∧ (own_nl n len p).toNatClampNeg ≤ 64 ∧ ¬ ((own_nl n len p) < (Int32.ofNat n)) ∧ (((own_nl n len p).toNatClampNeg : Nat) : Int) = max (2 * (n : Int)) (len.toInt + p.toInt) := by
  have e := own_nl_int n len p (by omega) h0 (by omega) h2 (by omega)
  have kn : (Int32.ofNat n).toInt = n := Int32.toInt_ofNat_of_lt (by omega)
  have s := c_isub (Int32.ofNat n) len
  have r := rng32 ((Int32.ofNat n) - len)
  rw [kn] at s
  rw [Int32.lt_iff_toInt_lt] at hc
  have k0 : (0 : Int32).toInt = 0 := by decide
  have cl : (own_nl n len p).toNatClampNeg = (own_nl n len p).toInt.toNat := rfl
  refine ⟨fun q => ?_, ?_, ?_, ?_, ?_⟩
  · have q' := congrArg Int32.toInt q
    rw [kn] at q'
    omega
  · rw [Int32.lt_iff_toInt_lt, k0]; omega
  · omega
  · rw [Int32.lt_iff_toInt_lt, kn]; omega
  · omega
theorem own_rc (n : Nat) (len p : Int32) (hn : n ≤ 64) (h0 : 0 ≤ len.toInt) (h1 : len.toInt ≤ n) : ((Int32.ofNat n) - len) < p ↔ (n : Int) - len.toInt < p.toInt := by
  have kn : (Int32.ofNat n).toInt = n := Int32.toInt_ofNat_of_lt (by omega)
  have s := c_isub (Int32.ofNat n) len
  have r := rng32 ((Int32.ofNat n) - len)
  rw [kn] at s
  rw [Int32.lt_iff_toInt_lt]
  omega
theorem own_z32 : (0 : Int32).toInt = 0 := by decide
theorem own_20 : (20 : Int32).toInt = 20 := by decide
theorem own_nlV (n : Nat) (hn : n ≤ 40) (p : Int32) (h2 : 0 ≤ p.toInt) (h3 : p.toInt ≤ 20) (hc : ((Int32.ofNat n) - (0 : Int32)) < p) :
    ¬ ((own_nl n (0 : Int32) p) = (Int32.ofNat n)) ∧ ¬ (own_nl n (0 : Int32) p) < (0 : Int32) ∧ (own_nl n (0 : Int32) p).toNatClampNeg ≤ 64 ∧ ¬ ((own_nl n (0 : Int32) p) < (Int32.ofNat n)) ∧ (((own_nl n (0 : Int32) p).toNatClampNeg : Nat) : Int) = max (2 * (n : Int)) ((0 : Int32).toInt + p.toInt) := own_nlf n (0 : Int32) p hn (by decide) (by rw [own_z32]; omega) h2 h3 (by have q := (own_rc n (0 : Int32) p (by omega) (by decide) (by rw [own_z32]; omega)).mp hc; rw [own_z32] at q; omega) hc
theorem own_rV (n : Nat) (hn : n ≤ 64) (p : Int32) : ((Int32.ofNat n) - (0 : Int32)) < p ↔ (n : Int) < p.toInt := by
  rw [own_rc n (0 : Int32) p hn (by decide) (by rw [own_z32]; omega), own_z32]; omega
theorem own_neg (q : Int64) (h : ¬ q < (0 : Int64)) : (-q).toInt ≤ 0 ∧ -(-q).toInt < (10 : Int) ^ (18 + 1) := by
  have k0 : (0 : Int64).toInt = 0 := by decide
  rw [Int64.lt_iff_toInt_lt, k0] at h
  have r := rng64 q
  have r2 := rng64 (-q)
  have m := c_lsub 0 q
  have e : (0 : Int64) - q = -q := Int64.zero_sub q
  rw [e, k0] at m
  have : (10 : Int) ^ (18 + 1) = 10000000000000000000 := by decide
  omega
theorem own_pos (q : Int64) (h : q < (0 : Int64)) : q.toInt ≤ 0 ∧ -q.toInt < (10 : Int) ^ (18 + 1) := by
  have k0 : (0 : Int64).toInt = 0 := by decide
  rw [Int64.lt_iff_toInt_lt, k0] at h
  have r := rng64 q
  have : (10 : Int) ^ (18 + 1) = 10000000000000000000 := by decide
  omega
theorem own_dec (x : Int32) (h0 : 0 < x.toInt) (h1 : x.toInt ≤ 64) : (x - (1 : Int32)).toInt = x.toInt - 1 := by
  have a := c_isub x 1
  have r := rng32 (x - (1 : Int32))
  have k : (1 : Int32).toInt = 1 := by decide
  omega

theorem ef_21 (m : MethodId) (a0 : Addr) (q1 : Int64) : entryFrame m #[(.ref a0), (.long q1)] 9 = mkF m 0 #[.val (.ref a0), .val (.long q1), .second, .unset, .unset, .unset, .unset, .unset, .unset] [] := by first | (simp [entryFrame, mkF, argsToLocals, Value.category]; done) | rfl
def Q21 (Z : State) (a0 : Addr) (q1 : Int64) (w_bytes_a0 : Addr) (w_afterValue_a0 : Int32) (n_w_bytes_a0 : Nat) (g_w_bytes_a0 : Nat → Int32) (h0 : Heap) (n0 : Nat) (v : Option Value) (h : Heap) (L : List Loc) : Prop := ∃ (b' : Addr) (N' : Nat) (g' : Nat → Int32) (len' : Int32), v = some (.ref a0) ∧ Fr n0 L ∧ Keep h0 h [a0, w_bytes_a0] ∧ (b' = w_bytes_a0 ∨ h0.size ≤ b') ∧ n0 ≤ b' ∧ a0 ≠ b' ∧ Fld Z h a0 "com/example/commitlog/commitlog/codec/JsonWriter" "bytes" "[B" (.ref b') ∧ Fld Z h a0 "com/example/commitlog/commitlog/codec/JsonWriter" "length" "I" (.int len') ∧ Fld Z h a0 "com/example/commitlog/commitlog/codec/JsonWriter" "afterValue" "Z" (.int (1 : Int32)) ∧ AF Z h b' .byte N' (fun j => .int (g' j)) ∧ own_B g' ∧ 20 ≤ N' ∧ N' ≤ 40
set_option maxRecDepth 65536 in
set_option maxHeartbeats 40000000 in
theorem rm21 (l : Launch) (Z : State) (A0 : Array Value) (hw : ∀ d ∈ tables_1, d.before A0 Z = true) (ws : List Jvm.Cond) (a0 : Addr) (q1 : Int64) (w_bytes_a0 : Addr) (w_afterValue_a0 : Int32) (n_w_bytes_a0 : Nat) (g_w_bytes_a0 : Nat → Int32) (h0 : Heap) (n0 : Nat) (Z0 : n0 ≤ h0.size) (E_a0 : Exa Z h0 a0 "com/example/commitlog/commitlog/codec/JsonWriter") (F_bytes_a0 : Fld Z h0 a0 "com/example/commitlog/commitlog/codec/JsonWriter" "bytes" "[B" (.ref w_bytes_a0)) (F_length_a0 : Fld Z h0 a0 "com/example/commitlog/commitlog/codec/JsonWriter" "length" "I" (.int (0 : Int32))) (F_afterValue_a0 : Fld Z h0 a0 "com/example/commitlog/commitlog/codec/JsonWriter" "afterValue" "Z" (.int w_afterValue_a0)) (A_w_bytes_a0 : AF Z h0 w_bytes_a0 .byte n_w_bytes_a0 (fun j => .int (g_w_bytes_a0 j))) (nw_a0 : n0 ≤ a0) (ne_a0_w_bytes_a0 : a0 ≠ w_bytes_a0) (nw_w_bytes_a0 : n0 ≤ w_bytes_a0) (hN : n_w_bytes_a0 ≤ 40) (hB : own_B g_w_bytes_a0) :
    MetFree l (⟨"com/example/commitlog/commitlog/codec/JsonWriter", "value", "(J)Lcom/example/commitlog/commitlog/codec/JsonWriter;"⟩ : MethodName) (head1 (Jvm.Cond.code (⟨"com/example/commitlog/commitlog/codec/JsonWriter", "value", "(J)Lcom/example/commitlog/commitlog/codec/JsonWriter;"⟩ : MethodName) prog_9_method_8_code 9 (some (.object "com/example/commitlog/commitlog/codec/JsonWriter")) :: ws) ({ frames := 3, cells := 1, slots := 64, locals := 68 } : Room)) (fun a U => a = #[(.ref a0), (.long q1)] ∧ Z.Warmed39 U.vm ∧ U.heap = h0) (fun _ _ _ _ _ => True) (fun _ U o U' => ∃ v L, o = .returned v ∧ Q21 Z a0 q1 w_bytes_a0 w_afterValue_a0 n_w_bytes_a0 g_w_bytes_a0 h0 n0 v U'.heap L ∧ FrameEnd U o U' L ({ frames := 3, cells := 1, slots := 64, locals := 68 } : Room).cells ({ frames := 3, cells := 1, slots := 64, locals := 68 } : Room).slots) := by
  refine MetFree.of_bodySF (plainFor_of_name pn_21) hisR ?_
  intro p e s m args below meth c s₁ Bd hml0 hP hK
  obtain ⟨rfl, hZ, hh⟩ := hP
  have hx := Bd.exec
  have hby := Bd.bytes
  have hml : c.maxLocals = 9 := hml0
  have hown : s.vm.findClass "com/example/commitlog/commitlog/codec/JsonWriter" = some m.cls := findClass_of_methodNamed Bd.named
  have hnm := (name_of_methodNamed Bd.named Bd.method).1
  have X0 : Stand p l e ({ frames := 3, cells := 1, slots := 64, locals := 68 } : Room) s m #[(.ref a0), (.long q1)] below meth c s₁ [] 0 0 := Stand.of_body Bd
  have e0 : s₁.heap = h0 := by rw [← hh, Bd.state]; rfl
  have N0 := Fr.nil n0
  have pre0 : ∀ t, Steps p.tables e below (s₁.setTop (mkF m 0 #[.val (.ref a0), .val (.long q1), .second, .unset, .unset, .unset, .unset, .unset, .unset] [])) t → Steps p.tables e below (s₁.setTop (entryFrame m #[(.ref a0), (.long q1)] 9)) t := fun t k => castTop (ef_21 m a0 q1) k
  have ck1 : ∀ t, Steps p.tables e below (s₁.setTop (mkF m 3 #[.val (.ref a0), .val (.long q1), .second, .unset, .unset, .unset, .unset, .unset, .unset] [(.int (20 : Int32)), (.ref a0)])) t → Steps p.tables e below (s₁.setTop (mkF m 0 #[.val (.ref a0), .val (.long q1), .second, .unset, .unset, .unset, .unset, .unset, .unset] [])) t := by
    intro t kt
    show Steps p.tables e below (s₁.setTop (mkF m 0 #[.val (.ref a0), .val (.long q1), .second, .unset, .unset, .unset, .unset, .unset, .unset] [])) _
    refine XS.aloadN X0.here hx rfl (hb hby d21_0) rfl rfl ?_
    show Steps p.tables e below (s₁.setTop (mkF m 1 #[.val (.ref a0), .val (.long q1), .second, .unset, .unset, .unset, .unset, .unset, .unset] [(.ref a0)])) _
    refine XS.bipush X0.here hx rfl (hb hby d21_1) ?_
    exact kt
  rcases Classical.em (((Int32.ofNat n_w_bytes_a0) - (0 : Int32)) < (20 : Int32)) with hs | hs
  · have hp2 : ((Int32.ofNat n_w_bytes_a0) - (0 : Int32)) < (20 : Int32) := hs
    have hp3 : ¬ ((own_nl n_w_bytes_a0 (0 : Int32) (20 : Int32)) = (Int32.ofNat n_w_bytes_a0)) := (own_nlV n_w_bytes_a0 hN (20 : Int32) (by decide) (by decide) hs).1
    have hp4 : ¬ (own_nl n_w_bytes_a0 (0 : Int32) (20 : Int32)) < (0 : Int32) := (own_nlV n_w_bytes_a0 hN (20 : Int32) (by decide) (by decide) hs).2.1
    have hp5 : (own_nl n_w_bytes_a0 (0 : Int32) (20 : Int32)).toNatClampNeg ≤ 64 := (own_nlV n_w_bytes_a0 hN (20 : Int32) (by decide) (by decide) hs).2.2.1
    have hp6 : ¬ ((own_nl n_w_bytes_a0 (0 : Int32) (20 : Int32)) < (Int32.ofNat n_w_bytes_a0)) := (own_nlV n_w_bytes_a0 hN (20 : Int32) (by decide) (by decide) hs).2.2.2.1
    have hp7 : ∀ j, j < n_w_bytes_a0 → fits .byte (.int (g_w_bytes_a0 j)) = true := (fun j _ => hB j)
    obtain ⟨cq8, q8, q8'⟩ := E_a0.cell
    obtain ⟨_, _, ⟨T8, L8, k8, n8⟩, -, X8, ⟨Lc8, hQ8, l8, y8, z8⟩, st8⟩ := X0.privateBack hx (y := (⟨"com/example/commitlog/commitlog/codec/JsonWriter", "room", "(I)V"⟩ : MethodName)) hown (mvT hZ (hw _ (List.mem_of_getElem? (i := 61) rfl))) (mvT hZ (hw _ (List.mem_of_getElem? (i := 62) rfl))) (own_selp (mvT hZ (hw _ (List.mem_of_getElem? (i := 2) rfl))) (Cond.privateMethod_at (mvP hZ (hw _ (List.mem_of_getElem? (i := 63) rfl)) (args := #[]))) (mvT hZ (hw _ (List.mem_of_getElem? (i := 62) rfl))) (by decide)) (Cond.privateMethod_at (mvP hZ (hw _ (List.mem_of_getElem? (i := 63) rfl)) (args := #[]))) (mvT hZ (hw _ (List.mem_of_getElem? (i := 64) rfl))) (by decide) (backOf (W := 0) (rm10g l Z A0 hw [] a0 (20 : Int32) w_bytes_a0 (0 : Int32) w_afterValue_a0 n_w_bytes_a0 g_w_bytes_a0 h0 n0 (Nat.le_trans Z0 (Keep.refl h0 [a0, w_bytes_a0]).1) E_a0 F_bytes_a0 F_length_a0 F_afterValue_a0 A_w_bytes_a0 nw_a0 hp2 hp3 hp4 hp5 hp6 hp7) hZ (hw _ (List.mem_of_getElem? (i := 64) rfl)) (hw _ (List.mem_of_getElem? (i := 3) rfl)) (by decide) (by decide)) (g := (mkF m 3 #[.val (.ref a0), .val (.long q1), .second, .unset, .unset, .unset, .unset, .unset, .unset] [(.int (20 : Int32)), (.ref a0)])) rfl (by rw [hml]; rfl) (Steps.refl _) (a := a0) (by rw [e0]; exact q8) q8' (argsL := [(.int (20 : Int32))]) (rest := []) (lenOf pd_0 rfl) rfl (by show 2 * 0 + _ ≤ _; exact Nat.le_of_eq rfl) (hb hby d21_3) (fun _ _ => ⟨rfl, e0, (by decide : 0 + 1 ≤ _), (by decide : 0 + 64 ≤ _)⟩)
    dsimp only [Pt.U, Pt.locs, Pt.cells, Pt.slots] at X8 l8 y8 z8 st8 hQ8
    subst l8 y8 z8
    obtain ⟨b8_b9_b1, rfl, N8q, Kc8, szb8_b9_b1, P9, P10, P11, P12, P13⟩ := hQ8
    have ne_a0_b8_b9_b1 : a0 ≠ b8_b9_b1 := Nat.ne_of_lt (Nat.lt_of_lt_of_le E_a0.lt szb8_b9_b1)
    have ne_w_bytes_a0_b8_b9_b1 : w_bytes_a0 ≠ b8_b9_b1 := Nat.ne_of_lt (Nat.lt_of_lt_of_le A_w_bytes_a0.lt szb8_b9_b1)
    have nw_b8_b9_b1 : n0 ≤ b8_b9_b1 := Nat.le_trans (Nat.le_trans Z0 (Keep.refl h0 [a0, w_bytes_a0]).1) szb8_b9_b1
    have sq_b8_b9_b1 : h0.size ≤ b8_b9_b1 := Nat.le_trans (Keep.refl h0 [a0, w_bytes_a0]).1 szb8_b9_b1
    have K8 : Keep h0 T8.heap [a0, w_bytes_a0] := (Keep.refl h0 [a0, w_bytes_a0]).trans Kc8 (allS (Or.inl (by simp)) all0)
    have N8 := Fr.app N0 N8q
    have hN2 : 20 ≤ ((own_nl n_w_bytes_a0 (0 : Int32) (20 : Int32))).toNatClampNeg ∧ ((own_nl n_w_bytes_a0 (0 : Int32) (20 : Int32))).toNatClampNeg ≤ 40 := by have q := (own_nlV n_w_bytes_a0 hN (20 : Int32) (by decide) (by decide) hs).2.2.2.2; have q2 := (own_rV n_w_bytes_a0 (by omega) (20 : Int32)).mp hs; have k := own_20; have k0 := own_z32; omega
    have ck14 : ∀ t, Steps p.tables e below (T8.setTop (mkF m 11 #[.val (.ref a0), .val (.long q1), .second, .val (.long q1), .second, .unset, .unset, .unset, .unset] [(.int (lcmpW q1 (0 : Int64)))])) t → Steps p.tables e below (s₁.setTop (mkF m 3 #[.val (.ref a0), .val (.long q1), .second, .unset, .unset, .unset, .unset, .unset, .unset] [(.int (20 : Int32)), (.ref a0)])) t := by
      intro t kt
      show Steps p.tables e below (s₁.setTop (mkF m 3 #[.val (.ref a0), .val (.long q1), .second, .unset, .unset, .unset, .unset, .unset, .unset] [(.int (20 : Int32)), (.ref a0)])) _
      refine st8.trans ?_
      show Steps p.tables e below (T8.setTop (mkF m 6 #[.val (.ref a0), .val (.long q1), .second, .unset, .unset, .unset, .unset, .unset, .unset] [])) _
      refine XS.lloadN X8.here hx rfl (hb hby d21_6) rfl ?_
      show Steps p.tables e below (T8.setTop (mkF m 7 #[.val (.ref a0), .val (.long q1), .second, .unset, .unset, .unset, .unset, .unset, .unset] [(.long q1)])) _
      refine XS.lstoreN X8.here hx rfl (hb hby d21_7) rfl (l' := #[.val (.ref a0), .val (.long q1), .second, .val (.long q1), .second, .unset, .unset, .unset, .unset]) rfl ?_
      show Steps p.tables e below (T8.setTop (mkF m 8 #[.val (.ref a0), .val (.long q1), .second, .val (.long q1), .second, .unset, .unset, .unset, .unset] [])) _
      refine XS.lloadN X8.here hx rfl (hb hby d21_8) rfl ?_
      show Steps p.tables e below (T8.setTop (mkF m 9 #[.val (.ref a0), .val (.long q1), .second, .val (.long q1), .second, .unset, .unset, .unset, .unset] [(.long q1)])) _
      refine XS.lconst X8.here hx rfl (hb hby d21_9) ?_
      show Steps p.tables e below (T8.setTop (mkF m 10 #[.val (.ref a0), .val (.long q1), .second, .val (.long q1), .second, .unset, .unset, .unset, .unset] [(.long (0 : Int64)), (.long q1)])) _
      refine XS.lcmp X8.here hx rfl (hb hby d21_10) rfl ?_
      exact kt
    by_cases hsg : q1 < (0 : Int64)
    · obtain ⟨T15, X15, e15, st15⟩ := getF X8 hx hZ hown (host := "") (Or.inl (hw _ (List.mem_of_getElem? (i := 11) rfl))) Via.refl rfl P10 (g := (mkF m 15 #[.val (.ref a0), .val (.long q1), .second, .val (.long q1), .second, .unset, .unset, .unset, .unset] [(.ref a0)])) rfl rfl (hb hby d21_15)
      obtain ⟨T16, X16, e16, st16⟩ := getF X15 hx hZ hown (host := "") (Or.inl (hw _ (List.mem_of_getElem? (i := 23) rfl))) Via.refl e15 P11 (g := (mkF m 20 #[.val (.ref a0), .val (.long q1), .second, .val (.long q1), .second, .unset, .unset, .unset, .unset] [(.ref a0), (.ref a0), (.ref b8_b9_b1)])) rfl rfl (hb hby d21_20)
      obtain ⟨T17, h17, X17, e17, W17, st17⟩ := putF X16 hx hZ hown (host := "") (Or.inl (hw _ (List.mem_of_getElem? (i := 23) rfl))) Via.refl e16 P11 P9 (Or.inl (hw _ (List.mem_of_getElem? (i := 24) rfl))) (hw _ (List.mem_of_getElem? (i := 2) rfl)) (ty := .int) (by decide) rfl rfl (g := (mkF m 26 #[.val (.ref a0), .val (.long q1), .second, .val (.long q1), .second, .unset, .unset, .unset, .unset] [(.int (1 : Int32)), (.ref a0), (.int (0 : Int32)), (.ref b8_b9_b1)])) rfl rfl (hb hby d21_26)
      have K17 : Keep h0 h17 [a0, w_bytes_a0] := K8.wr W17 (Or.inl (by simp))
      have Fw17 : Fld Z h17 a0 "com/example/commitlog/commitlog/codec/JsonWriter" "length" "I" (.int (1 : Int32)) := P11.same W17
      have N17 := Fr.snoc X17 N8 nw_a0
      have G18 : AF Z h17 b8_b9_b1 .byte ((own_nl n_w_bytes_a0 (0 : Int32) (20 : Int32))).toNatClampNeg (fun j => .int ((fun j => if j < n_w_bytes_a0 then g_w_bytes_a0 j else (fun _ => (0 : Int32)) j) j)) := (P13.other W17 (Ne.symm ne_a0_b8_b9_b1))
      have hi19 : own_in (0 : Int32) ((own_nl n_w_bytes_a0 (0 : Int32) (20 : Int32))).toNatClampNeg := ⟨by decide, by have k0 := own_z32; omega⟩
      obtain ⟨T20, h20, X20, e20, W20, A20, st20⟩ := AF.stB X17 hx hZ e17 G18 hi19 (g := (mkF m 31 #[.val (.ref a0), .val (.long q1), .second, .val (.long q1), .second, .unset, .unset, .unset, .unset] [(.int (45 : Int32)), (.int (0 : Int32)), (.ref b8_b9_b1)])) rfl rfl (hb hby d21_31)
      have K20 : Keep h0 h20 [a0, w_bytes_a0] := K17.wr W20 (Or.inr sq_b8_b9_b1)
      obtain ⟨f21, hf21⟩ : ∃ f : Nat → Int32, f = (fun i => if i = 0 then ((45 : Int32).toInt8.toInt32) else (fun j => if j < n_w_bytes_a0 then g_w_bytes_a0 j else (fun _ => (0 : Int32)) j) i) := ⟨_, rfl⟩
      have V20 : AF Z h20 b8_b9_b1 .byte ((own_nl n_w_bytes_a0 (0 : Int32) (20 : Int32))).toNatClampNeg (fun j => .int (f21 j)) := AF.cong A20 (own_updI rfl hf21)
      have N20 := Fr.snoc X20 N17 nw_b8_b9_b1
      have G22 : Fld Z h20 a0 "com/example/commitlog/commitlog/codec/JsonWriter" "length" "I" (.int (1 : Int32)) := (Fw17.other W20 (Or.inl ne_a0_b8_b9_b1))
      obtain ⟨T23, X23, e23, st23⟩ := getF X20 hx hZ hown (host := "") (Or.inl (hw _ (List.mem_of_getElem? (i := 23) rfl))) Via.refl e20 G22 (g := (mkF m 39 #[.val (.ref a0), .val (.long q1), .second, .val (.long q1), .second, .unset, .unset, .unset, .unset] [(.ref a0)])) rfl rfl (hb hby d21_39)
      have G24 : Exa Z h20 a0 "com/example/commitlog/commitlog/codec/JsonWriter" := ((P9.wr W17).wr W20)
      have G25 : Fld Z h20 a0 "com/example/commitlog/commitlog/codec/JsonWriter" "bytes" "[B" (.ref b8_b9_b1) := ((P10.other W17 (Or.inr (slot_ne (Or.inl (hw _ (List.mem_of_getElem? (i := 12) rfl))) (Or.inl (hw _ (List.mem_of_getElem? (i := 24) rfl))) (by decide) (t := (.array .byte)) (t' := .int) (by decide) (by decide)))).other W20 (Or.inl ne_a0_b8_b9_b1))
      have G26 : Fld Z h20 a0 "com/example/commitlog/commitlog/codec/JsonWriter" "afterValue" "Z" (.int w_afterValue_a0) := ((P12.other W17 (Or.inr (slot_ne (Or.inl (hw _ (List.mem_of_getElem? (i := 26) rfl))) (Or.inl (hw _ (List.mem_of_getElem? (i := 24) rfl))) (by decide) (t := .boolean) (t' := .int) (by decide) (by decide)))).other W20 (Or.inl ne_a0_b8_b9_b1))
      have ck27 : ∀ t, Steps p.tables e below (T23.setTop (mkF m 44 #[.val (.ref a0), .val (.long q1), .second, .val (.long q1), .second, .val (.int (1 : Int32)), .unset, .unset, .unset] [])) t → Steps p.tables e below (T8.setTop (mkF m 11 #[.val (.ref a0), .val (.long q1), .second, .val (.long q1), .second, .unset, .unset, .unset, .unset] [(.int (lcmpW q1 (0 : Int64)))])) t := by
        intro t kt
        show Steps p.tables e below (T8.setTop (mkF m 11 #[.val (.ref a0), .val (.long q1), .second, .val (.long q1), .second, .unset, .unset, .unset, .unset] [(.int (lcmpW q1 (0 : Int64)))])) _
        refine XS.ifNo X8.here hx rfl (hb hby d21_11) rfl ((if0 _ _).trans (tlt ((lw_lt q1 (0 : Int64)).mpr hsg)).2.1) ?_
        show Steps p.tables e below (T8.setTop (mkF m 14 #[.val (.ref a0), .val (.long q1), .second, .val (.long q1), .second, .unset, .unset, .unset, .unset] [])) _
        refine XS.aloadN X8.here hx rfl (hb hby d21_14) rfl rfl ?_
        show Steps p.tables e below (T8.setTop (mkF m 15 #[.val (.ref a0), .val (.long q1), .second, .val (.long q1), .second, .unset, .unset, .unset, .unset] [(.ref a0)])) _
        refine st15 _ ?_
        show Steps p.tables e below (T15.setTop (mkF m 18 #[.val (.ref a0), .val (.long q1), .second, .val (.long q1), .second, .unset, .unset, .unset, .unset] [(.ref b8_b9_b1)])) _
        refine XS.aloadN X15.here hx rfl (hb hby d21_18) rfl rfl ?_
        show Steps p.tables e below (T15.setTop (mkF m 19 #[.val (.ref a0), .val (.long q1), .second, .val (.long q1), .second, .unset, .unset, .unset, .unset] [(.ref a0), (.ref b8_b9_b1)])) _
        refine XS.dup X15.here hx rfl (hb hby d21_19) rfl rfl ?_
        show Steps p.tables e below (T15.setTop (mkF m 20 #[.val (.ref a0), .val (.long q1), .second, .val (.long q1), .second, .unset, .unset, .unset, .unset] [(.ref a0), (.ref a0), (.ref b8_b9_b1)])) _
        refine st16 _ ?_
        show Steps p.tables e below (T16.setTop (mkF m 23 #[.val (.ref a0), .val (.long q1), .second, .val (.long q1), .second, .unset, .unset, .unset, .unset] [(.int (0 : Int32)), (.ref a0), (.ref b8_b9_b1)])) _
        refine XS.dupX1 X16.here hx rfl (hb hby d21_23) rfl rfl rfl ?_
        show Steps p.tables e below (T16.setTop (mkF m 24 #[.val (.ref a0), .val (.long q1), .second, .val (.long q1), .second, .unset, .unset, .unset, .unset] [(.int (0 : Int32)), (.ref a0), (.int (0 : Int32)), (.ref b8_b9_b1)])) _
        refine XS.iconst X16.here hx rfl (hb hby d21_24) ?_
        show Steps p.tables e below (T16.setTop (mkF m 25 #[.val (.ref a0), .val (.long q1), .second, .val (.long q1), .second, .unset, .unset, .unset, .unset] [(.int (1 : Int32)), (.int (0 : Int32)), (.ref a0), (.int (0 : Int32)), (.ref b8_b9_b1)])) _
        refine XS.iadd X16.here hx rfl (hb hby d21_25) rfl ?_
        show Steps p.tables e below (T16.setTop (mkF m 26 #[.val (.ref a0), .val (.long q1), .second, .val (.long q1), .second, .unset, .unset, .unset, .unset] [(.int (1 : Int32)), (.ref a0), (.int (0 : Int32)), (.ref b8_b9_b1)])) _
        refine st17 _ ?_
        show Steps p.tables e below (T17.setTop (mkF m 29 #[.val (.ref a0), .val (.long q1), .second, .val (.long q1), .second, .unset, .unset, .unset, .unset] [(.int (0 : Int32)), (.ref b8_b9_b1)])) _
        refine XS.bipush X17.here hx rfl (hb hby d21_29) ?_
        show Steps p.tables e below (T17.setTop (mkF m 31 #[.val (.ref a0), .val (.long q1), .second, .val (.long q1), .second, .unset, .unset, .unset, .unset] [(.int (45 : Int32)), (.int (0 : Int32)), (.ref b8_b9_b1)])) _
        refine st20 _ ?_
        show Steps p.tables e below (T20.setTop (mkF m 32 #[.val (.ref a0), .val (.long q1), .second, .val (.long q1), .second, .unset, .unset, .unset, .unset] [])) _
        refine XS.goto X20.here hx rfl (pc0 := 32) (pc' := 38) rfl (hb hby d21_32) (by decide) (by decide) ?_
        show Steps p.tables e below (T20.setTop (mkF m 38 #[.val (.ref a0), .val (.long q1), .second, .val (.long q1), .second, .unset, .unset, .unset, .unset] [])) _
        refine XS.aloadN X20.here hx rfl (hb hby d21_38) rfl rfl ?_
        show Steps p.tables e below (T20.setTop (mkF m 39 #[.val (.ref a0), .val (.long q1), .second, .val (.long q1), .second, .unset, .unset, .unset, .unset] [(.ref a0)])) _
        refine st23 _ ?_
        show Steps p.tables e below (T23.setTop (mkF m 42 #[.val (.ref a0), .val (.long q1), .second, .val (.long q1), .second, .unset, .unset, .unset, .unset] [(.int (1 : Int32))])) _
        refine XS.istore X23.here hx rfl (hb hby d21_42) rfl (l' := #[.val (.ref a0), .val (.long q1), .second, .val (.long q1), .second, .val (.int (1 : Int32)), .unset, .unset, .unset]) rfl ?_
        exact kt
      have hB2 : own_B f21 := by rw [hf21]; exact own_Bset (own_Bcpy hB n_w_bytes_a0) _ _
      have hD := own_pos q1 hsg
      obtain ⟨T28, h28, L28, j28, ln28, f28, X28, N28, e28, Kc28, E28, Fb28, Fl28, Fa28, A28, hB3, hl1, hl2, st28⟩ := loopD (N := ((own_nl n_w_bytes_a0 (0 : Int32) (20 : Int32))).toNatClampNeg) a0 b8_b9_b1 q1 (1 : Int32) w_afterValue_a0 hx hZ hw hby hml hown nw_a0 nw_b8_b9_b1 ne_a0_b8_b9_b1 (by omega) 18 q1 (1 : Int32) f21 _ _ _ X23 e23 N20 G24 G25 G22 G26 V20 hB2 (by decide) (by have k1 : ((1 : Int32)).toInt ≤ 1 := (by decide); omega) hD.1 hD.2
      have K28 : Keep h0 h28 [a0, w_bytes_a0] := K20.trans Kc28 (allS (Or.inl (by simp)) (allS (Or.inr sq_b8_b9_b1) all0))
      obtain ⟨T29, X29, e29, st29⟩ := getF X28 hx hZ hown (host := "") (Or.inl (hw _ (List.mem_of_getElem? (i := 23) rfl))) Via.refl e28 Fl28 (g := (mkF m 88 #[.val (.ref a0), .val (.long q1), .second, .val (.long j28), .second, .val (.int (1 : Int32)), .val (.int (1 : Int32)), .unset, .unset] [(.ref a0)])) rfl rfl (hb hby d21_88)
      have ck30 : ∀ t, Steps p.tables e below (T29.setTop (mkF m 95 #[.val (.ref a0), .val (.long q1), .second, .val (.long j28), .second, .val (.int (1 : Int32)), .val (.int (1 : Int32)), .val (.int (ln28 - (1 : Int32))), .unset] [])) t → Steps p.tables e below (T23.setTop (mkF m 44 #[.val (.ref a0), .val (.long q1), .second, .val (.long q1), .second, .val (.int (1 : Int32)), .unset, .unset, .unset] [])) t := by
        intro t kt
        show Steps p.tables e below (T23.setTop (mkF m 44 #[.val (.ref a0), .val (.long q1), .second, .val (.long q1), .second, .val (.int (1 : Int32)), .unset, .unset, .unset] [])) _
        refine st28 _ ?_
        show Steps p.tables e below (T28.setTop (mkF m 83 #[.val (.ref a0), .val (.long q1), .second, .val (.long j28), .second, .val (.int (1 : Int32)), .unset, .unset, .unset] [])) _
        refine XS.iload X28.here hx rfl (hb hby d21_83) rfl ?_
        show Steps p.tables e below (T28.setTop (mkF m 85 #[.val (.ref a0), .val (.long q1), .second, .val (.long j28), .second, .val (.int (1 : Int32)), .unset, .unset, .unset] [(.int (1 : Int32))])) _
        refine XS.istore X28.here hx rfl (hb hby d21_85) rfl (l' := #[.val (.ref a0), .val (.long q1), .second, .val (.long j28), .second, .val (.int (1 : Int32)), .val (.int (1 : Int32)), .unset, .unset]) rfl ?_
        show Steps p.tables e below (T28.setTop (mkF m 87 #[.val (.ref a0), .val (.long q1), .second, .val (.long j28), .second, .val (.int (1 : Int32)), .val (.int (1 : Int32)), .unset, .unset] [])) _
        refine XS.aloadN X28.here hx rfl (hb hby d21_87) rfl rfl ?_
        show Steps p.tables e below (T28.setTop (mkF m 88 #[.val (.ref a0), .val (.long q1), .second, .val (.long j28), .second, .val (.int (1 : Int32)), .val (.int (1 : Int32)), .unset, .unset] [(.ref a0)])) _
        refine st29 _ ?_
        show Steps p.tables e below (T29.setTop (mkF m 91 #[.val (.ref a0), .val (.long q1), .second, .val (.long j28), .second, .val (.int (1 : Int32)), .val (.int (1 : Int32)), .unset, .unset] [(.int ln28)])) _
        refine XS.iconst X29.here hx rfl (hb hby d21_91) ?_
        show Steps p.tables e below (T29.setTop (mkF m 92 #[.val (.ref a0), .val (.long q1), .second, .val (.long j28), .second, .val (.int (1 : Int32)), .val (.int (1 : Int32)), .unset, .unset] [(.int (1 : Int32)), (.int ln28)])) _
        refine XS.isub X29.here hx rfl (hb hby d21_92) rfl ?_
        show Steps p.tables e below (T29.setTop (mkF m 93 #[.val (.ref a0), .val (.long q1), .second, .val (.long j28), .second, .val (.int (1 : Int32)), .val (.int (1 : Int32)), .unset, .unset] [(.int (ln28 - (1 : Int32)))])) _
        refine XS.istore X29.here hx rfl (hb hby d21_93) rfl (l' := #[.val (.ref a0), .val (.long q1), .second, .val (.long j28), .second, .val (.int (1 : Int32)), .val (.int (1 : Int32)), .val (.int (ln28 - (1 : Int32))), .unset]) rfl ?_
        exact kt
      have hdec := own_dec ln28 (by have k1 : 0 ≤ ((1 : Int32)).toInt := (by decide); omega) (by omega)
      obtain ⟨T31, h31, L31, x631, x731, x831, f31, X31, N31, e31, Kc31, E31, Fb31, Fl31, Fa31, A31, hB4, st31⟩ := loopR (N := ((own_nl n_w_bytes_a0 (0 : Int32) (20 : Int32))).toNatClampNeg) a0 b8_b9_b1 q1 (1 : Int32) w_afterValue_a0 hx hZ hw hby hml hown nw_a0 nw_b8_b9_b1 ne_a0_b8_b9_b1 (by omega) j28 ln28 64 (1 : Int32) (ln28 - (1 : Int32)) .unset f28 _ _ _ X29 e29 N28 E28 Fb28 Fl28 Fa28 A28 hB3 One.u (by decide) (by decide) (by have k1 : 0 ≤ ((1 : Int32)).toInt := (by decide); omega) (by omega) (by have k1 : 0 ≤ ((1 : Int32)).toInt := (by decide); omega)
      have K31 : Keep h0 h31 [a0, w_bytes_a0] := K28.trans Kc31 (allS (Or.inl (by simp)) (allS (Or.inr sq_b8_b9_b1) all0))
      obtain ⟨T32, h32, X32, e32, W32, st32⟩ := putFN X31 hx hZ hown (hw _ (List.mem_of_getElem? (i := 25) rfl)) Via.refl e31 Fa31 E31 (Or.inl (hw _ (List.mem_of_getElem? (i := 26) rfl))) (hw _ (List.mem_of_getElem? (i := 2) rfl)) (ty := .boolean) (v' := .int (1 : Int32)) (by decide) rfl rfl (g := (mkF m 145 #[.val (.ref a0), .val (.long q1), .second, .val (.long j28), .second, .val (.int (1 : Int32)), .val (.int x631), .val (.int x731), x831] [(.int (1 : Int32)), (.ref a0)])) rfl rfl (hb hby d21_145)
      have K32 : Keep h0 h32 [a0, w_bytes_a0] := K31.wr W32 (Or.inl (by simp))
      have Fw32 : Fld Z h32 a0 "com/example/commitlog/commitlog/codec/JsonWriter" "afterValue" "Z" (.int (1 : Int32)) := Fa31.same W32
      have N32 := Fr.snoc X32 N31 nw_a0
      obtain ⟨fs, hr, hrun, hended, hW, hsame⟩ := X32.leave (v := some (.ref a0)) (fun h => by rw [Bd.returns] at h; cases h)
      refine ⟨_, _, pre0 _ (ck1 _ (ck14 _ (ck27 _ (ck30 _ ?_)))), hrun, hended, _, _, rfl, ?_, ⟨_, rfl⟩, hW, hsame.mono (by decide) (by decide)⟩
      · show Steps p.tables e below (T29.setTop (mkF m 95 #[.val (.ref a0), .val (.long q1), .second, .val (.long j28), .second, .val (.int (1 : Int32)), .val (.int (1 : Int32)), .val (.int (ln28 - (1 : Int32))), .unset] [])) _
        refine st31 _ ?_
        show Steps p.tables e below (T31.setTop (mkF m 143 #[.val (.ref a0), .val (.long q1), .second, .val (.long j28), .second, .val (.int (1 : Int32)), .val (.int x631), .val (.int x731), x831] [])) _
        refine XS.aloadN X31.here hx rfl (hb hby d21_143) rfl rfl ?_
        show Steps p.tables e below (T31.setTop (mkF m 144 #[.val (.ref a0), .val (.long q1), .second, .val (.long j28), .second, .val (.int (1 : Int32)), .val (.int x631), .val (.int x731), x831] [(.ref a0)])) _
        refine XS.iconst X31.here hx rfl (hb hby d21_144) ?_
        show Steps p.tables e below (T31.setTop (mkF m 145 #[.val (.ref a0), .val (.long q1), .second, .val (.long j28), .second, .val (.int (1 : Int32)), .val (.int x631), .val (.int x731), x831] [(.int (1 : Int32)), (.ref a0)])) _
        refine st32 _ ?_
        show Steps p.tables e below (T32.setTop (mkF m 148 #[.val (.ref a0), .val (.long q1), .second, .val (.long j28), .second, .val (.int (1 : Int32)), .val (.int x631), .val (.int x731), x831] [])) _
        refine XS.aloadN X32.here hx rfl (hb hby d21_148) rfl rfl ?_
        show Steps p.tables e below (T32.setTop (mkF m 149 #[.val (.ref a0), .val (.long q1), .second, .val (.long j28), .second, .val (.int (1 : Int32)), .val (.int x631), .val (.int x731), x831] [(.ref a0)])) _
        exact retOut X32 hx Bd.returns rfl (Or.inr (Or.inr (Or.inr (Or.inr ⟨rfl, rfl, rfl⟩)))) (hb hby d21_149) hr
      have G33 : Fld Z h32 a0 "com/example/commitlog/commitlog/codec/JsonWriter" "bytes" "[B" (.ref b8_b9_b1) := (Fb31.other W32 (Or.inr (slot_ne (Or.inl (hw _ (List.mem_of_getElem? (i := 12) rfl))) (Or.inl (hw _ (List.mem_of_getElem? (i := 26) rfl))) (by decide) (t := (.array .byte)) (t' := .boolean) (by decide) (by decide))))
      have G34 : Fld Z h32 a0 "com/example/commitlog/commitlog/codec/JsonWriter" "length" "I" (.int ln28) := (Fl31.other W32 (Or.inr (slot_ne (Or.inl (hw _ (List.mem_of_getElem? (i := 24) rfl))) (Or.inl (hw _ (List.mem_of_getElem? (i := 26) rfl))) (by decide) (t := .int) (t' := .boolean) (by decide) (by decide))))
      have G35 : AF Z h32 b8_b9_b1 .byte ((own_nl n_w_bytes_a0 (0 : Int32) (20 : Int32))).toNatClampNeg (fun j => .int (f31 j)) := (A31.other W32 (Ne.symm ne_a0_b8_b9_b1))
      · show Q21 Z a0 q1 w_bytes_a0 w_afterValue_a0 n_w_bytes_a0 g_w_bytes_a0 h0 n0 _ T32.heap _
        rw [e32]
        exact ⟨b8_b9_b1, ((own_nl n_w_bytes_a0 (0 : Int32) (20 : Int32))).toNatClampNeg, f31, ln28, rfl, N32, K32, Or.inr sq_b8_b9_b1, nw_b8_b9_b1, ne_a0_b8_b9_b1, G33, G34, Fw32, G35, hB4, hN2.1, hN2.2⟩
    · obtain ⟨T36, X36, e36, st36⟩ := getF X8 hx hZ hown (host := "") (Or.inl (hw _ (List.mem_of_getElem? (i := 23) rfl))) Via.refl rfl P11 (g := (mkF m 39 #[.val (.ref a0), .val (.long q1), .second, .val (.long (-q1)), .second, .unset, .unset, .unset, .unset] [(.ref a0)])) rfl rfl (hb hby d21_39)
      have ck37 : ∀ t, Steps p.tables e below (T36.setTop (mkF m 44 #[.val (.ref a0), .val (.long q1), .second, .val (.long (-q1)), .second, .val (.int (0 : Int32)), .unset, .unset, .unset] [])) t → Steps p.tables e below (T8.setTop (mkF m 11 #[.val (.ref a0), .val (.long q1), .second, .val (.long q1), .second, .unset, .unset, .unset, .unset] [(.int (lcmpW q1 (0 : Int64)))])) t := by
        intro t kt
        show Steps p.tables e below (T8.setTop (mkF m 11 #[.val (.ref a0), .val (.long q1), .second, .val (.long q1), .second, .unset, .unset, .unset, .unset] [(.int (lcmpW q1 (0 : Int64)))])) _
        refine XS.ifYes X8.here hx rfl (pc0 := 11) (pc' := 35) rfl (hb hby d21_11) rfl ((if0 _ _).trans (flt (fun q => hsg ((lw_lt q1 (0 : Int64)).mp q))).2.1) (by decide) (by decide) ?_
        show Steps p.tables e below (T8.setTop (mkF m 35 #[.val (.ref a0), .val (.long q1), .second, .val (.long q1), .second, .unset, .unset, .unset, .unset] [])) _
        refine XS.lloadN X8.here hx rfl (hb hby d21_35) rfl ?_
        show Steps p.tables e below (T8.setTop (mkF m 36 #[.val (.ref a0), .val (.long q1), .second, .val (.long q1), .second, .unset, .unset, .unset, .unset] [(.long q1)])) _
        refine XS.lneg X8.here hx rfl (hb hby d21_36) rfl ?_
        show Steps p.tables e below (T8.setTop (mkF m 37 #[.val (.ref a0), .val (.long q1), .second, .val (.long q1), .second, .unset, .unset, .unset, .unset] [(.long (-q1))])) _
        refine XS.lstoreN X8.here hx rfl (hb hby d21_37) rfl (l' := #[.val (.ref a0), .val (.long q1), .second, .val (.long (-q1)), .second, .unset, .unset, .unset, .unset]) rfl ?_
        show Steps p.tables e below (T8.setTop (mkF m 38 #[.val (.ref a0), .val (.long q1), .second, .val (.long (-q1)), .second, .unset, .unset, .unset, .unset] [])) _
        refine XS.aloadN X8.here hx rfl (hb hby d21_38) rfl rfl ?_
        show Steps p.tables e below (T8.setTop (mkF m 39 #[.val (.ref a0), .val (.long q1), .second, .val (.long (-q1)), .second, .unset, .unset, .unset, .unset] [(.ref a0)])) _
        refine st36 _ ?_
        show Steps p.tables e below (T36.setTop (mkF m 42 #[.val (.ref a0), .val (.long q1), .second, .val (.long (-q1)), .second, .unset, .unset, .unset, .unset] [(.int (0 : Int32))])) _
        refine XS.istore X36.here hx rfl (hb hby d21_42) rfl (l' := #[.val (.ref a0), .val (.long q1), .second, .val (.long (-q1)), .second, .val (.int (0 : Int32)), .unset, .unset, .unset]) rfl ?_
        exact kt
      have hB2 : own_B (fun j => if j < n_w_bytes_a0 then g_w_bytes_a0 j else (fun _ => (0 : Int32)) j) := (own_Bcpy hB n_w_bytes_a0)
      have hD := own_neg q1 hsg
      obtain ⟨T38, h38, L38, j38, ln38, f38, X38, N38, e38, Kc38, E38, Fb38, Fl38, Fa38, A38, hB3, hl1, hl2, st38⟩ := loopD (N := ((own_nl n_w_bytes_a0 (0 : Int32) (20 : Int32))).toNatClampNeg) a0 b8_b9_b1 q1 (0 : Int32) w_afterValue_a0 hx hZ hw hby hml hown nw_a0 nw_b8_b9_b1 ne_a0_b8_b9_b1 (by omega) 18 (-q1) (0 : Int32) (fun j => if j < n_w_bytes_a0 then g_w_bytes_a0 j else (fun _ => (0 : Int32)) j) _ _ _ X36 e36 N8 P9 P10 P11 P12 P13 hB2 (by decide) (by have k1 : ((0 : Int32)).toInt ≤ 1 := (by decide); omega) hD.1 hD.2
      have K38 : Keep h0 h38 [a0, w_bytes_a0] := K8.trans Kc38 (allS (Or.inl (by simp)) (allS (Or.inr sq_b8_b9_b1) all0))
      obtain ⟨T39, X39, e39, st39⟩ := getF X38 hx hZ hown (host := "") (Or.inl (hw _ (List.mem_of_getElem? (i := 23) rfl))) Via.refl e38 Fl38 (g := (mkF m 88 #[.val (.ref a0), .val (.long q1), .second, .val (.long j38), .second, .val (.int (0 : Int32)), .val (.int (0 : Int32)), .unset, .unset] [(.ref a0)])) rfl rfl (hb hby d21_88)
      have ck40 : ∀ t, Steps p.tables e below (T39.setTop (mkF m 95 #[.val (.ref a0), .val (.long q1), .second, .val (.long j38), .second, .val (.int (0 : Int32)), .val (.int (0 : Int32)), .val (.int (ln38 - (1 : Int32))), .unset] [])) t → Steps p.tables e below (T36.setTop (mkF m 44 #[.val (.ref a0), .val (.long q1), .second, .val (.long (-q1)), .second, .val (.int (0 : Int32)), .unset, .unset, .unset] [])) t := by
        intro t kt
        show Steps p.tables e below (T36.setTop (mkF m 44 #[.val (.ref a0), .val (.long q1), .second, .val (.long (-q1)), .second, .val (.int (0 : Int32)), .unset, .unset, .unset] [])) _
        refine st38 _ ?_
        show Steps p.tables e below (T38.setTop (mkF m 83 #[.val (.ref a0), .val (.long q1), .second, .val (.long j38), .second, .val (.int (0 : Int32)), .unset, .unset, .unset] [])) _
        refine XS.iload X38.here hx rfl (hb hby d21_83) rfl ?_
        show Steps p.tables e below (T38.setTop (mkF m 85 #[.val (.ref a0), .val (.long q1), .second, .val (.long j38), .second, .val (.int (0 : Int32)), .unset, .unset, .unset] [(.int (0 : Int32))])) _
        refine XS.istore X38.here hx rfl (hb hby d21_85) rfl (l' := #[.val (.ref a0), .val (.long q1), .second, .val (.long j38), .second, .val (.int (0 : Int32)), .val (.int (0 : Int32)), .unset, .unset]) rfl ?_
        show Steps p.tables e below (T38.setTop (mkF m 87 #[.val (.ref a0), .val (.long q1), .second, .val (.long j38), .second, .val (.int (0 : Int32)), .val (.int (0 : Int32)), .unset, .unset] [])) _
        refine XS.aloadN X38.here hx rfl (hb hby d21_87) rfl rfl ?_
        show Steps p.tables e below (T38.setTop (mkF m 88 #[.val (.ref a0), .val (.long q1), .second, .val (.long j38), .second, .val (.int (0 : Int32)), .val (.int (0 : Int32)), .unset, .unset] [(.ref a0)])) _
        refine st39 _ ?_
        show Steps p.tables e below (T39.setTop (mkF m 91 #[.val (.ref a0), .val (.long q1), .second, .val (.long j38), .second, .val (.int (0 : Int32)), .val (.int (0 : Int32)), .unset, .unset] [(.int ln38)])) _
        refine XS.iconst X39.here hx rfl (hb hby d21_91) ?_
        show Steps p.tables e below (T39.setTop (mkF m 92 #[.val (.ref a0), .val (.long q1), .second, .val (.long j38), .second, .val (.int (0 : Int32)), .val (.int (0 : Int32)), .unset, .unset] [(.int (1 : Int32)), (.int ln38)])) _
        refine XS.isub X39.here hx rfl (hb hby d21_92) rfl ?_
        show Steps p.tables e below (T39.setTop (mkF m 93 #[.val (.ref a0), .val (.long q1), .second, .val (.long j38), .second, .val (.int (0 : Int32)), .val (.int (0 : Int32)), .unset, .unset] [(.int (ln38 - (1 : Int32)))])) _
        refine XS.istore X39.here hx rfl (hb hby d21_93) rfl (l' := #[.val (.ref a0), .val (.long q1), .second, .val (.long j38), .second, .val (.int (0 : Int32)), .val (.int (0 : Int32)), .val (.int (ln38 - (1 : Int32))), .unset]) rfl ?_
        exact kt
      have hdec := own_dec ln38 (by have k1 : 0 ≤ ((0 : Int32)).toInt := (by decide); omega) (by omega)
      obtain ⟨T41, h41, L41, x641, x741, x841, f41, X41, N41, e41, Kc41, E41, Fb41, Fl41, Fa41, A41, hB4, st41⟩ := loopR (N := ((own_nl n_w_bytes_a0 (0 : Int32) (20 : Int32))).toNatClampNeg) a0 b8_b9_b1 q1 (0 : Int32) w_afterValue_a0 hx hZ hw hby hml hown nw_a0 nw_b8_b9_b1 ne_a0_b8_b9_b1 (by omega) j38 ln38 64 (0 : Int32) (ln38 - (1 : Int32)) .unset f38 _ _ _ X39 e39 N38 E38 Fb38 Fl38 Fa38 A38 hB3 One.u (by decide) (by decide) (by have k1 : 0 ≤ ((0 : Int32)).toInt := (by decide); omega) (by omega) (by have k1 : 0 ≤ ((0 : Int32)).toInt := (by decide); omega)
      have K41 : Keep h0 h41 [a0, w_bytes_a0] := K38.trans Kc41 (allS (Or.inl (by simp)) (allS (Or.inr sq_b8_b9_b1) all0))
      obtain ⟨T42, h42, X42, e42, W42, st42⟩ := putFN X41 hx hZ hown (hw _ (List.mem_of_getElem? (i := 25) rfl)) Via.refl e41 Fa41 E41 (Or.inl (hw _ (List.mem_of_getElem? (i := 26) rfl))) (hw _ (List.mem_of_getElem? (i := 2) rfl)) (ty := .boolean) (v' := .int (1 : Int32)) (by decide) rfl rfl (g := (mkF m 145 #[.val (.ref a0), .val (.long q1), .second, .val (.long j38), .second, .val (.int (0 : Int32)), .val (.int x641), .val (.int x741), x841] [(.int (1 : Int32)), (.ref a0)])) rfl rfl (hb hby d21_145)
      have K42 : Keep h0 h42 [a0, w_bytes_a0] := K41.wr W42 (Or.inl (by simp))
      have Fw42 : Fld Z h42 a0 "com/example/commitlog/commitlog/codec/JsonWriter" "afterValue" "Z" (.int (1 : Int32)) := Fa41.same W42
      have N42 := Fr.snoc X42 N41 nw_a0
      obtain ⟨fs, hr, hrun, hended, hW, hsame⟩ := X42.leave (v := some (.ref a0)) (fun h => by rw [Bd.returns] at h; cases h)
      refine ⟨_, _, pre0 _ (ck1 _ (ck14 _ (ck37 _ (ck40 _ ?_)))), hrun, hended, _, _, rfl, ?_, ⟨_, rfl⟩, hW, hsame.mono (by decide) (by decide)⟩
      · show Steps p.tables e below (T39.setTop (mkF m 95 #[.val (.ref a0), .val (.long q1), .second, .val (.long j38), .second, .val (.int (0 : Int32)), .val (.int (0 : Int32)), .val (.int (ln38 - (1 : Int32))), .unset] [])) _
        refine st41 _ ?_
        show Steps p.tables e below (T41.setTop (mkF m 143 #[.val (.ref a0), .val (.long q1), .second, .val (.long j38), .second, .val (.int (0 : Int32)), .val (.int x641), .val (.int x741), x841] [])) _
        refine XS.aloadN X41.here hx rfl (hb hby d21_143) rfl rfl ?_
        show Steps p.tables e below (T41.setTop (mkF m 144 #[.val (.ref a0), .val (.long q1), .second, .val (.long j38), .second, .val (.int (0 : Int32)), .val (.int x641), .val (.int x741), x841] [(.ref a0)])) _
        refine XS.iconst X41.here hx rfl (hb hby d21_144) ?_
        show Steps p.tables e below (T41.setTop (mkF m 145 #[.val (.ref a0), .val (.long q1), .second, .val (.long j38), .second, .val (.int (0 : Int32)), .val (.int x641), .val (.int x741), x841] [(.int (1 : Int32)), (.ref a0)])) _
        refine st42 _ ?_
        show Steps p.tables e below (T42.setTop (mkF m 148 #[.val (.ref a0), .val (.long q1), .second, .val (.long j38), .second, .val (.int (0 : Int32)), .val (.int x641), .val (.int x741), x841] [])) _
        refine XS.aloadN X42.here hx rfl (hb hby d21_148) rfl rfl ?_
        show Steps p.tables e below (T42.setTop (mkF m 149 #[.val (.ref a0), .val (.long q1), .second, .val (.long j38), .second, .val (.int (0 : Int32)), .val (.int x641), .val (.int x741), x841] [(.ref a0)])) _
        exact retOut X42 hx Bd.returns rfl (Or.inr (Or.inr (Or.inr (Or.inr ⟨rfl, rfl, rfl⟩)))) (hb hby d21_149) hr
      have G43 : Fld Z h42 a0 "com/example/commitlog/commitlog/codec/JsonWriter" "bytes" "[B" (.ref b8_b9_b1) := (Fb41.other W42 (Or.inr (slot_ne (Or.inl (hw _ (List.mem_of_getElem? (i := 12) rfl))) (Or.inl (hw _ (List.mem_of_getElem? (i := 26) rfl))) (by decide) (t := (.array .byte)) (t' := .boolean) (by decide) (by decide))))
      have G44 : Fld Z h42 a0 "com/example/commitlog/commitlog/codec/JsonWriter" "length" "I" (.int ln38) := (Fl41.other W42 (Or.inr (slot_ne (Or.inl (hw _ (List.mem_of_getElem? (i := 24) rfl))) (Or.inl (hw _ (List.mem_of_getElem? (i := 26) rfl))) (by decide) (t := .int) (t' := .boolean) (by decide) (by decide))))
      have G45 : AF Z h42 b8_b9_b1 .byte ((own_nl n_w_bytes_a0 (0 : Int32) (20 : Int32))).toNatClampNeg (fun j => .int (f41 j)) := (A41.other W42 (Ne.symm ne_a0_b8_b9_b1))
      · show Q21 Z a0 q1 w_bytes_a0 w_afterValue_a0 n_w_bytes_a0 g_w_bytes_a0 h0 n0 _ T42.heap _
        rw [e42]
        exact ⟨b8_b9_b1, ((own_nl n_w_bytes_a0 (0 : Int32) (20 : Int32))).toNatClampNeg, f41, ln38, rfl, N42, K42, Or.inr sq_b8_b9_b1, nw_b8_b9_b1, ne_a0_b8_b9_b1, G43, G44, Fw42, G45, hB4, hN2.1, hN2.2⟩
  · have hp46 : ¬ (((Int32.ofNat n_w_bytes_a0) - (0 : Int32)) < (20 : Int32)) := hs
    obtain ⟨cq47, q47, q47'⟩ := E_a0.cell
    obtain ⟨_, _, ⟨T47, L47, k47, n47⟩, -, X47, ⟨Lc47, hQ47, l47, y47, z47⟩, st47⟩ := X0.privateBack hx (y := (⟨"com/example/commitlog/commitlog/codec/JsonWriter", "room", "(I)V"⟩ : MethodName)) hown (mvT hZ (hw _ (List.mem_of_getElem? (i := 61) rfl))) (mvT hZ (hw _ (List.mem_of_getElem? (i := 62) rfl))) (own_selp (mvT hZ (hw _ (List.mem_of_getElem? (i := 2) rfl))) (Cond.privateMethod_at (mvP hZ (hw _ (List.mem_of_getElem? (i := 63) rfl)) (args := #[]))) (mvT hZ (hw _ (List.mem_of_getElem? (i := 62) rfl))) (by decide)) (Cond.privateMethod_at (mvP hZ (hw _ (List.mem_of_getElem? (i := 63) rfl)) (args := #[]))) (mvT hZ (hw _ (List.mem_of_getElem? (i := 64) rfl))) (by decide) (backOf (W := 0) (rm10k l Z A0 hw [] a0 (20 : Int32) w_bytes_a0 (0 : Int32) w_afterValue_a0 n_w_bytes_a0 g_w_bytes_a0 h0 n0 (Nat.le_trans Z0 (Keep.refl h0 [a0, w_bytes_a0]).1) E_a0 F_bytes_a0 F_length_a0 F_afterValue_a0 A_w_bytes_a0 hp46) hZ (hw _ (List.mem_of_getElem? (i := 64) rfl)) (hw _ (List.mem_of_getElem? (i := 3) rfl)) (by decide) (by decide)) (g := (mkF m 3 #[.val (.ref a0), .val (.long q1), .second, .unset, .unset, .unset, .unset, .unset, .unset] [(.int (20 : Int32)), (.ref a0)])) rfl (by rw [hml]; rfl) (Steps.refl _) (a := a0) (by rw [e0]; exact q47) q47' (argsL := [(.int (20 : Int32))]) (rest := []) (lenOf pd_0 rfl) rfl (by show 2 * 0 + _ ≤ _; exact Nat.le_of_eq rfl) (hb hby d21_3) (fun _ _ => ⟨rfl, e0, (by decide : 0 + 0 ≤ _), (by decide : 0 + 0 ≤ _)⟩)
    dsimp only [Pt.U, Pt.locs, Pt.cells, Pt.slots] at X47 l47 y47 z47 st47 hQ47
    subst l47 y47 z47
    obtain ⟨rfl, N47q, e47⟩ := hQ47
    have N47 := Fr.app N0 N47q
    have hN2 : 20 ≤ n_w_bytes_a0 ∧ n_w_bytes_a0 ≤ 40 := by have q2 : ¬ ((n_w_bytes_a0 : Int) < (20 : Int32).toInt) := fun z => hs ((own_rV n_w_bytes_a0 (by omega) (20 : Int32)).mpr z); have k := own_20; omega
    have ck48 : ∀ t, Steps p.tables e below (T47.setTop (mkF m 11 #[.val (.ref a0), .val (.long q1), .second, .val (.long q1), .second, .unset, .unset, .unset, .unset] [(.int (lcmpW q1 (0 : Int64)))])) t → Steps p.tables e below (s₁.setTop (mkF m 3 #[.val (.ref a0), .val (.long q1), .second, .unset, .unset, .unset, .unset, .unset, .unset] [(.int (20 : Int32)), (.ref a0)])) t := by
      intro t kt
      show Steps p.tables e below (s₁.setTop (mkF m 3 #[.val (.ref a0), .val (.long q1), .second, .unset, .unset, .unset, .unset, .unset, .unset] [(.int (20 : Int32)), (.ref a0)])) _
      refine st47.trans ?_
      show Steps p.tables e below (T47.setTop (mkF m 6 #[.val (.ref a0), .val (.long q1), .second, .unset, .unset, .unset, .unset, .unset, .unset] [])) _
      refine XS.lloadN X47.here hx rfl (hb hby d21_6) rfl ?_
      show Steps p.tables e below (T47.setTop (mkF m 7 #[.val (.ref a0), .val (.long q1), .second, .unset, .unset, .unset, .unset, .unset, .unset] [(.long q1)])) _
      refine XS.lstoreN X47.here hx rfl (hb hby d21_7) rfl (l' := #[.val (.ref a0), .val (.long q1), .second, .val (.long q1), .second, .unset, .unset, .unset, .unset]) rfl ?_
      show Steps p.tables e below (T47.setTop (mkF m 8 #[.val (.ref a0), .val (.long q1), .second, .val (.long q1), .second, .unset, .unset, .unset, .unset] [])) _
      refine XS.lloadN X47.here hx rfl (hb hby d21_8) rfl ?_
      show Steps p.tables e below (T47.setTop (mkF m 9 #[.val (.ref a0), .val (.long q1), .second, .val (.long q1), .second, .unset, .unset, .unset, .unset] [(.long q1)])) _
      refine XS.lconst X47.here hx rfl (hb hby d21_9) ?_
      show Steps p.tables e below (T47.setTop (mkF m 10 #[.val (.ref a0), .val (.long q1), .second, .val (.long q1), .second, .unset, .unset, .unset, .unset] [(.long (0 : Int64)), (.long q1)])) _
      refine XS.lcmp X47.here hx rfl (hb hby d21_10) rfl ?_
      exact kt
    by_cases hsg : q1 < (0 : Int64)
    · obtain ⟨T49, X49, e49, st49⟩ := getF X47 hx hZ hown (host := "") (Or.inl (hw _ (List.mem_of_getElem? (i := 11) rfl))) Via.refl e47 F_bytes_a0 (g := (mkF m 15 #[.val (.ref a0), .val (.long q1), .second, .val (.long q1), .second, .unset, .unset, .unset, .unset] [(.ref a0)])) rfl rfl (hb hby d21_15)
      obtain ⟨T50, X50, e50, st50⟩ := getF X49 hx hZ hown (host := "") (Or.inl (hw _ (List.mem_of_getElem? (i := 23) rfl))) Via.refl e49 F_length_a0 (g := (mkF m 20 #[.val (.ref a0), .val (.long q1), .second, .val (.long q1), .second, .unset, .unset, .unset, .unset] [(.ref a0), (.ref a0), (.ref w_bytes_a0)])) rfl rfl (hb hby d21_20)
      obtain ⟨T51, h51, X51, e51, W51, st51⟩ := putF X50 hx hZ hown (host := "") (Or.inl (hw _ (List.mem_of_getElem? (i := 23) rfl))) Via.refl e50 F_length_a0 E_a0 (Or.inl (hw _ (List.mem_of_getElem? (i := 24) rfl))) (hw _ (List.mem_of_getElem? (i := 2) rfl)) (ty := .int) (by decide) rfl rfl (g := (mkF m 26 #[.val (.ref a0), .val (.long q1), .second, .val (.long q1), .second, .unset, .unset, .unset, .unset] [(.int (1 : Int32)), (.ref a0), (.int (0 : Int32)), (.ref w_bytes_a0)])) rfl rfl (hb hby d21_26)
      have K51 : Keep h0 h51 [a0, w_bytes_a0] := (Keep.refl h0 [a0, w_bytes_a0]).wr W51 (Or.inl (by simp))
      have Fw51 : Fld Z h51 a0 "com/example/commitlog/commitlog/codec/JsonWriter" "length" "I" (.int (1 : Int32)) := F_length_a0.same W51
      have N51 := Fr.snoc X51 N47 nw_a0
      have G52 : AF Z h51 w_bytes_a0 .byte n_w_bytes_a0 (fun j => .int (g_w_bytes_a0 j)) := (A_w_bytes_a0.other W51 (Ne.symm ne_a0_w_bytes_a0))
      have hi53 : own_in (0 : Int32) n_w_bytes_a0 := ⟨by decide, by have k0 := own_z32; omega⟩
      obtain ⟨T54, h54, X54, e54, W54, A54, st54⟩ := AF.stB X51 hx hZ e51 G52 hi53 (g := (mkF m 31 #[.val (.ref a0), .val (.long q1), .second, .val (.long q1), .second, .unset, .unset, .unset, .unset] [(.int (45 : Int32)), (.int (0 : Int32)), (.ref w_bytes_a0)])) rfl rfl (hb hby d21_31)
      have K54 : Keep h0 h54 [a0, w_bytes_a0] := K51.wr W54 (Or.inl (by simp))
      obtain ⟨f55, hf55⟩ : ∃ f : Nat → Int32, f = (fun i => if i = 0 then ((45 : Int32).toInt8.toInt32) else g_w_bytes_a0 i) := ⟨_, rfl⟩
      have V54 : AF Z h54 w_bytes_a0 .byte n_w_bytes_a0 (fun j => .int (f55 j)) := AF.cong A54 (own_updI rfl hf55)
      have N54 := Fr.snoc X54 N51 nw_w_bytes_a0
      have G56 : Fld Z h54 a0 "com/example/commitlog/commitlog/codec/JsonWriter" "length" "I" (.int (1 : Int32)) := (Fw51.other W54 (Or.inl ne_a0_w_bytes_a0))
      obtain ⟨T57, X57, e57, st57⟩ := getF X54 hx hZ hown (host := "") (Or.inl (hw _ (List.mem_of_getElem? (i := 23) rfl))) Via.refl e54 G56 (g := (mkF m 39 #[.val (.ref a0), .val (.long q1), .second, .val (.long q1), .second, .unset, .unset, .unset, .unset] [(.ref a0)])) rfl rfl (hb hby d21_39)
      have G58 : Exa Z h54 a0 "com/example/commitlog/commitlog/codec/JsonWriter" := ((E_a0.wr W51).wr W54)
      have G59 : Fld Z h54 a0 "com/example/commitlog/commitlog/codec/JsonWriter" "bytes" "[B" (.ref w_bytes_a0) := ((F_bytes_a0.other W51 (Or.inr (slot_ne (Or.inl (hw _ (List.mem_of_getElem? (i := 12) rfl))) (Or.inl (hw _ (List.mem_of_getElem? (i := 24) rfl))) (by decide) (t := (.array .byte)) (t' := .int) (by decide) (by decide)))).other W54 (Or.inl ne_a0_w_bytes_a0))
      have G60 : Fld Z h54 a0 "com/example/commitlog/commitlog/codec/JsonWriter" "afterValue" "Z" (.int w_afterValue_a0) := ((F_afterValue_a0.other W51 (Or.inr (slot_ne (Or.inl (hw _ (List.mem_of_getElem? (i := 26) rfl))) (Or.inl (hw _ (List.mem_of_getElem? (i := 24) rfl))) (by decide) (t := .boolean) (t' := .int) (by decide) (by decide)))).other W54 (Or.inl ne_a0_w_bytes_a0))
      have ck61 : ∀ t, Steps p.tables e below (T57.setTop (mkF m 44 #[.val (.ref a0), .val (.long q1), .second, .val (.long q1), .second, .val (.int (1 : Int32)), .unset, .unset, .unset] [])) t → Steps p.tables e below (T47.setTop (mkF m 11 #[.val (.ref a0), .val (.long q1), .second, .val (.long q1), .second, .unset, .unset, .unset, .unset] [(.int (lcmpW q1 (0 : Int64)))])) t := by
        intro t kt
        show Steps p.tables e below (T47.setTop (mkF m 11 #[.val (.ref a0), .val (.long q1), .second, .val (.long q1), .second, .unset, .unset, .unset, .unset] [(.int (lcmpW q1 (0 : Int64)))])) _
        refine XS.ifNo X47.here hx rfl (hb hby d21_11) rfl ((if0 _ _).trans (tlt ((lw_lt q1 (0 : Int64)).mpr hsg)).2.1) ?_
        show Steps p.tables e below (T47.setTop (mkF m 14 #[.val (.ref a0), .val (.long q1), .second, .val (.long q1), .second, .unset, .unset, .unset, .unset] [])) _
        refine XS.aloadN X47.here hx rfl (hb hby d21_14) rfl rfl ?_
        show Steps p.tables e below (T47.setTop (mkF m 15 #[.val (.ref a0), .val (.long q1), .second, .val (.long q1), .second, .unset, .unset, .unset, .unset] [(.ref a0)])) _
        refine st49 _ ?_
        show Steps p.tables e below (T49.setTop (mkF m 18 #[.val (.ref a0), .val (.long q1), .second, .val (.long q1), .second, .unset, .unset, .unset, .unset] [(.ref w_bytes_a0)])) _
        refine XS.aloadN X49.here hx rfl (hb hby d21_18) rfl rfl ?_
        show Steps p.tables e below (T49.setTop (mkF m 19 #[.val (.ref a0), .val (.long q1), .second, .val (.long q1), .second, .unset, .unset, .unset, .unset] [(.ref a0), (.ref w_bytes_a0)])) _
        refine XS.dup X49.here hx rfl (hb hby d21_19) rfl rfl ?_
        show Steps p.tables e below (T49.setTop (mkF m 20 #[.val (.ref a0), .val (.long q1), .second, .val (.long q1), .second, .unset, .unset, .unset, .unset] [(.ref a0), (.ref a0), (.ref w_bytes_a0)])) _
        refine st50 _ ?_
        show Steps p.tables e below (T50.setTop (mkF m 23 #[.val (.ref a0), .val (.long q1), .second, .val (.long q1), .second, .unset, .unset, .unset, .unset] [(.int (0 : Int32)), (.ref a0), (.ref w_bytes_a0)])) _
        refine XS.dupX1 X50.here hx rfl (hb hby d21_23) rfl rfl rfl ?_
        show Steps p.tables e below (T50.setTop (mkF m 24 #[.val (.ref a0), .val (.long q1), .second, .val (.long q1), .second, .unset, .unset, .unset, .unset] [(.int (0 : Int32)), (.ref a0), (.int (0 : Int32)), (.ref w_bytes_a0)])) _
        refine XS.iconst X50.here hx rfl (hb hby d21_24) ?_
        show Steps p.tables e below (T50.setTop (mkF m 25 #[.val (.ref a0), .val (.long q1), .second, .val (.long q1), .second, .unset, .unset, .unset, .unset] [(.int (1 : Int32)), (.int (0 : Int32)), (.ref a0), (.int (0 : Int32)), (.ref w_bytes_a0)])) _
        refine XS.iadd X50.here hx rfl (hb hby d21_25) rfl ?_
        show Steps p.tables e below (T50.setTop (mkF m 26 #[.val (.ref a0), .val (.long q1), .second, .val (.long q1), .second, .unset, .unset, .unset, .unset] [(.int (1 : Int32)), (.ref a0), (.int (0 : Int32)), (.ref w_bytes_a0)])) _
        refine st51 _ ?_
        show Steps p.tables e below (T51.setTop (mkF m 29 #[.val (.ref a0), .val (.long q1), .second, .val (.long q1), .second, .unset, .unset, .unset, .unset] [(.int (0 : Int32)), (.ref w_bytes_a0)])) _
        refine XS.bipush X51.here hx rfl (hb hby d21_29) ?_
        show Steps p.tables e below (T51.setTop (mkF m 31 #[.val (.ref a0), .val (.long q1), .second, .val (.long q1), .second, .unset, .unset, .unset, .unset] [(.int (45 : Int32)), (.int (0 : Int32)), (.ref w_bytes_a0)])) _
        refine st54 _ ?_
        show Steps p.tables e below (T54.setTop (mkF m 32 #[.val (.ref a0), .val (.long q1), .second, .val (.long q1), .second, .unset, .unset, .unset, .unset] [])) _
        refine XS.goto X54.here hx rfl (pc0 := 32) (pc' := 38) rfl (hb hby d21_32) (by decide) (by decide) ?_
        show Steps p.tables e below (T54.setTop (mkF m 38 #[.val (.ref a0), .val (.long q1), .second, .val (.long q1), .second, .unset, .unset, .unset, .unset] [])) _
        refine XS.aloadN X54.here hx rfl (hb hby d21_38) rfl rfl ?_
        show Steps p.tables e below (T54.setTop (mkF m 39 #[.val (.ref a0), .val (.long q1), .second, .val (.long q1), .second, .unset, .unset, .unset, .unset] [(.ref a0)])) _
        refine st57 _ ?_
        show Steps p.tables e below (T57.setTop (mkF m 42 #[.val (.ref a0), .val (.long q1), .second, .val (.long q1), .second, .unset, .unset, .unset, .unset] [(.int (1 : Int32))])) _
        refine XS.istore X57.here hx rfl (hb hby d21_42) rfl (l' := #[.val (.ref a0), .val (.long q1), .second, .val (.long q1), .second, .val (.int (1 : Int32)), .unset, .unset, .unset]) rfl ?_
        exact kt
      have hB2 : own_B f55 := by rw [hf55]; exact own_Bset hB _ _
      have hD := own_pos q1 hsg
      obtain ⟨T62, h62, L62, j62, ln62, f62, X62, N62, e62, Kc62, E62, Fb62, Fl62, Fa62, A62, hB3, hl1, hl2, st62⟩ := loopD (N := n_w_bytes_a0) a0 w_bytes_a0 q1 (1 : Int32) w_afterValue_a0 hx hZ hw hby hml hown nw_a0 nw_w_bytes_a0 ne_a0_w_bytes_a0 (by omega) 18 q1 (1 : Int32) f55 _ _ _ X57 e57 N54 G58 G59 G56 G60 V54 hB2 (by decide) (by have k1 : ((1 : Int32)).toInt ≤ 1 := (by decide); omega) hD.1 hD.2
      have K62 : Keep h0 h62 [a0, w_bytes_a0] := K54.trans Kc62 (allS (Or.inl (by simp)) (allS (Or.inl (by simp)) all0))
      obtain ⟨T63, X63, e63, st63⟩ := getF X62 hx hZ hown (host := "") (Or.inl (hw _ (List.mem_of_getElem? (i := 23) rfl))) Via.refl e62 Fl62 (g := (mkF m 88 #[.val (.ref a0), .val (.long q1), .second, .val (.long j62), .second, .val (.int (1 : Int32)), .val (.int (1 : Int32)), .unset, .unset] [(.ref a0)])) rfl rfl (hb hby d21_88)
      have ck64 : ∀ t, Steps p.tables e below (T63.setTop (mkF m 95 #[.val (.ref a0), .val (.long q1), .second, .val (.long j62), .second, .val (.int (1 : Int32)), .val (.int (1 : Int32)), .val (.int (ln62 - (1 : Int32))), .unset] [])) t → Steps p.tables e below (T57.setTop (mkF m 44 #[.val (.ref a0), .val (.long q1), .second, .val (.long q1), .second, .val (.int (1 : Int32)), .unset, .unset, .unset] [])) t := by
        intro t kt
        show Steps p.tables e below (T57.setTop (mkF m 44 #[.val (.ref a0), .val (.long q1), .second, .val (.long q1), .second, .val (.int (1 : Int32)), .unset, .unset, .unset] [])) _
        refine st62 _ ?_
        show Steps p.tables e below (T62.setTop (mkF m 83 #[.val (.ref a0), .val (.long q1), .second, .val (.long j62), .second, .val (.int (1 : Int32)), .unset, .unset, .unset] [])) _
        refine XS.iload X62.here hx rfl (hb hby d21_83) rfl ?_
        show Steps p.tables e below (T62.setTop (mkF m 85 #[.val (.ref a0), .val (.long q1), .second, .val (.long j62), .second, .val (.int (1 : Int32)), .unset, .unset, .unset] [(.int (1 : Int32))])) _
        refine XS.istore X62.here hx rfl (hb hby d21_85) rfl (l' := #[.val (.ref a0), .val (.long q1), .second, .val (.long j62), .second, .val (.int (1 : Int32)), .val (.int (1 : Int32)), .unset, .unset]) rfl ?_
        show Steps p.tables e below (T62.setTop (mkF m 87 #[.val (.ref a0), .val (.long q1), .second, .val (.long j62), .second, .val (.int (1 : Int32)), .val (.int (1 : Int32)), .unset, .unset] [])) _
        refine XS.aloadN X62.here hx rfl (hb hby d21_87) rfl rfl ?_
        show Steps p.tables e below (T62.setTop (mkF m 88 #[.val (.ref a0), .val (.long q1), .second, .val (.long j62), .second, .val (.int (1 : Int32)), .val (.int (1 : Int32)), .unset, .unset] [(.ref a0)])) _
        refine st63 _ ?_
        show Steps p.tables e below (T63.setTop (mkF m 91 #[.val (.ref a0), .val (.long q1), .second, .val (.long j62), .second, .val (.int (1 : Int32)), .val (.int (1 : Int32)), .unset, .unset] [(.int ln62)])) _
        refine XS.iconst X63.here hx rfl (hb hby d21_91) ?_
        show Steps p.tables e below (T63.setTop (mkF m 92 #[.val (.ref a0), .val (.long q1), .second, .val (.long j62), .second, .val (.int (1 : Int32)), .val (.int (1 : Int32)), .unset, .unset] [(.int (1 : Int32)), (.int ln62)])) _
        refine XS.isub X63.here hx rfl (hb hby d21_92) rfl ?_
        show Steps p.tables e below (T63.setTop (mkF m 93 #[.val (.ref a0), .val (.long q1), .second, .val (.long j62), .second, .val (.int (1 : Int32)), .val (.int (1 : Int32)), .unset, .unset] [(.int (ln62 - (1 : Int32)))])) _
        refine XS.istore X63.here hx rfl (hb hby d21_93) rfl (l' := #[.val (.ref a0), .val (.long q1), .second, .val (.long j62), .second, .val (.int (1 : Int32)), .val (.int (1 : Int32)), .val (.int (ln62 - (1 : Int32))), .unset]) rfl ?_
        exact kt
      have hdec := own_dec ln62 (by have k1 : 0 ≤ ((1 : Int32)).toInt := (by decide); omega) (by omega)
      obtain ⟨T65, h65, L65, x665, x765, x865, f65, X65, N65, e65, Kc65, E65, Fb65, Fl65, Fa65, A65, hB4, st65⟩ := loopR (N := n_w_bytes_a0) a0 w_bytes_a0 q1 (1 : Int32) w_afterValue_a0 hx hZ hw hby hml hown nw_a0 nw_w_bytes_a0 ne_a0_w_bytes_a0 (by omega) j62 ln62 64 (1 : Int32) (ln62 - (1 : Int32)) .unset f62 _ _ _ X63 e63 N62 E62 Fb62 Fl62 Fa62 A62 hB3 One.u (by decide) (by decide) (by have k1 : 0 ≤ ((1 : Int32)).toInt := (by decide); omega) (by omega) (by have k1 : 0 ≤ ((1 : Int32)).toInt := (by decide); omega)
      have K65 : Keep h0 h65 [a0, w_bytes_a0] := K62.trans Kc65 (allS (Or.inl (by simp)) (allS (Or.inl (by simp)) all0))
      obtain ⟨T66, h66, X66, e66, W66, st66⟩ := putFN X65 hx hZ hown (hw _ (List.mem_of_getElem? (i := 25) rfl)) Via.refl e65 Fa65 E65 (Or.inl (hw _ (List.mem_of_getElem? (i := 26) rfl))) (hw _ (List.mem_of_getElem? (i := 2) rfl)) (ty := .boolean) (v' := .int (1 : Int32)) (by decide) rfl rfl (g := (mkF m 145 #[.val (.ref a0), .val (.long q1), .second, .val (.long j62), .second, .val (.int (1 : Int32)), .val (.int x665), .val (.int x765), x865] [(.int (1 : Int32)), (.ref a0)])) rfl rfl (hb hby d21_145)
      have K66 : Keep h0 h66 [a0, w_bytes_a0] := K65.wr W66 (Or.inl (by simp))
      have Fw66 : Fld Z h66 a0 "com/example/commitlog/commitlog/codec/JsonWriter" "afterValue" "Z" (.int (1 : Int32)) := Fa65.same W66
      have N66 := Fr.snoc X66 N65 nw_a0
      obtain ⟨fs, hr, hrun, hended, hW, hsame⟩ := X66.leave (v := some (.ref a0)) (fun h => by rw [Bd.returns] at h; cases h)
      refine ⟨_, _, pre0 _ (ck1 _ (ck48 _ (ck61 _ (ck64 _ ?_)))), hrun, hended, _, _, rfl, ?_, ⟨_, rfl⟩, hW, hsame.mono (by decide) (by decide)⟩
      · show Steps p.tables e below (T63.setTop (mkF m 95 #[.val (.ref a0), .val (.long q1), .second, .val (.long j62), .second, .val (.int (1 : Int32)), .val (.int (1 : Int32)), .val (.int (ln62 - (1 : Int32))), .unset] [])) _
        refine st65 _ ?_
        show Steps p.tables e below (T65.setTop (mkF m 143 #[.val (.ref a0), .val (.long q1), .second, .val (.long j62), .second, .val (.int (1 : Int32)), .val (.int x665), .val (.int x765), x865] [])) _
        refine XS.aloadN X65.here hx rfl (hb hby d21_143) rfl rfl ?_
        show Steps p.tables e below (T65.setTop (mkF m 144 #[.val (.ref a0), .val (.long q1), .second, .val (.long j62), .second, .val (.int (1 : Int32)), .val (.int x665), .val (.int x765), x865] [(.ref a0)])) _
        refine XS.iconst X65.here hx rfl (hb hby d21_144) ?_
        show Steps p.tables e below (T65.setTop (mkF m 145 #[.val (.ref a0), .val (.long q1), .second, .val (.long j62), .second, .val (.int (1 : Int32)), .val (.int x665), .val (.int x765), x865] [(.int (1 : Int32)), (.ref a0)])) _
        refine st66 _ ?_
        show Steps p.tables e below (T66.setTop (mkF m 148 #[.val (.ref a0), .val (.long q1), .second, .val (.long j62), .second, .val (.int (1 : Int32)), .val (.int x665), .val (.int x765), x865] [])) _
        refine XS.aloadN X66.here hx rfl (hb hby d21_148) rfl rfl ?_
        show Steps p.tables e below (T66.setTop (mkF m 149 #[.val (.ref a0), .val (.long q1), .second, .val (.long j62), .second, .val (.int (1 : Int32)), .val (.int x665), .val (.int x765), x865] [(.ref a0)])) _
        exact retOut X66 hx Bd.returns rfl (Or.inr (Or.inr (Or.inr (Or.inr ⟨rfl, rfl, rfl⟩)))) (hb hby d21_149) hr
      have G67 : Fld Z h66 a0 "com/example/commitlog/commitlog/codec/JsonWriter" "bytes" "[B" (.ref w_bytes_a0) := (Fb65.other W66 (Or.inr (slot_ne (Or.inl (hw _ (List.mem_of_getElem? (i := 12) rfl))) (Or.inl (hw _ (List.mem_of_getElem? (i := 26) rfl))) (by decide) (t := (.array .byte)) (t' := .boolean) (by decide) (by decide))))
      have G68 : Fld Z h66 a0 "com/example/commitlog/commitlog/codec/JsonWriter" "length" "I" (.int ln62) := (Fl65.other W66 (Or.inr (slot_ne (Or.inl (hw _ (List.mem_of_getElem? (i := 24) rfl))) (Or.inl (hw _ (List.mem_of_getElem? (i := 26) rfl))) (by decide) (t := .int) (t' := .boolean) (by decide) (by decide))))
      have G69 : AF Z h66 w_bytes_a0 .byte n_w_bytes_a0 (fun j => .int (f65 j)) := (A65.other W66 (Ne.symm ne_a0_w_bytes_a0))
      · show Q21 Z a0 q1 w_bytes_a0 w_afterValue_a0 n_w_bytes_a0 g_w_bytes_a0 h0 n0 _ T66.heap _
        rw [e66]
        exact ⟨w_bytes_a0, n_w_bytes_a0, f65, ln62, rfl, N66, K66, Or.inl rfl, nw_w_bytes_a0, ne_a0_w_bytes_a0, G67, G68, Fw66, G69, hB4, hN2.1, hN2.2⟩
    · obtain ⟨T70, X70, e70, st70⟩ := getF X47 hx hZ hown (host := "") (Or.inl (hw _ (List.mem_of_getElem? (i := 23) rfl))) Via.refl e47 F_length_a0 (g := (mkF m 39 #[.val (.ref a0), .val (.long q1), .second, .val (.long (-q1)), .second, .unset, .unset, .unset, .unset] [(.ref a0)])) rfl rfl (hb hby d21_39)
      have ck71 : ∀ t, Steps p.tables e below (T70.setTop (mkF m 44 #[.val (.ref a0), .val (.long q1), .second, .val (.long (-q1)), .second, .val (.int (0 : Int32)), .unset, .unset, .unset] [])) t → Steps p.tables e below (T47.setTop (mkF m 11 #[.val (.ref a0), .val (.long q1), .second, .val (.long q1), .second, .unset, .unset, .unset, .unset] [(.int (lcmpW q1 (0 : Int64)))])) t := by
        intro t kt
        show Steps p.tables e below (T47.setTop (mkF m 11 #[.val (.ref a0), .val (.long q1), .second, .val (.long q1), .second, .unset, .unset, .unset, .unset] [(.int (lcmpW q1 (0 : Int64)))])) _
        refine XS.ifYes X47.here hx rfl (pc0 := 11) (pc' := 35) rfl (hb hby d21_11) rfl ((if0 _ _).trans (flt (fun q => hsg ((lw_lt q1 (0 : Int64)).mp q))).2.1) (by decide) (by decide) ?_
        show Steps p.tables e below (T47.setTop (mkF m 35 #[.val (.ref a0), .val (.long q1), .second, .val (.long q1), .second, .unset, .unset, .unset, .unset] [])) _
        refine XS.lloadN X47.here hx rfl (hb hby d21_35) rfl ?_
        show Steps p.tables e below (T47.setTop (mkF m 36 #[.val (.ref a0), .val (.long q1), .second, .val (.long q1), .second, .unset, .unset, .unset, .unset] [(.long q1)])) _
        refine XS.lneg X47.here hx rfl (hb hby d21_36) rfl ?_
        show Steps p.tables e below (T47.setTop (mkF m 37 #[.val (.ref a0), .val (.long q1), .second, .val (.long q1), .second, .unset, .unset, .unset, .unset] [(.long (-q1))])) _
        refine XS.lstoreN X47.here hx rfl (hb hby d21_37) rfl (l' := #[.val (.ref a0), .val (.long q1), .second, .val (.long (-q1)), .second, .unset, .unset, .unset, .unset]) rfl ?_
        show Steps p.tables e below (T47.setTop (mkF m 38 #[.val (.ref a0), .val (.long q1), .second, .val (.long (-q1)), .second, .unset, .unset, .unset, .unset] [])) _
        refine XS.aloadN X47.here hx rfl (hb hby d21_38) rfl rfl ?_
        show Steps p.tables e below (T47.setTop (mkF m 39 #[.val (.ref a0), .val (.long q1), .second, .val (.long (-q1)), .second, .unset, .unset, .unset, .unset] [(.ref a0)])) _
        refine st70 _ ?_
        show Steps p.tables e below (T70.setTop (mkF m 42 #[.val (.ref a0), .val (.long q1), .second, .val (.long (-q1)), .second, .unset, .unset, .unset, .unset] [(.int (0 : Int32))])) _
        refine XS.istore X70.here hx rfl (hb hby d21_42) rfl (l' := #[.val (.ref a0), .val (.long q1), .second, .val (.long (-q1)), .second, .val (.int (0 : Int32)), .unset, .unset, .unset]) rfl ?_
        exact kt
      have hB2 : own_B g_w_bytes_a0 := hB
      have hD := own_neg q1 hsg
      obtain ⟨T72, h72, L72, j72, ln72, f72, X72, N72, e72, Kc72, E72, Fb72, Fl72, Fa72, A72, hB3, hl1, hl2, st72⟩ := loopD (N := n_w_bytes_a0) a0 w_bytes_a0 q1 (0 : Int32) w_afterValue_a0 hx hZ hw hby hml hown nw_a0 nw_w_bytes_a0 ne_a0_w_bytes_a0 (by omega) 18 (-q1) (0 : Int32) g_w_bytes_a0 _ _ _ X70 e70 N47 E_a0 F_bytes_a0 F_length_a0 F_afterValue_a0 A_w_bytes_a0 hB2 (by decide) (by have k1 : ((0 : Int32)).toInt ≤ 1 := (by decide); omega) hD.1 hD.2
      have K72 : Keep h0 h72 [a0, w_bytes_a0] := (Keep.refl h0 [a0, w_bytes_a0]).trans Kc72 (allS (Or.inl (by simp)) (allS (Or.inl (by simp)) all0))
      obtain ⟨T73, X73, e73, st73⟩ := getF X72 hx hZ hown (host := "") (Or.inl (hw _ (List.mem_of_getElem? (i := 23) rfl))) Via.refl e72 Fl72 (g := (mkF m 88 #[.val (.ref a0), .val (.long q1), .second, .val (.long j72), .second, .val (.int (0 : Int32)), .val (.int (0 : Int32)), .unset, .unset] [(.ref a0)])) rfl rfl (hb hby d21_88)
      have ck74 : ∀ t, Steps p.tables e below (T73.setTop (mkF m 95 #[.val (.ref a0), .val (.long q1), .second, .val (.long j72), .second, .val (.int (0 : Int32)), .val (.int (0 : Int32)), .val (.int (ln72 - (1 : Int32))), .unset] [])) t → Steps p.tables e below (T70.setTop (mkF m 44 #[.val (.ref a0), .val (.long q1), .second, .val (.long (-q1)), .second, .val (.int (0 : Int32)), .unset, .unset, .unset] [])) t := by
        intro t kt
        show Steps p.tables e below (T70.setTop (mkF m 44 #[.val (.ref a0), .val (.long q1), .second, .val (.long (-q1)), .second, .val (.int (0 : Int32)), .unset, .unset, .unset] [])) _
        refine st72 _ ?_
        show Steps p.tables e below (T72.setTop (mkF m 83 #[.val (.ref a0), .val (.long q1), .second, .val (.long j72), .second, .val (.int (0 : Int32)), .unset, .unset, .unset] [])) _
        refine XS.iload X72.here hx rfl (hb hby d21_83) rfl ?_
        show Steps p.tables e below (T72.setTop (mkF m 85 #[.val (.ref a0), .val (.long q1), .second, .val (.long j72), .second, .val (.int (0 : Int32)), .unset, .unset, .unset] [(.int (0 : Int32))])) _
        refine XS.istore X72.here hx rfl (hb hby d21_85) rfl (l' := #[.val (.ref a0), .val (.long q1), .second, .val (.long j72), .second, .val (.int (0 : Int32)), .val (.int (0 : Int32)), .unset, .unset]) rfl ?_
        show Steps p.tables e below (T72.setTop (mkF m 87 #[.val (.ref a0), .val (.long q1), .second, .val (.long j72), .second, .val (.int (0 : Int32)), .val (.int (0 : Int32)), .unset, .unset] [])) _
        refine XS.aloadN X72.here hx rfl (hb hby d21_87) rfl rfl ?_
        show Steps p.tables e below (T72.setTop (mkF m 88 #[.val (.ref a0), .val (.long q1), .second, .val (.long j72), .second, .val (.int (0 : Int32)), .val (.int (0 : Int32)), .unset, .unset] [(.ref a0)])) _
        refine st73 _ ?_
        show Steps p.tables e below (T73.setTop (mkF m 91 #[.val (.ref a0), .val (.long q1), .second, .val (.long j72), .second, .val (.int (0 : Int32)), .val (.int (0 : Int32)), .unset, .unset] [(.int ln72)])) _
        refine XS.iconst X73.here hx rfl (hb hby d21_91) ?_
        show Steps p.tables e below (T73.setTop (mkF m 92 #[.val (.ref a0), .val (.long q1), .second, .val (.long j72), .second, .val (.int (0 : Int32)), .val (.int (0 : Int32)), .unset, .unset] [(.int (1 : Int32)), (.int ln72)])) _
        refine XS.isub X73.here hx rfl (hb hby d21_92) rfl ?_
        show Steps p.tables e below (T73.setTop (mkF m 93 #[.val (.ref a0), .val (.long q1), .second, .val (.long j72), .second, .val (.int (0 : Int32)), .val (.int (0 : Int32)), .unset, .unset] [(.int (ln72 - (1 : Int32)))])) _
        refine XS.istore X73.here hx rfl (hb hby d21_93) rfl (l' := #[.val (.ref a0), .val (.long q1), .second, .val (.long j72), .second, .val (.int (0 : Int32)), .val (.int (0 : Int32)), .val (.int (ln72 - (1 : Int32))), .unset]) rfl ?_
        exact kt
      have hdec := own_dec ln72 (by have k1 : 0 ≤ ((0 : Int32)).toInt := (by decide); omega) (by omega)
      obtain ⟨T75, h75, L75, x675, x775, x875, f75, X75, N75, e75, Kc75, E75, Fb75, Fl75, Fa75, A75, hB4, st75⟩ := loopR (N := n_w_bytes_a0) a0 w_bytes_a0 q1 (0 : Int32) w_afterValue_a0 hx hZ hw hby hml hown nw_a0 nw_w_bytes_a0 ne_a0_w_bytes_a0 (by omega) j72 ln72 64 (0 : Int32) (ln72 - (1 : Int32)) .unset f72 _ _ _ X73 e73 N72 E72 Fb72 Fl72 Fa72 A72 hB3 One.u (by decide) (by decide) (by have k1 : 0 ≤ ((0 : Int32)).toInt := (by decide); omega) (by omega) (by have k1 : 0 ≤ ((0 : Int32)).toInt := (by decide); omega)
      have K75 : Keep h0 h75 [a0, w_bytes_a0] := K72.trans Kc75 (allS (Or.inl (by simp)) (allS (Or.inl (by simp)) all0))
      obtain ⟨T76, h76, X76, e76, W76, st76⟩ := putFN X75 hx hZ hown (hw _ (List.mem_of_getElem? (i := 25) rfl)) Via.refl e75 Fa75 E75 (Or.inl (hw _ (List.mem_of_getElem? (i := 26) rfl))) (hw _ (List.mem_of_getElem? (i := 2) rfl)) (ty := .boolean) (v' := .int (1 : Int32)) (by decide) rfl rfl (g := (mkF m 145 #[.val (.ref a0), .val (.long q1), .second, .val (.long j72), .second, .val (.int (0 : Int32)), .val (.int x675), .val (.int x775), x875] [(.int (1 : Int32)), (.ref a0)])) rfl rfl (hb hby d21_145)
      have K76 : Keep h0 h76 [a0, w_bytes_a0] := K75.wr W76 (Or.inl (by simp))
      have Fw76 : Fld Z h76 a0 "com/example/commitlog/commitlog/codec/JsonWriter" "afterValue" "Z" (.int (1 : Int32)) := Fa75.same W76
      have N76 := Fr.snoc X76 N75 nw_a0
      obtain ⟨fs, hr, hrun, hended, hW, hsame⟩ := X76.leave (v := some (.ref a0)) (fun h => by rw [Bd.returns] at h; cases h)
      refine ⟨_, _, pre0 _ (ck1 _ (ck48 _ (ck71 _ (ck74 _ ?_)))), hrun, hended, _, _, rfl, ?_, ⟨_, rfl⟩, hW, hsame.mono (by decide) (by decide)⟩
      · show Steps p.tables e below (T73.setTop (mkF m 95 #[.val (.ref a0), .val (.long q1), .second, .val (.long j72), .second, .val (.int (0 : Int32)), .val (.int (0 : Int32)), .val (.int (ln72 - (1 : Int32))), .unset] [])) _
        refine st75 _ ?_
        show Steps p.tables e below (T75.setTop (mkF m 143 #[.val (.ref a0), .val (.long q1), .second, .val (.long j72), .second, .val (.int (0 : Int32)), .val (.int x675), .val (.int x775), x875] [])) _
        refine XS.aloadN X75.here hx rfl (hb hby d21_143) rfl rfl ?_
        show Steps p.tables e below (T75.setTop (mkF m 144 #[.val (.ref a0), .val (.long q1), .second, .val (.long j72), .second, .val (.int (0 : Int32)), .val (.int x675), .val (.int x775), x875] [(.ref a0)])) _
        refine XS.iconst X75.here hx rfl (hb hby d21_144) ?_
        show Steps p.tables e below (T75.setTop (mkF m 145 #[.val (.ref a0), .val (.long q1), .second, .val (.long j72), .second, .val (.int (0 : Int32)), .val (.int x675), .val (.int x775), x875] [(.int (1 : Int32)), (.ref a0)])) _
        refine st76 _ ?_
        show Steps p.tables e below (T76.setTop (mkF m 148 #[.val (.ref a0), .val (.long q1), .second, .val (.long j72), .second, .val (.int (0 : Int32)), .val (.int x675), .val (.int x775), x875] [])) _
        refine XS.aloadN X76.here hx rfl (hb hby d21_148) rfl rfl ?_
        show Steps p.tables e below (T76.setTop (mkF m 149 #[.val (.ref a0), .val (.long q1), .second, .val (.long j72), .second, .val (.int (0 : Int32)), .val (.int x675), .val (.int x775), x875] [(.ref a0)])) _
        exact retOut X76 hx Bd.returns rfl (Or.inr (Or.inr (Or.inr (Or.inr ⟨rfl, rfl, rfl⟩)))) (hb hby d21_149) hr
      have G77 : Fld Z h76 a0 "com/example/commitlog/commitlog/codec/JsonWriter" "bytes" "[B" (.ref w_bytes_a0) := (Fb75.other W76 (Or.inr (slot_ne (Or.inl (hw _ (List.mem_of_getElem? (i := 12) rfl))) (Or.inl (hw _ (List.mem_of_getElem? (i := 26) rfl))) (by decide) (t := (.array .byte)) (t' := .boolean) (by decide) (by decide))))
      have G78 : Fld Z h76 a0 "com/example/commitlog/commitlog/codec/JsonWriter" "length" "I" (.int ln72) := (Fl75.other W76 (Or.inr (slot_ne (Or.inl (hw _ (List.mem_of_getElem? (i := 24) rfl))) (Or.inl (hw _ (List.mem_of_getElem? (i := 26) rfl))) (by decide) (t := .int) (t' := .boolean) (by decide) (by decide))))
      have G79 : AF Z h76 w_bytes_a0 .byte n_w_bytes_a0 (fun j => .int (f75 j)) := (A75.other W76 (Ne.symm ne_a0_w_bytes_a0))
      · show Q21 Z a0 q1 w_bytes_a0 w_afterValue_a0 n_w_bytes_a0 g_w_bytes_a0 h0 n0 _ T76.heap _
        rw [e76]
        exact ⟨w_bytes_a0, n_w_bytes_a0, f75, ln72, rfl, N76, K76, Or.inl rfl, nw_w_bytes_a0, ne_a0_w_bytes_a0, G77, G78, Fw76, G79, hB4, hN2.1, hN2.2⟩

theorem own_3 : (3 : Int32).toInt = 3 := by decide
theorem own_1 : (1 : Int32).toInt = 1 := by decide
theorem own_nlP (n : Nat) (hn : n ≤ 40) (h3 : 3 ≤ n) (hc : ((Int32.ofNat n) - (3 : Int32)) < (1 : Int32)) :
    ¬ ((own_nl n (3 : Int32) (1 : Int32)) = (Int32.ofNat n)) ∧ ¬ (own_nl n (3 : Int32) (1 : Int32)) < (0 : Int32) ∧ (own_nl n (3 : Int32) (1 : Int32)).toNatClampNeg ≤ 64 ∧ ¬ ((own_nl n (3 : Int32) (1 : Int32)) < (Int32.ofNat n)) ∧ (((own_nl n (3 : Int32) (1 : Int32)).toNatClampNeg : Nat) : Int) = max (2 * (n : Int)) ((3 : Int32).toInt + (1 : Int32).toInt) :=
  own_nlf n (3 : Int32) (1 : Int32) hn (by decide) (by rw [own_3]; omega) (by decide) (by decide) (by have q := (own_rc n (3 : Int32) (1 : Int32) (by omega) (by decide) (by rw [own_3]; omega)).mp hc; rw [own_3, own_1] at q; omega) hc
theorem own_rP (n : Nat) (hn : n ≤ 64) (h3 : 3 ≤ n) : ((Int32.ofNat n) - (3 : Int32)) < (1 : Int32) ↔ n < 4 := by
  rw [own_rc n (3 : Int32) (1 : Int32) hn (by decide) (by rw [own_3]; omega), own_3, own_1]; omega

theorem ef_20 (m : MethodId) (a0 : Addr) (p1 : Int32) : entryFrame m #[(.ref a0), (.int p1)] 2 = mkF m 0 #[.val (.ref a0), .val (.int p1)] [] := by first | (simp [entryFrame, mkF, argsToLocals, Value.category]; done) | rfl
def Q20 (Z : State) (a0 : Addr) (p1 : Int32) (w_bytes_a0 : Addr) (w_afterValue_a0 : Int32) (n_w_bytes_a0 : Nat) (g_w_bytes_a0 : Nat → Int32) (h0 : Heap) (n0 : Nat) (v : Option Value) (h : Heap) (L : List Loc) : Prop := ∃ (b' : Addr) (N' : Nat) (g' : Nat → Int32), v = none ∧ Fr n0 L ∧ Keep h0 h [a0, w_bytes_a0] ∧ (b' = w_bytes_a0 ∨ h0.size ≤ b') ∧ n0 ≤ b' ∧ a0 ≠ b' ∧ Fld Z h a0 "com/example/commitlog/commitlog/codec/JsonWriter" "bytes" "[B" (.ref b') ∧ Fld Z h a0 "com/example/commitlog/commitlog/codec/JsonWriter" "length" "I" (.int (4 : Int32)) ∧ Fld Z h a0 "com/example/commitlog/commitlog/codec/JsonWriter" "afterValue" "Z" (.int w_afterValue_a0) ∧ AF Z h b' .byte N' (fun j => .int (g' j)) ∧ own_B g' ∧ 4 ≤ N' ∧ g' 3 = ((p1.toInt8.toInt32).toInt8.toInt32) ∧ ∀ j, j < 3 → g' j = g_w_bytes_a0 j
set_option maxRecDepth 65536 in
set_option maxHeartbeats 40000000 in
theorem rm20 (l : Launch) (Z : State) (A0 : Array Value) (hw : ∀ d ∈ tables_1, d.before A0 Z = true) (ws : List Jvm.Cond) (a0 : Addr) (p1 : Int32) (w_bytes_a0 : Addr) (w_afterValue_a0 : Int32) (n_w_bytes_a0 : Nat) (g_w_bytes_a0 : Nat → Int32) (h0 : Heap) (n0 : Nat) (Z0 : n0 ≤ h0.size) (E_a0 : Exa Z h0 a0 "com/example/commitlog/commitlog/codec/JsonWriter") (F_bytes_a0 : Fld Z h0 a0 "com/example/commitlog/commitlog/codec/JsonWriter" "bytes" "[B" (.ref w_bytes_a0)) (F_length_a0 : Fld Z h0 a0 "com/example/commitlog/commitlog/codec/JsonWriter" "length" "I" (.int (3 : Int32))) (F_afterValue_a0 : Fld Z h0 a0 "com/example/commitlog/commitlog/codec/JsonWriter" "afterValue" "Z" (.int w_afterValue_a0)) (A_w_bytes_a0 : AF Z h0 w_bytes_a0 .byte n_w_bytes_a0 (fun j => .int (g_w_bytes_a0 j))) (nw_a0 : n0 ≤ a0) (ne_a0_w_bytes_a0 : a0 ≠ w_bytes_a0) (nw_w_bytes_a0 : n0 ≤ w_bytes_a0) (hN : n_w_bytes_a0 ≤ 40) (hB : own_B g_w_bytes_a0) (h3 : 3 ≤ n_w_bytes_a0) :
    MetFree l (⟨"com/example/commitlog/commitlog/codec/JsonWriter", "put", "(I)V"⟩ : MethodName) (head1 (Jvm.Cond.code (⟨"com/example/commitlog/commitlog/codec/JsonWriter", "put", "(I)V"⟩ : MethodName) prog_9_method_18_code 2 none :: ws) ({ frames := 3, cells := 1, slots := 64, locals := 68 } : Room)) (fun a U => a = #[(.ref a0), (.int p1)] ∧ Z.Warmed39 U.vm ∧ U.heap = h0) (fun _ _ _ _ _ => True) (fun _ U o U' => ∃ v L, o = .returned v ∧ Q20 Z a0 p1 w_bytes_a0 w_afterValue_a0 n_w_bytes_a0 g_w_bytes_a0 h0 n0 v U'.heap L ∧ FrameEnd U o U' L ({ frames := 3, cells := 1, slots := 64, locals := 68 } : Room).cells ({ frames := 3, cells := 1, slots := 64, locals := 68 } : Room).slots) := by
  refine MetFree.of_bodySF (plainFor_of_name pn_20) hisR ?_
  intro p e s m args below meth c s₁ Bd hml0 hP hK
  obtain ⟨rfl, hZ, hh⟩ := hP
  have hx := Bd.exec
  have hby := Bd.bytes
  have hml : c.maxLocals = 2 := hml0
  have hown : s.vm.findClass "com/example/commitlog/commitlog/codec/JsonWriter" = some m.cls := findClass_of_methodNamed Bd.named
  have hnm := (name_of_methodNamed Bd.named Bd.method).1
  have X0 : Stand p l e ({ frames := 3, cells := 1, slots := 64, locals := 68 } : Room) s m #[(.ref a0), (.int p1)] below meth c s₁ [] 0 0 := Stand.of_body Bd
  have e0 : s₁.heap = h0 := by rw [← hh, Bd.state]; rfl
  have N0 := Fr.nil n0
  have pre0 : ∀ t, Steps p.tables e below (s₁.setTop (mkF m 0 #[.val (.ref a0), .val (.int p1)] [])) t → Steps p.tables e below (s₁.setTop (entryFrame m #[(.ref a0), (.int p1)] 2)) t := fun t k => castTop (ef_20 m a0 p1) k
  have ck1 : ∀ t, Steps p.tables e below (s₁.setTop (mkF m 2 #[.val (.ref a0), .val (.int p1)] [(.int (1 : Int32)), (.ref a0)])) t → Steps p.tables e below (s₁.setTop (mkF m 0 #[.val (.ref a0), .val (.int p1)] [])) t := by
    intro t kt
    show Steps p.tables e below (s₁.setTop (mkF m 0 #[.val (.ref a0), .val (.int p1)] [])) _
    refine XS.aloadN X0.here hx rfl (hb hby d20_0) rfl rfl ?_
    show Steps p.tables e below (s₁.setTop (mkF m 1 #[.val (.ref a0), .val (.int p1)] [(.ref a0)])) _
    refine XS.iconst X0.here hx rfl (hb hby d20_1) ?_
    exact kt
  rcases Classical.em (((Int32.ofNat n_w_bytes_a0) - (3 : Int32)) < (1 : Int32)) with hs | hs
  · have hp2 : ((Int32.ofNat n_w_bytes_a0) - (3 : Int32)) < (1 : Int32) := hs
    have hp3 : ¬ ((own_nl n_w_bytes_a0 (3 : Int32) (1 : Int32)) = (Int32.ofNat n_w_bytes_a0)) := (own_nlP n_w_bytes_a0 hN h3 hs).1
    have hp4 : ¬ (own_nl n_w_bytes_a0 (3 : Int32) (1 : Int32)) < (0 : Int32) := (own_nlP n_w_bytes_a0 hN h3 hs).2.1
    have hp5 : (own_nl n_w_bytes_a0 (3 : Int32) (1 : Int32)).toNatClampNeg ≤ 64 := (own_nlP n_w_bytes_a0 hN h3 hs).2.2.1
    have hp6 : ¬ ((own_nl n_w_bytes_a0 (3 : Int32) (1 : Int32)) < (Int32.ofNat n_w_bytes_a0)) := (own_nlP n_w_bytes_a0 hN h3 hs).2.2.2.1
    have hp7 : ∀ j, j < n_w_bytes_a0 → fits .byte (.int (g_w_bytes_a0 j)) = true := (fun j _ => hB j)
    obtain ⟨cq8, q8, q8'⟩ := E_a0.cell
    obtain ⟨_, _, ⟨T8, L8, k8, n8⟩, -, X8, ⟨Lc8, hQ8, l8, y8, z8⟩, st8⟩ := X0.privateBack hx (y := (⟨"com/example/commitlog/commitlog/codec/JsonWriter", "room", "(I)V"⟩ : MethodName)) hown (mvT hZ (hw _ (List.mem_of_getElem? (i := 61) rfl))) (mvT hZ (hw _ (List.mem_of_getElem? (i := 62) rfl))) (own_selp (mvT hZ (hw _ (List.mem_of_getElem? (i := 2) rfl))) (Cond.privateMethod_at (mvP hZ (hw _ (List.mem_of_getElem? (i := 63) rfl)) (args := #[]))) (mvT hZ (hw _ (List.mem_of_getElem? (i := 62) rfl))) (by decide)) (Cond.privateMethod_at (mvP hZ (hw _ (List.mem_of_getElem? (i := 63) rfl)) (args := #[]))) (mvT hZ (hw _ (List.mem_of_getElem? (i := 64) rfl))) (by decide) (backOf (W := 0) (rm10g l Z A0 hw [] a0 (1 : Int32) w_bytes_a0 (3 : Int32) w_afterValue_a0 n_w_bytes_a0 g_w_bytes_a0 h0 n0 (Nat.le_trans Z0 (Keep.refl h0 [a0, w_bytes_a0]).1) E_a0 F_bytes_a0 F_length_a0 F_afterValue_a0 A_w_bytes_a0 nw_a0 hp2 hp3 hp4 hp5 hp6 hp7) hZ (hw _ (List.mem_of_getElem? (i := 64) rfl)) (hw _ (List.mem_of_getElem? (i := 3) rfl)) (by decide) (by decide)) (g := (mkF m 2 #[.val (.ref a0), .val (.int p1)] [(.int (1 : Int32)), (.ref a0)])) rfl (by rw [hml]; rfl) (Steps.refl _) (a := a0) (by rw [e0]; exact q8) q8' (argsL := [(.int (1 : Int32))]) (rest := []) (lenOf pd_0 rfl) rfl (by show 2 * 0 + _ ≤ _; exact Nat.le_of_eq rfl) (hb hby d20_2) (fun _ _ => ⟨rfl, e0, (by decide : 0 + 1 ≤ _), (by decide : 0 + 64 ≤ _)⟩)
    dsimp only [Pt.U, Pt.locs, Pt.cells, Pt.slots] at X8 l8 y8 z8 st8 hQ8
    subst l8 y8 z8
    obtain ⟨b8_b9_b1, rfl, N8q, Kc8, szb8_b9_b1, P9, P10, P11, P12, P13⟩ := hQ8
    have ne_a0_b8_b9_b1 : a0 ≠ b8_b9_b1 := Nat.ne_of_lt (Nat.lt_of_lt_of_le E_a0.lt szb8_b9_b1)
    have ne_w_bytes_a0_b8_b9_b1 : w_bytes_a0 ≠ b8_b9_b1 := Nat.ne_of_lt (Nat.lt_of_lt_of_le A_w_bytes_a0.lt szb8_b9_b1)
    have nw_b8_b9_b1 : n0 ≤ b8_b9_b1 := Nat.le_trans (Nat.le_trans Z0 (Keep.refl h0 [a0, w_bytes_a0]).1) szb8_b9_b1
    have sq_b8_b9_b1 : h0.size ≤ b8_b9_b1 := Nat.le_trans (Keep.refl h0 [a0, w_bytes_a0]).1 szb8_b9_b1
    have K8 : Keep h0 T8.heap [a0, w_bytes_a0] := (Keep.refl h0 [a0, w_bytes_a0]).trans Kc8 (allS (Or.inl (by simp)) all0)
    have N8 := Fr.app N0 N8q
    have hN2 : 4 ≤ ((own_nl n_w_bytes_a0 (3 : Int32) (1 : Int32))).toNatClampNeg := by have q := (own_nlP n_w_bytes_a0 hN h3 hs).2.2.2.2; have k := own_3; have k1 := own_1; omega
    obtain ⟨T14, X14, e14, st14⟩ := getF X8 hx hZ hown (host := "") (Or.inl (hw _ (List.mem_of_getElem? (i := 11) rfl))) Via.refl rfl P10 (g := (mkF m 6 #[.val (.ref a0), .val (.int p1)] [(.ref a0)])) rfl rfl (hb hby d20_6)
    obtain ⟨T15, X15, e15, st15⟩ := getF X14 hx hZ hown (host := "") (Or.inl (hw _ (List.mem_of_getElem? (i := 23) rfl))) Via.refl e14 P11 (g := (mkF m 11 #[.val (.ref a0), .val (.int p1)] [(.ref a0), (.ref a0), (.ref b8_b9_b1)])) rfl rfl (hb hby d20_11)
    obtain ⟨T16, h16, X16, e16, W16, st16⟩ := putF X15 hx hZ hown (host := "") (Or.inl (hw _ (List.mem_of_getElem? (i := 23) rfl))) Via.refl e15 P11 P9 (Or.inl (hw _ (List.mem_of_getElem? (i := 24) rfl))) (hw _ (List.mem_of_getElem? (i := 2) rfl)) (ty := .int) (by decide) rfl rfl (g := (mkF m 17 #[.val (.ref a0), .val (.int p1)] [(.int (4 : Int32)), (.ref a0), (.int (3 : Int32)), (.ref b8_b9_b1)])) rfl rfl (hb hby d20_17)
    have K16 : Keep h0 h16 [a0, w_bytes_a0] := K8.wr W16 (Or.inl (by simp))
    have Fw16 : Fld Z h16 a0 "com/example/commitlog/commitlog/codec/JsonWriter" "length" "I" (.int (4 : Int32)) := P11.same W16
    have N16 := Fr.snoc X16 N8 nw_a0
    have G17 : AF Z h16 b8_b9_b1 .byte ((own_nl n_w_bytes_a0 (3 : Int32) (1 : Int32))).toNatClampNeg (fun j => .int ((fun j => if j < n_w_bytes_a0 then g_w_bytes_a0 j else (fun _ => (0 : Int32)) j) j)) := (P13.other W16 (Ne.symm ne_a0_b8_b9_b1))
    have hi18 : own_in (3 : Int32) ((own_nl n_w_bytes_a0 (3 : Int32) (1 : Int32))).toNatClampNeg := ⟨by decide, by have k := own_3; omega⟩
    obtain ⟨T19, h19, X19, e19, W19, A19, st19⟩ := AF.stB X16 hx hZ e16 G17 hi18 (g := (mkF m 22 #[.val (.ref a0), .val (.int p1)] [(.int (p1.toInt8.toInt32)), (.int (3 : Int32)), (.ref b8_b9_b1)])) rfl rfl (hb hby d20_22)
    have K19 : Keep h0 h19 [a0, w_bytes_a0] := K16.wr W19 (Or.inr sq_b8_b9_b1)
    obtain ⟨f20, hf20⟩ : ∃ f : Nat → Int32, f = (fun i => if i = 3 then ((p1.toInt8.toInt32).toInt8.toInt32) else (fun j => if j < n_w_bytes_a0 then g_w_bytes_a0 j else (fun _ => (0 : Int32)) j) i) := ⟨_, rfl⟩
    have V19 : AF Z h19 b8_b9_b1 .byte ((own_nl n_w_bytes_a0 (3 : Int32) (1 : Int32))).toNatClampNeg (fun j => .int (f20 j)) := AF.cong A19 (own_updI rfl hf20)
    have N19 := Fr.snoc X19 N16 nw_b8_b9_b1
    obtain ⟨fs, hr, hrun, hended, hW, hsame⟩ := X19.leave (v := none) (fun _ => rfl)
    refine ⟨_, _, pre0 _ (ck1 _ ?_), hrun, hended, _, _, rfl, ?_, ⟨_, rfl⟩, hW, hsame.mono (by decide) (by decide)⟩
    · show Steps p.tables e below (s₁.setTop (mkF m 2 #[.val (.ref a0), .val (.int p1)] [(.int (1 : Int32)), (.ref a0)])) _
      refine st8.trans ?_
      show Steps p.tables e below (T8.setTop (mkF m 5 #[.val (.ref a0), .val (.int p1)] [])) _
      refine XS.aloadN X8.here hx rfl (hb hby d20_5) rfl rfl ?_
      show Steps p.tables e below (T8.setTop (mkF m 6 #[.val (.ref a0), .val (.int p1)] [(.ref a0)])) _
      refine st14 _ ?_
      show Steps p.tables e below (T14.setTop (mkF m 9 #[.val (.ref a0), .val (.int p1)] [(.ref b8_b9_b1)])) _
      refine XS.aloadN X14.here hx rfl (hb hby d20_9) rfl rfl ?_
      show Steps p.tables e below (T14.setTop (mkF m 10 #[.val (.ref a0), .val (.int p1)] [(.ref a0), (.ref b8_b9_b1)])) _
      refine XS.dup X14.here hx rfl (hb hby d20_10) rfl rfl ?_
      show Steps p.tables e below (T14.setTop (mkF m 11 #[.val (.ref a0), .val (.int p1)] [(.ref a0), (.ref a0), (.ref b8_b9_b1)])) _
      refine st15 _ ?_
      show Steps p.tables e below (T15.setTop (mkF m 14 #[.val (.ref a0), .val (.int p1)] [(.int (3 : Int32)), (.ref a0), (.ref b8_b9_b1)])) _
      refine XS.dupX1 X15.here hx rfl (hb hby d20_14) rfl rfl rfl ?_
      show Steps p.tables e below (T15.setTop (mkF m 15 #[.val (.ref a0), .val (.int p1)] [(.int (3 : Int32)), (.ref a0), (.int (3 : Int32)), (.ref b8_b9_b1)])) _
      refine XS.iconst X15.here hx rfl (hb hby d20_15) ?_
      show Steps p.tables e below (T15.setTop (mkF m 16 #[.val (.ref a0), .val (.int p1)] [(.int (1 : Int32)), (.int (3 : Int32)), (.ref a0), (.int (3 : Int32)), (.ref b8_b9_b1)])) _
      refine XS.iadd X15.here hx rfl (hb hby d20_16) rfl ?_
      show Steps p.tables e below (T15.setTop (mkF m 17 #[.val (.ref a0), .val (.int p1)] [(.int (4 : Int32)), (.ref a0), (.int (3 : Int32)), (.ref b8_b9_b1)])) _
      refine st16 _ ?_
      show Steps p.tables e below (T16.setTop (mkF m 20 #[.val (.ref a0), .val (.int p1)] [(.int (3 : Int32)), (.ref b8_b9_b1)])) _
      refine XS.iloadN X16.here hx rfl (hb hby d20_20) rfl ?_
      show Steps p.tables e below (T16.setTop (mkF m 21 #[.val (.ref a0), .val (.int p1)] [(.int p1), (.int (3 : Int32)), (.ref b8_b9_b1)])) _
      refine XS.i2b X16.here hx rfl (hb hby d20_21) rfl ?_
      show Steps p.tables e below (T16.setTop (mkF m 22 #[.val (.ref a0), .val (.int p1)] [(.int (p1.toInt8.toInt32)), (.int (3 : Int32)), (.ref b8_b9_b1)])) _
      refine st19 _ ?_
      show Steps p.tables e below (T19.setTop (mkF m 23 #[.val (.ref a0), .val (.int p1)] [])) _
      exact X19.returnOut hx Bd.returns (hb hby d20_23) hr
    have G21 : Fld Z h19 a0 "com/example/commitlog/commitlog/codec/JsonWriter" "bytes" "[B" (.ref b8_b9_b1) := ((P10.other W16 (Or.inr (slot_ne (Or.inl (hw _ (List.mem_of_getElem? (i := 12) rfl))) (Or.inl (hw _ (List.mem_of_getElem? (i := 24) rfl))) (by decide) (t := (.array .byte)) (t' := .int) (by decide) (by decide)))).other W19 (Or.inl ne_a0_b8_b9_b1))
    have G22 : Fld Z h19 a0 "com/example/commitlog/commitlog/codec/JsonWriter" "length" "I" (.int (4 : Int32)) := (Fw16.other W19 (Or.inl ne_a0_b8_b9_b1))
    have G23 : Fld Z h19 a0 "com/example/commitlog/commitlog/codec/JsonWriter" "afterValue" "Z" (.int w_afterValue_a0) := ((P12.other W16 (Or.inr (slot_ne (Or.inl (hw _ (List.mem_of_getElem? (i := 26) rfl))) (Or.inl (hw _ (List.mem_of_getElem? (i := 24) rfl))) (by decide) (t := .boolean) (t' := .int) (by decide) (by decide)))).other W19 (Or.inl ne_a0_b8_b9_b1))
    · show Q20 Z a0 p1 w_bytes_a0 w_afterValue_a0 n_w_bytes_a0 g_w_bytes_a0 h0 n0 _ T19.heap _
      rw [e19]
      exact ⟨b8_b9_b1, ((own_nl n_w_bytes_a0 (3 : Int32) (1 : Int32))).toNatClampNeg, f20, rfl, N19, K19, Or.inr sq_b8_b9_b1, nw_b8_b9_b1, ne_a0_b8_b9_b1, G21, G22, G23, V19, (by rw [hf20]; exact own_Bset (own_Bcpy hB n_w_bytes_a0) _ _), hN2, (by rw [hf20]; rfl), (fun j hj => by rw [hf20]; simp only [if_neg (Nat.ne_of_lt hj), if_pos (Nat.lt_of_lt_of_le hj h3)])⟩
  · have hp24 : ¬ (((Int32.ofNat n_w_bytes_a0) - (3 : Int32)) < (1 : Int32)) := hs
    obtain ⟨cq25, q25, q25'⟩ := E_a0.cell
    obtain ⟨_, _, ⟨T25, L25, k25, n25⟩, -, X25, ⟨Lc25, hQ25, l25, y25, z25⟩, st25⟩ := X0.privateBack hx (y := (⟨"com/example/commitlog/commitlog/codec/JsonWriter", "room", "(I)V"⟩ : MethodName)) hown (mvT hZ (hw _ (List.mem_of_getElem? (i := 61) rfl))) (mvT hZ (hw _ (List.mem_of_getElem? (i := 62) rfl))) (own_selp (mvT hZ (hw _ (List.mem_of_getElem? (i := 2) rfl))) (Cond.privateMethod_at (mvP hZ (hw _ (List.mem_of_getElem? (i := 63) rfl)) (args := #[]))) (mvT hZ (hw _ (List.mem_of_getElem? (i := 62) rfl))) (by decide)) (Cond.privateMethod_at (mvP hZ (hw _ (List.mem_of_getElem? (i := 63) rfl)) (args := #[]))) (mvT hZ (hw _ (List.mem_of_getElem? (i := 64) rfl))) (by decide) (backOf (W := 0) (rm10k l Z A0 hw [] a0 (1 : Int32) w_bytes_a0 (3 : Int32) w_afterValue_a0 n_w_bytes_a0 g_w_bytes_a0 h0 n0 (Nat.le_trans Z0 (Keep.refl h0 [a0, w_bytes_a0]).1) E_a0 F_bytes_a0 F_length_a0 F_afterValue_a0 A_w_bytes_a0 hp24) hZ (hw _ (List.mem_of_getElem? (i := 64) rfl)) (hw _ (List.mem_of_getElem? (i := 3) rfl)) (by decide) (by decide)) (g := (mkF m 2 #[.val (.ref a0), .val (.int p1)] [(.int (1 : Int32)), (.ref a0)])) rfl (by rw [hml]; rfl) (Steps.refl _) (a := a0) (by rw [e0]; exact q25) q25' (argsL := [(.int (1 : Int32))]) (rest := []) (lenOf pd_0 rfl) rfl (by show 2 * 0 + _ ≤ _; exact Nat.le_of_eq rfl) (hb hby d20_2) (fun _ _ => ⟨rfl, e0, (by decide : 0 + 0 ≤ _), (by decide : 0 + 0 ≤ _)⟩)
    dsimp only [Pt.U, Pt.locs, Pt.cells, Pt.slots] at X25 l25 y25 z25 st25 hQ25
    subst l25 y25 z25
    obtain ⟨rfl, N25q, e25⟩ := hQ25
    have N25 := Fr.app N0 N25q
    have hN2 : 4 ≤ n_w_bytes_a0 := by have q2 : ¬ (n_w_bytes_a0 < 4) := fun z => hs ((own_rP n_w_bytes_a0 (by omega) h3).mpr z); omega
    obtain ⟨T26, X26, e26, st26⟩ := getF X25 hx hZ hown (host := "") (Or.inl (hw _ (List.mem_of_getElem? (i := 11) rfl))) Via.refl e25 F_bytes_a0 (g := (mkF m 6 #[.val (.ref a0), .val (.int p1)] [(.ref a0)])) rfl rfl (hb hby d20_6)
    obtain ⟨T27, X27, e27, st27⟩ := getF X26 hx hZ hown (host := "") (Or.inl (hw _ (List.mem_of_getElem? (i := 23) rfl))) Via.refl e26 F_length_a0 (g := (mkF m 11 #[.val (.ref a0), .val (.int p1)] [(.ref a0), (.ref a0), (.ref w_bytes_a0)])) rfl rfl (hb hby d20_11)
    obtain ⟨T28, h28, X28, e28, W28, st28⟩ := putF X27 hx hZ hown (host := "") (Or.inl (hw _ (List.mem_of_getElem? (i := 23) rfl))) Via.refl e27 F_length_a0 E_a0 (Or.inl (hw _ (List.mem_of_getElem? (i := 24) rfl))) (hw _ (List.mem_of_getElem? (i := 2) rfl)) (ty := .int) (by decide) rfl rfl (g := (mkF m 17 #[.val (.ref a0), .val (.int p1)] [(.int (4 : Int32)), (.ref a0), (.int (3 : Int32)), (.ref w_bytes_a0)])) rfl rfl (hb hby d20_17)
    have K28 : Keep h0 h28 [a0, w_bytes_a0] := (Keep.refl h0 [a0, w_bytes_a0]).wr W28 (Or.inl (by simp))
    have Fw28 : Fld Z h28 a0 "com/example/commitlog/commitlog/codec/JsonWriter" "length" "I" (.int (4 : Int32)) := F_length_a0.same W28
    have N28 := Fr.snoc X28 N25 nw_a0
    have G29 : AF Z h28 w_bytes_a0 .byte n_w_bytes_a0 (fun j => .int (g_w_bytes_a0 j)) := (A_w_bytes_a0.other W28 (Ne.symm ne_a0_w_bytes_a0))
    have hi30 : own_in (3 : Int32) n_w_bytes_a0 := ⟨by decide, by have k := own_3; omega⟩
    obtain ⟨T31, h31, X31, e31, W31, A31, st31⟩ := AF.stB X28 hx hZ e28 G29 hi30 (g := (mkF m 22 #[.val (.ref a0), .val (.int p1)] [(.int (p1.toInt8.toInt32)), (.int (3 : Int32)), (.ref w_bytes_a0)])) rfl rfl (hb hby d20_22)
    have K31 : Keep h0 h31 [a0, w_bytes_a0] := K28.wr W31 (Or.inl (by simp))
    obtain ⟨f32, hf32⟩ : ∃ f : Nat → Int32, f = (fun i => if i = 3 then ((p1.toInt8.toInt32).toInt8.toInt32) else g_w_bytes_a0 i) := ⟨_, rfl⟩
    have V31 : AF Z h31 w_bytes_a0 .byte n_w_bytes_a0 (fun j => .int (f32 j)) := AF.cong A31 (own_updI rfl hf32)
    have N31 := Fr.snoc X31 N28 nw_w_bytes_a0
    obtain ⟨fs, hr, hrun, hended, hW, hsame⟩ := X31.leave (v := none) (fun _ => rfl)
    refine ⟨_, _, pre0 _ (ck1 _ ?_), hrun, hended, _, _, rfl, ?_, ⟨_, rfl⟩, hW, hsame.mono (by decide) (by decide)⟩
    · show Steps p.tables e below (s₁.setTop (mkF m 2 #[.val (.ref a0), .val (.int p1)] [(.int (1 : Int32)), (.ref a0)])) _
      refine st25.trans ?_
      show Steps p.tables e below (T25.setTop (mkF m 5 #[.val (.ref a0), .val (.int p1)] [])) _
      refine XS.aloadN X25.here hx rfl (hb hby d20_5) rfl rfl ?_
      show Steps p.tables e below (T25.setTop (mkF m 6 #[.val (.ref a0), .val (.int p1)] [(.ref a0)])) _
      refine st26 _ ?_
      show Steps p.tables e below (T26.setTop (mkF m 9 #[.val (.ref a0), .val (.int p1)] [(.ref w_bytes_a0)])) _
      refine XS.aloadN X26.here hx rfl (hb hby d20_9) rfl rfl ?_
      show Steps p.tables e below (T26.setTop (mkF m 10 #[.val (.ref a0), .val (.int p1)] [(.ref a0), (.ref w_bytes_a0)])) _
      refine XS.dup X26.here hx rfl (hb hby d20_10) rfl rfl ?_
      show Steps p.tables e below (T26.setTop (mkF m 11 #[.val (.ref a0), .val (.int p1)] [(.ref a0), (.ref a0), (.ref w_bytes_a0)])) _
      refine st27 _ ?_
      show Steps p.tables e below (T27.setTop (mkF m 14 #[.val (.ref a0), .val (.int p1)] [(.int (3 : Int32)), (.ref a0), (.ref w_bytes_a0)])) _
      refine XS.dupX1 X27.here hx rfl (hb hby d20_14) rfl rfl rfl ?_
      show Steps p.tables e below (T27.setTop (mkF m 15 #[.val (.ref a0), .val (.int p1)] [(.int (3 : Int32)), (.ref a0), (.int (3 : Int32)), (.ref w_bytes_a0)])) _
      refine XS.iconst X27.here hx rfl (hb hby d20_15) ?_
      show Steps p.tables e below (T27.setTop (mkF m 16 #[.val (.ref a0), .val (.int p1)] [(.int (1 : Int32)), (.int (3 : Int32)), (.ref a0), (.int (3 : Int32)), (.ref w_bytes_a0)])) _
      refine XS.iadd X27.here hx rfl (hb hby d20_16) rfl ?_
      show Steps p.tables e below (T27.setTop (mkF m 17 #[.val (.ref a0), .val (.int p1)] [(.int (4 : Int32)), (.ref a0), (.int (3 : Int32)), (.ref w_bytes_a0)])) _
      refine st28 _ ?_
      show Steps p.tables e below (T28.setTop (mkF m 20 #[.val (.ref a0), .val (.int p1)] [(.int (3 : Int32)), (.ref w_bytes_a0)])) _
      refine XS.iloadN X28.here hx rfl (hb hby d20_20) rfl ?_
      show Steps p.tables e below (T28.setTop (mkF m 21 #[.val (.ref a0), .val (.int p1)] [(.int p1), (.int (3 : Int32)), (.ref w_bytes_a0)])) _
      refine XS.i2b X28.here hx rfl (hb hby d20_21) rfl ?_
      show Steps p.tables e below (T28.setTop (mkF m 22 #[.val (.ref a0), .val (.int p1)] [(.int (p1.toInt8.toInt32)), (.int (3 : Int32)), (.ref w_bytes_a0)])) _
      refine st31 _ ?_
      show Steps p.tables e below (T31.setTop (mkF m 23 #[.val (.ref a0), .val (.int p1)] [])) _
      exact X31.returnOut hx Bd.returns (hb hby d20_23) hr
    have G33 : Fld Z h31 a0 "com/example/commitlog/commitlog/codec/JsonWriter" "bytes" "[B" (.ref w_bytes_a0) := ((F_bytes_a0.other W28 (Or.inr (slot_ne (Or.inl (hw _ (List.mem_of_getElem? (i := 12) rfl))) (Or.inl (hw _ (List.mem_of_getElem? (i := 24) rfl))) (by decide) (t := (.array .byte)) (t' := .int) (by decide) (by decide)))).other W31 (Or.inl ne_a0_w_bytes_a0))
    have G34 : Fld Z h31 a0 "com/example/commitlog/commitlog/codec/JsonWriter" "length" "I" (.int (4 : Int32)) := (Fw28.other W31 (Or.inl ne_a0_w_bytes_a0))
    have G35 : Fld Z h31 a0 "com/example/commitlog/commitlog/codec/JsonWriter" "afterValue" "Z" (.int w_afterValue_a0) := ((F_afterValue_a0.other W28 (Or.inr (slot_ne (Or.inl (hw _ (List.mem_of_getElem? (i := 26) rfl))) (Or.inl (hw _ (List.mem_of_getElem? (i := 24) rfl))) (by decide) (t := .boolean) (t' := .int) (by decide) (by decide)))).other W31 (Or.inl ne_a0_w_bytes_a0))
    · show Q20 Z a0 p1 w_bytes_a0 w_afterValue_a0 n_w_bytes_a0 g_w_bytes_a0 h0 n0 _ T31.heap _
      rw [e31]
      exact ⟨w_bytes_a0, n_w_bytes_a0, f32, rfl, N31, K31, Or.inl rfl, nw_w_bytes_a0, ne_a0_w_bytes_a0, G33, G34, G35, V31, (by rw [hf32]; exact own_Bset hB _ _), hN2, (by rw [hf32]; rfl), (fun j hj => by rw [hf32]; simp only [if_neg (Nat.ne_of_lt hj)])⟩
theorem ef_9 (m : MethodId) (a0 : Addr) : entryFrame m #[(.ref a0)] 1 = mkF m 0 #[.val (.ref a0)] [] := by first | (simp [entryFrame, mkF, argsToLocals, Value.category]; done) | rfl
def Q9 (Z : State) (a0 : Addr) (w_value_a0 : Addr) (s_COMPACT_STRINGS : Int32) (h0 : Heap) (n0 : Nat) (v : Option Value) (h : Heap) (L : List Loc) : Prop := v = some (.int (0 : Int32)) ∧ Fr n0 L ∧ h = h0
set_option maxRecDepth 65536 in
set_option maxHeartbeats 40000000 in
theorem rm9 (l : Launch) (Z : State) (A0 : Array Value) (hw : ∀ d ∈ tables_1, d.before A0 Z = true) (ws : List Jvm.Cond) (a0 : Addr) (w_value_a0 : Addr) (s_COMPACT_STRINGS : Int32) (h0 : Heap) (n0 : Nat) (Z0 : n0 ≤ h0.size) (E_a0 : Exa Z h0 a0 "java/lang/String") (F_value_a0 : Fld Z h0 a0 "java/lang/String" "value" "[B" (.ref w_value_a0)) (F_coder_a0 : Fld Z h0 a0 "java/lang/String" "coder" "B" (.int (0 : Int32))) (S_COMPACT_STRINGS : SO Z n0 h0 "java/lang/String" "COMPACT_STRINGS" "Z" (.int s_COMPACT_STRINGS)) (hc3 : ¬ (s_COMPACT_STRINGS = (0 : Int32))) :
    MetFree l (⟨"java/lang/String", "coder", "()B"⟩ : MethodName) (head1 (Jvm.Cond.code (⟨"java/lang/String", "coder", "()B"⟩ : MethodName) jdk_42_method_152_code 1 (some .byte) :: ws) ({ frames := 0, cells := 0, slots := 0, locals := 0 } : Room)) (fun a U => a = #[(.ref a0)] ∧ Z.Warmed39 U.vm ∧ U.heap = h0) (fun _ _ _ _ _ => True) (fun _ U o U' => ∃ v L, o = .returned v ∧ Q9 Z a0 w_value_a0 s_COMPACT_STRINGS h0 n0 v U'.heap L ∧ FrameEnd U o U' L ({ frames := 0, cells := 0, slots := 0, locals := 0 } : Room).cells ({ frames := 0, cells := 0, slots := 0, locals := 0 } : Room).slots) := by
  refine MetFree.of_bodySF (plainFor_of_name pn_9) hisR ?_
  intro p e s m args below meth c s₁ Bd hml0 hP hK
  obtain ⟨rfl, hZ, hh⟩ := hP
  have hx := Bd.exec
  have hby := Bd.bytes
  have hml : c.maxLocals = 1 := hml0
  have hown : s.vm.findClass "java/lang/String" = some m.cls := findClass_of_methodNamed Bd.named
  have hnm := (name_of_methodNamed Bd.named Bd.method).1
  have X0 : Stand p l e ({ frames := 0, cells := 0, slots := 0, locals := 0 } : Room) s m #[(.ref a0)] below meth c s₁ [] 0 0 := Stand.of_body Bd
  have e0 : s₁.heap = h0 := by rw [← hh, Bd.state]; rfl
  have N0 := Fr.nil n0
  have pre0 : ∀ t, Steps p.tables e below (s₁.setTop (mkF m 0 #[.val (.ref a0)] [])) t → Steps p.tables e below (s₁.setTop (entryFrame m #[(.ref a0)] 1)) t := fun t k => castTop (ef_9 m a0) k
  obtain ⟨T1, X1, e1, st1⟩ := getS2 X0 hx hZ hown (host := "") (Or.inl (hw _ (List.mem_of_getElem? (i := 59) rfl))) Via.refl e0 S_COMPACT_STRINGS.sta (g := (mkF m 0 #[.val (.ref a0)] [])) rfl (hb hby d9_0)
  obtain ⟨T2, X2, e2, st2⟩ := getF X1 hx hZ hown (host := "") (Or.inl (hw _ (List.mem_of_getElem? (i := 60) rfl))) Via.refl e1 F_coder_a0 (g := (mkF m 7 #[.val (.ref a0)] [(.ref a0)])) rfl rfl (hb hby d9_7)
  obtain ⟨fs, hr, hrun, hended, hW, hsame⟩ := X2.leave (v := some (.int (0 : Int32))) (fun h => by rw [Bd.returns] at h; cases h)
  refine ⟨_, _, pre0 _ ?_, hrun, hended, _, _, rfl, ?_, ⟨_, rfl⟩, hW, hsame.mono (by decide) (by decide)⟩
  · show Steps p.tables e below (s₁.setTop (mkF m 0 #[.val (.ref a0)] [])) _
    refine st1 _ ?_
    show Steps p.tables e below (T1.setTop (mkF m 3 #[.val (.ref a0)] [(.int s_COMPACT_STRINGS)])) _
    refine XS.ifNo X1.here hx rfl (hb hby d9_3) rfl ((if0 _ _).trans (feq hc3).1) ?_
    show Steps p.tables e below (T1.setTop (mkF m 6 #[.val (.ref a0)] [])) _
    refine XS.aloadN X1.here hx rfl (hb hby d9_6) rfl rfl ?_
    show Steps p.tables e below (T1.setTop (mkF m 7 #[.val (.ref a0)] [(.ref a0)])) _
    refine st2 _ ?_
    show Steps p.tables e below (T2.setTop (mkF m 10 #[.val (.ref a0)] [(.int (0 : Int32))])) _
    refine XS.goto X2.here hx rfl (pc0 := 10) (pc' := 14) rfl (hb hby d9_10) (by decide) (by decide) ?_
    show Steps p.tables e below (T2.setTop (mkF m 14 #[.val (.ref a0)] [(.int (0 : Int32))])) _
    exact retN X2 hx (t := .byte) Bd.returns (by simp) (hb hby d9_14) hr
  · show Q9 Z a0 w_value_a0 s_COMPACT_STRINGS h0 n0 _ T2.heap _
    exact ⟨rfl, N0, e2⟩
theorem ef_8 (m : MethodId) (a0 : Addr) : entryFrame m #[(.ref a0)] 1 = mkF m 0 #[.val (.ref a0)] [] := by first | (simp [entryFrame, mkF, argsToLocals, Value.category]; done) | rfl
def Q8 (Z : State) (a0 : Addr) (w_value_a0 : Addr) (g_w_value_a0 : Nat → Int32) (s_COMPACT_STRINGS : Int32) (h0 : Heap) (n0 : Nat) (v : Option Value) (h : Heap) (L : List Loc) : Prop := v = some (.int ((1 : Int32) >>> ((0 : Int32) &&& 31))) ∧ Fr n0 L ∧ h = h0
set_option maxRecDepth 65536 in
set_option maxHeartbeats 40000000 in
theorem rm8 (l : Launch) (Z : State) (A0 : Array Value) (hw : ∀ d ∈ tables_1, d.before A0 Z = true) (ws : List Jvm.Cond) (a0 : Addr) (w_value_a0 : Addr) (g_w_value_a0 : Nat → Int32) (s_COMPACT_STRINGS : Int32) (h0 : Heap) (n0 : Nat) (Z0 : n0 ≤ h0.size) (E_a0 : Exa Z h0 a0 "java/lang/String") (F_value_a0 : Fld Z h0 a0 "java/lang/String" "value" "[B" (.ref w_value_a0)) (F_coder_a0 : Fld Z h0 a0 "java/lang/String" "coder" "B" (.int (0 : Int32))) (A_w_value_a0 : AF Z h0 w_value_a0 .byte 1 (fun j => .int (g_w_value_a0 j))) (S_COMPACT_STRINGS : SO Z n0 h0 "java/lang/String" "COMPACT_STRINGS" "Z" (.int s_COMPACT_STRINGS)) (hc3_6 : ¬ (s_COMPACT_STRINGS = (0 : Int32))) :
    MetFree l (⟨"java/lang/String", "length", "()I"⟩ : MethodName) (head1 (Jvm.Cond.code (⟨"java/lang/String", "length", "()I"⟩ : MethodName) jdk_42_method_54_code 1 (some .int) :: ws) ({ frames := 1, cells := 0, slots := 0, locals := 13 } : Room)) (fun a U => a = #[(.ref a0)] ∧ Z.Warmed39 U.vm ∧ U.heap = h0) (fun _ _ _ _ _ => True) (fun _ U o U' => ∃ v L, o = .returned v ∧ Q8 Z a0 w_value_a0 g_w_value_a0 s_COMPACT_STRINGS h0 n0 v U'.heap L ∧ FrameEnd U o U' L ({ frames := 1, cells := 0, slots := 0, locals := 13 } : Room).cells ({ frames := 1, cells := 0, slots := 0, locals := 13 } : Room).slots) := by
  refine MetFree.of_bodySF (plainFor_of_name pn_8) hisR ?_
  intro p e s m args below meth c s₁ Bd hml0 hP hK
  obtain ⟨rfl, hZ, hh⟩ := hP
  have hx := Bd.exec
  have hby := Bd.bytes
  have hml : c.maxLocals = 1 := hml0
  have hown : s.vm.findClass "java/lang/String" = some m.cls := findClass_of_methodNamed Bd.named
  have hnm := (name_of_methodNamed Bd.named Bd.method).1
  have X0 : Stand p l e ({ frames := 1, cells := 0, slots := 0, locals := 13 } : Room) s m #[(.ref a0)] below meth c s₁ [] 0 0 := Stand.of_body Bd
  have e0 : s₁.heap = h0 := by rw [← hh, Bd.state]; rfl
  have N0 := Fr.nil n0
  have pre0 : ∀ t, Steps p.tables e below (s₁.setTop (mkF m 0 #[.val (.ref a0)] [])) t → Steps p.tables e below (s₁.setTop (entryFrame m #[(.ref a0)] 1)) t := fun t k => castTop (ef_8 m a0) k
  obtain ⟨T1, X1, e1, st1⟩ := getF X0 hx hZ hown (host := "") (Or.inl (hw _ (List.mem_of_getElem? (i := 53) rfl))) Via.refl e0 F_value_a0 (g := (mkF m 1 #[.val (.ref a0)] [(.ref a0)])) rfl rfl (hb hby d8_1)
  obtain ⟨cq2, kq2, q2a, q2b, q2c⟩ := isOf hZ e1 E_a0
  obtain ⟨_, _, ⟨T2, L2, k2, n2⟩, -, X2, ⟨Lc2, hQ2, l2, y2, z2⟩, st2⟩ := X1.virtualBack hx (y := (⟨"java/lang/String", "coder", "()B"⟩ : MethodName)) (z := (⟨"java/lang/String", "coder", "()B"⟩ : MethodName)) hown (mvT hZ (hw _ (List.mem_of_getElem? (i := 54) rfl))) (mvT hZ (hw _ (List.mem_of_getElem? (i := 55) rfl))) (notFace_of_selects (args := #[]) (mvT hZ (hw _ (List.mem_of_getElem? (i := 57) rfl)))) (mvT hZ (hw _ (List.mem_of_getElem? (i := 57) rfl))) (mvT hZ (hw _ (List.mem_of_getElem? (i := 56) rfl))) (by decide) (backOf (W := 1) (rm9 l Z A0 hw [] a0 w_value_a0 s_COMPACT_STRINGS h0 n0 (Nat.le_trans Z0 (Keep.refl h0 []).1) E_a0 F_value_a0 F_coder_a0 S_COMPACT_STRINGS hc3_6) hZ (hw _ (List.mem_of_getElem? (i := 58) rfl)) (hw _ (List.mem_of_getElem? (i := 33) rfl)) (by decide) (by decide)) q2a q2c (g := (mkF m 6 #[.val (.ref a0)] [(.ref a0), (.int (1 : Int32))])) rfl (by rw [hml]; rfl) (Steps.refl _) (argsL := []) (rest := [(.int (1 : Int32))]) (lenOf pd_7 rfl) rfl (by show 2 * 0 + _ ≤ _; exact Nat.le_of_eq rfl) (hb hby d8_6) (fun _ _ => ⟨rfl, e1, (by decide : 0 + 0 ≤ _), (by decide : 0 + 0 ≤ _)⟩)
  dsimp only [Pt.U, Pt.locs, Pt.cells, Pt.slots] at X2 l2 y2 z2 st2 hQ2
  subst l2 y2 z2
  obtain ⟨rfl, N2q, e2⟩ := hQ2
  have N2 := Fr.app N0 N2q
  obtain ⟨fs, hr, hrun, hended, hW, hsame⟩ := X2.leave (v := some (.int ((1 : Int32) >>> ((0 : Int32) &&& 31)))) (fun h => by rw [Bd.returns] at h; cases h)
  refine ⟨_, _, pre0 _ ?_, hrun, hended, _, _, rfl, ?_, ⟨_, rfl⟩, hW, hsame.mono (by decide) (by decide)⟩
  · show Steps p.tables e below (s₁.setTop (mkF m 0 #[.val (.ref a0)] [])) _
    refine XS.aloadN X0.here hx rfl (hb hby d8_0) rfl rfl ?_
    show Steps p.tables e below (s₁.setTop (mkF m 1 #[.val (.ref a0)] [(.ref a0)])) _
    refine st1 _ ?_
    show Steps p.tables e below (T1.setTop (mkF m 4 #[.val (.ref a0)] [(.ref w_value_a0)])) _
    refine AF.len X1 hx hZ e1 A_w_value_a0 (g := (mkF m 4 #[.val (.ref a0)] [(.ref w_value_a0)])) rfl rfl (hb hby d8_4) _ ?_
    show Steps p.tables e below (T1.setTop (mkF m 5 #[.val (.ref a0)] [(.int (1 : Int32))])) _
    refine XS.aloadN X1.here hx rfl (hb hby d8_5) rfl rfl ?_
    show Steps p.tables e below (T1.setTop (mkF m 6 #[.val (.ref a0)] [(.ref a0), (.int (1 : Int32))])) _
    refine st2.trans ?_
    show Steps p.tables e below (T2.setTop (mkF m 9 #[.val (.ref a0)] [(.int (0 : Int32)), (.int (1 : Int32))])) _
    refine XS.ishr X2.here hx rfl (hb hby d8_9) rfl ?_
    show Steps p.tables e below (T2.setTop (mkF m 10 #[.val (.ref a0)] [(.int ((1 : Int32) >>> ((0 : Int32) &&& 31)))])) _
    exact retOut X2 hx Bd.returns rfl (Or.inl ⟨rfl, Or.inl rfl, _, rfl⟩) (hb hby d8_10) hr
  · show Q8 Z a0 w_value_a0 g_w_value_a0 s_COMPACT_STRINGS h0 n0 _ T2.heap _
    exact ⟨rfl, N2, e2⟩
theorem ef_16 (m : MethodId) (a0 : Addr) : entryFrame m #[(.ref a0)] 1 = mkF m 0 #[.val (.ref a0)] [] := by first | (simp [entryFrame, mkF, argsToLocals, Value.category]; done) | rfl
def Q16 (Z : State) (a0 : Addr) (w_value_a0 : Addr) (s_COMPACT_STRINGS : Int32) (h0 : Heap) (n0 : Nat) (v : Option Value) (h : Heap) (L : List Loc) : Prop := v = some (.int (1 : Int32)) ∧ Fr n0 L ∧ h = h0
set_option maxRecDepth 65536 in
set_option maxHeartbeats 40000000 in
theorem rm16 (l : Launch) (Z : State) (A0 : Array Value) (hw : ∀ d ∈ tables_1, d.before A0 Z = true) (ws : List Jvm.Cond) (a0 : Addr) (w_value_a0 : Addr) (s_COMPACT_STRINGS : Int32) (h0 : Heap) (n0 : Nat) (Z0 : n0 ≤ h0.size) (E_a0 : Exa Z h0 a0 "java/lang/String") (F_value_a0 : Fld Z h0 a0 "java/lang/String" "value" "[B" (.ref w_value_a0)) (F_coder_a0 : Fld Z h0 a0 "java/lang/String" "coder" "B" (.int (0 : Int32))) (S_COMPACT_STRINGS : SO Z n0 h0 "java/lang/String" "COMPACT_STRINGS" "Z" (.int s_COMPACT_STRINGS)) (hc3 : ¬ (s_COMPACT_STRINGS = (0 : Int32))) :
    MetFree l (⟨"java/lang/String", "isLatin1", "()Z"⟩ : MethodName) (head1 (Jvm.Cond.code (⟨"java/lang/String", "isLatin1", "()Z"⟩ : MethodName) jdk_42_method_154_code 1 (some .boolean) :: ws) ({ frames := 0, cells := 0, slots := 0, locals := 0 } : Room)) (fun a U => a = #[(.ref a0)] ∧ Z.Warmed39 U.vm ∧ U.heap = h0) (fun _ _ _ _ _ => True) (fun _ U o U' => ∃ v L, o = .returned v ∧ Q16 Z a0 w_value_a0 s_COMPACT_STRINGS h0 n0 v U'.heap L ∧ FrameEnd U o U' L ({ frames := 0, cells := 0, slots := 0, locals := 0 } : Room).cells ({ frames := 0, cells := 0, slots := 0, locals := 0 } : Room).slots) := by
  refine MetFree.of_bodySF (plainFor_of_name pn_16) hisR ?_
  intro p e s m args below meth c s₁ Bd hml0 hP hK
  obtain ⟨rfl, hZ, hh⟩ := hP
  have hx := Bd.exec
  have hby := Bd.bytes
  have hml : c.maxLocals = 1 := hml0
  have hown : s.vm.findClass "java/lang/String" = some m.cls := findClass_of_methodNamed Bd.named
  have hnm := (name_of_methodNamed Bd.named Bd.method).1
  have X0 : Stand p l e ({ frames := 0, cells := 0, slots := 0, locals := 0 } : Room) s m #[(.ref a0)] below meth c s₁ [] 0 0 := Stand.of_body Bd
  have e0 : s₁.heap = h0 := by rw [← hh, Bd.state]; rfl
  have N0 := Fr.nil n0
  have pre0 : ∀ t, Steps p.tables e below (s₁.setTop (mkF m 0 #[.val (.ref a0)] [])) t → Steps p.tables e below (s₁.setTop (entryFrame m #[(.ref a0)] 1)) t := fun t k => castTop (ef_16 m a0) k
  obtain ⟨T1, X1, e1, st1⟩ := getS2 X0 hx hZ hown (host := "") (Or.inl (hw _ (List.mem_of_getElem? (i := 59) rfl))) Via.refl e0 S_COMPACT_STRINGS.sta (g := (mkF m 0 #[.val (.ref a0)] [])) rfl (hb hby d16_0)
  obtain ⟨T2, X2, e2, st2⟩ := getF X1 hx hZ hown (host := "") (Or.inl (hw _ (List.mem_of_getElem? (i := 60) rfl))) Via.refl e1 F_coder_a0 (g := (mkF m 7 #[.val (.ref a0)] [(.ref a0)])) rfl rfl (hb hby d16_7)
  obtain ⟨fs, hr, hrun, hended, hW, hsame⟩ := X2.leave (v := some (.int (1 : Int32))) (fun h => by rw [Bd.returns] at h; cases h)
  refine ⟨_, _, pre0 _ ?_, hrun, hended, _, _, rfl, ?_, ⟨_, rfl⟩, hW, hsame.mono (by decide) (by decide)⟩
  · show Steps p.tables e below (s₁.setTop (mkF m 0 #[.val (.ref a0)] [])) _
    refine st1 _ ?_
    show Steps p.tables e below (T1.setTop (mkF m 3 #[.val (.ref a0)] [(.int s_COMPACT_STRINGS)])) _
    refine XS.ifNo X1.here hx rfl (hb hby d16_3) rfl ((if0 _ _).trans (feq hc3).1) ?_
    show Steps p.tables e below (T1.setTop (mkF m 6 #[.val (.ref a0)] [])) _
    refine XS.aloadN X1.here hx rfl (hb hby d16_6) rfl rfl ?_
    show Steps p.tables e below (T1.setTop (mkF m 7 #[.val (.ref a0)] [(.ref a0)])) _
    refine st2 _ ?_
    show Steps p.tables e below (T2.setTop (mkF m 10 #[.val (.ref a0)] [(.int (0 : Int32))])) _
    refine XS.ifNo X2.here hx rfl (hb hby d16_10) rfl ((if0 _ _).trans (teq (by decide)).2) ?_
    show Steps p.tables e below (T2.setTop (mkF m 13 #[.val (.ref a0)] [])) _
    refine XS.iconst X2.here hx rfl (hb hby d16_13) ?_
    show Steps p.tables e below (T2.setTop (mkF m 14 #[.val (.ref a0)] [(.int (1 : Int32))])) _
    refine XS.goto X2.here hx rfl (pc0 := 14) (pc' := 18) rfl (hb hby d16_14) (by decide) (by decide) ?_
    show Steps p.tables e below (T2.setTop (mkF m 18 #[.val (.ref a0)] [(.int (1 : Int32))])) _
    exact retN X2 hx (t := .boolean) Bd.returns (by simp) (hb hby d16_18) hr
  · show Q16 Z a0 w_value_a0 s_COMPACT_STRINGS h0 n0 _ T2.heap _
    exact ⟨rfl, N0, e2⟩
theorem ef_19 (m : MethodId) (a2 : Value) (rf_a2 : a2.isRef = true) : entryFrame m #[(.int (0 : Int32)), (.int (1 : Int32)), a2] 3 = mkF m 0 #[.val (.int (0 : Int32)), .val (.int (1 : Int32)), .val a2] [] := by rcases ref_cases rf_a2 with rfl | ⟨z, rfl⟩ <;> first | (simp [entryFrame, mkF, argsToLocals, Value.category]; done) | rfl
def Q19 (Z : State) (a2 : Value) (h0 : Heap) (n0 : Nat) (v : Option Value) (h : Heap) (L : List Loc) : Prop := v = some (.int (0 : Int32)) ∧ Fr n0 L ∧ h = h0
set_option maxRecDepth 65536 in
set_option maxHeartbeats 40000000 in
theorem rm19 (l : Launch) (Z : State) (A0 : Array Value) (hw : ∀ d ∈ tables_1, d.before A0 Z = true) (ws : List Jvm.Cond) (a2 : Value) (h0 : Heap) (n0 : Nat) (Z0 : n0 ≤ h0.size) (rf_a2 : a2.isRef = true) :
    MetFree l (⟨"jdk/internal/util/Preconditions", "checkIndex", "(IILjava/util/function/BiFunction;)I"⟩ : MethodName) (head1 (Jvm.Cond.code (⟨"jdk/internal/util/Preconditions", "checkIndex", "(IILjava/util/function/BiFunction;)I"⟩ : MethodName) jdk_41_method_11_code 3 (some .int) :: ws) ({ frames := 0, cells := 0, slots := 0, locals := 0 } : Room)) (fun a U => a = #[(.int (0 : Int32)), (.int (1 : Int32)), a2] ∧ Z.Warmed39 U.vm ∧ U.heap = h0) (fun _ _ _ _ _ => True) (fun _ U o U' => ∃ v L, o = .returned v ∧ Q19 Z a2 h0 n0 v U'.heap L ∧ FrameEnd U o U' L ({ frames := 0, cells := 0, slots := 0, locals := 0 } : Room).cells ({ frames := 0, cells := 0, slots := 0, locals := 0 } : Room).slots) := by
  refine MetFree.of_bodySF (plainFor_of_name pn_19) hisR ?_
  intro p e s m args below meth c s₁ Bd hml0 hP hK
  obtain ⟨rfl, hZ, hh⟩ := hP
  have hx := Bd.exec
  have hby := Bd.bytes
  have hml : c.maxLocals = 3 := hml0
  have hown : s.vm.findClass "jdk/internal/util/Preconditions" = some m.cls := findClass_of_methodNamed Bd.named
  have hnm := (name_of_methodNamed Bd.named Bd.method).1
  have X0 : Stand p l e ({ frames := 0, cells := 0, slots := 0, locals := 0 } : Room) s m #[(.int (0 : Int32)), (.int (1 : Int32)), a2] below meth c s₁ [] 0 0 := Stand.of_body Bd
  have e0 : s₁.heap = h0 := by rw [← hh, Bd.state]; rfl
  have N0 := Fr.nil n0
  have pre0 : ∀ t, Steps p.tables e below (s₁.setTop (mkF m 0 #[.val (.int (0 : Int32)), .val (.int (1 : Int32)), .val a2] [])) t → Steps p.tables e below (s₁.setTop (entryFrame m #[(.int (0 : Int32)), (.int (1 : Int32)), a2] 3)) t := fun t k => castTop (ef_19 m a2 rf_a2) k
  obtain ⟨fs, hr, hrun, hended, hW, hsame⟩ := X0.leave (v := some (.int (0 : Int32))) (fun h => by rw [Bd.returns] at h; cases h)
  refine ⟨_, _, pre0 _ ?_, hrun, hended, _, _, rfl, ?_, ⟨_, rfl⟩, hW, hsame.mono (by decide) (by decide)⟩
  · show Steps p.tables e below (s₁.setTop (mkF m 0 #[.val (.int (0 : Int32)), .val (.int (1 : Int32)), .val a2] [])) _
    refine XS.iloadN X0.here hx rfl (hb hby d19_0) rfl ?_
    show Steps p.tables e below (s₁.setTop (mkF m 1 #[.val (.int (0 : Int32)), .val (.int (1 : Int32)), .val a2] [(.int (0 : Int32))])) _
    refine XS.ifNo X0.here hx rfl (hb hby d19_1) rfl ((if0 _ _).trans (flt (by decide)).1) ?_
    show Steps p.tables e below (s₁.setTop (mkF m 4 #[.val (.int (0 : Int32)), .val (.int (1 : Int32)), .val a2] [])) _
    refine XS.iloadN X0.here hx rfl (hb hby d19_4) rfl ?_
    show Steps p.tables e below (s₁.setTop (mkF m 5 #[.val (.int (0 : Int32)), .val (.int (1 : Int32)), .val a2] [(.int (0 : Int32))])) _
    refine XS.iloadN X0.here hx rfl (hb hby d19_5) rfl ?_
    show Steps p.tables e below (s₁.setTop (mkF m 6 #[.val (.int (0 : Int32)), .val (.int (1 : Int32)), .val a2] [(.int (1 : Int32)), (.int (0 : Int32))])) _
    refine XS.icmpYes X0.here hx rfl (pc0 := 6) (pc' := 16) rfl (hb hby d19_6) rfl (tlt (by decide)).1 (by decide) (by decide) ?_
    show Steps p.tables e below (s₁.setTop (mkF m 16 #[.val (.int (0 : Int32)), .val (.int (1 : Int32)), .val a2] [])) _
    refine XS.iloadN X0.here hx rfl (hb hby d19_16) rfl ?_
    show Steps p.tables e below (s₁.setTop (mkF m 17 #[.val (.int (0 : Int32)), .val (.int (1 : Int32)), .val a2] [(.int (0 : Int32))])) _
    exact retOut X0 hx Bd.returns rfl (Or.inl ⟨rfl, Or.inl rfl, _, rfl⟩) (hb hby d19_17) hr
  · show Q19 Z a2 h0 n0 _ s₁.heap _
    exact ⟨rfl, N0, e0⟩
theorem ef_18 (m : MethodId)  : entryFrame m #[(.int (0 : Int32)), (.int (1 : Int32))] 2 = mkF m 0 #[.val (.int (0 : Int32)), .val (.int (1 : Int32))] [] := by first | (simp [entryFrame, mkF, argsToLocals, Value.category]; done) | rfl
def Q18 (Z : State) (s_SIOOBE_FORMATTER : Value) (h0 : Heap) (n0 : Nat) (v : Option Value) (h : Heap) (L : List Loc) : Prop := v = none ∧ Fr n0 L ∧ h = h0
set_option maxRecDepth 65536 in
set_option maxHeartbeats 40000000 in
theorem rm18 (l : Launch) (Z : State) (A0 : Array Value) (hw : ∀ d ∈ tables_1, d.before A0 Z = true) (ws : List Jvm.Cond) (s_SIOOBE_FORMATTER : Value) (h0 : Heap) (n0 : Nat) (Z0 : n0 ≤ h0.size) (S_SIOOBE_FORMATTER : SO Z n0 h0 "jdk/internal/util/Preconditions" "SIOOBE_FORMATTER" "Ljava/util/function/BiFunction;" s_SIOOBE_FORMATTER) (rf_s_SIOOBE_FORMATTER : s_SIOOBE_FORMATTER.isRef = true) :
    MetFree l (⟨"java/lang/String", "checkIndex", "(II)V"⟩ : MethodName) (head1 (Jvm.Cond.code (⟨"java/lang/String", "checkIndex", "(II)V"⟩ : MethodName) jdk_42_method_155_code 2 none :: ws) ({ frames := 1, cells := 0, slots := 0, locals := 14 } : Room)) (fun a U => a = #[(.int (0 : Int32)), (.int (1 : Int32))] ∧ Z.Warmed39 U.vm ∧ U.heap = h0) (fun _ _ _ _ _ => True) (fun _ U o U' => ∃ v L, o = .returned v ∧ Q18 Z s_SIOOBE_FORMATTER h0 n0 v U'.heap L ∧ FrameEnd U o U' L ({ frames := 1, cells := 0, slots := 0, locals := 14 } : Room).cells ({ frames := 1, cells := 0, slots := 0, locals := 14 } : Room).slots) := by
  refine MetFree.of_bodySF (plainFor_of_name pn_18) hisR ?_
  intro p e s m args below meth c s₁ Bd hml0 hP hK
  obtain ⟨rfl, hZ, hh⟩ := hP
  have hx := Bd.exec
  have hby := Bd.bytes
  have hml : c.maxLocals = 2 := hml0
  have hown : s.vm.findClass "java/lang/String" = some m.cls := findClass_of_methodNamed Bd.named
  have hnm := (name_of_methodNamed Bd.named Bd.method).1
  have X0 : Stand p l e ({ frames := 1, cells := 0, slots := 0, locals := 14 } : Room) s m #[(.int (0 : Int32)), (.int (1 : Int32))] below meth c s₁ [] 0 0 := Stand.of_body Bd
  have e0 : s₁.heap = h0 := by rw [← hh, Bd.state]; rfl
  have N0 := Fr.nil n0
  have pre0 : ∀ t, Steps p.tables e below (s₁.setTop (mkF m 0 #[.val (.int (0 : Int32)), .val (.int (1 : Int32))] [])) t → Steps p.tables e below (s₁.setTop (entryFrame m #[(.int (0 : Int32)), (.int (1 : Int32))] 2)) t := fun t k => castTop (ef_18 m ) k
  obtain ⟨T1, X1, e1, st1⟩ := getS2 X0 hx hZ hown (host := "") (Or.inl (hw _ (List.mem_of_getElem? (i := 102) rfl))) Via.refl e0 S_SIOOBE_FORMATTER.sta (g := (mkF m 2 #[.val (.int (0 : Int32)), .val (.int (1 : Int32))] [(.int (1 : Int32)), (.int (0 : Int32))])) rfl (hb hby d18_2)
  have hp2 : s_SIOOBE_FORMATTER.isRef = true := rf_s_SIOOBE_FORMATTER
  obtain ⟨_, _, ⟨T3, L3, k3, n3⟩, -, X3, ⟨Lc3, hQ3, l3, y3, z3⟩, st3⟩ := Jvm.LawKit.callS X1 hx (y := (⟨"jdk/internal/util/Preconditions", "checkIndex", "(IILjava/util/function/BiFunction;)I"⟩ : MethodName)) hown (mvT hZ (hw _ (List.mem_of_getElem? (i := 104) rfl))) (mvT hZ (hw _ (List.mem_of_getElem? (i := 105) rfl))) (mvT hZ (hw _ (List.mem_of_getElem? (i := 103) rfl))) (mvT hZ (hw _ (List.mem_of_getElem? (i := 106) rfl))) (by decide) (backOf (W := 0) (rm19 l Z A0 hw [] s_SIOOBE_FORMATTER h0 n0 (Nat.le_trans Z0 (Keep.refl h0 []).1) hp2) hZ (hw _ (List.mem_of_getElem? (i := 106) rfl)) (hw _ (List.mem_of_getElem? (i := 103) rfl)) (by decide) (by decide)) (g := (mkF m 5 #[.val (.int (0 : Int32)), .val (.int (1 : Int32))] [s_SIOOBE_FORMATTER, (.int (1 : Int32)), (.int (0 : Int32))])) rfl (by rw [hml]; rfl) (argsL := [(.int (0 : Int32)), (.int (1 : Int32)), s_SIOOBE_FORMATTER]) (rest := []) (lenOf pd_16 rfl) rfl (by show 2 * 0 + _ ≤ _; exact Nat.le_of_eq rfl) (hb hby d18_5) (fun _ _ => ⟨rfl, e1, (by decide : 0 + 0 ≤ _), (by decide : 0 + 0 ≤ _)⟩)
  dsimp only [Pt.U, Pt.locs, Pt.cells, Pt.slots] at X3 l3 y3 z3 st3 hQ3
  subst l3 y3 z3
  obtain ⟨rfl, N3q, e3⟩ := hQ3
  have N3 := Fr.app N0 N3q
  obtain ⟨fs, hr, hrun, hended, hW, hsame⟩ := X3.leave (v := none) (fun _ => rfl)
  refine ⟨_, _, pre0 _ ?_, hrun, hended, _, _, rfl, ?_, ⟨_, rfl⟩, hW, hsame.mono (by decide) (by decide)⟩
  · show Steps p.tables e below (s₁.setTop (mkF m 0 #[.val (.int (0 : Int32)), .val (.int (1 : Int32))] [])) _
    refine XS.iloadN X0.here hx rfl (hb hby d18_0) rfl ?_
    show Steps p.tables e below (s₁.setTop (mkF m 1 #[.val (.int (0 : Int32)), .val (.int (1 : Int32))] [(.int (0 : Int32))])) _
    refine XS.iloadN X0.here hx rfl (hb hby d18_1) rfl ?_
    show Steps p.tables e below (s₁.setTop (mkF m 2 #[.val (.int (0 : Int32)), .val (.int (1 : Int32))] [(.int (1 : Int32)), (.int (0 : Int32))])) _
    refine st1 _ ?_
    show Steps p.tables e below (T1.setTop (mkF m 5 #[.val (.int (0 : Int32)), .val (.int (1 : Int32))] [s_SIOOBE_FORMATTER, (.int (1 : Int32)), (.int (0 : Int32))])) _
    refine st3 _ ?_
    show Steps p.tables e below (T3.setTop (mkF m 8 #[.val (.int (0 : Int32)), .val (.int (1 : Int32))] [(.int (0 : Int32))])) _
    refine XS.pop X3.here hx rfl (hb hby d18_8) rfl rfl ?_
    show Steps p.tables e below (T3.setTop (mkF m 9 #[.val (.int (0 : Int32)), .val (.int (1 : Int32))] [])) _
    exact X3.returnOut hx Bd.returns (hb hby d18_9) hr
  · show Q18 Z s_SIOOBE_FORMATTER h0 n0 _ T3.heap _
    exact ⟨rfl, N3, e3⟩
theorem ef_17 (m : MethodId) (a0 : Addr) : entryFrame m #[(.ref a0), (.int (0 : Int32))] 2 = mkF m 0 #[.val (.ref a0), .val (.int (0 : Int32))] [] := by first | (simp [entryFrame, mkF, argsToLocals, Value.category]; done) | rfl
def Q17 (Z : State) (a0 : Addr) (g_a0 : Nat → Int32) (s_SIOOBE_FORMATTER : Value) (h0 : Heap) (n0 : Nat) (v : Option Value) (h : Heap) (L : List Loc) : Prop := v = some (.int (nar .char (((g_a0 0) &&& (255 : Int32)).toUInt32.toUInt16.toUInt32.toInt32))) ∧ Fr n0 L ∧ h = h0
set_option maxRecDepth 65536 in
set_option maxHeartbeats 40000000 in
theorem rm17 (l : Launch) (Z : State) (A0 : Array Value) (hw : ∀ d ∈ tables_1, d.before A0 Z = true) (ws : List Jvm.Cond) (a0 : Addr) (g_a0 : Nat → Int32) (s_SIOOBE_FORMATTER : Value) (h0 : Heap) (n0 : Nat) (Z0 : n0 ≤ h0.size) (A_a0 : AF Z h0 a0 .byte 1 (fun j => .int (g_a0 j))) (S_SIOOBE_FORMATTER : SO Z n0 h0 "jdk/internal/util/Preconditions" "SIOOBE_FORMATTER" "Ljava/util/function/BiFunction;" s_SIOOBE_FORMATTER) (rf_s_SIOOBE_FORMATTER : s_SIOOBE_FORMATTER.isRef = true) (rf_s_SIOOBE_FORMATTER_3 : s_SIOOBE_FORMATTER.isRef = true) :
    MetFree l (⟨"java/lang/StringLatin1", "charAt", "([BI)C"⟩ : MethodName) (head1 (Jvm.Cond.code (⟨"java/lang/StringLatin1", "charAt", "([BI)C"⟩ : MethodName) jdk_43_method_2_code 2 (some .char) :: ws) ({ frames := 2, cells := 0, slots := 0, locals := 27 } : Room)) (fun a U => a = #[(.ref a0), (.int (0 : Int32))] ∧ Z.Warmed39 U.vm ∧ U.heap = h0) (fun _ _ _ _ _ => True) (fun _ U o U' => ∃ v L, o = .returned v ∧ Q17 Z a0 g_a0 s_SIOOBE_FORMATTER h0 n0 v U'.heap L ∧ FrameEnd U o U' L ({ frames := 2, cells := 0, slots := 0, locals := 27 } : Room).cells ({ frames := 2, cells := 0, slots := 0, locals := 27 } : Room).slots) := by
  refine MetFree.of_bodySF (plainFor_of_name pn_17) hisR ?_
  intro p e s m args below meth c s₁ Bd hml0 hP hK
  obtain ⟨rfl, hZ, hh⟩ := hP
  have hx := Bd.exec
  have hby := Bd.bytes
  have hml : c.maxLocals = 2 := hml0
  have hown : s.vm.findClass "java/lang/StringLatin1" = some m.cls := findClass_of_methodNamed Bd.named
  have hnm := (name_of_methodNamed Bd.named Bd.method).1
  have X0 : Stand p l e ({ frames := 2, cells := 0, slots := 0, locals := 27 } : Room) s m #[(.ref a0), (.int (0 : Int32))] below meth c s₁ [] 0 0 := Stand.of_body Bd
  have e0 : s₁.heap = h0 := by rw [← hh, Bd.state]; rfl
  have N0 := Fr.nil n0
  have pre0 : ∀ t, Steps p.tables e below (s₁.setTop (mkF m 0 #[.val (.ref a0), .val (.int (0 : Int32))] [])) t → Steps p.tables e below (s₁.setTop (entryFrame m #[(.ref a0), (.int (0 : Int32))] 2)) t := fun t k => castTop (ef_17 m a0) k
  obtain ⟨_, _, ⟨T1, L1, k1, n1⟩, -, X1, ⟨Lc1, hQ1, l1, y1, z1⟩, st1⟩ := Jvm.LawKit.callS X0 hx (y := (⟨"java/lang/String", "checkIndex", "(II)V"⟩ : MethodName)) hown (mvT hZ (hw _ (List.mem_of_getElem? (i := 99) rfl))) (mvT hZ (hw _ (List.mem_of_getElem? (i := 100) rfl))) (mvT hZ (hw _ (List.mem_of_getElem? (i := 33) rfl))) (mvT hZ (hw _ (List.mem_of_getElem? (i := 101) rfl))) (by decide) (backOf (W := 0) (rm18 l Z A0 hw [] s_SIOOBE_FORMATTER h0 n0 (Nat.le_trans Z0 (Keep.refl h0 []).1) S_SIOOBE_FORMATTER rf_s_SIOOBE_FORMATTER_3) hZ (hw _ (List.mem_of_getElem? (i := 101) rfl)) (hw _ (List.mem_of_getElem? (i := 33) rfl)) (by decide) (by decide)) (g := (mkF m 3 #[.val (.ref a0), .val (.int (0 : Int32))] [(.int (1 : Int32)), (.int (0 : Int32))])) rfl (by rw [hml]; rfl) (argsL := [(.int (0 : Int32)), (.int (1 : Int32))]) (rest := []) (lenOf pd_15 rfl) rfl (by show 2 * 0 + _ ≤ _; exact Nat.le_of_eq rfl) (hb hby d17_3) (fun _ _ => ⟨rfl, e0, (by decide : 0 + 0 ≤ _), (by decide : 0 + 0 ≤ _)⟩)
  dsimp only [Pt.U, Pt.locs, Pt.cells, Pt.slots] at X1 l1 y1 z1 st1 hQ1
  subst l1 y1 z1
  obtain ⟨rfl, N1q, e1⟩ := hQ1
  have N1 := Fr.app N0 N1q
  obtain ⟨fs, hr, hrun, hended, hW, hsame⟩ := X1.leave (v := some (.int (nar .char (((g_a0 0) &&& (255 : Int32)).toUInt32.toUInt16.toUInt32.toInt32)))) (fun h => by rw [Bd.returns] at h; cases h)
  refine ⟨_, _, pre0 _ ?_, hrun, hended, _, _, rfl, ?_, ⟨_, rfl⟩, hW, hsame.mono (by decide) (by decide)⟩
  · show Steps p.tables e below (s₁.setTop (mkF m 0 #[.val (.ref a0), .val (.int (0 : Int32))] [])) _
    refine XS.iloadN X0.here hx rfl (hb hby d17_0) rfl ?_
    show Steps p.tables e below (s₁.setTop (mkF m 1 #[.val (.ref a0), .val (.int (0 : Int32))] [(.int (0 : Int32))])) _
    refine XS.aloadN X0.here hx rfl (hb hby d17_1) rfl rfl ?_
    show Steps p.tables e below (s₁.setTop (mkF m 2 #[.val (.ref a0), .val (.int (0 : Int32))] [(.ref a0), (.int (0 : Int32))])) _
    refine AF.len X0 hx hZ e0 A_a0 (g := (mkF m 2 #[.val (.ref a0), .val (.int (0 : Int32))] [(.ref a0), (.int (0 : Int32))])) rfl rfl (hb hby d17_2) _ ?_
    show Steps p.tables e below (s₁.setTop (mkF m 3 #[.val (.ref a0), .val (.int (0 : Int32))] [(.int (1 : Int32)), (.int (0 : Int32))])) _
    refine st1 _ ?_
    show Steps p.tables e below (T1.setTop (mkF m 6 #[.val (.ref a0), .val (.int (0 : Int32))] [])) _
    refine XS.aloadN X1.here hx rfl (hb hby d17_6) rfl rfl ?_
    show Steps p.tables e below (T1.setTop (mkF m 7 #[.val (.ref a0), .val (.int (0 : Int32))] [(.ref a0)])) _
    refine XS.iloadN X1.here hx rfl (hb hby d17_7) rfl ?_
    show Steps p.tables e below (T1.setTop (mkF m 8 #[.val (.ref a0), .val (.int (0 : Int32))] [(.int (0 : Int32)), (.ref a0)])) _
    refine AF.ldB X1 hx hZ e1 A_a0 (by decide : own_in (0 : Int32) 1) (g := (mkF m 8 #[.val (.ref a0), .val (.int (0 : Int32))] [(.int (0 : Int32)), (.ref a0)])) rfl rfl (hb hby d17_8) _ ?_
    show Steps p.tables e below (T1.setTop (mkF m 9 #[.val (.ref a0), .val (.int (0 : Int32))] [(.int (g_a0 0))])) _
    refine XS.sipush X1.here hx rfl (hb hby d17_9) ?_
    show Steps p.tables e below (T1.setTop (mkF m 12 #[.val (.ref a0), .val (.int (0 : Int32))] [(.int (255 : Int32)), (.int (g_a0 0))])) _
    refine XS.iand X1.here hx rfl (hb hby d17_12) rfl ?_
    show Steps p.tables e below (T1.setTop (mkF m 13 #[.val (.ref a0), .val (.int (0 : Int32))] [(.int ((g_a0 0) &&& (255 : Int32)))])) _
    refine XS.i2c X1.here hx rfl (hb hby d17_13) rfl ?_
    show Steps p.tables e below (T1.setTop (mkF m 14 #[.val (.ref a0), .val (.int (0 : Int32))] [(.int (((g_a0 0) &&& (255 : Int32)).toUInt32.toUInt16.toUInt32.toInt32))])) _
    exact retN X1 hx (t := .char) Bd.returns (by simp) (hb hby d17_14) hr
  · show Q17 Z a0 g_a0 s_SIOOBE_FORMATTER h0 n0 _ T1.heap _
    exact ⟨rfl, N1, e1⟩
theorem ef_15 (m : MethodId) (a0 : Addr) : entryFrame m #[(.ref a0), (.int (0 : Int32))] 2 = mkF m 0 #[.val (.ref a0), .val (.int (0 : Int32))] [] := by first | (simp [entryFrame, mkF, argsToLocals, Value.category]; done) | rfl
def Q15 (Z : State) (a0 : Addr) (w_value_a0 : Addr) (s_COMPACT_STRINGS : Int32) (g_w_value_a0 : Nat → Int32) (s_SIOOBE_FORMATTER : Value) (h0 : Heap) (n0 : Nat) (v : Option Value) (h : Heap) (L : List Loc) : Prop := v = some (.int (nar .char (nar .char (((g_w_value_a0 0) &&& (255 : Int32)).toUInt32.toUInt16.toUInt32.toInt32)))) ∧ Fr n0 L ∧ h = h0
set_option maxRecDepth 65536 in
set_option maxHeartbeats 40000000 in
theorem rm15 (l : Launch) (Z : State) (A0 : Array Value) (hw : ∀ d ∈ tables_1, d.before A0 Z = true) (ws : List Jvm.Cond) (a0 : Addr) (w_value_a0 : Addr) (s_COMPACT_STRINGS : Int32) (g_w_value_a0 : Nat → Int32) (s_SIOOBE_FORMATTER : Value) (h0 : Heap) (n0 : Nat) (Z0 : n0 ≤ h0.size) (E_a0 : Exa Z h0 a0 "java/lang/String") (F_value_a0 : Fld Z h0 a0 "java/lang/String" "value" "[B" (.ref w_value_a0)) (F_coder_a0 : Fld Z h0 a0 "java/lang/String" "coder" "B" (.int (0 : Int32))) (S_COMPACT_STRINGS : SO Z n0 h0 "java/lang/String" "COMPACT_STRINGS" "Z" (.int s_COMPACT_STRINGS)) (A_w_value_a0 : AF Z h0 w_value_a0 .byte 1 (fun j => .int (g_w_value_a0 j))) (S_SIOOBE_FORMATTER : SO Z n0 h0 "jdk/internal/util/Preconditions" "SIOOBE_FORMATTER" "Ljava/util/function/BiFunction;" s_SIOOBE_FORMATTER) (hc3_1 : ¬ (s_COMPACT_STRINGS = (0 : Int32))) (rf_s_SIOOBE_FORMATTER : s_SIOOBE_FORMATTER.isRef = true) (rf_s_SIOOBE_FORMATTER_12 : s_SIOOBE_FORMATTER.isRef = true) (rf_s_SIOOBE_FORMATTER_3_12 : s_SIOOBE_FORMATTER.isRef = true) :
    MetFree l (⟨"java/lang/String", "charAt", "(I)C"⟩ : MethodName) (head1 (Jvm.Cond.code (⟨"java/lang/String", "charAt", "(I)C"⟩ : MethodName) jdk_42_method_56_code 2 (some .char) :: ws) ({ frames := 3, cells := 0, slots := 0, locals := 40 } : Room)) (fun a U => a = #[(.ref a0), (.int (0 : Int32))] ∧ Z.Warmed39 U.vm ∧ U.heap = h0) (fun _ _ _ _ _ => True) (fun _ U o U' => ∃ v L, o = .returned v ∧ Q15 Z a0 w_value_a0 s_COMPACT_STRINGS g_w_value_a0 s_SIOOBE_FORMATTER h0 n0 v U'.heap L ∧ FrameEnd U o U' L ({ frames := 3, cells := 0, slots := 0, locals := 40 } : Room).cells ({ frames := 3, cells := 0, slots := 0, locals := 40 } : Room).slots) := by
  refine MetFree.of_bodySF (plainFor_of_name pn_15) hisR ?_
  intro p e s m args below meth c s₁ Bd hml0 hP hK
  obtain ⟨rfl, hZ, hh⟩ := hP
  have hx := Bd.exec
  have hby := Bd.bytes
  have hml : c.maxLocals = 2 := hml0
  have hown : s.vm.findClass "java/lang/String" = some m.cls := findClass_of_methodNamed Bd.named
  have hnm := (name_of_methodNamed Bd.named Bd.method).1
  have X0 : Stand p l e ({ frames := 3, cells := 0, slots := 0, locals := 40 } : Room) s m #[(.ref a0), (.int (0 : Int32))] below meth c s₁ [] 0 0 := Stand.of_body Bd
  have e0 : s₁.heap = h0 := by rw [← hh, Bd.state]; rfl
  have N0 := Fr.nil n0
  have pre0 : ∀ t, Steps p.tables e below (s₁.setTop (mkF m 0 #[.val (.ref a0), .val (.int (0 : Int32))] [])) t → Steps p.tables e below (s₁.setTop (entryFrame m #[(.ref a0), (.int (0 : Int32))] 2)) t := fun t k => castTop (ef_15 m a0) k
  obtain ⟨cq1, kq1, q1a, q1b, q1c⟩ := isOf hZ e0 E_a0
  obtain ⟨_, _, ⟨T1, L1, k1, n1⟩, -, X1, ⟨Lc1, hQ1, l1, y1, z1⟩, st1⟩ := X0.virtualBack hx (y := (⟨"java/lang/String", "isLatin1", "()Z"⟩ : MethodName)) (z := (⟨"java/lang/String", "isLatin1", "()Z"⟩ : MethodName)) hown (mvT hZ (hw _ (List.mem_of_getElem? (i := 90) rfl))) (mvT hZ (hw _ (List.mem_of_getElem? (i := 91) rfl))) (notFace_of_selects (args := #[]) (mvT hZ (hw _ (List.mem_of_getElem? (i := 93) rfl)))) (mvT hZ (hw _ (List.mem_of_getElem? (i := 93) rfl))) (mvT hZ (hw _ (List.mem_of_getElem? (i := 92) rfl))) (by decide) (backOf (W := 0) (rm16 l Z A0 hw [] a0 w_value_a0 s_COMPACT_STRINGS h0 n0 (Nat.le_trans Z0 (Keep.refl h0 []).1) E_a0 F_value_a0 F_coder_a0 S_COMPACT_STRINGS hc3_1) hZ (hw _ (List.mem_of_getElem? (i := 94) rfl)) (hw _ (List.mem_of_getElem? (i := 33) rfl)) (by decide) (by decide)) q1a q1c (g := (mkF m 1 #[.val (.ref a0), .val (.int (0 : Int32))] [(.ref a0)])) rfl (by rw [hml]; rfl) (Steps.refl _) (argsL := []) (rest := []) (lenOf pd_13 rfl) rfl (by show 2 * 0 + _ ≤ _; exact Nat.le_of_eq rfl) (hb hby d15_1) (fun _ _ => ⟨rfl, e0, (by decide : 0 + 0 ≤ _), (by decide : 0 + 0 ≤ _)⟩)
  dsimp only [Pt.U, Pt.locs, Pt.cells, Pt.slots] at X1 l1 y1 z1 st1 hQ1
  subst l1 y1 z1
  obtain ⟨rfl, N1q, e1⟩ := hQ1
  have N1 := Fr.app N0 N1q
  obtain ⟨T2, X2, e2, st2⟩ := getF X1 hx hZ hown (host := "") (Or.inl (hw _ (List.mem_of_getElem? (i := 53) rfl))) Via.refl e1 F_value_a0 (g := (mkF m 8 #[.val (.ref a0), .val (.int (0 : Int32))] [(.ref a0)])) rfl rfl (hb hby d15_8)
  obtain ⟨_, _, ⟨T3, L3, k3, n3⟩, -, X3, ⟨Lc3, hQ3, l3, y3, z3⟩, st3⟩ := Jvm.LawKit.callS X2 hx (y := (⟨"java/lang/StringLatin1", "charAt", "([BI)C"⟩ : MethodName)) hown (mvT hZ (hw _ (List.mem_of_getElem? (i := 95) rfl))) (mvT hZ (hw _ (List.mem_of_getElem? (i := 96) rfl))) (mvT hZ (hw _ (List.mem_of_getElem? (i := 97) rfl))) (mvT hZ (hw _ (List.mem_of_getElem? (i := 98) rfl))) (by decide) (backOf (W := 0) (rm17 l Z A0 hw [] w_value_a0 g_w_value_a0 s_SIOOBE_FORMATTER h0 n0 (Nat.le_trans Z0 (Keep.refl h0 []).1) A_w_value_a0 S_SIOOBE_FORMATTER rf_s_SIOOBE_FORMATTER_12 rf_s_SIOOBE_FORMATTER_3_12) hZ (hw _ (List.mem_of_getElem? (i := 98) rfl)) (hw _ (List.mem_of_getElem? (i := 97) rfl)) (by decide) (by decide)) (g := (mkF m 12 #[.val (.ref a0), .val (.int (0 : Int32))] [(.int (0 : Int32)), (.ref w_value_a0)])) rfl (by rw [hml]; rfl) (argsL := [(.ref w_value_a0), (.int (0 : Int32))]) (rest := []) (lenOf pd_14 rfl) rfl (by show 2 * 0 + _ ≤ _; exact Nat.le_of_eq rfl) (hb hby d15_12) (fun _ _ => ⟨rfl, e2, (by decide : 0 + 0 ≤ _), (by decide : 0 + 0 ≤ _)⟩)
  dsimp only [Pt.U, Pt.locs, Pt.cells, Pt.slots] at X3 l3 y3 z3 st3 hQ3
  subst l3 y3 z3
  obtain ⟨rfl, N3q, e3⟩ := hQ3
  have N3 := Fr.app N1 N3q
  obtain ⟨fs, hr, hrun, hended, hW, hsame⟩ := X3.leave (v := some (.int (nar .char (nar .char (((g_w_value_a0 0) &&& (255 : Int32)).toUInt32.toUInt16.toUInt32.toInt32))))) (fun h => by rw [Bd.returns] at h; cases h)
  refine ⟨_, _, pre0 _ ?_, hrun, hended, _, _, rfl, ?_, ⟨_, rfl⟩, hW, hsame.mono (by decide) (by decide)⟩
  · show Steps p.tables e below (s₁.setTop (mkF m 0 #[.val (.ref a0), .val (.int (0 : Int32))] [])) _
    refine XS.aloadN X0.here hx rfl (hb hby d15_0) rfl rfl ?_
    show Steps p.tables e below (s₁.setTop (mkF m 1 #[.val (.ref a0), .val (.int (0 : Int32))] [(.ref a0)])) _
    refine st1.trans ?_
    show Steps p.tables e below (T1.setTop (mkF m 4 #[.val (.ref a0), .val (.int (0 : Int32))] [(.int (1 : Int32))])) _
    refine XS.ifNo X1.here hx rfl (hb hby d15_4) rfl ((if0 _ _).trans (feq (by decide)).1) ?_
    show Steps p.tables e below (T1.setTop (mkF m 7 #[.val (.ref a0), .val (.int (0 : Int32))] [])) _
    refine XS.aloadN X1.here hx rfl (hb hby d15_7) rfl rfl ?_
    show Steps p.tables e below (T1.setTop (mkF m 8 #[.val (.ref a0), .val (.int (0 : Int32))] [(.ref a0)])) _
    refine st2 _ ?_
    show Steps p.tables e below (T2.setTop (mkF m 11 #[.val (.ref a0), .val (.int (0 : Int32))] [(.ref w_value_a0)])) _
    refine XS.iloadN X2.here hx rfl (hb hby d15_11) rfl ?_
    show Steps p.tables e below (T2.setTop (mkF m 12 #[.val (.ref a0), .val (.int (0 : Int32))] [(.int (0 : Int32)), (.ref w_value_a0)])) _
    refine st3 _ ?_
    show Steps p.tables e below (T3.setTop (mkF m 15 #[.val (.ref a0), .val (.int (0 : Int32))] [(.int (nar .char (((g_w_value_a0 0) &&& (255 : Int32)).toUInt32.toUInt16.toUInt32.toInt32)))])) _
    exact retN X3 hx (t := .char) Bd.returns (by simp) (hb hby d15_15) hr
  · show Q15 Z a0 w_value_a0 s_COMPACT_STRINGS g_w_value_a0 s_SIOOBE_FORMATTER h0 n0 _ T3.heap _
    exact ⟨rfl, N3, e3⟩
theorem ef_7 (m : MethodId) (a0 : Addr) (a1 : Addr) : entryFrame m #[(.ref a0), (.ref a1)] 5 = mkF m 0 #[.val (.ref a0), .val (.ref a1), .unset, .unset, .unset] [] := by first | (simp [entryFrame, mkF, argsToLocals, Value.category]; done) | rfl
def Q7 (Z : State) (a0 : Addr) (a1 : Addr) (w_bytes_a0 : Addr) (w_afterValue_a0 : Int32) (w_value_a1 : Addr) (g_w_value_a1 : Nat → Int32) (s_COMPACT_STRINGS : Int32) (n_w_bytes_a0 : Nat) (g_w_bytes_a0 : Nat → Int32) (s_SIOOBE_FORMATTER : Value) (h0 : Heap) (n0 : Nat) (v : Option Value) (h : Heap) (L : List Loc) : Prop := ∃ (b' : Addr) (N' : Nat) (g' : Nat → Int32), v = none ∧ Fr n0 L ∧ Keep h0 h [a0, w_bytes_a0] ∧ (b' = w_bytes_a0 ∨ h0.size ≤ b') ∧ n0 ≤ b' ∧ a0 ≠ b' ∧ Fld Z h a0 "com/example/commitlog/commitlog/codec/JsonWriter" "bytes" "[B" (.ref b') ∧ Fld Z h a0 "com/example/commitlog/commitlog/codec/JsonWriter" "length" "I" (.int (3 : Int32)) ∧ Fld Z h a0 "com/example/commitlog/commitlog/codec/JsonWriter" "afterValue" "Z" (.int w_afterValue_a0) ∧ AF Z h b' .byte N' (fun j => .int (g' j)) ∧ own_B g' ∧ 3 ≤ N' ∧ N' ≤ 40 ∧ g' 0 = (34 : Int32) ∧ g' 1 = (97 : Int32) ∧ g' 2 = (34 : Int32)
set_option maxRecDepth 65536 in
set_option maxHeartbeats 40000000 in
theorem rm7 (l : Launch) (Z : State) (A0 : Array Value) (hw : ∀ d ∈ tables_1, d.before A0 Z = true) (ws : List Jvm.Cond) (a0 : Addr) (a1 : Addr) (w_bytes_a0 : Addr) (w_afterValue_a0 : Int32) (w_value_a1 : Addr) (g_w_value_a1 : Nat → Int32) (s_COMPACT_STRINGS : Int32) (n_w_bytes_a0 : Nat) (g_w_bytes_a0 : Nat → Int32) (s_SIOOBE_FORMATTER : Value) (h0 : Heap) (n0 : Nat) (Z0 : n0 ≤ h0.size) (E_a0 : Exa Z h0 a0 "com/example/commitlog/commitlog/codec/JsonWriter") (F_bytes_a0 : Fld Z h0 a0 "com/example/commitlog/commitlog/codec/JsonWriter" "bytes" "[B" (.ref w_bytes_a0)) (F_length_a0 : Fld Z h0 a0 "com/example/commitlog/commitlog/codec/JsonWriter" "length" "I" (.int (0 : Int32))) (F_afterValue_a0 : Fld Z h0 a0 "com/example/commitlog/commitlog/codec/JsonWriter" "afterValue" "Z" (.int w_afterValue_a0)) (E_a1 : Exa Z h0 a1 "java/lang/String") (F_value_a1 : Fld Z h0 a1 "java/lang/String" "value" "[B" (.ref w_value_a1)) (F_coder_a1 : Fld Z h0 a1 "java/lang/String" "coder" "B" (.int (0 : Int32))) (A_w_value_a1 : AF Z h0 w_value_a1 .byte 1 (fun j => .int (g_w_value_a1 j))) (S_COMPACT_STRINGS : SO Z n0 h0 "java/lang/String" "COMPACT_STRINGS" "Z" (.int s_COMPACT_STRINGS)) (A_w_bytes_a0 : AF Z h0 w_bytes_a0 .byte n_w_bytes_a0 (fun j => .int (g_w_bytes_a0 j))) (nw_a0 : n0 ≤ a0) (ne_a0_a1 : a0 ≠ a1) (ne_a0_w_value_a1 : a0 ≠ w_value_a1) (S_SIOOBE_FORMATTER : SO Z n0 h0 "jdk/internal/util/Preconditions" "SIOOBE_FORMATTER" "Ljava/util/function/BiFunction;" s_SIOOBE_FORMATTER) (ne_a0_w_bytes_a0 : a0 ≠ w_bytes_a0) (nw_w_bytes_a0 : n0 ≤ w_bytes_a0) (ne_a1_w_bytes_a0 : a1 ≠ w_bytes_a0) (ne_w_bytes_a0_w_value_a1 : w_bytes_a0 ≠ w_value_a1) (hc3_6_1 : ¬ (s_COMPACT_STRINGS = (0 : Int32))) (hN : n_w_bytes_a0 ≤ 40) (hB : own_B g_w_bytes_a0) (rf_s_SIOOBE_FORMATTER : s_SIOOBE_FORMATTER.isRef = true) (hc3_1_39 : ¬ (s_COMPACT_STRINGS = (0 : Int32))) (rf_s_SIOOBE_FORMATTER_39 : s_SIOOBE_FORMATTER.isRef = true) (rf_s_SIOOBE_FORMATTER_12_39 : s_SIOOBE_FORMATTER.isRef = true) (rf_s_SIOOBE_FORMATTER_3_12_39 : s_SIOOBE_FORMATTER.isRef = true) (hch : g_w_value_a1 0 = (97 : Int32)) :
    MetFree l (⟨"com/example/commitlog/commitlog/codec/JsonWriter", "string", "(Ljava/lang/String;)V"⟩ : MethodName) (head1 (Jvm.Cond.code (⟨"com/example/commitlog/commitlog/codec/JsonWriter", "string", "(Ljava/lang/String;)V"⟩ : MethodName) prog_9_method_14_code 5 none :: ws) ({ frames := 4, cells := 1, slots := 64, locals := 68 } : Room)) (fun a U => a = #[(.ref a0), (.ref a1)] ∧ Z.Warmed39 U.vm ∧ U.heap = h0) (fun _ _ _ _ _ => True) (fun _ U o U' => ∃ v L, o = .returned v ∧ Q7 Z a0 a1 w_bytes_a0 w_afterValue_a0 w_value_a1 g_w_value_a1 s_COMPACT_STRINGS n_w_bytes_a0 g_w_bytes_a0 s_SIOOBE_FORMATTER h0 n0 v U'.heap L ∧ FrameEnd U o U' L ({ frames := 4, cells := 1, slots := 64, locals := 68 } : Room).cells ({ frames := 4, cells := 1, slots := 64, locals := 68 } : Room).slots) := by
  refine MetFree.of_bodySF (plainFor_of_name pn_7) hisR ?_
  intro p e s m args below meth c s₁ Bd hml0 hP hK
  obtain ⟨rfl, hZ, hh⟩ := hP
  have hx := Bd.exec
  have hby := Bd.bytes
  have hml : c.maxLocals = 5 := hml0
  have hown : s.vm.findClass "com/example/commitlog/commitlog/codec/JsonWriter" = some m.cls := findClass_of_methodNamed Bd.named
  have hnm := (name_of_methodNamed Bd.named Bd.method).1
  have X0 : Stand p l e ({ frames := 4, cells := 1, slots := 64, locals := 68 } : Room) s m #[(.ref a0), (.ref a1)] below meth c s₁ [] 0 0 := Stand.of_body Bd
  have e0 : s₁.heap = h0 := by rw [← hh, Bd.state]; rfl
  have N0 := Fr.nil n0
  have pre0 : ∀ t, Steps p.tables e below (s₁.setTop (mkF m 0 #[.val (.ref a0), .val (.ref a1), .unset, .unset, .unset] [])) t → Steps p.tables e below (s₁.setTop (entryFrame m #[(.ref a0), (.ref a1)] 5)) t := fun t k => castTop (ef_7 m a0 a1) k
  obtain ⟨cq1, kq1, q1a, q1b, q1c⟩ := isOf hZ e0 E_a1
  obtain ⟨_, _, ⟨T1, L1, k1, n1⟩, -, X1, ⟨Lc1, hQ1, l1, y1, z1⟩, st1⟩ := X0.virtualBack hx (y := (⟨"java/lang/String", "length", "()I"⟩ : MethodName)) (z := (⟨"java/lang/String", "length", "()I"⟩ : MethodName)) hown (mvT hZ (hw _ (List.mem_of_getElem? (i := 48) rfl))) (mvT hZ (hw _ (List.mem_of_getElem? (i := 49) rfl))) (notFace_of_selects (args := #[]) (mvT hZ (hw _ (List.mem_of_getElem? (i := 51) rfl)))) (mvT hZ (hw _ (List.mem_of_getElem? (i := 51) rfl))) (mvT hZ (hw _ (List.mem_of_getElem? (i := 50) rfl))) (by decide) (backOf (W := 0) (rm8 l Z A0 hw [] a1 w_value_a1 g_w_value_a1 s_COMPACT_STRINGS h0 n0 (Nat.le_trans Z0 (Keep.refl h0 [a0, w_bytes_a0]).1) E_a1 F_value_a1 F_coder_a1 A_w_value_a1 S_COMPACT_STRINGS hc3_6_1) hZ (hw _ (List.mem_of_getElem? (i := 52) rfl)) (hw _ (List.mem_of_getElem? (i := 33) rfl)) (by decide) (by decide)) q1a q1c (g := (mkF m 1 #[.val (.ref a0), .val (.ref a1), .unset, .unset, .unset] [(.ref a1)])) rfl (by rw [hml]; rfl) (Steps.refl _) (argsL := []) (rest := []) (lenOf pd_4 rfl) rfl (by show 2 * 0 + _ ≤ _; exact Nat.le_of_eq rfl) (hb hby d7_1) (fun _ _ => ⟨rfl, e0, (by decide : 0 + 0 ≤ _), (by decide : 0 + 0 ≤ _)⟩)
  dsimp only [Pt.U, Pt.locs, Pt.cells, Pt.slots] at X1 l1 y1 z1 st1 hQ1
  subst l1 y1 z1
  obtain ⟨rfl, N1q, e1⟩ := hQ1
  have N1 := Fr.app N0 N1q
  have hq2 : ((1 : Int32) >>> ((0 : Int32) &&& 31)) = (1 : Int32) := (by decide)
  have ck3 : ∀ t, Steps p.tables e below (T1.setTop (mkF m 9 #[.val (.ref a0), .val (.ref a1), .val (.int (1 : Int32)), .unset, .unset] [(.int (3 : Int32)), (.ref a0)])) t → Steps p.tables e below (s₁.setTop (mkF m 0 #[.val (.ref a0), .val (.ref a1), .unset, .unset, .unset] [])) t := by
    intro t kt
    show Steps p.tables e below (s₁.setTop (mkF m 0 #[.val (.ref a0), .val (.ref a1), .unset, .unset, .unset] [])) _
    refine XS.aloadN X0.here hx rfl (hb hby d7_0) rfl rfl ?_
    show Steps p.tables e below (s₁.setTop (mkF m 1 #[.val (.ref a0), .val (.ref a1), .unset, .unset, .unset] [(.ref a1)])) _
    refine st1.trans ?_
    show Steps p.tables e below (T1.setTop (mkF m 4 #[.val (.ref a0), .val (.ref a1), .unset, .unset, .unset] [(.int ((1 : Int32) >>> ((0 : Int32) &&& 31)))])) _
    refine castTop (g' := (mkF m 4 #[.val (.ref a0), .val (.ref a1), .unset, .unset, .unset] [(.int (1 : Int32))])) (by rw [hq2] <;> rfl) ?_
    show Steps p.tables e below (T1.setTop (mkF m 4 #[.val (.ref a0), .val (.ref a1), .unset, .unset, .unset] [(.int (1 : Int32))])) _
    refine XS.istoreN X1.here hx rfl (hb hby d7_4) rfl (l' := #[.val (.ref a0), .val (.ref a1), .val (.int (1 : Int32)), .unset, .unset]) rfl ?_
    show Steps p.tables e below (T1.setTop (mkF m 5 #[.val (.ref a0), .val (.ref a1), .val (.int (1 : Int32)), .unset, .unset] [])) _
    refine XS.aloadN X1.here hx rfl (hb hby d7_5) rfl rfl ?_
    show Steps p.tables e below (T1.setTop (mkF m 6 #[.val (.ref a0), .val (.ref a1), .val (.int (1 : Int32)), .unset, .unset] [(.ref a0)])) _
    refine XS.iloadN X1.here hx rfl (hb hby d7_6) rfl ?_
    show Steps p.tables e below (T1.setTop (mkF m 7 #[.val (.ref a0), .val (.ref a1), .val (.int (1 : Int32)), .unset, .unset] [(.int (1 : Int32)), (.ref a0)])) _
    refine XS.iconst X1.here hx rfl (hb hby d7_7) ?_
    show Steps p.tables e below (T1.setTop (mkF m 8 #[.val (.ref a0), .val (.ref a1), .val (.int (1 : Int32)), .unset, .unset] [(.int (2 : Int32)), (.int (1 : Int32)), (.ref a0)])) _
    refine XS.iadd X1.here hx rfl (hb hby d7_8) rfl ?_
    exact kt
  rcases Classical.em (((Int32.ofNat n_w_bytes_a0) - (0 : Int32)) < (3 : Int32)) with hs | hs
  · have hp4 : ((Int32.ofNat n_w_bytes_a0) - (0 : Int32)) < (3 : Int32) := hs
    have hp5 : ¬ ((own_nl n_w_bytes_a0 (0 : Int32) (3 : Int32)) = (Int32.ofNat n_w_bytes_a0)) := (own_nlV n_w_bytes_a0 hN (3 : Int32) (by decide) (by decide) hs).1
    have hp6 : ¬ (own_nl n_w_bytes_a0 (0 : Int32) (3 : Int32)) < (0 : Int32) := (own_nlV n_w_bytes_a0 hN (3 : Int32) (by decide) (by decide) hs).2.1
    have hp7 : (own_nl n_w_bytes_a0 (0 : Int32) (3 : Int32)).toNatClampNeg ≤ 64 := (own_nlV n_w_bytes_a0 hN (3 : Int32) (by decide) (by decide) hs).2.2.1
    have hp8 : ¬ ((own_nl n_w_bytes_a0 (0 : Int32) (3 : Int32)) < (Int32.ofNat n_w_bytes_a0)) := (own_nlV n_w_bytes_a0 hN (3 : Int32) (by decide) (by decide) hs).2.2.2.1
    have hp9 : ∀ j, j < n_w_bytes_a0 → fits .byte (.int (g_w_bytes_a0 j)) = true := (fun j _ => hB j)
    obtain ⟨cq10, q10, q10'⟩ := E_a0.cell
    obtain ⟨_, _, ⟨T10, L10, k10, n10⟩, -, X10, ⟨Lc10, hQ10, l10, y10, z10⟩, st10⟩ := X1.privateBack hx (y := (⟨"com/example/commitlog/commitlog/codec/JsonWriter", "room", "(I)V"⟩ : MethodName)) hown (mvT hZ (hw _ (List.mem_of_getElem? (i := 61) rfl))) (mvT hZ (hw _ (List.mem_of_getElem? (i := 62) rfl))) (own_selp (mvT hZ (hw _ (List.mem_of_getElem? (i := 2) rfl))) (Cond.privateMethod_at (mvP hZ (hw _ (List.mem_of_getElem? (i := 63) rfl)) (args := #[]))) (mvT hZ (hw _ (List.mem_of_getElem? (i := 62) rfl))) (by decide)) (Cond.privateMethod_at (mvP hZ (hw _ (List.mem_of_getElem? (i := 63) rfl)) (args := #[]))) (mvT hZ (hw _ (List.mem_of_getElem? (i := 64) rfl))) (by decide) (backOf (W := 0) (rm10g l Z A0 hw [] a0 (3 : Int32) w_bytes_a0 (0 : Int32) w_afterValue_a0 n_w_bytes_a0 g_w_bytes_a0 h0 n0 (Nat.le_trans Z0 (Keep.refl h0 [a0, w_bytes_a0]).1) E_a0 F_bytes_a0 F_length_a0 F_afterValue_a0 A_w_bytes_a0 nw_a0 hp4 hp5 hp6 hp7 hp8 hp9) hZ (hw _ (List.mem_of_getElem? (i := 64) rfl)) (hw _ (List.mem_of_getElem? (i := 3) rfl)) (by decide) (by decide)) (g := (mkF m 9 #[.val (.ref a0), .val (.ref a1), .val (.int (1 : Int32)), .unset, .unset] [(.int (3 : Int32)), (.ref a0)])) rfl (by rw [hml]; rfl) (Steps.refl _) (a := a0) (by rw [e1]; exact q10) q10' (argsL := [(.int (3 : Int32))]) (rest := []) (lenOf pd_0 rfl) rfl (by show 2 * 0 + _ ≤ _; exact Nat.le_of_eq rfl) (hb hby d7_9) (fun _ _ => ⟨rfl, e1, (by decide : 0 + 1 ≤ _), (by decide : 0 + 64 ≤ _)⟩)
    dsimp only [Pt.U, Pt.locs, Pt.cells, Pt.slots] at X10 l10 y10 z10 st10 hQ10
    subst l10 y10 z10
    obtain ⟨b10_b9_b1, rfl, N10q, Kc10, szb10_b9_b1, P11, P12, P13, P14, P15⟩ := hQ10
    have ne_a0_b10_b9_b1 : a0 ≠ b10_b9_b1 := Nat.ne_of_lt (Nat.lt_of_lt_of_le E_a0.lt szb10_b9_b1)
    have ne_a1_b10_b9_b1 : a1 ≠ b10_b9_b1 := Nat.ne_of_lt (Nat.lt_of_lt_of_le E_a1.lt szb10_b9_b1)
    have ne_w_value_a1_b10_b9_b1 : w_value_a1 ≠ b10_b9_b1 := Nat.ne_of_lt (Nat.lt_of_lt_of_le A_w_value_a1.lt szb10_b9_b1)
    have ne_w_bytes_a0_b10_b9_b1 : w_bytes_a0 ≠ b10_b9_b1 := Nat.ne_of_lt (Nat.lt_of_lt_of_le A_w_bytes_a0.lt szb10_b9_b1)
    have nw_b10_b9_b1 : n0 ≤ b10_b9_b1 := Nat.le_trans (Nat.le_trans Z0 (Keep.refl h0 [a0, w_bytes_a0]).1) szb10_b9_b1
    have sq_b10_b9_b1 : h0.size ≤ b10_b9_b1 := Nat.le_trans (Keep.refl h0 [a0, w_bytes_a0]).1 szb10_b9_b1
    have K10 : Keep h0 T10.heap [a0, w_bytes_a0] := (Keep.refl h0 [a0, w_bytes_a0]).trans Kc10 (allS (Or.inl (by simp)) all0)
    have N10 := Fr.app N1 N10q
    have hN2 : 3 ≤ ((own_nl n_w_bytes_a0 (0 : Int32) (3 : Int32))).toNatClampNeg ∧ ((own_nl n_w_bytes_a0 (0 : Int32) (3 : Int32))).toNatClampNeg ≤ 40 := by have q := (own_nlV n_w_bytes_a0 hN (3 : Int32) (by decide) (by decide) hs).2.2.2.2; have q2 := (own_rV n_w_bytes_a0 (by omega) (3 : Int32)).mp hs; have k := own_3; have k0 := own_z32; omega
    obtain ⟨T16, X16, e16, st16⟩ := getF X10 hx hZ hown (host := "") (Or.inl (hw _ (List.mem_of_getElem? (i := 11) rfl))) Via.refl rfl P12 (g := (mkF m 13 #[.val (.ref a0), .val (.ref a1), .val (.int (1 : Int32)), .unset, .unset] [(.ref a0)])) rfl rfl (hb hby d7_13)
    obtain ⟨T17, X17, e17, st17⟩ := getF X16 hx hZ hown (host := "") (Or.inl (hw _ (List.mem_of_getElem? (i := 23) rfl))) Via.refl e16 P13 (g := (mkF m 18 #[.val (.ref a0), .val (.ref a1), .val (.int (1 : Int32)), .unset, .unset] [(.ref a0), (.ref a0), (.ref b10_b9_b1)])) rfl rfl (hb hby d7_18)
    obtain ⟨T18, h18, X18, e18, W18, st18⟩ := putF X17 hx hZ hown (host := "") (Or.inl (hw _ (List.mem_of_getElem? (i := 23) rfl))) Via.refl e17 P13 P11 (Or.inl (hw _ (List.mem_of_getElem? (i := 24) rfl))) (hw _ (List.mem_of_getElem? (i := 2) rfl)) (ty := .int) (by decide) rfl rfl (g := (mkF m 24 #[.val (.ref a0), .val (.ref a1), .val (.int (1 : Int32)), .unset, .unset] [(.int (1 : Int32)), (.ref a0), (.int (0 : Int32)), (.ref b10_b9_b1)])) rfl rfl (hb hby d7_24)
    have K18 : Keep h0 h18 [a0, w_bytes_a0] := K10.wr W18 (Or.inl (by simp))
    have Fw18 : Fld Z h18 a0 "com/example/commitlog/commitlog/codec/JsonWriter" "length" "I" (.int (1 : Int32)) := P13.same W18
    have N18 := Fr.snoc X18 N10 nw_a0
    have G19 : AF Z h18 b10_b9_b1 .byte ((own_nl n_w_bytes_a0 (0 : Int32) (3 : Int32))).toNatClampNeg (fun j => .int ((fun j => if j < n_w_bytes_a0 then g_w_bytes_a0 j else (fun _ => (0 : Int32)) j) j)) := (P15.other W18 (Ne.symm ne_a0_b10_b9_b1))
    have hi20 : own_in (0 : Int32) ((own_nl n_w_bytes_a0 (0 : Int32) (3 : Int32))).toNatClampNeg := ⟨by decide, by have k : (0 : Int32).toInt = 0 := (by decide); omega⟩
    obtain ⟨T21, h21, X21, e21, W21, A21, st21⟩ := AF.stB X18 hx hZ e18 G19 hi20 (g := (mkF m 29 #[.val (.ref a0), .val (.ref a1), .val (.int (1 : Int32)), .unset, .unset] [(.int (34 : Int32)), (.int (0 : Int32)), (.ref b10_b9_b1)])) rfl rfl (hb hby d7_29)
    have K21 : Keep h0 h21 [a0, w_bytes_a0] := K18.wr W21 (Or.inr sq_b10_b9_b1)
    obtain ⟨f22, hf22⟩ : ∃ f : Nat → Int32, f = (fun i => if i = 0 then ((34 : Int32).toInt8.toInt32) else (fun j => if j < n_w_bytes_a0 then g_w_bytes_a0 j else (fun _ => (0 : Int32)) j) i) := ⟨_, rfl⟩
    have V21 : AF Z h21 b10_b9_b1 .byte ((own_nl n_w_bytes_a0 (0 : Int32) (3 : Int32))).toNatClampNeg (fun j => .int (f22 j)) := AF.cong A21 (own_updI rfl hf22)
    have N21 := Fr.snoc X21 N18 nw_b10_b9_b1
    have G23 : Exa Z h21 a1 "java/lang/String" := (((E_a1.keep Kc10).wr W18).wr W21)
    have G24 : Fld Z h21 a1 "java/lang/String" "value" "[B" (.ref w_value_a1) := (((F_value_a1.keep Kc10 (ninS (Ne.symm ne_a0_a1) nin0)).other W18 (Or.inl (Ne.symm ne_a0_a1))).other W21 (Or.inl ne_a1_b10_b9_b1))
    have G25 : Fld Z h21 a1 "java/lang/String" "coder" "B" (.int (0 : Int32)) := (((F_coder_a1.keep Kc10 (ninS (Ne.symm ne_a0_a1) nin0)).other W18 (Or.inl (Ne.symm ne_a0_a1))).other W21 (Or.inl ne_a1_b10_b9_b1))
    have G26 : SO Z n0 h21 "java/lang/String" "COMPACT_STRINGS" "Z" (.int s_COMPACT_STRINGS) := (((S_COMPACT_STRINGS.keep Kc10 (allS nw_a0 all0)).wr W18 nw_a0).wr W21 nw_b10_b9_b1)
    have G27 : AF Z h21 w_value_a1 .byte 1 (fun j => .int (g_w_value_a1 j)) := (((A_w_value_a1.keep Kc10 (ninS (Ne.symm ne_a0_w_value_a1) nin0)).other W18 (Ne.symm ne_a0_w_value_a1)).other W21 ne_w_value_a1_b10_b9_b1)
    have G28 : SO Z n0 h21 "jdk/internal/util/Preconditions" "SIOOBE_FORMATTER" "Ljava/util/function/BiFunction;" s_SIOOBE_FORMATTER := (((S_SIOOBE_FORMATTER.keep Kc10 (allS nw_a0 all0)).wr W18 nw_a0).wr W21 nw_b10_b9_b1)
    obtain ⟨cq29, kq29, q29a, q29b, q29c⟩ := isOf hZ e21 G23
    obtain ⟨_, _, ⟨T29, L29, k29, n29⟩, -, X29, ⟨Lc29, hQ29, l29, y29, z29⟩, st29⟩ := X21.virtualBack hx (y := (⟨"java/lang/String", "charAt", "(I)C"⟩ : MethodName)) (z := (⟨"java/lang/String", "charAt", "(I)C"⟩ : MethodName)) hown (mvT hZ (hw _ (List.mem_of_getElem? (i := 85) rfl))) (mvT hZ (hw _ (List.mem_of_getElem? (i := 86) rfl))) (notFace_of_selects (args := #[]) (mvT hZ (hw _ (List.mem_of_getElem? (i := 88) rfl)))) (mvT hZ (hw _ (List.mem_of_getElem? (i := 88) rfl))) (mvT hZ (hw _ (List.mem_of_getElem? (i := 87) rfl))) (by decide) (backOf (W := 0) (rm15 l Z A0 hw [] a1 w_value_a1 s_COMPACT_STRINGS g_w_value_a1 s_SIOOBE_FORMATTER h21 n0 (Nat.le_trans Z0 K21.1) G23 G24 G25 G26 G27 G28 hc3_1_39 rf_s_SIOOBE_FORMATTER_39 rf_s_SIOOBE_FORMATTER_12_39 rf_s_SIOOBE_FORMATTER_3_12_39) hZ (hw _ (List.mem_of_getElem? (i := 89) rfl)) (hw _ (List.mem_of_getElem? (i := 33) rfl)) (by decide) (by decide)) q29a q29c (g := (mkF m 39 #[.val (.ref a0), .val (.ref a1), .val (.int (1 : Int32)), .val (.int (0 : Int32)), .unset] [(.int (0 : Int32)), (.ref a1)])) rfl (by rw [hml]; rfl) (Steps.refl _) (argsL := [(.int (0 : Int32))]) (rest := []) (lenOf pd_12 rfl) rfl (by show 2 * 0 + _ ≤ _; exact Nat.le_of_eq rfl) (hb hby d7_39) (fun _ _ => ⟨rfl, e21, (by decide : 1 + 0 ≤ _), (by decide : 64 + 0 ≤ _)⟩)
    dsimp only [Pt.U, Pt.locs, Pt.cells, Pt.slots] at X29 l29 y29 z29 st29 hQ29
    subst l29 y29 z29
    obtain ⟨rfl, N29q, e29⟩ := hQ29
    have N29 := Fr.app N21 N29q
    have hq30 : (nar .char (nar .char (((g_w_value_a1 0) &&& (255 : Int32)).toUInt32.toUInt16.toUInt32.toInt32))) = (97 : Int32) := (by rw [hch]; decide)
    have G31 : Fld Z h21 a0 "com/example/commitlog/commitlog/codec/JsonWriter" "bytes" "[B" (.ref b10_b9_b1) := ((P12.other W18 (Or.inr (slot_ne (Or.inl (hw _ (List.mem_of_getElem? (i := 12) rfl))) (Or.inl (hw _ (List.mem_of_getElem? (i := 24) rfl))) (by decide) (t := (.array .byte)) (t' := .int) (by decide) (by decide)))).other W21 (Or.inl ne_a0_b10_b9_b1))
    obtain ⟨T32, X32, e32, st32⟩ := getF X29 hx hZ hown (host := "") (Or.inl (hw _ (List.mem_of_getElem? (i := 11) rfl))) Via.refl e29 G31 (g := (mkF m 74 #[.val (.ref a0), .val (.ref a1), .val (.int (1 : Int32)), .val (.int (0 : Int32)), .val (.int (97 : Int32))] [(.ref a0)])) rfl rfl (hb hby d7_74)
    have G33 : Fld Z h21 a0 "com/example/commitlog/commitlog/codec/JsonWriter" "length" "I" (.int (1 : Int32)) := (Fw18.other W21 (Or.inl ne_a0_b10_b9_b1))
    obtain ⟨T34, X34, e34, st34⟩ := getF X32 hx hZ hown (host := "") (Or.inl (hw _ (List.mem_of_getElem? (i := 23) rfl))) Via.refl e32 G33 (g := (mkF m 79 #[.val (.ref a0), .val (.ref a1), .val (.int (1 : Int32)), .val (.int (0 : Int32)), .val (.int (97 : Int32))] [(.ref a0), (.ref a0), (.ref b10_b9_b1)])) rfl rfl (hb hby d7_79)
    have G35 : Exa Z h21 a0 "com/example/commitlog/commitlog/codec/JsonWriter" := ((P11.wr W18).wr W21)
    obtain ⟨T36, h36, X36, e36, W36, st36⟩ := putF X34 hx hZ hown (host := "") (Or.inl (hw _ (List.mem_of_getElem? (i := 23) rfl))) Via.refl e34 G33 G35 (Or.inl (hw _ (List.mem_of_getElem? (i := 24) rfl))) (hw _ (List.mem_of_getElem? (i := 2) rfl)) (ty := .int) (by decide) rfl rfl (g := (mkF m 85 #[.val (.ref a0), .val (.ref a1), .val (.int (1 : Int32)), .val (.int (0 : Int32)), .val (.int (97 : Int32))] [(.int (2 : Int32)), (.ref a0), (.int (1 : Int32)), (.ref b10_b9_b1)])) rfl rfl (hb hby d7_85)
    have K36 : Keep h0 h36 [a0, w_bytes_a0] := K21.wr W36 (Or.inl (by simp))
    have Fw36 : Fld Z h36 a0 "com/example/commitlog/commitlog/codec/JsonWriter" "length" "I" (.int (2 : Int32)) := G33.same W36
    have N36 := Fr.snoc X36 N29 nw_a0
    have G37 : AF Z h36 b10_b9_b1 .byte ((own_nl n_w_bytes_a0 (0 : Int32) (3 : Int32))).toNatClampNeg (fun j => .int (f22 j)) := (V21.other W36 (Ne.symm ne_a0_b10_b9_b1))
    have hi38 : own_in (1 : Int32) ((own_nl n_w_bytes_a0 (0 : Int32) (3 : Int32))).toNatClampNeg := ⟨by decide, by have k : (1 : Int32).toInt = 1 := (by decide); omega⟩
    obtain ⟨T39, h39, X39, e39, W39, A39, st39⟩ := AF.stB X36 hx hZ e36 G37 hi38 (g := (mkF m 91 #[.val (.ref a0), .val (.ref a1), .val (.int (1 : Int32)), .val (.int (0 : Int32)), .val (.int (97 : Int32))] [(.int ((97 : Int32).toInt8.toInt32)), (.int (1 : Int32)), (.ref b10_b9_b1)])) rfl rfl (hb hby d7_91)
    have K39 : Keep h0 h39 [a0, w_bytes_a0] := K36.wr W39 (Or.inr sq_b10_b9_b1)
    obtain ⟨f40, hf40⟩ : ∃ f : Nat → Int32, f = (fun i => if i = 1 then (((97 : Int32).toInt8.toInt32).toInt8.toInt32) else f22 i) := ⟨_, rfl⟩
    have V39 : AF Z h39 b10_b9_b1 .byte ((own_nl n_w_bytes_a0 (0 : Int32) (3 : Int32))).toNatClampNeg (fun j => .int (f40 j)) := AF.cong A39 (own_updI rfl hf40)
    have N39 := Fr.snoc X39 N36 nw_b10_b9_b1
    have G41 : Fld Z h39 a0 "com/example/commitlog/commitlog/codec/JsonWriter" "bytes" "[B" (.ref b10_b9_b1) := ((G31.other W36 (Or.inr (slot_ne (Or.inl (hw _ (List.mem_of_getElem? (i := 12) rfl))) (Or.inl (hw _ (List.mem_of_getElem? (i := 24) rfl))) (by decide) (t := (.array .byte)) (t' := .int) (by decide) (by decide)))).other W39 (Or.inl ne_a0_b10_b9_b1))
    obtain ⟨T42, X42, e42, st42⟩ := getF X39 hx hZ hown (host := "") (Or.inl (hw _ (List.mem_of_getElem? (i := 11) rfl))) Via.refl e39 G41 (g := (mkF m 224 #[.val (.ref a0), .val (.ref a1), .val (.int (1 : Int32)), .val (.int (1 : Int32)), .val (.int (97 : Int32))] [(.ref a0)])) rfl rfl (hb hby d7_224)
    have G43 : Fld Z h39 a0 "com/example/commitlog/commitlog/codec/JsonWriter" "length" "I" (.int (2 : Int32)) := (Fw36.other W39 (Or.inl ne_a0_b10_b9_b1))
    obtain ⟨T44, X44, e44, st44⟩ := getF X42 hx hZ hown (host := "") (Or.inl (hw _ (List.mem_of_getElem? (i := 23) rfl))) Via.refl e42 G43 (g := (mkF m 229 #[.val (.ref a0), .val (.ref a1), .val (.int (1 : Int32)), .val (.int (1 : Int32)), .val (.int (97 : Int32))] [(.ref a0), (.ref a0), (.ref b10_b9_b1)])) rfl rfl (hb hby d7_229)
    have G45 : Exa Z h39 a0 "com/example/commitlog/commitlog/codec/JsonWriter" := ((G35.wr W36).wr W39)
    obtain ⟨T46, h46, X46, e46, W46, st46⟩ := putF X44 hx hZ hown (host := "") (Or.inl (hw _ (List.mem_of_getElem? (i := 23) rfl))) Via.refl e44 G43 G45 (Or.inl (hw _ (List.mem_of_getElem? (i := 24) rfl))) (hw _ (List.mem_of_getElem? (i := 2) rfl)) (ty := .int) (by decide) rfl rfl (g := (mkF m 235 #[.val (.ref a0), .val (.ref a1), .val (.int (1 : Int32)), .val (.int (1 : Int32)), .val (.int (97 : Int32))] [(.int (3 : Int32)), (.ref a0), (.int (2 : Int32)), (.ref b10_b9_b1)])) rfl rfl (hb hby d7_235)
    have K46 : Keep h0 h46 [a0, w_bytes_a0] := K39.wr W46 (Or.inl (by simp))
    have Fw46 : Fld Z h46 a0 "com/example/commitlog/commitlog/codec/JsonWriter" "length" "I" (.int (3 : Int32)) := G43.same W46
    have N46 := Fr.snoc X46 N39 nw_a0
    have G47 : AF Z h46 b10_b9_b1 .byte ((own_nl n_w_bytes_a0 (0 : Int32) (3 : Int32))).toNatClampNeg (fun j => .int (f40 j)) := (V39.other W46 (Ne.symm ne_a0_b10_b9_b1))
    have hi48 : own_in (2 : Int32) ((own_nl n_w_bytes_a0 (0 : Int32) (3 : Int32))).toNatClampNeg := ⟨by decide, by have k : (2 : Int32).toInt = 2 := (by decide); omega⟩
    obtain ⟨T49, h49, X49, e49, W49, A49, st49⟩ := AF.stB X46 hx hZ e46 G47 hi48 (g := (mkF m 240 #[.val (.ref a0), .val (.ref a1), .val (.int (1 : Int32)), .val (.int (1 : Int32)), .val (.int (97 : Int32))] [(.int (34 : Int32)), (.int (2 : Int32)), (.ref b10_b9_b1)])) rfl rfl (hb hby d7_240)
    have K49 : Keep h0 h49 [a0, w_bytes_a0] := K46.wr W49 (Or.inr sq_b10_b9_b1)
    obtain ⟨f50, hf50⟩ : ∃ f : Nat → Int32, f = (fun i => if i = 2 then ((34 : Int32).toInt8.toInt32) else f40 i) := ⟨_, rfl⟩
    have V49 : AF Z h49 b10_b9_b1 .byte ((own_nl n_w_bytes_a0 (0 : Int32) (3 : Int32))).toNatClampNeg (fun j => .int (f50 j)) := AF.cong A49 (own_updI rfl hf50)
    have N49 := Fr.snoc X49 N46 nw_b10_b9_b1
    obtain ⟨fs, hr, hrun, hended, hW, hsame⟩ := X49.leave (v := none) (fun _ => rfl)
    refine ⟨_, _, pre0 _ (ck3 _ ?_), hrun, hended, _, _, rfl, ?_, ⟨_, rfl⟩, hW, hsame.mono (by decide) (by decide)⟩
    · show Steps p.tables e below (T1.setTop (mkF m 9 #[.val (.ref a0), .val (.ref a1), .val (.int (1 : Int32)), .unset, .unset] [(.int (3 : Int32)), (.ref a0)])) _
      refine st10.trans ?_
      show Steps p.tables e below (T10.setTop (mkF m 12 #[.val (.ref a0), .val (.ref a1), .val (.int (1 : Int32)), .unset, .unset] [])) _
      refine XS.aloadN X10.here hx rfl (hb hby d7_12) rfl rfl ?_
      show Steps p.tables e below (T10.setTop (mkF m 13 #[.val (.ref a0), .val (.ref a1), .val (.int (1 : Int32)), .unset, .unset] [(.ref a0)])) _
      refine st16 _ ?_
      show Steps p.tables e below (T16.setTop (mkF m 16 #[.val (.ref a0), .val (.ref a1), .val (.int (1 : Int32)), .unset, .unset] [(.ref b10_b9_b1)])) _
      refine XS.aloadN X16.here hx rfl (hb hby d7_16) rfl rfl ?_
      show Steps p.tables e below (T16.setTop (mkF m 17 #[.val (.ref a0), .val (.ref a1), .val (.int (1 : Int32)), .unset, .unset] [(.ref a0), (.ref b10_b9_b1)])) _
      refine XS.dup X16.here hx rfl (hb hby d7_17) rfl rfl ?_
      show Steps p.tables e below (T16.setTop (mkF m 18 #[.val (.ref a0), .val (.ref a1), .val (.int (1 : Int32)), .unset, .unset] [(.ref a0), (.ref a0), (.ref b10_b9_b1)])) _
      refine st17 _ ?_
      show Steps p.tables e below (T17.setTop (mkF m 21 #[.val (.ref a0), .val (.ref a1), .val (.int (1 : Int32)), .unset, .unset] [(.int (0 : Int32)), (.ref a0), (.ref b10_b9_b1)])) _
      refine XS.dupX1 X17.here hx rfl (hb hby d7_21) rfl rfl rfl ?_
      show Steps p.tables e below (T17.setTop (mkF m 22 #[.val (.ref a0), .val (.ref a1), .val (.int (1 : Int32)), .unset, .unset] [(.int (0 : Int32)), (.ref a0), (.int (0 : Int32)), (.ref b10_b9_b1)])) _
      refine XS.iconst X17.here hx rfl (hb hby d7_22) ?_
      show Steps p.tables e below (T17.setTop (mkF m 23 #[.val (.ref a0), .val (.ref a1), .val (.int (1 : Int32)), .unset, .unset] [(.int (1 : Int32)), (.int (0 : Int32)), (.ref a0), (.int (0 : Int32)), (.ref b10_b9_b1)])) _
      refine XS.iadd X17.here hx rfl (hb hby d7_23) rfl ?_
      show Steps p.tables e below (T17.setTop (mkF m 24 #[.val (.ref a0), .val (.ref a1), .val (.int (1 : Int32)), .unset, .unset] [(.int (1 : Int32)), (.ref a0), (.int (0 : Int32)), (.ref b10_b9_b1)])) _
      refine st18 _ ?_
      show Steps p.tables e below (T18.setTop (mkF m 27 #[.val (.ref a0), .val (.ref a1), .val (.int (1 : Int32)), .unset, .unset] [(.int (0 : Int32)), (.ref b10_b9_b1)])) _
      refine XS.bipush X18.here hx rfl (hb hby d7_27) ?_
      show Steps p.tables e below (T18.setTop (mkF m 29 #[.val (.ref a0), .val (.ref a1), .val (.int (1 : Int32)), .unset, .unset] [(.int (34 : Int32)), (.int (0 : Int32)), (.ref b10_b9_b1)])) _
      refine st21 _ ?_
      show Steps p.tables e below (T21.setTop (mkF m 30 #[.val (.ref a0), .val (.ref a1), .val (.int (1 : Int32)), .unset, .unset] [])) _
      refine XS.iconst X21.here hx rfl (hb hby d7_30) ?_
      show Steps p.tables e below (T21.setTop (mkF m 31 #[.val (.ref a0), .val (.ref a1), .val (.int (1 : Int32)), .unset, .unset] [(.int (0 : Int32))])) _
      refine XS.istoreN X21.here hx rfl (hb hby d7_31) rfl (l' := #[.val (.ref a0), .val (.ref a1), .val (.int (1 : Int32)), .val (.int (0 : Int32)), .unset]) rfl ?_
      show Steps p.tables e below (T21.setTop (mkF m 32 #[.val (.ref a0), .val (.ref a1), .val (.int (1 : Int32)), .val (.int (0 : Int32)), .unset] [])) _
      refine XS.iloadN X21.here hx rfl (hb hby d7_32) rfl ?_
      show Steps p.tables e below (T21.setTop (mkF m 33 #[.val (.ref a0), .val (.ref a1), .val (.int (1 : Int32)), .val (.int (0 : Int32)), .unset] [(.int (0 : Int32))])) _
      refine XS.iloadN X21.here hx rfl (hb hby d7_33) rfl ?_
      show Steps p.tables e below (T21.setTop (mkF m 34 #[.val (.ref a0), .val (.ref a1), .val (.int (1 : Int32)), .val (.int (0 : Int32)), .unset] [(.int (1 : Int32)), (.int (0 : Int32))])) _
      refine XS.icmpNo X21.here hx rfl (hb hby d7_34) rfl (tlt (by decide)).2.1 ?_
      show Steps p.tables e below (T21.setTop (mkF m 37 #[.val (.ref a0), .val (.ref a1), .val (.int (1 : Int32)), .val (.int (0 : Int32)), .unset] [])) _
      refine XS.aloadN X21.here hx rfl (hb hby d7_37) rfl rfl ?_
      show Steps p.tables e below (T21.setTop (mkF m 38 #[.val (.ref a0), .val (.ref a1), .val (.int (1 : Int32)), .val (.int (0 : Int32)), .unset] [(.ref a1)])) _
      refine XS.iloadN X21.here hx rfl (hb hby d7_38) rfl ?_
      show Steps p.tables e below (T21.setTop (mkF m 39 #[.val (.ref a0), .val (.ref a1), .val (.int (1 : Int32)), .val (.int (0 : Int32)), .unset] [(.int (0 : Int32)), (.ref a1)])) _
      refine st29.trans ?_
      show Steps p.tables e below (T29.setTop (mkF m 42 #[.val (.ref a0), .val (.ref a1), .val (.int (1 : Int32)), .val (.int (0 : Int32)), .unset] [(.int (nar .char (nar .char (((g_w_value_a1 0) &&& (255 : Int32)).toUInt32.toUInt16.toUInt32.toInt32))))])) _
      refine castTop (g' := (mkF m 42 #[.val (.ref a0), .val (.ref a1), .val (.int (1 : Int32)), .val (.int (0 : Int32)), .unset] [(.int (97 : Int32))])) (by rw [hq30] <;> rfl) ?_
      show Steps p.tables e below (T29.setTop (mkF m 42 #[.val (.ref a0), .val (.ref a1), .val (.int (1 : Int32)), .val (.int (0 : Int32)), .unset] [(.int (97 : Int32))])) _
      refine XS.istore X29.here hx rfl (hb hby d7_42) rfl (l' := #[.val (.ref a0), .val (.ref a1), .val (.int (1 : Int32)), .val (.int (0 : Int32)), .val (.int (97 : Int32))]) rfl ?_
      show Steps p.tables e below (T29.setTop (mkF m 44 #[.val (.ref a0), .val (.ref a1), .val (.int (1 : Int32)), .val (.int (0 : Int32)), .val (.int (97 : Int32))] [])) _
      refine XS.iload X29.here hx rfl (hb hby d7_44) rfl ?_
      show Steps p.tables e below (T29.setTop (mkF m 46 #[.val (.ref a0), .val (.ref a1), .val (.int (1 : Int32)), .val (.int (0 : Int32)), .val (.int (97 : Int32))] [(.int (97 : Int32))])) _
      refine XS.bipush X29.here hx rfl (hb hby d7_46) ?_
      show Steps p.tables e below (T29.setTop (mkF m 48 #[.val (.ref a0), .val (.ref a1), .val (.int (1 : Int32)), .val (.int (0 : Int32)), .val (.int (97 : Int32))] [(.int (32 : Int32)), (.int (97 : Int32))])) _
      refine XS.icmpNo X29.here hx rfl (hb hby d7_48) rfl (flt (by decide)).1 ?_
      show Steps p.tables e below (T29.setTop (mkF m 51 #[.val (.ref a0), .val (.ref a1), .val (.int (1 : Int32)), .val (.int (0 : Int32)), .val (.int (97 : Int32))] [])) _
      refine XS.iload X29.here hx rfl (hb hby d7_51) rfl ?_
      show Steps p.tables e below (T29.setTop (mkF m 53 #[.val (.ref a0), .val (.ref a1), .val (.int (1 : Int32)), .val (.int (0 : Int32)), .val (.int (97 : Int32))] [(.int (97 : Int32))])) _
      refine XS.sipush X29.here hx rfl (hb hby d7_53) ?_
      show Steps p.tables e below (T29.setTop (mkF m 56 #[.val (.ref a0), .val (.ref a1), .val (.int (1 : Int32)), .val (.int (0 : Int32)), .val (.int (97 : Int32))] [(.int (128 : Int32)), (.int (97 : Int32))])) _
      refine XS.icmpNo X29.here hx rfl (hb hby d7_56) rfl (tlt (by decide)).2.1 ?_
      show Steps p.tables e below (T29.setTop (mkF m 59 #[.val (.ref a0), .val (.ref a1), .val (.int (1 : Int32)), .val (.int (0 : Int32)), .val (.int (97 : Int32))] [])) _
      refine XS.iload X29.here hx rfl (hb hby d7_59) rfl ?_
      show Steps p.tables e below (T29.setTop (mkF m 61 #[.val (.ref a0), .val (.ref a1), .val (.int (1 : Int32)), .val (.int (0 : Int32)), .val (.int (97 : Int32))] [(.int (97 : Int32))])) _
      refine XS.bipush X29.here hx rfl (hb hby d7_61) ?_
      show Steps p.tables e below (T29.setTop (mkF m 63 #[.val (.ref a0), .val (.ref a1), .val (.int (1 : Int32)), .val (.int (0 : Int32)), .val (.int (97 : Int32))] [(.int (34 : Int32)), (.int (97 : Int32))])) _
      refine XS.icmpNo X29.here hx rfl (hb hby d7_63) rfl (feq (by decide)).1 ?_
      show Steps p.tables e below (T29.setTop (mkF m 66 #[.val (.ref a0), .val (.ref a1), .val (.int (1 : Int32)), .val (.int (0 : Int32)), .val (.int (97 : Int32))] [])) _
      refine XS.iload X29.here hx rfl (hb hby d7_66) rfl ?_
      show Steps p.tables e below (T29.setTop (mkF m 68 #[.val (.ref a0), .val (.ref a1), .val (.int (1 : Int32)), .val (.int (0 : Int32)), .val (.int (97 : Int32))] [(.int (97 : Int32))])) _
      refine XS.bipush X29.here hx rfl (hb hby d7_68) ?_
      show Steps p.tables e below (T29.setTop (mkF m 70 #[.val (.ref a0), .val (.ref a1), .val (.int (1 : Int32)), .val (.int (0 : Int32)), .val (.int (97 : Int32))] [(.int (92 : Int32)), (.int (97 : Int32))])) _
      refine XS.icmpNo X29.here hx rfl (hb hby d7_70) rfl (feq (by decide)).1 ?_
      show Steps p.tables e below (T29.setTop (mkF m 73 #[.val (.ref a0), .val (.ref a1), .val (.int (1 : Int32)), .val (.int (0 : Int32)), .val (.int (97 : Int32))] [])) _
      refine XS.aloadN X29.here hx rfl (hb hby d7_73) rfl rfl ?_
      show Steps p.tables e below (T29.setTop (mkF m 74 #[.val (.ref a0), .val (.ref a1), .val (.int (1 : Int32)), .val (.int (0 : Int32)), .val (.int (97 : Int32))] [(.ref a0)])) _
      refine st32 _ ?_
      show Steps p.tables e below (T32.setTop (mkF m 77 #[.val (.ref a0), .val (.ref a1), .val (.int (1 : Int32)), .val (.int (0 : Int32)), .val (.int (97 : Int32))] [(.ref b10_b9_b1)])) _
      refine XS.aloadN X32.here hx rfl (hb hby d7_77) rfl rfl ?_
      show Steps p.tables e below (T32.setTop (mkF m 78 #[.val (.ref a0), .val (.ref a1), .val (.int (1 : Int32)), .val (.int (0 : Int32)), .val (.int (97 : Int32))] [(.ref a0), (.ref b10_b9_b1)])) _
      refine XS.dup X32.here hx rfl (hb hby d7_78) rfl rfl ?_
      show Steps p.tables e below (T32.setTop (mkF m 79 #[.val (.ref a0), .val (.ref a1), .val (.int (1 : Int32)), .val (.int (0 : Int32)), .val (.int (97 : Int32))] [(.ref a0), (.ref a0), (.ref b10_b9_b1)])) _
      refine st34 _ ?_
      show Steps p.tables e below (T34.setTop (mkF m 82 #[.val (.ref a0), .val (.ref a1), .val (.int (1 : Int32)), .val (.int (0 : Int32)), .val (.int (97 : Int32))] [(.int (1 : Int32)), (.ref a0), (.ref b10_b9_b1)])) _
      refine XS.dupX1 X34.here hx rfl (hb hby d7_82) rfl rfl rfl ?_
      show Steps p.tables e below (T34.setTop (mkF m 83 #[.val (.ref a0), .val (.ref a1), .val (.int (1 : Int32)), .val (.int (0 : Int32)), .val (.int (97 : Int32))] [(.int (1 : Int32)), (.ref a0), (.int (1 : Int32)), (.ref b10_b9_b1)])) _
      refine XS.iconst X34.here hx rfl (hb hby d7_83) ?_
      show Steps p.tables e below (T34.setTop (mkF m 84 #[.val (.ref a0), .val (.ref a1), .val (.int (1 : Int32)), .val (.int (0 : Int32)), .val (.int (97 : Int32))] [(.int (1 : Int32)), (.int (1 : Int32)), (.ref a0), (.int (1 : Int32)), (.ref b10_b9_b1)])) _
      refine XS.iadd X34.here hx rfl (hb hby d7_84) rfl ?_
      show Steps p.tables e below (T34.setTop (mkF m 85 #[.val (.ref a0), .val (.ref a1), .val (.int (1 : Int32)), .val (.int (0 : Int32)), .val (.int (97 : Int32))] [(.int (2 : Int32)), (.ref a0), (.int (1 : Int32)), (.ref b10_b9_b1)])) _
      refine st36 _ ?_
      show Steps p.tables e below (T36.setTop (mkF m 88 #[.val (.ref a0), .val (.ref a1), .val (.int (1 : Int32)), .val (.int (0 : Int32)), .val (.int (97 : Int32))] [(.int (1 : Int32)), (.ref b10_b9_b1)])) _
      refine XS.iload X36.here hx rfl (hb hby d7_88) rfl ?_
      show Steps p.tables e below (T36.setTop (mkF m 90 #[.val (.ref a0), .val (.ref a1), .val (.int (1 : Int32)), .val (.int (0 : Int32)), .val (.int (97 : Int32))] [(.int (97 : Int32)), (.int (1 : Int32)), (.ref b10_b9_b1)])) _
      refine XS.i2b X36.here hx rfl (hb hby d7_90) rfl ?_
      show Steps p.tables e below (T36.setTop (mkF m 91 #[.val (.ref a0), .val (.ref a1), .val (.int (1 : Int32)), .val (.int (0 : Int32)), .val (.int (97 : Int32))] [(.int ((97 : Int32).toInt8.toInt32)), (.int (1 : Int32)), (.ref b10_b9_b1)])) _
      refine st39 _ ?_
      show Steps p.tables e below (T39.setTop (mkF m 92 #[.val (.ref a0), .val (.ref a1), .val (.int (1 : Int32)), .val (.int (0 : Int32)), .val (.int (97 : Int32))] [])) _
      refine XS.goto X39.here hx rfl (pc0 := 92) (pc' := 217) rfl (hb hby d7_92) (by decide) (by decide) ?_
      show Steps p.tables e below (T39.setTop (mkF m 217 #[.val (.ref a0), .val (.ref a1), .val (.int (1 : Int32)), .val (.int (0 : Int32)), .val (.int (97 : Int32))] [])) _
      refine XS.iinc X39.here hx rfl (hb hby d7_217) rfl (l' := #[.val (.ref a0), .val (.ref a1), .val (.int (1 : Int32)), .val (.int (1 : Int32)), .val (.int (97 : Int32))]) rfl ?_
      show Steps p.tables e below (T39.setTop (mkF m 220 #[.val (.ref a0), .val (.ref a1), .val (.int (1 : Int32)), .val (.int (1 : Int32)), .val (.int (97 : Int32))] [])) _
      refine XS.goto X39.here hx rfl (pc0 := 220) (pc' := 32) rfl (hb hby d7_220) (by decide) (by decide) ?_
      show Steps p.tables e below (T39.setTop (mkF m 32 #[.val (.ref a0), .val (.ref a1), .val (.int (1 : Int32)), .val (.int (1 : Int32)), .val (.int (97 : Int32))] [])) _
      refine XS.iloadN X39.here hx rfl (hb hby d7_32) rfl ?_
      show Steps p.tables e below (T39.setTop (mkF m 33 #[.val (.ref a0), .val (.ref a1), .val (.int (1 : Int32)), .val (.int (1 : Int32)), .val (.int (97 : Int32))] [(.int (1 : Int32))])) _
      refine XS.iloadN X39.here hx rfl (hb hby d7_33) rfl ?_
      show Steps p.tables e below (T39.setTop (mkF m 34 #[.val (.ref a0), .val (.ref a1), .val (.int (1 : Int32)), .val (.int (1 : Int32)), .val (.int (97 : Int32))] [(.int (1 : Int32)), (.int (1 : Int32))])) _
      refine XS.icmpYes X39.here hx rfl (pc0 := 34) (pc' := 223) rfl (hb hby d7_34) rfl (flt (by decide)).2.1 (by decide) (by decide) ?_
      show Steps p.tables e below (T39.setTop (mkF m 223 #[.val (.ref a0), .val (.ref a1), .val (.int (1 : Int32)), .val (.int (1 : Int32)), .val (.int (97 : Int32))] [])) _
      refine XS.aloadN X39.here hx rfl (hb hby d7_223) rfl rfl ?_
      show Steps p.tables e below (T39.setTop (mkF m 224 #[.val (.ref a0), .val (.ref a1), .val (.int (1 : Int32)), .val (.int (1 : Int32)), .val (.int (97 : Int32))] [(.ref a0)])) _
      refine st42 _ ?_
      show Steps p.tables e below (T42.setTop (mkF m 227 #[.val (.ref a0), .val (.ref a1), .val (.int (1 : Int32)), .val (.int (1 : Int32)), .val (.int (97 : Int32))] [(.ref b10_b9_b1)])) _
      refine XS.aloadN X42.here hx rfl (hb hby d7_227) rfl rfl ?_
      show Steps p.tables e below (T42.setTop (mkF m 228 #[.val (.ref a0), .val (.ref a1), .val (.int (1 : Int32)), .val (.int (1 : Int32)), .val (.int (97 : Int32))] [(.ref a0), (.ref b10_b9_b1)])) _
      refine XS.dup X42.here hx rfl (hb hby d7_228) rfl rfl ?_
      show Steps p.tables e below (T42.setTop (mkF m 229 #[.val (.ref a0), .val (.ref a1), .val (.int (1 : Int32)), .val (.int (1 : Int32)), .val (.int (97 : Int32))] [(.ref a0), (.ref a0), (.ref b10_b9_b1)])) _
      refine st44 _ ?_
      show Steps p.tables e below (T44.setTop (mkF m 232 #[.val (.ref a0), .val (.ref a1), .val (.int (1 : Int32)), .val (.int (1 : Int32)), .val (.int (97 : Int32))] [(.int (2 : Int32)), (.ref a0), (.ref b10_b9_b1)])) _
      refine XS.dupX1 X44.here hx rfl (hb hby d7_232) rfl rfl rfl ?_
      show Steps p.tables e below (T44.setTop (mkF m 233 #[.val (.ref a0), .val (.ref a1), .val (.int (1 : Int32)), .val (.int (1 : Int32)), .val (.int (97 : Int32))] [(.int (2 : Int32)), (.ref a0), (.int (2 : Int32)), (.ref b10_b9_b1)])) _
      refine XS.iconst X44.here hx rfl (hb hby d7_233) ?_
      show Steps p.tables e below (T44.setTop (mkF m 234 #[.val (.ref a0), .val (.ref a1), .val (.int (1 : Int32)), .val (.int (1 : Int32)), .val (.int (97 : Int32))] [(.int (1 : Int32)), (.int (2 : Int32)), (.ref a0), (.int (2 : Int32)), (.ref b10_b9_b1)])) _
      refine XS.iadd X44.here hx rfl (hb hby d7_234) rfl ?_
      show Steps p.tables e below (T44.setTop (mkF m 235 #[.val (.ref a0), .val (.ref a1), .val (.int (1 : Int32)), .val (.int (1 : Int32)), .val (.int (97 : Int32))] [(.int (3 : Int32)), (.ref a0), (.int (2 : Int32)), (.ref b10_b9_b1)])) _
      refine st46 _ ?_
      show Steps p.tables e below (T46.setTop (mkF m 238 #[.val (.ref a0), .val (.ref a1), .val (.int (1 : Int32)), .val (.int (1 : Int32)), .val (.int (97 : Int32))] [(.int (2 : Int32)), (.ref b10_b9_b1)])) _
      refine XS.bipush X46.here hx rfl (hb hby d7_238) ?_
      show Steps p.tables e below (T46.setTop (mkF m 240 #[.val (.ref a0), .val (.ref a1), .val (.int (1 : Int32)), .val (.int (1 : Int32)), .val (.int (97 : Int32))] [(.int (34 : Int32)), (.int (2 : Int32)), (.ref b10_b9_b1)])) _
      refine st49 _ ?_
      show Steps p.tables e below (T49.setTop (mkF m 241 #[.val (.ref a0), .val (.ref a1), .val (.int (1 : Int32)), .val (.int (1 : Int32)), .val (.int (97 : Int32))] [])) _
      exact X49.returnOut hx Bd.returns (hb hby d7_241) hr
    have G51 : Fld Z h49 a0 "com/example/commitlog/commitlog/codec/JsonWriter" "bytes" "[B" (.ref b10_b9_b1) := ((G41.other W46 (Or.inr (slot_ne (Or.inl (hw _ (List.mem_of_getElem? (i := 12) rfl))) (Or.inl (hw _ (List.mem_of_getElem? (i := 24) rfl))) (by decide) (t := (.array .byte)) (t' := .int) (by decide) (by decide)))).other W49 (Or.inl ne_a0_b10_b9_b1))
    have G52 : Fld Z h49 a0 "com/example/commitlog/commitlog/codec/JsonWriter" "length" "I" (.int (3 : Int32)) := (Fw46.other W49 (Or.inl ne_a0_b10_b9_b1))
    have G53 : Fld Z h49 a0 "com/example/commitlog/commitlog/codec/JsonWriter" "afterValue" "Z" (.int w_afterValue_a0) := ((((((P14.other W18 (Or.inr (slot_ne (Or.inl (hw _ (List.mem_of_getElem? (i := 26) rfl))) (Or.inl (hw _ (List.mem_of_getElem? (i := 24) rfl))) (by decide) (t := .boolean) (t' := .int) (by decide) (by decide)))).other W21 (Or.inl ne_a0_b10_b9_b1)).other W36 (Or.inr (slot_ne (Or.inl (hw _ (List.mem_of_getElem? (i := 26) rfl))) (Or.inl (hw _ (List.mem_of_getElem? (i := 24) rfl))) (by decide) (t := .boolean) (t' := .int) (by decide) (by decide)))).other W39 (Or.inl ne_a0_b10_b9_b1)).other W46 (Or.inr (slot_ne (Or.inl (hw _ (List.mem_of_getElem? (i := 26) rfl))) (Or.inl (hw _ (List.mem_of_getElem? (i := 24) rfl))) (by decide) (t := .boolean) (t' := .int) (by decide) (by decide)))).other W49 (Or.inl ne_a0_b10_b9_b1))
    · show Q7 Z a0 a1 w_bytes_a0 w_afterValue_a0 w_value_a1 g_w_value_a1 s_COMPACT_STRINGS n_w_bytes_a0 g_w_bytes_a0 s_SIOOBE_FORMATTER h0 n0 _ T49.heap _
      rw [e49]
      exact ⟨b10_b9_b1, ((own_nl n_w_bytes_a0 (0 : Int32) (3 : Int32))).toNatClampNeg, f50, rfl, N49, K49, Or.inr sq_b10_b9_b1, nw_b10_b9_b1, ne_a0_b10_b9_b1, G51, G52, G53, V49, (by rw [hf50]; exact own_Bset (by rw [hf40]; exact own_Bset (by rw [hf22]; exact own_Bset (own_Bcpy hB n_w_bytes_a0) _ _) _ _) _ _), hN2.1, hN2.2, (by rw [hf50, hf40, hf22]; rfl), (by rw [hf50, hf40, hf22]; rfl), (by rw [hf50, hf40, hf22]; rfl)⟩
  · have hp54 : ¬ (((Int32.ofNat n_w_bytes_a0) - (0 : Int32)) < (3 : Int32)) := hs
    obtain ⟨cq55, q55, q55'⟩ := E_a0.cell
    obtain ⟨_, _, ⟨T55, L55, k55, n55⟩, -, X55, ⟨Lc55, hQ55, l55, y55, z55⟩, st55⟩ := X1.privateBack hx (y := (⟨"com/example/commitlog/commitlog/codec/JsonWriter", "room", "(I)V"⟩ : MethodName)) hown (mvT hZ (hw _ (List.mem_of_getElem? (i := 61) rfl))) (mvT hZ (hw _ (List.mem_of_getElem? (i := 62) rfl))) (own_selp (mvT hZ (hw _ (List.mem_of_getElem? (i := 2) rfl))) (Cond.privateMethod_at (mvP hZ (hw _ (List.mem_of_getElem? (i := 63) rfl)) (args := #[]))) (mvT hZ (hw _ (List.mem_of_getElem? (i := 62) rfl))) (by decide)) (Cond.privateMethod_at (mvP hZ (hw _ (List.mem_of_getElem? (i := 63) rfl)) (args := #[]))) (mvT hZ (hw _ (List.mem_of_getElem? (i := 64) rfl))) (by decide) (backOf (W := 0) (rm10k l Z A0 hw [] a0 (3 : Int32) w_bytes_a0 (0 : Int32) w_afterValue_a0 n_w_bytes_a0 g_w_bytes_a0 h0 n0 (Nat.le_trans Z0 (Keep.refl h0 [a0, w_bytes_a0]).1) E_a0 F_bytes_a0 F_length_a0 F_afterValue_a0 A_w_bytes_a0 hp54) hZ (hw _ (List.mem_of_getElem? (i := 64) rfl)) (hw _ (List.mem_of_getElem? (i := 3) rfl)) (by decide) (by decide)) (g := (mkF m 9 #[.val (.ref a0), .val (.ref a1), .val (.int (1 : Int32)), .unset, .unset] [(.int (3 : Int32)), (.ref a0)])) rfl (by rw [hml]; rfl) (Steps.refl _) (a := a0) (by rw [e1]; exact q55) q55' (argsL := [(.int (3 : Int32))]) (rest := []) (lenOf pd_0 rfl) rfl (by show 2 * 0 + _ ≤ _; exact Nat.le_of_eq rfl) (hb hby d7_9) (fun _ _ => ⟨rfl, e1, (by decide : 0 + 0 ≤ _), (by decide : 0 + 0 ≤ _)⟩)
    dsimp only [Pt.U, Pt.locs, Pt.cells, Pt.slots] at X55 l55 y55 z55 st55 hQ55
    subst l55 y55 z55
    obtain ⟨rfl, N55q, e55⟩ := hQ55
    have N55 := Fr.app N1 N55q
    have hN2 : 3 ≤ n_w_bytes_a0 ∧ n_w_bytes_a0 ≤ 40 := by have q2 : ¬ ((n_w_bytes_a0 : Int) < (3 : Int32).toInt) := fun z => hs ((own_rV n_w_bytes_a0 (by omega) (3 : Int32)).mpr z); have k := own_3; omega
    obtain ⟨T56, X56, e56, st56⟩ := getF X55 hx hZ hown (host := "") (Or.inl (hw _ (List.mem_of_getElem? (i := 11) rfl))) Via.refl e55 F_bytes_a0 (g := (mkF m 13 #[.val (.ref a0), .val (.ref a1), .val (.int (1 : Int32)), .unset, .unset] [(.ref a0)])) rfl rfl (hb hby d7_13)
    obtain ⟨T57, X57, e57, st57⟩ := getF X56 hx hZ hown (host := "") (Or.inl (hw _ (List.mem_of_getElem? (i := 23) rfl))) Via.refl e56 F_length_a0 (g := (mkF m 18 #[.val (.ref a0), .val (.ref a1), .val (.int (1 : Int32)), .unset, .unset] [(.ref a0), (.ref a0), (.ref w_bytes_a0)])) rfl rfl (hb hby d7_18)
    obtain ⟨T58, h58, X58, e58, W58, st58⟩ := putF X57 hx hZ hown (host := "") (Or.inl (hw _ (List.mem_of_getElem? (i := 23) rfl))) Via.refl e57 F_length_a0 E_a0 (Or.inl (hw _ (List.mem_of_getElem? (i := 24) rfl))) (hw _ (List.mem_of_getElem? (i := 2) rfl)) (ty := .int) (by decide) rfl rfl (g := (mkF m 24 #[.val (.ref a0), .val (.ref a1), .val (.int (1 : Int32)), .unset, .unset] [(.int (1 : Int32)), (.ref a0), (.int (0 : Int32)), (.ref w_bytes_a0)])) rfl rfl (hb hby d7_24)
    have K58 : Keep h0 h58 [a0, w_bytes_a0] := (Keep.refl h0 [a0, w_bytes_a0]).wr W58 (Or.inl (by simp))
    have Fw58 : Fld Z h58 a0 "com/example/commitlog/commitlog/codec/JsonWriter" "length" "I" (.int (1 : Int32)) := F_length_a0.same W58
    have N58 := Fr.snoc X58 N55 nw_a0
    have G59 : AF Z h58 w_bytes_a0 .byte n_w_bytes_a0 (fun j => .int (g_w_bytes_a0 j)) := (A_w_bytes_a0.other W58 (Ne.symm ne_a0_w_bytes_a0))
    have hi60 : own_in (0 : Int32) n_w_bytes_a0 := ⟨by decide, by have k : (0 : Int32).toInt = 0 := (by decide); omega⟩
    obtain ⟨T61, h61, X61, e61, W61, A61, st61⟩ := AF.stB X58 hx hZ e58 G59 hi60 (g := (mkF m 29 #[.val (.ref a0), .val (.ref a1), .val (.int (1 : Int32)), .unset, .unset] [(.int (34 : Int32)), (.int (0 : Int32)), (.ref w_bytes_a0)])) rfl rfl (hb hby d7_29)
    have K61 : Keep h0 h61 [a0, w_bytes_a0] := K58.wr W61 (Or.inl (by simp))
    obtain ⟨f62, hf62⟩ : ∃ f : Nat → Int32, f = (fun i => if i = 0 then ((34 : Int32).toInt8.toInt32) else g_w_bytes_a0 i) := ⟨_, rfl⟩
    have V61 : AF Z h61 w_bytes_a0 .byte n_w_bytes_a0 (fun j => .int (f62 j)) := AF.cong A61 (own_updI rfl hf62)
    have N61 := Fr.snoc X61 N58 nw_w_bytes_a0
    have G63 : Exa Z h61 a1 "java/lang/String" := ((E_a1.wr W58).wr W61)
    have G64 : Fld Z h61 a1 "java/lang/String" "value" "[B" (.ref w_value_a1) := ((F_value_a1.other W58 (Or.inl (Ne.symm ne_a0_a1))).other W61 (Or.inl ne_a1_w_bytes_a0))
    have G65 : Fld Z h61 a1 "java/lang/String" "coder" "B" (.int (0 : Int32)) := ((F_coder_a1.other W58 (Or.inl (Ne.symm ne_a0_a1))).other W61 (Or.inl ne_a1_w_bytes_a0))
    have G66 : SO Z n0 h61 "java/lang/String" "COMPACT_STRINGS" "Z" (.int s_COMPACT_STRINGS) := ((S_COMPACT_STRINGS.wr W58 nw_a0).wr W61 nw_w_bytes_a0)
    have G67 : AF Z h61 w_value_a1 .byte 1 (fun j => .int (g_w_value_a1 j)) := ((A_w_value_a1.other W58 (Ne.symm ne_a0_w_value_a1)).other W61 (Ne.symm ne_w_bytes_a0_w_value_a1))
    have G68 : SO Z n0 h61 "jdk/internal/util/Preconditions" "SIOOBE_FORMATTER" "Ljava/util/function/BiFunction;" s_SIOOBE_FORMATTER := ((S_SIOOBE_FORMATTER.wr W58 nw_a0).wr W61 nw_w_bytes_a0)
    obtain ⟨cq69, kq69, q69a, q69b, q69c⟩ := isOf hZ e61 G63
    obtain ⟨_, _, ⟨T69, L69, k69, n69⟩, -, X69, ⟨Lc69, hQ69, l69, y69, z69⟩, st69⟩ := X61.virtualBack hx (y := (⟨"java/lang/String", "charAt", "(I)C"⟩ : MethodName)) (z := (⟨"java/lang/String", "charAt", "(I)C"⟩ : MethodName)) hown (mvT hZ (hw _ (List.mem_of_getElem? (i := 85) rfl))) (mvT hZ (hw _ (List.mem_of_getElem? (i := 86) rfl))) (notFace_of_selects (args := #[]) (mvT hZ (hw _ (List.mem_of_getElem? (i := 88) rfl)))) (mvT hZ (hw _ (List.mem_of_getElem? (i := 88) rfl))) (mvT hZ (hw _ (List.mem_of_getElem? (i := 87) rfl))) (by decide) (backOf (W := 0) (rm15 l Z A0 hw [] a1 w_value_a1 s_COMPACT_STRINGS g_w_value_a1 s_SIOOBE_FORMATTER h61 n0 (Nat.le_trans Z0 K61.1) G63 G64 G65 G66 G67 G68 hc3_1_39 rf_s_SIOOBE_FORMATTER_39 rf_s_SIOOBE_FORMATTER_12_39 rf_s_SIOOBE_FORMATTER_3_12_39) hZ (hw _ (List.mem_of_getElem? (i := 89) rfl)) (hw _ (List.mem_of_getElem? (i := 33) rfl)) (by decide) (by decide)) q69a q69c (g := (mkF m 39 #[.val (.ref a0), .val (.ref a1), .val (.int (1 : Int32)), .val (.int (0 : Int32)), .unset] [(.int (0 : Int32)), (.ref a1)])) rfl (by rw [hml]; rfl) (Steps.refl _) (argsL := [(.int (0 : Int32))]) (rest := []) (lenOf pd_12 rfl) rfl (by show 2 * 0 + _ ≤ _; exact Nat.le_of_eq rfl) (hb hby d7_39) (fun _ _ => ⟨rfl, e61, (by decide : 0 + 0 ≤ _), (by decide : 0 + 0 ≤ _)⟩)
    dsimp only [Pt.U, Pt.locs, Pt.cells, Pt.slots] at X69 l69 y69 z69 st69 hQ69
    subst l69 y69 z69
    obtain ⟨rfl, N69q, e69⟩ := hQ69
    have N69 := Fr.app N61 N69q
    have hq70 : (nar .char (nar .char (((g_w_value_a1 0) &&& (255 : Int32)).toUInt32.toUInt16.toUInt32.toInt32))) = (97 : Int32) := (by rw [hch]; decide)
    have G71 : Fld Z h61 a0 "com/example/commitlog/commitlog/codec/JsonWriter" "bytes" "[B" (.ref w_bytes_a0) := ((F_bytes_a0.other W58 (Or.inr (slot_ne (Or.inl (hw _ (List.mem_of_getElem? (i := 12) rfl))) (Or.inl (hw _ (List.mem_of_getElem? (i := 24) rfl))) (by decide) (t := (.array .byte)) (t' := .int) (by decide) (by decide)))).other W61 (Or.inl ne_a0_w_bytes_a0))
    obtain ⟨T72, X72, e72, st72⟩ := getF X69 hx hZ hown (host := "") (Or.inl (hw _ (List.mem_of_getElem? (i := 11) rfl))) Via.refl e69 G71 (g := (mkF m 74 #[.val (.ref a0), .val (.ref a1), .val (.int (1 : Int32)), .val (.int (0 : Int32)), .val (.int (97 : Int32))] [(.ref a0)])) rfl rfl (hb hby d7_74)
    have G73 : Fld Z h61 a0 "com/example/commitlog/commitlog/codec/JsonWriter" "length" "I" (.int (1 : Int32)) := (Fw58.other W61 (Or.inl ne_a0_w_bytes_a0))
    obtain ⟨T74, X74, e74, st74⟩ := getF X72 hx hZ hown (host := "") (Or.inl (hw _ (List.mem_of_getElem? (i := 23) rfl))) Via.refl e72 G73 (g := (mkF m 79 #[.val (.ref a0), .val (.ref a1), .val (.int (1 : Int32)), .val (.int (0 : Int32)), .val (.int (97 : Int32))] [(.ref a0), (.ref a0), (.ref w_bytes_a0)])) rfl rfl (hb hby d7_79)
    have G75 : Exa Z h61 a0 "com/example/commitlog/commitlog/codec/JsonWriter" := ((E_a0.wr W58).wr W61)
    obtain ⟨T76, h76, X76, e76, W76, st76⟩ := putF X74 hx hZ hown (host := "") (Or.inl (hw _ (List.mem_of_getElem? (i := 23) rfl))) Via.refl e74 G73 G75 (Or.inl (hw _ (List.mem_of_getElem? (i := 24) rfl))) (hw _ (List.mem_of_getElem? (i := 2) rfl)) (ty := .int) (by decide) rfl rfl (g := (mkF m 85 #[.val (.ref a0), .val (.ref a1), .val (.int (1 : Int32)), .val (.int (0 : Int32)), .val (.int (97 : Int32))] [(.int (2 : Int32)), (.ref a0), (.int (1 : Int32)), (.ref w_bytes_a0)])) rfl rfl (hb hby d7_85)
    have K76 : Keep h0 h76 [a0, w_bytes_a0] := K61.wr W76 (Or.inl (by simp))
    have Fw76 : Fld Z h76 a0 "com/example/commitlog/commitlog/codec/JsonWriter" "length" "I" (.int (2 : Int32)) := G73.same W76
    have N76 := Fr.snoc X76 N69 nw_a0
    have G77 : AF Z h76 w_bytes_a0 .byte n_w_bytes_a0 (fun j => .int (f62 j)) := (V61.other W76 (Ne.symm ne_a0_w_bytes_a0))
    have hi78 : own_in (1 : Int32) n_w_bytes_a0 := ⟨by decide, by have k : (1 : Int32).toInt = 1 := (by decide); omega⟩
    obtain ⟨T79, h79, X79, e79, W79, A79, st79⟩ := AF.stB X76 hx hZ e76 G77 hi78 (g := (mkF m 91 #[.val (.ref a0), .val (.ref a1), .val (.int (1 : Int32)), .val (.int (0 : Int32)), .val (.int (97 : Int32))] [(.int ((97 : Int32).toInt8.toInt32)), (.int (1 : Int32)), (.ref w_bytes_a0)])) rfl rfl (hb hby d7_91)
    have K79 : Keep h0 h79 [a0, w_bytes_a0] := K76.wr W79 (Or.inl (by simp))
    obtain ⟨f80, hf80⟩ : ∃ f : Nat → Int32, f = (fun i => if i = 1 then (((97 : Int32).toInt8.toInt32).toInt8.toInt32) else f62 i) := ⟨_, rfl⟩
    have V79 : AF Z h79 w_bytes_a0 .byte n_w_bytes_a0 (fun j => .int (f80 j)) := AF.cong A79 (own_updI rfl hf80)
    have N79 := Fr.snoc X79 N76 nw_w_bytes_a0
    have G81 : Fld Z h79 a0 "com/example/commitlog/commitlog/codec/JsonWriter" "bytes" "[B" (.ref w_bytes_a0) := ((G71.other W76 (Or.inr (slot_ne (Or.inl (hw _ (List.mem_of_getElem? (i := 12) rfl))) (Or.inl (hw _ (List.mem_of_getElem? (i := 24) rfl))) (by decide) (t := (.array .byte)) (t' := .int) (by decide) (by decide)))).other W79 (Or.inl ne_a0_w_bytes_a0))
    obtain ⟨T82, X82, e82, st82⟩ := getF X79 hx hZ hown (host := "") (Or.inl (hw _ (List.mem_of_getElem? (i := 11) rfl))) Via.refl e79 G81 (g := (mkF m 224 #[.val (.ref a0), .val (.ref a1), .val (.int (1 : Int32)), .val (.int (1 : Int32)), .val (.int (97 : Int32))] [(.ref a0)])) rfl rfl (hb hby d7_224)
    have G83 : Fld Z h79 a0 "com/example/commitlog/commitlog/codec/JsonWriter" "length" "I" (.int (2 : Int32)) := (Fw76.other W79 (Or.inl ne_a0_w_bytes_a0))
    obtain ⟨T84, X84, e84, st84⟩ := getF X82 hx hZ hown (host := "") (Or.inl (hw _ (List.mem_of_getElem? (i := 23) rfl))) Via.refl e82 G83 (g := (mkF m 229 #[.val (.ref a0), .val (.ref a1), .val (.int (1 : Int32)), .val (.int (1 : Int32)), .val (.int (97 : Int32))] [(.ref a0), (.ref a0), (.ref w_bytes_a0)])) rfl rfl (hb hby d7_229)
    have G85 : Exa Z h79 a0 "com/example/commitlog/commitlog/codec/JsonWriter" := ((G75.wr W76).wr W79)
    obtain ⟨T86, h86, X86, e86, W86, st86⟩ := putF X84 hx hZ hown (host := "") (Or.inl (hw _ (List.mem_of_getElem? (i := 23) rfl))) Via.refl e84 G83 G85 (Or.inl (hw _ (List.mem_of_getElem? (i := 24) rfl))) (hw _ (List.mem_of_getElem? (i := 2) rfl)) (ty := .int) (by decide) rfl rfl (g := (mkF m 235 #[.val (.ref a0), .val (.ref a1), .val (.int (1 : Int32)), .val (.int (1 : Int32)), .val (.int (97 : Int32))] [(.int (3 : Int32)), (.ref a0), (.int (2 : Int32)), (.ref w_bytes_a0)])) rfl rfl (hb hby d7_235)
    have K86 : Keep h0 h86 [a0, w_bytes_a0] := K79.wr W86 (Or.inl (by simp))
    have Fw86 : Fld Z h86 a0 "com/example/commitlog/commitlog/codec/JsonWriter" "length" "I" (.int (3 : Int32)) := G83.same W86
    have N86 := Fr.snoc X86 N79 nw_a0
    have G87 : AF Z h86 w_bytes_a0 .byte n_w_bytes_a0 (fun j => .int (f80 j)) := (V79.other W86 (Ne.symm ne_a0_w_bytes_a0))
    have hi88 : own_in (2 : Int32) n_w_bytes_a0 := ⟨by decide, by have k : (2 : Int32).toInt = 2 := (by decide); omega⟩
    obtain ⟨T89, h89, X89, e89, W89, A89, st89⟩ := AF.stB X86 hx hZ e86 G87 hi88 (g := (mkF m 240 #[.val (.ref a0), .val (.ref a1), .val (.int (1 : Int32)), .val (.int (1 : Int32)), .val (.int (97 : Int32))] [(.int (34 : Int32)), (.int (2 : Int32)), (.ref w_bytes_a0)])) rfl rfl (hb hby d7_240)
    have K89 : Keep h0 h89 [a0, w_bytes_a0] := K86.wr W89 (Or.inl (by simp))
    obtain ⟨f90, hf90⟩ : ∃ f : Nat → Int32, f = (fun i => if i = 2 then ((34 : Int32).toInt8.toInt32) else f80 i) := ⟨_, rfl⟩
    have V89 : AF Z h89 w_bytes_a0 .byte n_w_bytes_a0 (fun j => .int (f90 j)) := AF.cong A89 (own_updI rfl hf90)
    have N89 := Fr.snoc X89 N86 nw_w_bytes_a0
    obtain ⟨fs, hr, hrun, hended, hW, hsame⟩ := X89.leave (v := none) (fun _ => rfl)
    refine ⟨_, _, pre0 _ (ck3 _ ?_), hrun, hended, _, _, rfl, ?_, ⟨_, rfl⟩, hW, hsame.mono (by decide) (by decide)⟩
    · show Steps p.tables e below (T1.setTop (mkF m 9 #[.val (.ref a0), .val (.ref a1), .val (.int (1 : Int32)), .unset, .unset] [(.int (3 : Int32)), (.ref a0)])) _
      refine st55.trans ?_
      show Steps p.tables e below (T55.setTop (mkF m 12 #[.val (.ref a0), .val (.ref a1), .val (.int (1 : Int32)), .unset, .unset] [])) _
      refine XS.aloadN X55.here hx rfl (hb hby d7_12) rfl rfl ?_
      show Steps p.tables e below (T55.setTop (mkF m 13 #[.val (.ref a0), .val (.ref a1), .val (.int (1 : Int32)), .unset, .unset] [(.ref a0)])) _
      refine st56 _ ?_
      show Steps p.tables e below (T56.setTop (mkF m 16 #[.val (.ref a0), .val (.ref a1), .val (.int (1 : Int32)), .unset, .unset] [(.ref w_bytes_a0)])) _
      refine XS.aloadN X56.here hx rfl (hb hby d7_16) rfl rfl ?_
      show Steps p.tables e below (T56.setTop (mkF m 17 #[.val (.ref a0), .val (.ref a1), .val (.int (1 : Int32)), .unset, .unset] [(.ref a0), (.ref w_bytes_a0)])) _
      refine XS.dup X56.here hx rfl (hb hby d7_17) rfl rfl ?_
      show Steps p.tables e below (T56.setTop (mkF m 18 #[.val (.ref a0), .val (.ref a1), .val (.int (1 : Int32)), .unset, .unset] [(.ref a0), (.ref a0), (.ref w_bytes_a0)])) _
      refine st57 _ ?_
      show Steps p.tables e below (T57.setTop (mkF m 21 #[.val (.ref a0), .val (.ref a1), .val (.int (1 : Int32)), .unset, .unset] [(.int (0 : Int32)), (.ref a0), (.ref w_bytes_a0)])) _
      refine XS.dupX1 X57.here hx rfl (hb hby d7_21) rfl rfl rfl ?_
      show Steps p.tables e below (T57.setTop (mkF m 22 #[.val (.ref a0), .val (.ref a1), .val (.int (1 : Int32)), .unset, .unset] [(.int (0 : Int32)), (.ref a0), (.int (0 : Int32)), (.ref w_bytes_a0)])) _
      refine XS.iconst X57.here hx rfl (hb hby d7_22) ?_
      show Steps p.tables e below (T57.setTop (mkF m 23 #[.val (.ref a0), .val (.ref a1), .val (.int (1 : Int32)), .unset, .unset] [(.int (1 : Int32)), (.int (0 : Int32)), (.ref a0), (.int (0 : Int32)), (.ref w_bytes_a0)])) _
      refine XS.iadd X57.here hx rfl (hb hby d7_23) rfl ?_
      show Steps p.tables e below (T57.setTop (mkF m 24 #[.val (.ref a0), .val (.ref a1), .val (.int (1 : Int32)), .unset, .unset] [(.int (1 : Int32)), (.ref a0), (.int (0 : Int32)), (.ref w_bytes_a0)])) _
      refine st58 _ ?_
      show Steps p.tables e below (T58.setTop (mkF m 27 #[.val (.ref a0), .val (.ref a1), .val (.int (1 : Int32)), .unset, .unset] [(.int (0 : Int32)), (.ref w_bytes_a0)])) _
      refine XS.bipush X58.here hx rfl (hb hby d7_27) ?_
      show Steps p.tables e below (T58.setTop (mkF m 29 #[.val (.ref a0), .val (.ref a1), .val (.int (1 : Int32)), .unset, .unset] [(.int (34 : Int32)), (.int (0 : Int32)), (.ref w_bytes_a0)])) _
      refine st61 _ ?_
      show Steps p.tables e below (T61.setTop (mkF m 30 #[.val (.ref a0), .val (.ref a1), .val (.int (1 : Int32)), .unset, .unset] [])) _
      refine XS.iconst X61.here hx rfl (hb hby d7_30) ?_
      show Steps p.tables e below (T61.setTop (mkF m 31 #[.val (.ref a0), .val (.ref a1), .val (.int (1 : Int32)), .unset, .unset] [(.int (0 : Int32))])) _
      refine XS.istoreN X61.here hx rfl (hb hby d7_31) rfl (l' := #[.val (.ref a0), .val (.ref a1), .val (.int (1 : Int32)), .val (.int (0 : Int32)), .unset]) rfl ?_
      show Steps p.tables e below (T61.setTop (mkF m 32 #[.val (.ref a0), .val (.ref a1), .val (.int (1 : Int32)), .val (.int (0 : Int32)), .unset] [])) _
      refine XS.iloadN X61.here hx rfl (hb hby d7_32) rfl ?_
      show Steps p.tables e below (T61.setTop (mkF m 33 #[.val (.ref a0), .val (.ref a1), .val (.int (1 : Int32)), .val (.int (0 : Int32)), .unset] [(.int (0 : Int32))])) _
      refine XS.iloadN X61.here hx rfl (hb hby d7_33) rfl ?_
      show Steps p.tables e below (T61.setTop (mkF m 34 #[.val (.ref a0), .val (.ref a1), .val (.int (1 : Int32)), .val (.int (0 : Int32)), .unset] [(.int (1 : Int32)), (.int (0 : Int32))])) _
      refine XS.icmpNo X61.here hx rfl (hb hby d7_34) rfl (tlt (by decide)).2.1 ?_
      show Steps p.tables e below (T61.setTop (mkF m 37 #[.val (.ref a0), .val (.ref a1), .val (.int (1 : Int32)), .val (.int (0 : Int32)), .unset] [])) _
      refine XS.aloadN X61.here hx rfl (hb hby d7_37) rfl rfl ?_
      show Steps p.tables e below (T61.setTop (mkF m 38 #[.val (.ref a0), .val (.ref a1), .val (.int (1 : Int32)), .val (.int (0 : Int32)), .unset] [(.ref a1)])) _
      refine XS.iloadN X61.here hx rfl (hb hby d7_38) rfl ?_
      show Steps p.tables e below (T61.setTop (mkF m 39 #[.val (.ref a0), .val (.ref a1), .val (.int (1 : Int32)), .val (.int (0 : Int32)), .unset] [(.int (0 : Int32)), (.ref a1)])) _
      refine st69.trans ?_
      show Steps p.tables e below (T69.setTop (mkF m 42 #[.val (.ref a0), .val (.ref a1), .val (.int (1 : Int32)), .val (.int (0 : Int32)), .unset] [(.int (nar .char (nar .char (((g_w_value_a1 0) &&& (255 : Int32)).toUInt32.toUInt16.toUInt32.toInt32))))])) _
      refine castTop (g' := (mkF m 42 #[.val (.ref a0), .val (.ref a1), .val (.int (1 : Int32)), .val (.int (0 : Int32)), .unset] [(.int (97 : Int32))])) (by rw [hq70] <;> rfl) ?_
      show Steps p.tables e below (T69.setTop (mkF m 42 #[.val (.ref a0), .val (.ref a1), .val (.int (1 : Int32)), .val (.int (0 : Int32)), .unset] [(.int (97 : Int32))])) _
      refine XS.istore X69.here hx rfl (hb hby d7_42) rfl (l' := #[.val (.ref a0), .val (.ref a1), .val (.int (1 : Int32)), .val (.int (0 : Int32)), .val (.int (97 : Int32))]) rfl ?_
      show Steps p.tables e below (T69.setTop (mkF m 44 #[.val (.ref a0), .val (.ref a1), .val (.int (1 : Int32)), .val (.int (0 : Int32)), .val (.int (97 : Int32))] [])) _
      refine XS.iload X69.here hx rfl (hb hby d7_44) rfl ?_
      show Steps p.tables e below (T69.setTop (mkF m 46 #[.val (.ref a0), .val (.ref a1), .val (.int (1 : Int32)), .val (.int (0 : Int32)), .val (.int (97 : Int32))] [(.int (97 : Int32))])) _
      refine XS.bipush X69.here hx rfl (hb hby d7_46) ?_
      show Steps p.tables e below (T69.setTop (mkF m 48 #[.val (.ref a0), .val (.ref a1), .val (.int (1 : Int32)), .val (.int (0 : Int32)), .val (.int (97 : Int32))] [(.int (32 : Int32)), (.int (97 : Int32))])) _
      refine XS.icmpNo X69.here hx rfl (hb hby d7_48) rfl (flt (by decide)).1 ?_
      show Steps p.tables e below (T69.setTop (mkF m 51 #[.val (.ref a0), .val (.ref a1), .val (.int (1 : Int32)), .val (.int (0 : Int32)), .val (.int (97 : Int32))] [])) _
      refine XS.iload X69.here hx rfl (hb hby d7_51) rfl ?_
      show Steps p.tables e below (T69.setTop (mkF m 53 #[.val (.ref a0), .val (.ref a1), .val (.int (1 : Int32)), .val (.int (0 : Int32)), .val (.int (97 : Int32))] [(.int (97 : Int32))])) _
      refine XS.sipush X69.here hx rfl (hb hby d7_53) ?_
      show Steps p.tables e below (T69.setTop (mkF m 56 #[.val (.ref a0), .val (.ref a1), .val (.int (1 : Int32)), .val (.int (0 : Int32)), .val (.int (97 : Int32))] [(.int (128 : Int32)), (.int (97 : Int32))])) _
      refine XS.icmpNo X69.here hx rfl (hb hby d7_56) rfl (tlt (by decide)).2.1 ?_
      show Steps p.tables e below (T69.setTop (mkF m 59 #[.val (.ref a0), .val (.ref a1), .val (.int (1 : Int32)), .val (.int (0 : Int32)), .val (.int (97 : Int32))] [])) _
      refine XS.iload X69.here hx rfl (hb hby d7_59) rfl ?_
      show Steps p.tables e below (T69.setTop (mkF m 61 #[.val (.ref a0), .val (.ref a1), .val (.int (1 : Int32)), .val (.int (0 : Int32)), .val (.int (97 : Int32))] [(.int (97 : Int32))])) _
      refine XS.bipush X69.here hx rfl (hb hby d7_61) ?_
      show Steps p.tables e below (T69.setTop (mkF m 63 #[.val (.ref a0), .val (.ref a1), .val (.int (1 : Int32)), .val (.int (0 : Int32)), .val (.int (97 : Int32))] [(.int (34 : Int32)), (.int (97 : Int32))])) _
      refine XS.icmpNo X69.here hx rfl (hb hby d7_63) rfl (feq (by decide)).1 ?_
      show Steps p.tables e below (T69.setTop (mkF m 66 #[.val (.ref a0), .val (.ref a1), .val (.int (1 : Int32)), .val (.int (0 : Int32)), .val (.int (97 : Int32))] [])) _
      refine XS.iload X69.here hx rfl (hb hby d7_66) rfl ?_
      show Steps p.tables e below (T69.setTop (mkF m 68 #[.val (.ref a0), .val (.ref a1), .val (.int (1 : Int32)), .val (.int (0 : Int32)), .val (.int (97 : Int32))] [(.int (97 : Int32))])) _
      refine XS.bipush X69.here hx rfl (hb hby d7_68) ?_
      show Steps p.tables e below (T69.setTop (mkF m 70 #[.val (.ref a0), .val (.ref a1), .val (.int (1 : Int32)), .val (.int (0 : Int32)), .val (.int (97 : Int32))] [(.int (92 : Int32)), (.int (97 : Int32))])) _
      refine XS.icmpNo X69.here hx rfl (hb hby d7_70) rfl (feq (by decide)).1 ?_
      show Steps p.tables e below (T69.setTop (mkF m 73 #[.val (.ref a0), .val (.ref a1), .val (.int (1 : Int32)), .val (.int (0 : Int32)), .val (.int (97 : Int32))] [])) _
      refine XS.aloadN X69.here hx rfl (hb hby d7_73) rfl rfl ?_
      show Steps p.tables e below (T69.setTop (mkF m 74 #[.val (.ref a0), .val (.ref a1), .val (.int (1 : Int32)), .val (.int (0 : Int32)), .val (.int (97 : Int32))] [(.ref a0)])) _
      refine st72 _ ?_
      show Steps p.tables e below (T72.setTop (mkF m 77 #[.val (.ref a0), .val (.ref a1), .val (.int (1 : Int32)), .val (.int (0 : Int32)), .val (.int (97 : Int32))] [(.ref w_bytes_a0)])) _
      refine XS.aloadN X72.here hx rfl (hb hby d7_77) rfl rfl ?_
      show Steps p.tables e below (T72.setTop (mkF m 78 #[.val (.ref a0), .val (.ref a1), .val (.int (1 : Int32)), .val (.int (0 : Int32)), .val (.int (97 : Int32))] [(.ref a0), (.ref w_bytes_a0)])) _
      refine XS.dup X72.here hx rfl (hb hby d7_78) rfl rfl ?_
      show Steps p.tables e below (T72.setTop (mkF m 79 #[.val (.ref a0), .val (.ref a1), .val (.int (1 : Int32)), .val (.int (0 : Int32)), .val (.int (97 : Int32))] [(.ref a0), (.ref a0), (.ref w_bytes_a0)])) _
      refine st74 _ ?_
      show Steps p.tables e below (T74.setTop (mkF m 82 #[.val (.ref a0), .val (.ref a1), .val (.int (1 : Int32)), .val (.int (0 : Int32)), .val (.int (97 : Int32))] [(.int (1 : Int32)), (.ref a0), (.ref w_bytes_a0)])) _
      refine XS.dupX1 X74.here hx rfl (hb hby d7_82) rfl rfl rfl ?_
      show Steps p.tables e below (T74.setTop (mkF m 83 #[.val (.ref a0), .val (.ref a1), .val (.int (1 : Int32)), .val (.int (0 : Int32)), .val (.int (97 : Int32))] [(.int (1 : Int32)), (.ref a0), (.int (1 : Int32)), (.ref w_bytes_a0)])) _
      refine XS.iconst X74.here hx rfl (hb hby d7_83) ?_
      show Steps p.tables e below (T74.setTop (mkF m 84 #[.val (.ref a0), .val (.ref a1), .val (.int (1 : Int32)), .val (.int (0 : Int32)), .val (.int (97 : Int32))] [(.int (1 : Int32)), (.int (1 : Int32)), (.ref a0), (.int (1 : Int32)), (.ref w_bytes_a0)])) _
      refine XS.iadd X74.here hx rfl (hb hby d7_84) rfl ?_
      show Steps p.tables e below (T74.setTop (mkF m 85 #[.val (.ref a0), .val (.ref a1), .val (.int (1 : Int32)), .val (.int (0 : Int32)), .val (.int (97 : Int32))] [(.int (2 : Int32)), (.ref a0), (.int (1 : Int32)), (.ref w_bytes_a0)])) _
      refine st76 _ ?_
      show Steps p.tables e below (T76.setTop (mkF m 88 #[.val (.ref a0), .val (.ref a1), .val (.int (1 : Int32)), .val (.int (0 : Int32)), .val (.int (97 : Int32))] [(.int (1 : Int32)), (.ref w_bytes_a0)])) _
      refine XS.iload X76.here hx rfl (hb hby d7_88) rfl ?_
      show Steps p.tables e below (T76.setTop (mkF m 90 #[.val (.ref a0), .val (.ref a1), .val (.int (1 : Int32)), .val (.int (0 : Int32)), .val (.int (97 : Int32))] [(.int (97 : Int32)), (.int (1 : Int32)), (.ref w_bytes_a0)])) _
      refine XS.i2b X76.here hx rfl (hb hby d7_90) rfl ?_
      show Steps p.tables e below (T76.setTop (mkF m 91 #[.val (.ref a0), .val (.ref a1), .val (.int (1 : Int32)), .val (.int (0 : Int32)), .val (.int (97 : Int32))] [(.int ((97 : Int32).toInt8.toInt32)), (.int (1 : Int32)), (.ref w_bytes_a0)])) _
      refine st79 _ ?_
      show Steps p.tables e below (T79.setTop (mkF m 92 #[.val (.ref a0), .val (.ref a1), .val (.int (1 : Int32)), .val (.int (0 : Int32)), .val (.int (97 : Int32))] [])) _
      refine XS.goto X79.here hx rfl (pc0 := 92) (pc' := 217) rfl (hb hby d7_92) (by decide) (by decide) ?_
      show Steps p.tables e below (T79.setTop (mkF m 217 #[.val (.ref a0), .val (.ref a1), .val (.int (1 : Int32)), .val (.int (0 : Int32)), .val (.int (97 : Int32))] [])) _
      refine XS.iinc X79.here hx rfl (hb hby d7_217) rfl (l' := #[.val (.ref a0), .val (.ref a1), .val (.int (1 : Int32)), .val (.int (1 : Int32)), .val (.int (97 : Int32))]) rfl ?_
      show Steps p.tables e below (T79.setTop (mkF m 220 #[.val (.ref a0), .val (.ref a1), .val (.int (1 : Int32)), .val (.int (1 : Int32)), .val (.int (97 : Int32))] [])) _
      refine XS.goto X79.here hx rfl (pc0 := 220) (pc' := 32) rfl (hb hby d7_220) (by decide) (by decide) ?_
      show Steps p.tables e below (T79.setTop (mkF m 32 #[.val (.ref a0), .val (.ref a1), .val (.int (1 : Int32)), .val (.int (1 : Int32)), .val (.int (97 : Int32))] [])) _
      refine XS.iloadN X79.here hx rfl (hb hby d7_32) rfl ?_
      show Steps p.tables e below (T79.setTop (mkF m 33 #[.val (.ref a0), .val (.ref a1), .val (.int (1 : Int32)), .val (.int (1 : Int32)), .val (.int (97 : Int32))] [(.int (1 : Int32))])) _
      refine XS.iloadN X79.here hx rfl (hb hby d7_33) rfl ?_
      show Steps p.tables e below (T79.setTop (mkF m 34 #[.val (.ref a0), .val (.ref a1), .val (.int (1 : Int32)), .val (.int (1 : Int32)), .val (.int (97 : Int32))] [(.int (1 : Int32)), (.int (1 : Int32))])) _
      refine XS.icmpYes X79.here hx rfl (pc0 := 34) (pc' := 223) rfl (hb hby d7_34) rfl (flt (by decide)).2.1 (by decide) (by decide) ?_
      show Steps p.tables e below (T79.setTop (mkF m 223 #[.val (.ref a0), .val (.ref a1), .val (.int (1 : Int32)), .val (.int (1 : Int32)), .val (.int (97 : Int32))] [])) _
      refine XS.aloadN X79.here hx rfl (hb hby d7_223) rfl rfl ?_
      show Steps p.tables e below (T79.setTop (mkF m 224 #[.val (.ref a0), .val (.ref a1), .val (.int (1 : Int32)), .val (.int (1 : Int32)), .val (.int (97 : Int32))] [(.ref a0)])) _
      refine st82 _ ?_
      show Steps p.tables e below (T82.setTop (mkF m 227 #[.val (.ref a0), .val (.ref a1), .val (.int (1 : Int32)), .val (.int (1 : Int32)), .val (.int (97 : Int32))] [(.ref w_bytes_a0)])) _
      refine XS.aloadN X82.here hx rfl (hb hby d7_227) rfl rfl ?_
      show Steps p.tables e below (T82.setTop (mkF m 228 #[.val (.ref a0), .val (.ref a1), .val (.int (1 : Int32)), .val (.int (1 : Int32)), .val (.int (97 : Int32))] [(.ref a0), (.ref w_bytes_a0)])) _
      refine XS.dup X82.here hx rfl (hb hby d7_228) rfl rfl ?_
      show Steps p.tables e below (T82.setTop (mkF m 229 #[.val (.ref a0), .val (.ref a1), .val (.int (1 : Int32)), .val (.int (1 : Int32)), .val (.int (97 : Int32))] [(.ref a0), (.ref a0), (.ref w_bytes_a0)])) _
      refine st84 _ ?_
      show Steps p.tables e below (T84.setTop (mkF m 232 #[.val (.ref a0), .val (.ref a1), .val (.int (1 : Int32)), .val (.int (1 : Int32)), .val (.int (97 : Int32))] [(.int (2 : Int32)), (.ref a0), (.ref w_bytes_a0)])) _
      refine XS.dupX1 X84.here hx rfl (hb hby d7_232) rfl rfl rfl ?_
      show Steps p.tables e below (T84.setTop (mkF m 233 #[.val (.ref a0), .val (.ref a1), .val (.int (1 : Int32)), .val (.int (1 : Int32)), .val (.int (97 : Int32))] [(.int (2 : Int32)), (.ref a0), (.int (2 : Int32)), (.ref w_bytes_a0)])) _
      refine XS.iconst X84.here hx rfl (hb hby d7_233) ?_
      show Steps p.tables e below (T84.setTop (mkF m 234 #[.val (.ref a0), .val (.ref a1), .val (.int (1 : Int32)), .val (.int (1 : Int32)), .val (.int (97 : Int32))] [(.int (1 : Int32)), (.int (2 : Int32)), (.ref a0), (.int (2 : Int32)), (.ref w_bytes_a0)])) _
      refine XS.iadd X84.here hx rfl (hb hby d7_234) rfl ?_
      show Steps p.tables e below (T84.setTop (mkF m 235 #[.val (.ref a0), .val (.ref a1), .val (.int (1 : Int32)), .val (.int (1 : Int32)), .val (.int (97 : Int32))] [(.int (3 : Int32)), (.ref a0), (.int (2 : Int32)), (.ref w_bytes_a0)])) _
      refine st86 _ ?_
      show Steps p.tables e below (T86.setTop (mkF m 238 #[.val (.ref a0), .val (.ref a1), .val (.int (1 : Int32)), .val (.int (1 : Int32)), .val (.int (97 : Int32))] [(.int (2 : Int32)), (.ref w_bytes_a0)])) _
      refine XS.bipush X86.here hx rfl (hb hby d7_238) ?_
      show Steps p.tables e below (T86.setTop (mkF m 240 #[.val (.ref a0), .val (.ref a1), .val (.int (1 : Int32)), .val (.int (1 : Int32)), .val (.int (97 : Int32))] [(.int (34 : Int32)), (.int (2 : Int32)), (.ref w_bytes_a0)])) _
      refine st89 _ ?_
      show Steps p.tables e below (T89.setTop (mkF m 241 #[.val (.ref a0), .val (.ref a1), .val (.int (1 : Int32)), .val (.int (1 : Int32)), .val (.int (97 : Int32))] [])) _
      exact X89.returnOut hx Bd.returns (hb hby d7_241) hr
    have G91 : Fld Z h89 a0 "com/example/commitlog/commitlog/codec/JsonWriter" "bytes" "[B" (.ref w_bytes_a0) := ((G81.other W86 (Or.inr (slot_ne (Or.inl (hw _ (List.mem_of_getElem? (i := 12) rfl))) (Or.inl (hw _ (List.mem_of_getElem? (i := 24) rfl))) (by decide) (t := (.array .byte)) (t' := .int) (by decide) (by decide)))).other W89 (Or.inl ne_a0_w_bytes_a0))
    have G92 : Fld Z h89 a0 "com/example/commitlog/commitlog/codec/JsonWriter" "length" "I" (.int (3 : Int32)) := (Fw86.other W89 (Or.inl ne_a0_w_bytes_a0))
    have G93 : Fld Z h89 a0 "com/example/commitlog/commitlog/codec/JsonWriter" "afterValue" "Z" (.int w_afterValue_a0) := ((((((F_afterValue_a0.other W58 (Or.inr (slot_ne (Or.inl (hw _ (List.mem_of_getElem? (i := 26) rfl))) (Or.inl (hw _ (List.mem_of_getElem? (i := 24) rfl))) (by decide) (t := .boolean) (t' := .int) (by decide) (by decide)))).other W61 (Or.inl ne_a0_w_bytes_a0)).other W76 (Or.inr (slot_ne (Or.inl (hw _ (List.mem_of_getElem? (i := 26) rfl))) (Or.inl (hw _ (List.mem_of_getElem? (i := 24) rfl))) (by decide) (t := .boolean) (t' := .int) (by decide) (by decide)))).other W79 (Or.inl ne_a0_w_bytes_a0)).other W86 (Or.inr (slot_ne (Or.inl (hw _ (List.mem_of_getElem? (i := 26) rfl))) (Or.inl (hw _ (List.mem_of_getElem? (i := 24) rfl))) (by decide) (t := .boolean) (t' := .int) (by decide) (by decide)))).other W89 (Or.inl ne_a0_w_bytes_a0))
    · show Q7 Z a0 a1 w_bytes_a0 w_afterValue_a0 w_value_a1 g_w_value_a1 s_COMPACT_STRINGS n_w_bytes_a0 g_w_bytes_a0 s_SIOOBE_FORMATTER h0 n0 _ T89.heap _
      rw [e89]
      exact ⟨w_bytes_a0, n_w_bytes_a0, f90, rfl, N89, K89, Or.inl rfl, nw_w_bytes_a0, ne_a0_w_bytes_a0, G91, G92, G93, V89, (by rw [hf90]; exact own_Bset (by rw [hf80]; exact own_Bset (by rw [hf62]; exact own_Bset hB _ _) _ _) _ _), hN2.1, hN2.2, (by rw [hf90, hf80, hf62]; rfl), (by rw [hf90, hf80, hf62]; rfl), (by rw [hf90, hf80, hf62]; rfl)⟩
theorem ef_6 (m : MethodId) (a0 : Addr) (a1 : Addr) : entryFrame m #[(.ref a0), (.ref a1)] 2 = mkF m 0 #[.val (.ref a0), .val (.ref a1)] [] := by first | (simp [entryFrame, mkF, argsToLocals, Value.category]; done) | rfl
def Q6 (Z : State) (a0 : Addr) (a1 : Addr) (w_bytes_a0 : Addr) (w_value_a1 : Addr) (g_w_value_a1 : Nat → Int32) (s_COMPACT_STRINGS : Int32) (n_w_bytes_a0 : Nat) (g_w_bytes_a0 : Nat → Int32) (s_SIOOBE_FORMATTER : Value) (h0 : Heap) (n0 : Nat) (v : Option Value) (h : Heap) (L : List Loc) : Prop := ∃ (b' : Addr) (N' : Nat) (g' : Nat → Int32), v = some (.ref a0) ∧ Fr n0 L ∧ Keep h0 h [a0, w_bytes_a0] ∧ (b' = w_bytes_a0 ∨ h0.size ≤ b') ∧ n0 ≤ b' ∧ a0 ≠ b' ∧ Fld Z h a0 "com/example/commitlog/commitlog/codec/JsonWriter" "bytes" "[B" (.ref b') ∧ Fld Z h a0 "com/example/commitlog/commitlog/codec/JsonWriter" "length" "I" (.int (4 : Int32)) ∧ Fld Z h a0 "com/example/commitlog/commitlog/codec/JsonWriter" "afterValue" "Z" (.int (0 : Int32)) ∧ AF Z h b' .byte N' (fun j => .int (g' j)) ∧ own_B g' ∧ 4 ≤ N' ∧ g' 0 = (34 : Int32) ∧ g' 1 = (97 : Int32) ∧ g' 2 = (34 : Int32) ∧ g' 3 = (58 : Int32)
set_option maxRecDepth 65536 in
set_option maxHeartbeats 40000000 in
theorem rm6 (l : Launch) (Z : State) (A0 : Array Value) (hw : ∀ d ∈ tables_1, d.before A0 Z = true) (ws : List Jvm.Cond) (a0 : Addr) (a1 : Addr) (w_bytes_a0 : Addr) (w_value_a1 : Addr) (g_w_value_a1 : Nat → Int32) (s_COMPACT_STRINGS : Int32) (n_w_bytes_a0 : Nat) (g_w_bytes_a0 : Nat → Int32) (s_SIOOBE_FORMATTER : Value) (h0 : Heap) (n0 : Nat) (Z0 : n0 ≤ h0.size) (E_a0 : Exa Z h0 a0 "com/example/commitlog/commitlog/codec/JsonWriter") (F_bytes_a0 : Fld Z h0 a0 "com/example/commitlog/commitlog/codec/JsonWriter" "bytes" "[B" (.ref w_bytes_a0)) (F_length_a0 : Fld Z h0 a0 "com/example/commitlog/commitlog/codec/JsonWriter" "length" "I" (.int (0 : Int32))) (F_afterValue_a0 : Fld Z h0 a0 "com/example/commitlog/commitlog/codec/JsonWriter" "afterValue" "Z" (.int (0 : Int32))) (E_a1 : Exa Z h0 a1 "java/lang/String") (F_value_a1 : Fld Z h0 a1 "java/lang/String" "value" "[B" (.ref w_value_a1)) (F_coder_a1 : Fld Z h0 a1 "java/lang/String" "coder" "B" (.int (0 : Int32))) (A_w_value_a1 : AF Z h0 w_value_a1 .byte 1 (fun j => .int (g_w_value_a1 j))) (S_COMPACT_STRINGS : SO Z n0 h0 "java/lang/String" "COMPACT_STRINGS" "Z" (.int s_COMPACT_STRINGS)) (A_w_bytes_a0 : AF Z h0 w_bytes_a0 .byte n_w_bytes_a0 (fun j => .int (g_w_bytes_a0 j))) (nw_a0 : n0 ≤ a0) (ne_a0_a1 : a0 ≠ a1) (ne_a0_w_value_a1 : a0 ≠ w_value_a1) (S_SIOOBE_FORMATTER : SO Z n0 h0 "jdk/internal/util/Preconditions" "SIOOBE_FORMATTER" "Ljava/util/function/BiFunction;" s_SIOOBE_FORMATTER) (ne_a0_w_bytes_a0 : a0 ≠ w_bytes_a0) (nw_w_bytes_a0 : n0 ≤ w_bytes_a0) (ne_a1_w_bytes_a0 : a1 ≠ w_bytes_a0) (ne_w_bytes_a0_w_value_a1 : w_bytes_a0 ≠ w_value_a1) (rf_s_SIOOBE_FORMATTER : s_SIOOBE_FORMATTER.isRef = true) (hc3_6_1_15 : ¬ (s_COMPACT_STRINGS = (0 : Int32))) (hN_15 : n_w_bytes_a0 ≤ 40) (hB_15 : own_B g_w_bytes_a0) (rf_s_SIOOBE_FORMATTER_15 : s_SIOOBE_FORMATTER.isRef = true) (hc3_1_39_15 : ¬ (s_COMPACT_STRINGS = (0 : Int32))) (rf_s_SIOOBE_FORMATTER_39_15 : s_SIOOBE_FORMATTER.isRef = true) (rf_s_SIOOBE_FORMATTER_12_39_15 : s_SIOOBE_FORMATTER.isRef = true) (rf_s_SIOOBE_FORMATTER_3_12_39_15 : s_SIOOBE_FORMATTER.isRef = true) (hch_15 : g_w_value_a1 0 = (97 : Int32)) :
    MetFree l (⟨"com/example/commitlog/commitlog/codec/JsonWriter", "name", "(Ljava/lang/String;)Lcom/example/commitlog/commitlog/codec/JsonWriter;"⟩ : MethodName) (head1 (Jvm.Cond.code (⟨"com/example/commitlog/commitlog/codec/JsonWriter", "name", "(Ljava/lang/String;)Lcom/example/commitlog/commitlog/codec/JsonWriter;"⟩ : MethodName) prog_9_method_4_code 2 (some (.object "com/example/commitlog/commitlog/codec/JsonWriter")) :: ws) ({ frames := 5, cells := 2, slots := 128, locals := 84 } : Room)) (fun a U => a = #[(.ref a0), (.ref a1)] ∧ Z.Warmed39 U.vm ∧ U.heap = h0) (fun _ _ _ _ _ => True) (fun _ U o U' => ∃ v L, o = .returned v ∧ Q6 Z a0 a1 w_bytes_a0 w_value_a1 g_w_value_a1 s_COMPACT_STRINGS n_w_bytes_a0 g_w_bytes_a0 s_SIOOBE_FORMATTER h0 n0 v U'.heap L ∧ FrameEnd U o U' L ({ frames := 5, cells := 2, slots := 128, locals := 84 } : Room).cells ({ frames := 5, cells := 2, slots := 128, locals := 84 } : Room).slots) := by
  refine MetFree.of_bodySF (plainFor_of_name pn_6) hisR ?_
  intro p e s m args below meth c s₁ Bd hml0 hP hK
  obtain ⟨rfl, hZ, hh⟩ := hP
  have hx := Bd.exec
  have hby := Bd.bytes
  have hml : c.maxLocals = 2 := hml0
  have hown : s.vm.findClass "com/example/commitlog/commitlog/codec/JsonWriter" = some m.cls := findClass_of_methodNamed Bd.named
  have hnm := (name_of_methodNamed Bd.named Bd.method).1
  have X0 : Stand p l e ({ frames := 5, cells := 2, slots := 128, locals := 84 } : Room) s m #[(.ref a0), (.ref a1)] below meth c s₁ [] 0 0 := Stand.of_body Bd
  have e0 : s₁.heap = h0 := by rw [← hh, Bd.state]; rfl
  have N0 := Fr.nil n0
  have pre0 : ∀ t, Steps p.tables e below (s₁.setTop (mkF m 0 #[.val (.ref a0), .val (.ref a1)] [])) t → Steps p.tables e below (s₁.setTop (entryFrame m #[(.ref a0), (.ref a1)] 2)) t := fun t k => castTop (ef_6 m a0 a1) k
  obtain ⟨T1, X1, e1, st1⟩ := getF X0 hx hZ hown (host := "") (Or.inl (hw _ (List.mem_of_getElem? (i := 25) rfl))) Via.refl e0 F_afterValue_a0 (g := (mkF m 1 #[.val (.ref a0), .val (.ref a1)] [(.ref a0)])) rfl rfl (hb hby d6_1)
  obtain ⟨cq2, q2, q2'⟩ := E_a0.cell
  obtain ⟨_, _, ⟨T2, L2, k2, n2⟩, -, X2, ⟨Lc2, hQ2, l2, y2, z2⟩, st2⟩ := X1.privateBack hx (y := (⟨"com/example/commitlog/commitlog/codec/JsonWriter", "string", "(Ljava/lang/String;)V"⟩ : MethodName)) hown (mvT hZ (hw _ (List.mem_of_getElem? (i := 44) rfl))) (mvT hZ (hw _ (List.mem_of_getElem? (i := 45) rfl))) (own_selp (mvT hZ (hw _ (List.mem_of_getElem? (i := 2) rfl))) (Cond.privateMethod_at (mvP hZ (hw _ (List.mem_of_getElem? (i := 46) rfl)) (args := #[]))) (mvT hZ (hw _ (List.mem_of_getElem? (i := 45) rfl))) (by decide)) (Cond.privateMethod_at (mvP hZ (hw _ (List.mem_of_getElem? (i := 46) rfl)) (args := #[]))) (mvT hZ (hw _ (List.mem_of_getElem? (i := 47) rfl))) (by decide) (backOf (W := 0) (rm7 l Z A0 hw [] a0 a1 w_bytes_a0 (0 : Int32) w_value_a1 g_w_value_a1 s_COMPACT_STRINGS n_w_bytes_a0 g_w_bytes_a0 s_SIOOBE_FORMATTER h0 n0 (Nat.le_trans Z0 (Keep.refl h0 [a0, w_bytes_a0]).1) E_a0 F_bytes_a0 F_length_a0 F_afterValue_a0 E_a1 F_value_a1 F_coder_a1 A_w_value_a1 S_COMPACT_STRINGS A_w_bytes_a0 nw_a0 ne_a0_a1 ne_a0_w_value_a1 S_SIOOBE_FORMATTER ne_a0_w_bytes_a0 nw_w_bytes_a0 ne_a1_w_bytes_a0 ne_w_bytes_a0_w_value_a1 hc3_6_1_15 hN_15 hB_15 rf_s_SIOOBE_FORMATTER_15 hc3_1_39_15 rf_s_SIOOBE_FORMATTER_39_15 rf_s_SIOOBE_FORMATTER_12_39_15 rf_s_SIOOBE_FORMATTER_3_12_39_15 hch_15) hZ (hw _ (List.mem_of_getElem? (i := 47) rfl)) (hw _ (List.mem_of_getElem? (i := 3) rfl)) (by decide) (by decide)) (g := (mkF m 15 #[.val (.ref a0), .val (.ref a1)] [(.ref a1), (.ref a0)])) rfl (by rw [hml]; rfl) (Steps.refl _) (a := a0) (by rw [e1]; exact q2) q2' (argsL := [(.ref a1)]) (rest := []) (lenOf pd_6 rfl) rfl (by show 2 * 0 + _ ≤ _; exact Nat.le_of_eq rfl) (hb hby d6_15) (fun _ _ => ⟨rfl, e1, (by decide : 0 + 1 ≤ _), (by decide : 0 + 64 ≤ _)⟩)
  dsimp only [Pt.U, Pt.locs, Pt.cells, Pt.slots] at X2 l2 y2 z2 st2 hQ2
  subst l2 y2 z2
  obtain ⟨bx2, zx2, fx2, rfl, N2q, Kc2, or2, nw_bx2, ne_a0_bx2, Fb2, Fl2, Fa2, A2, B2, x2_0, x2_1, x2_2, x2_3, x2_4⟩ := hQ2
  have K2 : Keep h0 T2.heap [a0, w_bytes_a0] := (Keep.refl h0 [a0, w_bytes_a0]).trans Kc2 (allS (Or.inl (by simp)) (allS (Or.inl (by simp)) all0))
  have ow_bx2 : bx2 = w_bytes_a0 ∨ h0.size ≤ bx2 := by
    rcases or2 with q | q
    · rw [q]; exact Or.inl rfl
    · exact Or.inr (Nat.le_trans (Keep.refl h0 [a0, w_bytes_a0]).1 q)
  have oi_bx2 : bx2 ∈ [a0, w_bytes_a0] ∨ h0.size ≤ bx2 := by
    rcases ow_bx2 with q | q
    · exact Or.inl (by rw [q]; simp)
    · exact Or.inr q
  have N2 := Fr.app N0 N2q
  have G3 : Exa Z T2.heap a0 "com/example/commitlog/commitlog/codec/JsonWriter" := (E_a0.keep Kc2)
  have hp4 : zx2 ≤ 40 := x2_1
  have hp5 : own_B fx2 := B2
  have hp6 : 3 ≤ zx2 := x2_0
  obtain ⟨cq7, q7, q7'⟩ := G3.cell
  obtain ⟨_, _, ⟨T7, L7, k7, n7⟩, -, X7, ⟨Lc7, hQ7, l7, y7, z7⟩, st7⟩ := X2.privateBack hx (y := (⟨"com/example/commitlog/commitlog/codec/JsonWriter", "put", "(I)V"⟩ : MethodName)) hown (mvT hZ (hw _ (List.mem_of_getElem? (i := 107) rfl))) (mvT hZ (hw _ (List.mem_of_getElem? (i := 108) rfl))) (own_selp (mvT hZ (hw _ (List.mem_of_getElem? (i := 2) rfl))) (Cond.privateMethod_at (mvP hZ (hw _ (List.mem_of_getElem? (i := 109) rfl)) (args := #[]))) (mvT hZ (hw _ (List.mem_of_getElem? (i := 108) rfl))) (by decide)) (Cond.privateMethod_at (mvP hZ (hw _ (List.mem_of_getElem? (i := 109) rfl)) (args := #[]))) (mvT hZ (hw _ (List.mem_of_getElem? (i := 110) rfl))) (by decide) (backOf (W := 0) (rm20 l Z A0 hw [] a0 (58 : Int32) bx2 (0 : Int32) zx2 fx2 T2.heap n0 (Nat.le_trans Z0 K2.1) G3 Fb2 Fl2 Fa2 A2 nw_a0 ne_a0_bx2 nw_bx2 hp4 hp5 hp6) hZ (hw _ (List.mem_of_getElem? (i := 110) rfl)) (hw _ (List.mem_of_getElem? (i := 3) rfl)) (by decide) (by decide)) (g := (mkF m 21 #[.val (.ref a0), .val (.ref a1)] [(.int (58 : Int32)), (.ref a0)])) rfl (by rw [hml]; rfl) (Steps.refl _) (a := a0) q7 q7' (argsL := [(.int (58 : Int32))]) (rest := []) (lenOf pd_0 rfl) rfl (by show 2 * 0 + _ ≤ _; exact Nat.le_of_eq rfl) (hb hby d6_21) (fun _ _ => ⟨rfl, rfl, (by decide : 1 + 1 ≤ _), (by decide : 64 + 64 ≤ _)⟩)
  dsimp only [Pt.U, Pt.locs, Pt.cells, Pt.slots] at X7 l7 y7 z7 st7 hQ7
  subst l7 y7 z7
  obtain ⟨bx7, zx7, fx7, rfl, N7q, Kc7, or7, nw_bx7, ne_a0_bx7, Fb7, Fl7, Fa7, A7, B7, x7_0, x7_1, x7_2⟩ := hQ7
  have K7 : Keep h0 T7.heap [a0, w_bytes_a0] := K2.trans Kc7 (allS (Or.inl (by simp)) (allS oi_bx2 all0))
  have ow_bx7 : bx7 = w_bytes_a0 ∨ h0.size ≤ bx7 := by
    rcases or7 with q | q
    · rw [q]; exact ow_bx2
    · exact Or.inr (Nat.le_trans K2.1 q)
  have oi_bx7 : bx7 ∈ [a0, w_bytes_a0] ∨ h0.size ≤ bx7 := by
    rcases ow_bx7 with q | q
    · exact Or.inl (by rw [q]; simp)
    · exact Or.inr q
  have N7 := Fr.app N2 N7q
  have G8 : Exa Z T7.heap a0 "com/example/commitlog/commitlog/codec/JsonWriter" := (G3.keep Kc7)
  obtain ⟨T9, h9, X9, e9, W9, st9⟩ := putFN X7 hx hZ hown (hw _ (List.mem_of_getElem? (i := 25) rfl)) Via.refl rfl Fa7 G8 (Or.inl (hw _ (List.mem_of_getElem? (i := 26) rfl))) (hw _ (List.mem_of_getElem? (i := 2) rfl)) (ty := .boolean) (v' := .int (0 : Int32)) (by decide) rfl rfl (g := (mkF m 26 #[.val (.ref a0), .val (.ref a1)] [(.int (0 : Int32)), (.ref a0)])) rfl rfl (hb hby d6_26)
  have K9 : Keep h0 h9 [a0, w_bytes_a0] := K7.wr W9 (Or.inl (by simp))
  have Fw9 : Fld Z h9 a0 "com/example/commitlog/commitlog/codec/JsonWriter" "afterValue" "Z" (.int (0 : Int32)) := Fa7.same W9
  have N9 := Fr.snoc X9 N7 nw_a0
  obtain ⟨fs, hr, hrun, hended, hW, hsame⟩ := X9.leave (v := some (.ref a0)) (fun h => by rw [Bd.returns] at h; cases h)
  refine ⟨_, _, pre0 _ ?_, hrun, hended, _, _, rfl, ?_, ⟨_, rfl⟩, hW, hsame.mono (by decide) (by decide)⟩
  · show Steps p.tables e below (s₁.setTop (mkF m 0 #[.val (.ref a0), .val (.ref a1)] [])) _
    refine XS.aloadN X0.here hx rfl (hb hby d6_0) rfl rfl ?_
    show Steps p.tables e below (s₁.setTop (mkF m 1 #[.val (.ref a0), .val (.ref a1)] [(.ref a0)])) _
    refine st1 _ ?_
    show Steps p.tables e below (T1.setTop (mkF m 4 #[.val (.ref a0), .val (.ref a1)] [(.int (0 : Int32))])) _
    refine XS.ifYes X1.here hx rfl (pc0 := 4) (pc' := 13) rfl (hb hby d6_4) rfl ((if0 _ _).trans (teq (by decide)).1) (by decide) (by decide) ?_
    show Steps p.tables e below (T1.setTop (mkF m 13 #[.val (.ref a0), .val (.ref a1)] [])) _
    refine XS.aloadN X1.here hx rfl (hb hby d6_13) rfl rfl ?_
    show Steps p.tables e below (T1.setTop (mkF m 14 #[.val (.ref a0), .val (.ref a1)] [(.ref a0)])) _
    refine XS.aloadN X1.here hx rfl (hb hby d6_14) rfl rfl ?_
    show Steps p.tables e below (T1.setTop (mkF m 15 #[.val (.ref a0), .val (.ref a1)] [(.ref a1), (.ref a0)])) _
    refine st2.trans ?_
    show Steps p.tables e below (T2.setTop (mkF m 18 #[.val (.ref a0), .val (.ref a1)] [])) _
    refine XS.aloadN X2.here hx rfl (hb hby d6_18) rfl rfl ?_
    show Steps p.tables e below (T2.setTop (mkF m 19 #[.val (.ref a0), .val (.ref a1)] [(.ref a0)])) _
    refine XS.bipush X2.here hx rfl (hb hby d6_19) ?_
    show Steps p.tables e below (T2.setTop (mkF m 21 #[.val (.ref a0), .val (.ref a1)] [(.int (58 : Int32)), (.ref a0)])) _
    refine st7.trans ?_
    show Steps p.tables e below (T7.setTop (mkF m 24 #[.val (.ref a0), .val (.ref a1)] [])) _
    refine XS.aloadN X7.here hx rfl (hb hby d6_24) rfl rfl ?_
    show Steps p.tables e below (T7.setTop (mkF m 25 #[.val (.ref a0), .val (.ref a1)] [(.ref a0)])) _
    refine XS.iconst X7.here hx rfl (hb hby d6_25) ?_
    show Steps p.tables e below (T7.setTop (mkF m 26 #[.val (.ref a0), .val (.ref a1)] [(.int (0 : Int32)), (.ref a0)])) _
    refine st9 _ ?_
    show Steps p.tables e below (T9.setTop (mkF m 29 #[.val (.ref a0), .val (.ref a1)] [])) _
    refine XS.aloadN X9.here hx rfl (hb hby d6_29) rfl rfl ?_
    show Steps p.tables e below (T9.setTop (mkF m 30 #[.val (.ref a0), .val (.ref a1)] [(.ref a0)])) _
    exact retOut X9 hx Bd.returns rfl (Or.inr (Or.inr (Or.inr (Or.inr ⟨rfl, rfl, rfl⟩)))) (hb hby d6_30) hr
  have G10 : Fld Z h9 a0 "com/example/commitlog/commitlog/codec/JsonWriter" "bytes" "[B" (.ref bx7) := (Fb7.other W9 (Or.inr (slot_ne (Or.inl (hw _ (List.mem_of_getElem? (i := 12) rfl))) (Or.inl (hw _ (List.mem_of_getElem? (i := 26) rfl))) (by decide) (t := (.array .byte)) (t' := .boolean) (by decide) (by decide))))
  have G11 : Fld Z h9 a0 "com/example/commitlog/commitlog/codec/JsonWriter" "length" "I" (.int (4 : Int32)) := (Fl7.other W9 (Or.inr (slot_ne (Or.inl (hw _ (List.mem_of_getElem? (i := 24) rfl))) (Or.inl (hw _ (List.mem_of_getElem? (i := 26) rfl))) (by decide) (t := .int) (t' := .boolean) (by decide) (by decide))))
  have G12 : AF Z h9 bx7 .byte zx7 (fun j => .int (fx7 j)) := (A7.other W9 (Ne.symm ne_a0_bx7))
  · show Q6 Z a0 a1 w_bytes_a0 w_value_a1 g_w_value_a1 s_COMPACT_STRINGS n_w_bytes_a0 g_w_bytes_a0 s_SIOOBE_FORMATTER h0 n0 _ T9.heap _
    rw [e9]
    exact ⟨bx7, zx7, fx7, rfl, N9, K9, ow_bx7, nw_bx7, ne_a0_bx7, G10, G11, Fw9, G12, B7, x7_0, ((x7_2 0 (by decide)).trans x2_2), ((x7_2 1 (by decide)).trans x2_3), ((x7_2 2 (by decide)).trans x2_4), (x7_1.trans (by decide))⟩
theorem ef_1 (m : MethodId) (a0 : Addr) (p1 : Int32) : entryFrame m #[(.ref a0), (.int p1)] 2 = mkF m 0 #[.val (.ref a0), .val (.int p1)] [] := by first | (simp [entryFrame, mkF, argsToLocals, Value.category]; done) | rfl
def Q1 (Z : State) (a0 : Addr) (p1 : Int32) (w_bytes_a0 : Value) (w_length_a0 : Int32) (w_afterValue_a0 : Int32) (h0 : Heap) (n0 : Nat) (v : Option Value) (h : Heap) (L : List Loc) : Prop := ∃ b2 : Addr, v = none ∧ Fr n0 L ∧ Keep h0 h [a0] ∧ h0.size ≤ b2 ∧ Exa Z h a0 "com/example/commitlog/commitlog/codec/JsonWriter" ∧ Fld Z h a0 "com/example/commitlog/commitlog/codec/JsonWriter" "bytes" "[B" (.ref b2) ∧ Fld Z h a0 "com/example/commitlog/commitlog/codec/JsonWriter" "length" "I" (.int w_length_a0) ∧ Fld Z h a0 "com/example/commitlog/commitlog/codec/JsonWriter" "afterValue" "Z" (.int w_afterValue_a0) ∧ AF Z h b2 .byte (p1).toNatClampNeg (fun j => .int ((fun _ => (0 : Int32)) j))
set_option maxRecDepth 65536 in
set_option maxHeartbeats 40000000 in
theorem rm1 (l : Launch) (Z : State) (A0 : Array Value) (hw : ∀ d ∈ tables_1, d.before A0 Z = true) (ws : List Jvm.Cond) (a0 : Addr) (p1 : Int32) (w_bytes_a0 : Value) (w_length_a0 : Int32) (w_afterValue_a0 : Int32) (h0 : Heap) (n0 : Nat) (Z0 : n0 ≤ h0.size) (E_a0 : Exa Z h0 a0 "com/example/commitlog/commitlog/codec/JsonWriter") (F_bytes_a0 : Fld Z h0 a0 "com/example/commitlog/commitlog/codec/JsonWriter" "bytes" "[B" w_bytes_a0) (F_length_a0 : Fld Z h0 a0 "com/example/commitlog/commitlog/codec/JsonWriter" "length" "I" (.int w_length_a0)) (F_afterValue_a0 : Fld Z h0 a0 "com/example/commitlog/commitlog/codec/JsonWriter" "afterValue" "Z" (.int w_afterValue_a0)) (nw_a0 : n0 ≤ a0) (hneg : ¬ p1 < (0 : Int32)) (hcap : p1.toNatClampNeg ≤ 31) :
    MetFree l (⟨"com/example/commitlog/commitlog/codec/JsonWriter", "<init>", "(I)V"⟩ : MethodName) (head1 (Jvm.Cond.code (⟨"com/example/commitlog/commitlog/codec/JsonWriter", "<init>", "(I)V"⟩ : MethodName) prog_9_method_1_code 2 none :: ws) ({ frames := 1, cells := 1, slots := 31, locals := 12 } : Room)) (fun a U => a = #[(.ref a0), (.int p1)] ∧ Z.Warmed39 U.vm ∧ U.heap = h0) (fun _ _ _ _ _ => True) (fun _ U o U' => ∃ v L, o = .returned v ∧ Q1 Z a0 p1 w_bytes_a0 w_length_a0 w_afterValue_a0 h0 n0 v U'.heap L ∧ FrameEnd U o U' L ({ frames := 1, cells := 1, slots := 31, locals := 12 } : Room).cells ({ frames := 1, cells := 1, slots := 31, locals := 12 } : Room).slots) := by
  refine MetFree.of_bodySF (plainFor_of_name pn_1) hisR ?_
  intro p e s m args below meth c s₁ Bd hml0 hP hK
  obtain ⟨rfl, hZ, hh⟩ := hP
  have hx := Bd.exec
  have hby := Bd.bytes
  have hml : c.maxLocals = 2 := hml0
  have hown : s.vm.findClass "com/example/commitlog/commitlog/codec/JsonWriter" = some m.cls := findClass_of_methodNamed Bd.named
  have hnm := (name_of_methodNamed Bd.named Bd.method).1
  have X0 : Stand p l e ({ frames := 1, cells := 1, slots := 31, locals := 12 } : Room) s m #[(.ref a0), (.int p1)] below meth c s₁ [] 0 0 := Stand.of_body Bd
  have e0 : s₁.heap = h0 := by rw [← hh, Bd.state]; rfl
  have N0 := Fr.nil n0
  have pre0 : ∀ t, Steps p.tables e below (s₁.setTop (mkF m 0 #[.val (.ref a0), .val (.int p1)] [])) t → Steps p.tables e below (s₁.setTop (entryFrame m #[(.ref a0), (.int p1)] 2)) t := fun t k => castTop (ef_1 m a0 p1) k
  obtain ⟨T1, X1, e1, st1⟩ := initO X0 hx hZ hown (hw _ (List.mem_of_getElem? (i := 7) rfl)) (hw _ (List.mem_of_getElem? (i := 8) rfl)) (hw _ (List.mem_of_getElem? (i := 9) rfl)) e0 (g := (mkF m 1 #[.val (.ref a0), .val (.int p1)] [(.ref a0)])) rfl (by rw [hml]; rfl) rfl (hb hby d1_1) (by decide) (W := 0) (by show 2 * 0 + _ ≤ _; exact Nat.le_of_eq rfl) (by decide)
  obtain ⟨T2, h2, k2, X2, e2, E2, A2, st2⟩ := newP X1 hx hZ (hw _ (List.mem_of_getElem? (i := 10) rfl)) e1 (g := (mkF m 6 #[.val (.ref a0), .val (.int p1)] [(.int p1), (.ref a0)])) rfl (hb hby d1_6) rfl hneg (cap := 31) hcap (by decide) (by decide) (by decide)
  obtain ⟨b2, g2⟩ : ∃ z, z = h0.size := ⟨_, rfl⟩
  rw [← g2] at A2 st2
  have ne_a0_b2 : a0 ≠ b2 := Nat.ne_of_lt (Nat.lt_of_lt_of_le E_a0.lt (Nat.le_of_eq g2.symm))
  have nw_b2 : n0 ≤ b2 := Nat.le_trans (Nat.le_trans Z0 (Keep.refl h0 [a0]).1) (Nat.le_of_eq g2.symm)
  have sz_b2 : h0.size ≤ b2 := Nat.le_trans (Keep.refl h0 [a0]).1 (Nat.le_of_eq g2.symm)
  have K2 : Keep h0 h2 [a0] := (Keep.refl h0 [a0]).ext E2
  have V2 : AF Z h2 b2 .byte (p1).toNatClampNeg (fun j => .int ((fun _ => (0 : Int32)) j)) := AF.new A2 hneg
  have G3 : Exa Z h2 a0 "com/example/commitlog/commitlog/codec/JsonWriter" := (E_a0.ext E2)
  have G4 : Fld Z h2 a0 "com/example/commitlog/commitlog/codec/JsonWriter" "bytes" "[B" w_bytes_a0 := (F_bytes_a0.ext E2)
  obtain ⟨T5, h5, X5, e5, W5, st5⟩ := putF X2 hx hZ hown (host := "") (Or.inl (hw _ (List.mem_of_getElem? (i := 11) rfl))) Via.refl e2 G4 G3 (Or.inl (hw _ (List.mem_of_getElem? (i := 12) rfl))) (hw _ (List.mem_of_getElem? (i := 2) rfl)) (ty := (.array .byte)) (by decide) rfl rfl (g := (mkF m 8 #[.val (.ref a0), .val (.int p1)] [(.ref b2), (.ref a0)])) rfl rfl (hb hby d1_8)
  have K5 : Keep h0 h5 [a0] := K2.wr W5 (Or.inl (by simp))
  have Fw5 : Fld Z h5 a0 "com/example/commitlog/commitlog/codec/JsonWriter" "bytes" "[B" (.ref b2) := G4.same W5
  have N5 := Fr.snoc X5 N0 nw_a0
  obtain ⟨fs, hr, hrun, hended, hW, hsame⟩ := X5.leave (v := none) (fun _ => rfl)
  refine ⟨_, _, pre0 _ ?_, hrun, hended, _, _, rfl, ?_, ⟨_, rfl⟩, hW, hsame.mono (by decide) (by decide)⟩
  · show Steps p.tables e below (s₁.setTop (mkF m 0 #[.val (.ref a0), .val (.int p1)] [])) _
    refine XS.aloadN X0.here hx rfl (hb hby d1_0) rfl rfl ?_
    show Steps p.tables e below (s₁.setTop (mkF m 1 #[.val (.ref a0), .val (.int p1)] [(.ref a0)])) _
    refine st1 _ ?_
    show Steps p.tables e below (T1.setTop (mkF m 4 #[.val (.ref a0), .val (.int p1)] [])) _
    refine XS.aloadN X1.here hx rfl (hb hby d1_4) rfl rfl ?_
    show Steps p.tables e below (T1.setTop (mkF m 5 #[.val (.ref a0), .val (.int p1)] [(.ref a0)])) _
    refine XS.iloadN X1.here hx rfl (hb hby d1_5) rfl ?_
    show Steps p.tables e below (T1.setTop (mkF m 6 #[.val (.ref a0), .val (.int p1)] [(.int p1), (.ref a0)])) _
    refine st2 _ ?_
    show Steps p.tables e below (T2.setTop (mkF m 8 #[.val (.ref a0), .val (.int p1)] [(.ref b2), (.ref a0)])) _
    refine st5 _ ?_
    show Steps p.tables e below (T5.setTop (mkF m 11 #[.val (.ref a0), .val (.int p1)] [])) _
    exact X5.returnOut hx Bd.returns (hb hby d1_11) hr
  have G6 : Exa Z h5 a0 "com/example/commitlog/commitlog/codec/JsonWriter" := (G3.wr W5)
  have G7 : Fld Z h5 a0 "com/example/commitlog/commitlog/codec/JsonWriter" "length" "I" (.int w_length_a0) := ((F_length_a0.ext E2).other W5 (Or.inr (slot_ne (Or.inl (hw _ (List.mem_of_getElem? (i := 24) rfl))) (Or.inl (hw _ (List.mem_of_getElem? (i := 12) rfl))) (by decide) (t := .int) (t' := (.array .byte)) (by decide) (by decide))))
  have G8 : Fld Z h5 a0 "com/example/commitlog/commitlog/codec/JsonWriter" "afterValue" "Z" (.int w_afterValue_a0) := ((F_afterValue_a0.ext E2).other W5 (Or.inr (slot_ne (Or.inl (hw _ (List.mem_of_getElem? (i := 26) rfl))) (Or.inl (hw _ (List.mem_of_getElem? (i := 12) rfl))) (by decide) (t := .boolean) (t' := (.array .byte)) (by decide) (by decide))))
  have G9 : AF Z h5 b2 .byte (p1).toNatClampNeg (fun j => .int ((fun _ => (0 : Int32)) j)) := (V2.other W5 (Ne.symm ne_a0_b2))
  · show Q1 Z a0 p1 w_bytes_a0 w_length_a0 w_afterValue_a0 h0 n0 _ T5.heap _
    rw [e5]
    exact ⟨b2, rfl, N5, K5, sz_b2, G6, Fw5, G7, G8, G9⟩
theorem ef_4g (m : MethodId) (a0 : Addr) (p1 : Int32) : entryFrame m #[(.ref a0), (.int p1)] 2 = mkF m 0 #[.val (.ref a0), .val (.int p1)] [] := by first | (simp [entryFrame, mkF, argsToLocals, Value.category]; done) | rfl
def Q4g (Z : State) (a0 : Addr) (p1 : Int32) (w_bytes_a0 : Addr) (w_length_a0 : Int32) (w_afterValue_a0 : Int32) (n_w_bytes_a0 : Nat) (g_w_bytes_a0 : Nat → Int32) (h0 : Heap) (n0 : Nat) (v : Option Value) (h : Heap) (L : List Loc) : Prop := ∃ b2 : Addr, v = some (.ref a0) ∧ Fr n0 L ∧ Keep h0 h [a0] ∧ h0.size ≤ b2 ∧ Exa Z h a0 "com/example/commitlog/commitlog/codec/JsonWriter" ∧ Fld Z h a0 "com/example/commitlog/commitlog/codec/JsonWriter" "bytes" "[B" (.ref b2) ∧ Fld Z h a0 "com/example/commitlog/commitlog/codec/JsonWriter" "length" "I" (.int (0 : Int32)) ∧ Fld Z h a0 "com/example/commitlog/commitlog/codec/JsonWriter" "afterValue" "Z" (.int (0 : Int32)) ∧ AF Z h b2 .byte (p1).toNatClampNeg (fun j => .int ((fun _ => (0 : Int32)) j))
set_option maxRecDepth 65536 in
set_option maxHeartbeats 40000000 in
theorem rm4g (l : Launch) (Z : State) (A0 : Array Value) (hw : ∀ d ∈ tables_1, d.before A0 Z = true) (ws : List Jvm.Cond) (a0 : Addr) (p1 : Int32) (w_bytes_a0 : Addr) (w_length_a0 : Int32) (w_afterValue_a0 : Int32) (n_w_bytes_a0 : Nat) (g_w_bytes_a0 : Nat → Int32) (h0 : Heap) (n0 : Nat) (Z0 : n0 ≤ h0.size) (E_a0 : Exa Z h0 a0 "com/example/commitlog/commitlog/codec/JsonWriter") (F_bytes_a0 : Fld Z h0 a0 "com/example/commitlog/commitlog/codec/JsonWriter" "bytes" "[B" (.ref w_bytes_a0)) (F_length_a0 : Fld Z h0 a0 "com/example/commitlog/commitlog/codec/JsonWriter" "length" "I" (.int w_length_a0)) (F_afterValue_a0 : Fld Z h0 a0 "com/example/commitlog/commitlog/codec/JsonWriter" "afterValue" "Z" (.int w_afterValue_a0)) (A_w_bytes_a0 : AF Z h0 w_bytes_a0 .byte n_w_bytes_a0 (fun j => .int (g_w_bytes_a0 j))) (nw_a0 : n0 ≤ a0) (hc6 : p1 < (Int32.ofNat n_w_bytes_a0)) (hneg : ¬ p1 < (0 : Int32)) (hcap : p1.toNatClampNeg ≤ 40) :
    MetFree l (⟨"com/example/commitlog/commitlog/codec/JsonWriter", "reset", "(I)Lcom/example/commitlog/commitlog/codec/JsonWriter;"⟩ : MethodName) (head1 (Jvm.Cond.code (⟨"com/example/commitlog/commitlog/codec/JsonWriter", "reset", "(I)Lcom/example/commitlog/commitlog/codec/JsonWriter;"⟩ : MethodName) prog_9_method_10_code 2 (some (.object "com/example/commitlog/commitlog/codec/JsonWriter")) :: ws) ({ frames := 0, cells := 1, slots := 40, locals := 0 } : Room)) (fun a U => a = #[(.ref a0), (.int p1)] ∧ Z.Warmed39 U.vm ∧ U.heap = h0) (fun _ _ _ _ _ => True) (fun _ U o U' => ∃ v L, o = .returned v ∧ Q4g Z a0 p1 w_bytes_a0 w_length_a0 w_afterValue_a0 n_w_bytes_a0 g_w_bytes_a0 h0 n0 v U'.heap L ∧ FrameEnd U o U' L ({ frames := 0, cells := 1, slots := 40, locals := 0 } : Room).cells ({ frames := 0, cells := 1, slots := 40, locals := 0 } : Room).slots) := by
  refine MetFree.of_bodySF (plainFor_of_name pn_4) hisR ?_
  intro p e s m args below meth c s₁ Bd hml0 hP hK
  obtain ⟨rfl, hZ, hh⟩ := hP
  have hx := Bd.exec
  have hby := Bd.bytes
  have hml : c.maxLocals = 2 := hml0
  have hown : s.vm.findClass "com/example/commitlog/commitlog/codec/JsonWriter" = some m.cls := findClass_of_methodNamed Bd.named
  have hnm := (name_of_methodNamed Bd.named Bd.method).1
  have X0 : Stand p l e ({ frames := 0, cells := 1, slots := 40, locals := 0 } : Room) s m #[(.ref a0), (.int p1)] below meth c s₁ [] 0 0 := Stand.of_body Bd
  have e0 : s₁.heap = h0 := by rw [← hh, Bd.state]; rfl
  have N0 := Fr.nil n0
  have pre0 : ∀ t, Steps p.tables e below (s₁.setTop (mkF m 0 #[.val (.ref a0), .val (.int p1)] [])) t → Steps p.tables e below (s₁.setTop (entryFrame m #[(.ref a0), (.int p1)] 2)) t := fun t k => castTop (ef_4g m a0 p1) k
  obtain ⟨T1, X1, e1, st1⟩ := getF X0 hx hZ hown (host := "") (Or.inl (hw _ (List.mem_of_getElem? (i := 11) rfl))) Via.refl e0 F_bytes_a0 (g := (mkF m 1 #[.val (.ref a0), .val (.int p1)] [(.ref a0)])) rfl rfl (hb hby d4_1)
  obtain ⟨T2, h2, k2, X2, e2, E2, A2, st2⟩ := newP X1 hx hZ (hw _ (List.mem_of_getElem? (i := 10) rfl)) e1 (g := (mkF m 11 #[.val (.ref a0), .val (.int p1)] [(.int p1), (.ref a0)])) rfl (hb hby d4_11) rfl hneg (cap := 40) hcap (by decide) (by decide) (by decide)
  obtain ⟨b2, g2⟩ : ∃ z, z = h0.size := ⟨_, rfl⟩
  rw [← g2] at A2 st2
  have ne_a0_b2 : a0 ≠ b2 := Nat.ne_of_lt (Nat.lt_of_lt_of_le E_a0.lt (Nat.le_of_eq g2.symm))
  have ne_w_bytes_a0_b2 : w_bytes_a0 ≠ b2 := Nat.ne_of_lt (Nat.lt_of_lt_of_le A_w_bytes_a0.lt (Nat.le_of_eq g2.symm))
  have nw_b2 : n0 ≤ b2 := Nat.le_trans (Nat.le_trans Z0 (Keep.refl h0 [a0]).1) (Nat.le_of_eq g2.symm)
  have sz_b2 : h0.size ≤ b2 := Nat.le_trans (Keep.refl h0 [a0]).1 (Nat.le_of_eq g2.symm)
  have K2 : Keep h0 h2 [a0] := (Keep.refl h0 [a0]).ext E2
  have V2 : AF Z h2 b2 .byte (p1).toNatClampNeg (fun j => .int ((fun _ => (0 : Int32)) j)) := AF.new A2 hneg
  have G3 : Exa Z h2 a0 "com/example/commitlog/commitlog/codec/JsonWriter" := (E_a0.ext E2)
  have G4 : Fld Z h2 a0 "com/example/commitlog/commitlog/codec/JsonWriter" "bytes" "[B" (.ref w_bytes_a0) := (F_bytes_a0.ext E2)
  obtain ⟨T5, h5, X5, e5, W5, st5⟩ := putF X2 hx hZ hown (host := "") (Or.inl (hw _ (List.mem_of_getElem? (i := 11) rfl))) Via.refl e2 G4 G3 (Or.inl (hw _ (List.mem_of_getElem? (i := 12) rfl))) (hw _ (List.mem_of_getElem? (i := 2) rfl)) (ty := (.array .byte)) (by decide) rfl rfl (g := (mkF m 13 #[.val (.ref a0), .val (.int p1)] [(.ref b2), (.ref a0)])) rfl rfl (hb hby d4_13)
  have K5 : Keep h0 h5 [a0] := K2.wr W5 (Or.inl (by simp))
  have Fw5 : Fld Z h5 a0 "com/example/commitlog/commitlog/codec/JsonWriter" "bytes" "[B" (.ref b2) := G4.same W5
  have N5 := Fr.snoc X5 N0 nw_a0
  have G6 : Exa Z h5 a0 "com/example/commitlog/commitlog/codec/JsonWriter" := (G3.wr W5)
  have G7 : Fld Z h5 a0 "com/example/commitlog/commitlog/codec/JsonWriter" "length" "I" (.int w_length_a0) := ((F_length_a0.ext E2).other W5 (Or.inr (slot_ne (Or.inl (hw _ (List.mem_of_getElem? (i := 24) rfl))) (Or.inl (hw _ (List.mem_of_getElem? (i := 12) rfl))) (by decide) (t := .int) (t' := (.array .byte)) (by decide) (by decide))))
  obtain ⟨T8, h8, X8, e8, W8, st8⟩ := putF X5 hx hZ hown (host := "") (Or.inl (hw _ (List.mem_of_getElem? (i := 23) rfl))) Via.refl e5 G7 G6 (Or.inl (hw _ (List.mem_of_getElem? (i := 24) rfl))) (hw _ (List.mem_of_getElem? (i := 2) rfl)) (ty := .int) (by decide) rfl rfl (g := (mkF m 18 #[.val (.ref a0), .val (.int p1)] [(.int (0 : Int32)), (.ref a0)])) rfl rfl (hb hby d4_18)
  have K8 : Keep h0 h8 [a0] := K5.wr W8 (Or.inl (by simp))
  have Fw8 : Fld Z h8 a0 "com/example/commitlog/commitlog/codec/JsonWriter" "length" "I" (.int (0 : Int32)) := G7.same W8
  have N8 := Fr.snoc X8 N5 nw_a0
  have G9 : Exa Z h8 a0 "com/example/commitlog/commitlog/codec/JsonWriter" := (G6.wr W8)
  have G10 : Fld Z h8 a0 "com/example/commitlog/commitlog/codec/JsonWriter" "afterValue" "Z" (.int w_afterValue_a0) := (((F_afterValue_a0.ext E2).other W5 (Or.inr (slot_ne (Or.inl (hw _ (List.mem_of_getElem? (i := 26) rfl))) (Or.inl (hw _ (List.mem_of_getElem? (i := 12) rfl))) (by decide) (t := .boolean) (t' := (.array .byte)) (by decide) (by decide)))).other W8 (Or.inr (slot_ne (Or.inl (hw _ (List.mem_of_getElem? (i := 26) rfl))) (Or.inl (hw _ (List.mem_of_getElem? (i := 24) rfl))) (by decide) (t := .boolean) (t' := .int) (by decide) (by decide))))
  obtain ⟨T11, h11, X11, e11, W11, st11⟩ := putFN X8 hx hZ hown (hw _ (List.mem_of_getElem? (i := 25) rfl)) Via.refl e8 G10 G9 (Or.inl (hw _ (List.mem_of_getElem? (i := 26) rfl))) (hw _ (List.mem_of_getElem? (i := 2) rfl)) (ty := .boolean) (v' := .int (0 : Int32)) (by decide) rfl rfl (g := (mkF m 23 #[.val (.ref a0), .val (.int p1)] [(.int (0 : Int32)), (.ref a0)])) rfl rfl (hb hby d4_23)
  have K11 : Keep h0 h11 [a0] := K8.wr W11 (Or.inl (by simp))
  have Fw11 : Fld Z h11 a0 "com/example/commitlog/commitlog/codec/JsonWriter" "afterValue" "Z" (.int (0 : Int32)) := G10.same W11
  have N11 := Fr.snoc X11 N8 nw_a0
  obtain ⟨fs, hr, hrun, hended, hW, hsame⟩ := X11.leave (v := some (.ref a0)) (fun h => by rw [Bd.returns] at h; cases h)
  refine ⟨_, _, pre0 _ ?_, hrun, hended, _, _, rfl, ?_, ⟨_, rfl⟩, hW, hsame.mono (by decide) (by decide)⟩
  · show Steps p.tables e below (s₁.setTop (mkF m 0 #[.val (.ref a0), .val (.int p1)] [])) _
    refine XS.aloadN X0.here hx rfl (hb hby d4_0) rfl rfl ?_
    show Steps p.tables e below (s₁.setTop (mkF m 1 #[.val (.ref a0), .val (.int p1)] [(.ref a0)])) _
    refine st1 _ ?_
    show Steps p.tables e below (T1.setTop (mkF m 4 #[.val (.ref a0), .val (.int p1)] [(.ref w_bytes_a0)])) _
    refine AF.len X1 hx hZ e1 A_w_bytes_a0 (g := (mkF m 4 #[.val (.ref a0), .val (.int p1)] [(.ref w_bytes_a0)])) rfl rfl (hb hby d4_4) _ ?_
    show Steps p.tables e below (T1.setTop (mkF m 5 #[.val (.ref a0), .val (.int p1)] [(.int (Int32.ofNat n_w_bytes_a0))])) _
    refine XS.iloadN X1.here hx rfl (hb hby d4_5) rfl ?_
    show Steps p.tables e below (T1.setTop (mkF m 6 #[.val (.ref a0), .val (.int p1)] [(.int p1), (.int (Int32.ofNat n_w_bytes_a0))])) _
    refine XS.icmpNo X1.here hx rfl (hb hby d4_6) rfl (tlt hc6).2.2.2 ?_
    show Steps p.tables e below (T1.setTop (mkF m 9 #[.val (.ref a0), .val (.int p1)] [])) _
    refine XS.aloadN X1.here hx rfl (hb hby d4_9) rfl rfl ?_
    show Steps p.tables e below (T1.setTop (mkF m 10 #[.val (.ref a0), .val (.int p1)] [(.ref a0)])) _
    refine XS.iloadN X1.here hx rfl (hb hby d4_10) rfl ?_
    show Steps p.tables e below (T1.setTop (mkF m 11 #[.val (.ref a0), .val (.int p1)] [(.int p1), (.ref a0)])) _
    refine st2 _ ?_
    show Steps p.tables e below (T2.setTop (mkF m 13 #[.val (.ref a0), .val (.int p1)] [(.ref b2), (.ref a0)])) _
    refine st5 _ ?_
    show Steps p.tables e below (T5.setTop (mkF m 16 #[.val (.ref a0), .val (.int p1)] [])) _
    refine XS.aloadN X5.here hx rfl (hb hby d4_16) rfl rfl ?_
    show Steps p.tables e below (T5.setTop (mkF m 17 #[.val (.ref a0), .val (.int p1)] [(.ref a0)])) _
    refine XS.iconst X5.here hx rfl (hb hby d4_17) ?_
    show Steps p.tables e below (T5.setTop (mkF m 18 #[.val (.ref a0), .val (.int p1)] [(.int (0 : Int32)), (.ref a0)])) _
    refine st8 _ ?_
    show Steps p.tables e below (T8.setTop (mkF m 21 #[.val (.ref a0), .val (.int p1)] [])) _
    refine XS.aloadN X8.here hx rfl (hb hby d4_21) rfl rfl ?_
    show Steps p.tables e below (T8.setTop (mkF m 22 #[.val (.ref a0), .val (.int p1)] [(.ref a0)])) _
    refine XS.iconst X8.here hx rfl (hb hby d4_22) ?_
    show Steps p.tables e below (T8.setTop (mkF m 23 #[.val (.ref a0), .val (.int p1)] [(.int (0 : Int32)), (.ref a0)])) _
    refine st11 _ ?_
    show Steps p.tables e below (T11.setTop (mkF m 26 #[.val (.ref a0), .val (.int p1)] [])) _
    refine XS.aloadN X11.here hx rfl (hb hby d4_26) rfl rfl ?_
    show Steps p.tables e below (T11.setTop (mkF m 27 #[.val (.ref a0), .val (.int p1)] [(.ref a0)])) _
    exact retOut X11 hx Bd.returns rfl (Or.inr (Or.inr (Or.inr (Or.inr ⟨rfl, rfl, rfl⟩)))) (hb hby d4_27) hr
  have G12 : Exa Z h11 a0 "com/example/commitlog/commitlog/codec/JsonWriter" := (G9.wr W11)
  have G13 : Fld Z h11 a0 "com/example/commitlog/commitlog/codec/JsonWriter" "bytes" "[B" (.ref b2) := ((Fw5.other W8 (Or.inr (slot_ne (Or.inl (hw _ (List.mem_of_getElem? (i := 12) rfl))) (Or.inl (hw _ (List.mem_of_getElem? (i := 24) rfl))) (by decide) (t := (.array .byte)) (t' := .int) (by decide) (by decide)))).other W11 (Or.inr (slot_ne (Or.inl (hw _ (List.mem_of_getElem? (i := 12) rfl))) (Or.inl (hw _ (List.mem_of_getElem? (i := 26) rfl))) (by decide) (t := (.array .byte)) (t' := .boolean) (by decide) (by decide))))
  have G14 : Fld Z h11 a0 "com/example/commitlog/commitlog/codec/JsonWriter" "length" "I" (.int (0 : Int32)) := (Fw8.other W11 (Or.inr (slot_ne (Or.inl (hw _ (List.mem_of_getElem? (i := 24) rfl))) (Or.inl (hw _ (List.mem_of_getElem? (i := 26) rfl))) (by decide) (t := .int) (t' := .boolean) (by decide) (by decide))))
  have G15 : AF Z h11 b2 .byte (p1).toNatClampNeg (fun j => .int ((fun _ => (0 : Int32)) j)) := (((V2.other W5 (Ne.symm ne_a0_b2)).other W8 (Ne.symm ne_a0_b2)).other W11 (Ne.symm ne_a0_b2))
  · show Q4g Z a0 p1 w_bytes_a0 w_length_a0 w_afterValue_a0 n_w_bytes_a0 g_w_bytes_a0 h0 n0 _ T11.heap _
    rw [e11]
    exact ⟨b2, rfl, N11, K11, sz_b2, G12, G13, G14, Fw11, G15⟩
theorem ef_4k (m : MethodId) (a0 : Addr) (p1 : Int32) : entryFrame m #[(.ref a0), (.int p1)] 2 = mkF m 0 #[.val (.ref a0), .val (.int p1)] [] := by first | (simp [entryFrame, mkF, argsToLocals, Value.category]; done) | rfl
def Q4k (Z : State) (a0 : Addr) (p1 : Int32) (w_bytes_a0 : Addr) (w_length_a0 : Int32) (w_afterValue_a0 : Int32) (n_w_bytes_a0 : Nat) (g_w_bytes_a0 : Nat → Int32) (h0 : Heap) (n0 : Nat) (v : Option Value) (h : Heap) (L : List Loc) : Prop := v = some (.ref a0) ∧ Fr n0 L ∧ Keep h0 h [a0] ∧ Exa Z h a0 "com/example/commitlog/commitlog/codec/JsonWriter" ∧ Fld Z h a0 "com/example/commitlog/commitlog/codec/JsonWriter" "bytes" "[B" (.ref w_bytes_a0) ∧ Fld Z h a0 "com/example/commitlog/commitlog/codec/JsonWriter" "length" "I" (.int (0 : Int32)) ∧ Fld Z h a0 "com/example/commitlog/commitlog/codec/JsonWriter" "afterValue" "Z" (.int (0 : Int32))
set_option maxRecDepth 65536 in
set_option maxHeartbeats 40000000 in
theorem rm4k (l : Launch) (Z : State) (A0 : Array Value) (hw : ∀ d ∈ tables_1, d.before A0 Z = true) (ws : List Jvm.Cond) (a0 : Addr) (p1 : Int32) (w_bytes_a0 : Addr) (w_length_a0 : Int32) (w_afterValue_a0 : Int32) (n_w_bytes_a0 : Nat) (g_w_bytes_a0 : Nat → Int32) (h0 : Heap) (n0 : Nat) (Z0 : n0 ≤ h0.size) (E_a0 : Exa Z h0 a0 "com/example/commitlog/commitlog/codec/JsonWriter") (F_bytes_a0 : Fld Z h0 a0 "com/example/commitlog/commitlog/codec/JsonWriter" "bytes" "[B" (.ref w_bytes_a0)) (F_length_a0 : Fld Z h0 a0 "com/example/commitlog/commitlog/codec/JsonWriter" "length" "I" (.int w_length_a0)) (F_afterValue_a0 : Fld Z h0 a0 "com/example/commitlog/commitlog/codec/JsonWriter" "afterValue" "Z" (.int w_afterValue_a0)) (A_w_bytes_a0 : AF Z h0 w_bytes_a0 .byte n_w_bytes_a0 (fun j => .int (g_w_bytes_a0 j))) (nw_a0 : n0 ≤ a0) (hc6 : ¬ (p1 < (Int32.ofNat n_w_bytes_a0))) :
    MetFree l (⟨"com/example/commitlog/commitlog/codec/JsonWriter", "reset", "(I)Lcom/example/commitlog/commitlog/codec/JsonWriter;"⟩ : MethodName) (head1 (Jvm.Cond.code (⟨"com/example/commitlog/commitlog/codec/JsonWriter", "reset", "(I)Lcom/example/commitlog/commitlog/codec/JsonWriter;"⟩ : MethodName) prog_9_method_10_code 2 (some (.object "com/example/commitlog/commitlog/codec/JsonWriter")) :: ws) ({ frames := 0, cells := 0, slots := 0, locals := 0 } : Room)) (fun a U => a = #[(.ref a0), (.int p1)] ∧ Z.Warmed39 U.vm ∧ U.heap = h0) (fun _ _ _ _ _ => True) (fun _ U o U' => ∃ v L, o = .returned v ∧ Q4k Z a0 p1 w_bytes_a0 w_length_a0 w_afterValue_a0 n_w_bytes_a0 g_w_bytes_a0 h0 n0 v U'.heap L ∧ FrameEnd U o U' L ({ frames := 0, cells := 0, slots := 0, locals := 0 } : Room).cells ({ frames := 0, cells := 0, slots := 0, locals := 0 } : Room).slots) := by
  refine MetFree.of_bodySF (plainFor_of_name pn_4) hisR ?_
  intro p e s m args below meth c s₁ Bd hml0 hP hK
  obtain ⟨rfl, hZ, hh⟩ := hP
  have hx := Bd.exec
  have hby := Bd.bytes
  have hml : c.maxLocals = 2 := hml0
  have hown : s.vm.findClass "com/example/commitlog/commitlog/codec/JsonWriter" = some m.cls := findClass_of_methodNamed Bd.named
  have hnm := (name_of_methodNamed Bd.named Bd.method).1
  have X0 : Stand p l e ({ frames := 0, cells := 0, slots := 0, locals := 0 } : Room) s m #[(.ref a0), (.int p1)] below meth c s₁ [] 0 0 := Stand.of_body Bd
  have e0 : s₁.heap = h0 := by rw [← hh, Bd.state]; rfl
  have N0 := Fr.nil n0
  have pre0 : ∀ t, Steps p.tables e below (s₁.setTop (mkF m 0 #[.val (.ref a0), .val (.int p1)] [])) t → Steps p.tables e below (s₁.setTop (entryFrame m #[(.ref a0), (.int p1)] 2)) t := fun t k => castTop (ef_4k m a0 p1) k
  obtain ⟨T1, X1, e1, st1⟩ := getF X0 hx hZ hown (host := "") (Or.inl (hw _ (List.mem_of_getElem? (i := 11) rfl))) Via.refl e0 F_bytes_a0 (g := (mkF m 1 #[.val (.ref a0), .val (.int p1)] [(.ref a0)])) rfl rfl (hb hby d4_1)
  obtain ⟨T2, h2, X2, e2, W2, st2⟩ := putF X1 hx hZ hown (host := "") (Or.inl (hw _ (List.mem_of_getElem? (i := 23) rfl))) Via.refl e1 F_length_a0 E_a0 (Or.inl (hw _ (List.mem_of_getElem? (i := 24) rfl))) (hw _ (List.mem_of_getElem? (i := 2) rfl)) (ty := .int) (by decide) rfl rfl (g := (mkF m 18 #[.val (.ref a0), .val (.int p1)] [(.int (0 : Int32)), (.ref a0)])) rfl rfl (hb hby d4_18)
  have K2 : Keep h0 h2 [a0] := (Keep.refl h0 [a0]).wr W2 (Or.inl (by simp))
  have Fw2 : Fld Z h2 a0 "com/example/commitlog/commitlog/codec/JsonWriter" "length" "I" (.int (0 : Int32)) := F_length_a0.same W2
  have N2 := Fr.snoc X2 N0 nw_a0
  have G3 : Exa Z h2 a0 "com/example/commitlog/commitlog/codec/JsonWriter" := (E_a0.wr W2)
  have G4 : Fld Z h2 a0 "com/example/commitlog/commitlog/codec/JsonWriter" "afterValue" "Z" (.int w_afterValue_a0) := (F_afterValue_a0.other W2 (Or.inr (slot_ne (Or.inl (hw _ (List.mem_of_getElem? (i := 26) rfl))) (Or.inl (hw _ (List.mem_of_getElem? (i := 24) rfl))) (by decide) (t := .boolean) (t' := .int) (by decide) (by decide))))
  obtain ⟨T5, h5, X5, e5, W5, st5⟩ := putFN X2 hx hZ hown (hw _ (List.mem_of_getElem? (i := 25) rfl)) Via.refl e2 G4 G3 (Or.inl (hw _ (List.mem_of_getElem? (i := 26) rfl))) (hw _ (List.mem_of_getElem? (i := 2) rfl)) (ty := .boolean) (v' := .int (0 : Int32)) (by decide) rfl rfl (g := (mkF m 23 #[.val (.ref a0), .val (.int p1)] [(.int (0 : Int32)), (.ref a0)])) rfl rfl (hb hby d4_23)
  have K5 : Keep h0 h5 [a0] := K2.wr W5 (Or.inl (by simp))
  have Fw5 : Fld Z h5 a0 "com/example/commitlog/commitlog/codec/JsonWriter" "afterValue" "Z" (.int (0 : Int32)) := G4.same W5
  have N5 := Fr.snoc X5 N2 nw_a0
  obtain ⟨fs, hr, hrun, hended, hW, hsame⟩ := X5.leave (v := some (.ref a0)) (fun h => by rw [Bd.returns] at h; cases h)
  refine ⟨_, _, pre0 _ ?_, hrun, hended, _, _, rfl, ?_, ⟨_, rfl⟩, hW, hsame.mono (by decide) (by decide)⟩
  · show Steps p.tables e below (s₁.setTop (mkF m 0 #[.val (.ref a0), .val (.int p1)] [])) _
    refine XS.aloadN X0.here hx rfl (hb hby d4_0) rfl rfl ?_
    show Steps p.tables e below (s₁.setTop (mkF m 1 #[.val (.ref a0), .val (.int p1)] [(.ref a0)])) _
    refine st1 _ ?_
    show Steps p.tables e below (T1.setTop (mkF m 4 #[.val (.ref a0), .val (.int p1)] [(.ref w_bytes_a0)])) _
    refine AF.len X1 hx hZ e1 A_w_bytes_a0 (g := (mkF m 4 #[.val (.ref a0), .val (.int p1)] [(.ref w_bytes_a0)])) rfl rfl (hb hby d4_4) _ ?_
    show Steps p.tables e below (T1.setTop (mkF m 5 #[.val (.ref a0), .val (.int p1)] [(.int (Int32.ofNat n_w_bytes_a0))])) _
    refine XS.iloadN X1.here hx rfl (hb hby d4_5) rfl ?_
    show Steps p.tables e below (T1.setTop (mkF m 6 #[.val (.ref a0), .val (.int p1)] [(.int p1), (.int (Int32.ofNat n_w_bytes_a0))])) _
    refine XS.icmpYes X1.here hx rfl (pc0 := 6) (pc' := 16) rfl (hb hby d4_6) rfl (flt hc6).2.2.2 (by decide) (by decide) ?_
    show Steps p.tables e below (T1.setTop (mkF m 16 #[.val (.ref a0), .val (.int p1)] [])) _
    refine XS.aloadN X1.here hx rfl (hb hby d4_16) rfl rfl ?_
    show Steps p.tables e below (T1.setTop (mkF m 17 #[.val (.ref a0), .val (.int p1)] [(.ref a0)])) _
    refine XS.iconst X1.here hx rfl (hb hby d4_17) ?_
    show Steps p.tables e below (T1.setTop (mkF m 18 #[.val (.ref a0), .val (.int p1)] [(.int (0 : Int32)), (.ref a0)])) _
    refine st2 _ ?_
    show Steps p.tables e below (T2.setTop (mkF m 21 #[.val (.ref a0), .val (.int p1)] [])) _
    refine XS.aloadN X2.here hx rfl (hb hby d4_21) rfl rfl ?_
    show Steps p.tables e below (T2.setTop (mkF m 22 #[.val (.ref a0), .val (.int p1)] [(.ref a0)])) _
    refine XS.iconst X2.here hx rfl (hb hby d4_22) ?_
    show Steps p.tables e below (T2.setTop (mkF m 23 #[.val (.ref a0), .val (.int p1)] [(.int (0 : Int32)), (.ref a0)])) _
    refine st5 _ ?_
    show Steps p.tables e below (T5.setTop (mkF m 26 #[.val (.ref a0), .val (.int p1)] [])) _
    refine XS.aloadN X5.here hx rfl (hb hby d4_26) rfl rfl ?_
    show Steps p.tables e below (T5.setTop (mkF m 27 #[.val (.ref a0), .val (.int p1)] [(.ref a0)])) _
    exact retOut X5 hx Bd.returns rfl (Or.inr (Or.inr (Or.inr (Or.inr ⟨rfl, rfl, rfl⟩)))) (hb hby d4_27) hr
  have G6 : Exa Z h5 a0 "com/example/commitlog/commitlog/codec/JsonWriter" := (G3.wr W5)
  have G7 : Fld Z h5 a0 "com/example/commitlog/commitlog/codec/JsonWriter" "bytes" "[B" (.ref w_bytes_a0) := ((F_bytes_a0.other W2 (Or.inr (slot_ne (Or.inl (hw _ (List.mem_of_getElem? (i := 12) rfl))) (Or.inl (hw _ (List.mem_of_getElem? (i := 24) rfl))) (by decide) (t := (.array .byte)) (t' := .int) (by decide) (by decide)))).other W5 (Or.inr (slot_ne (Or.inl (hw _ (List.mem_of_getElem? (i := 12) rfl))) (Or.inl (hw _ (List.mem_of_getElem? (i := 26) rfl))) (by decide) (t := (.array .byte)) (t' := .boolean) (by decide) (by decide))))
  have G8 : Fld Z h5 a0 "com/example/commitlog/commitlog/codec/JsonWriter" "length" "I" (.int (0 : Int32)) := (Fw2.other W5 (Or.inr (slot_ne (Or.inl (hw _ (List.mem_of_getElem? (i := 24) rfl))) (Or.inl (hw _ (List.mem_of_getElem? (i := 26) rfl))) (by decide) (t := .int) (t' := .boolean) (by decide) (by decide))))
  · show Q4k Z a0 p1 w_bytes_a0 w_length_a0 w_afterValue_a0 n_w_bytes_a0 g_w_bytes_a0 h0 n0 _ T5.heap _
    rw [e5]
    exact ⟨rfl, N5, K5, G6, G7, G8, Fw5⟩
theorem ef_5 (m : MethodId) (a0 : Addr) : entryFrame m #[(.ref a0)] 1 = mkF m 0 #[.val (.ref a0)] [] := by first | (simp [entryFrame, mkF, argsToLocals, Value.category]; done) | rfl
def Q5 (Z : State) (a0 : Addr) (w_bytes_a0 : Value) (w_length_a0 : Int32) (w_afterValue_a0 : Int32) (h0 : Heap) (n0 : Nat) (v : Option Value) (h : Heap) (L : List Loc) : Prop := v = some (.int w_length_a0) ∧ Fr n0 L ∧ h = h0
set_option maxRecDepth 65536 in
set_option maxHeartbeats 40000000 in
theorem rm5 (l : Launch) (Z : State) (A0 : Array Value) (hw : ∀ d ∈ tables_1, d.before A0 Z = true) (ws : List Jvm.Cond) (a0 : Addr) (w_bytes_a0 : Value) (w_length_a0 : Int32) (w_afterValue_a0 : Int32) (h0 : Heap) (n0 : Nat) (Z0 : n0 ≤ h0.size) (E_a0 : Exa Z h0 a0 "com/example/commitlog/commitlog/codec/JsonWriter") (F_bytes_a0 : Fld Z h0 a0 "com/example/commitlog/commitlog/codec/JsonWriter" "bytes" "[B" w_bytes_a0) (F_length_a0 : Fld Z h0 a0 "com/example/commitlog/commitlog/codec/JsonWriter" "length" "I" (.int w_length_a0)) (F_afterValue_a0 : Fld Z h0 a0 "com/example/commitlog/commitlog/codec/JsonWriter" "afterValue" "Z" (.int w_afterValue_a0)) :
    MetFree l (⟨"com/example/commitlog/commitlog/codec/JsonWriter", "length", "()I"⟩ : MethodName) (head1 (Jvm.Cond.code (⟨"com/example/commitlog/commitlog/codec/JsonWriter", "length", "()I"⟩ : MethodName) prog_9_method_9_code 1 (some .int) :: ws) ({ frames := 0, cells := 0, slots := 0, locals := 0 } : Room)) (fun a U => a = #[(.ref a0)] ∧ Z.Warmed39 U.vm ∧ U.heap = h0) (fun _ _ _ _ _ => True) (fun _ U o U' => ∃ v L, o = .returned v ∧ Q5 Z a0 w_bytes_a0 w_length_a0 w_afterValue_a0 h0 n0 v U'.heap L ∧ FrameEnd U o U' L ({ frames := 0, cells := 0, slots := 0, locals := 0 } : Room).cells ({ frames := 0, cells := 0, slots := 0, locals := 0 } : Room).slots) := by
  refine MetFree.of_bodySF (plainFor_of_name pn_5) hisR ?_
  intro p e s m args below meth c s₁ Bd hml0 hP hK
  obtain ⟨rfl, hZ, hh⟩ := hP
  have hx := Bd.exec
  have hby := Bd.bytes
  have hml : c.maxLocals = 1 := hml0
  have hown : s.vm.findClass "com/example/commitlog/commitlog/codec/JsonWriter" = some m.cls := findClass_of_methodNamed Bd.named
  have hnm := (name_of_methodNamed Bd.named Bd.method).1
  have X0 : Stand p l e ({ frames := 0, cells := 0, slots := 0, locals := 0 } : Room) s m #[(.ref a0)] below meth c s₁ [] 0 0 := Stand.of_body Bd
  have e0 : s₁.heap = h0 := by rw [← hh, Bd.state]; rfl
  have N0 := Fr.nil n0
  have pre0 : ∀ t, Steps p.tables e below (s₁.setTop (mkF m 0 #[.val (.ref a0)] [])) t → Steps p.tables e below (s₁.setTop (entryFrame m #[(.ref a0)] 1)) t := fun t k => castTop (ef_5 m a0) k
  obtain ⟨T1, X1, e1, st1⟩ := getF X0 hx hZ hown (host := "") (Or.inl (hw _ (List.mem_of_getElem? (i := 23) rfl))) Via.refl e0 F_length_a0 (g := (mkF m 1 #[.val (.ref a0)] [(.ref a0)])) rfl rfl (hb hby d5_1)
  obtain ⟨fs, hr, hrun, hended, hW, hsame⟩ := X1.leave (v := some (.int w_length_a0)) (fun h => by rw [Bd.returns] at h; cases h)
  refine ⟨_, _, pre0 _ ?_, hrun, hended, _, _, rfl, ?_, ⟨_, rfl⟩, hW, hsame.mono (by decide) (by decide)⟩
  · show Steps p.tables e below (s₁.setTop (mkF m 0 #[.val (.ref a0)] [])) _
    refine XS.aloadN X0.here hx rfl (hb hby d5_0) rfl rfl ?_
    show Steps p.tables e below (s₁.setTop (mkF m 1 #[.val (.ref a0)] [(.ref a0)])) _
    refine st1 _ ?_
    show Steps p.tables e below (T1.setTop (mkF m 4 #[.val (.ref a0)] [(.int w_length_a0)])) _
    exact retOut X1 hx Bd.returns rfl (Or.inl ⟨rfl, Or.inl rfl, _, rfl⟩) (hb hby d5_4) hr
  · show Q5 Z a0 w_bytes_a0 w_length_a0 w_afterValue_a0 h0 n0 _ T1.heap _
    exact ⟨rfl, N0, e1⟩
theorem ef_3 (m : MethodId) (a0 : Addr) : entryFrame m #[(.ref a0)] 1 = mkF m 0 #[.val (.ref a0)] [] := by first | (simp [entryFrame, mkF, argsToLocals, Value.category]; done) | rfl
def Q3 (Z : State) (a0 : Addr) (w_bytes_a0 : Addr) (w_length_a0 : Int32) (w_afterValue_a0 : Int32) (h0 : Heap) (n0 : Nat) (v : Option Value) (h : Heap) (L : List Loc) : Prop := v = some (.ref w_bytes_a0) ∧ Fr n0 L ∧ h = h0
set_option maxRecDepth 65536 in
set_option maxHeartbeats 40000000 in
theorem rm3 (l : Launch) (Z : State) (A0 : Array Value) (hw : ∀ d ∈ tables_1, d.before A0 Z = true) (ws : List Jvm.Cond) (a0 : Addr) (w_bytes_a0 : Addr) (w_length_a0 : Int32) (w_afterValue_a0 : Int32) (h0 : Heap) (n0 : Nat) (Z0 : n0 ≤ h0.size) (E_a0 : Exa Z h0 a0 "com/example/commitlog/commitlog/codec/JsonWriter") (F_bytes_a0 : Fld Z h0 a0 "com/example/commitlog/commitlog/codec/JsonWriter" "bytes" "[B" (.ref w_bytes_a0)) (F_length_a0 : Fld Z h0 a0 "com/example/commitlog/commitlog/codec/JsonWriter" "length" "I" (.int w_length_a0)) (F_afterValue_a0 : Fld Z h0 a0 "com/example/commitlog/commitlog/codec/JsonWriter" "afterValue" "Z" (.int w_afterValue_a0)) :
    MetFree l (⟨"com/example/commitlog/commitlog/codec/JsonWriter", "bytes", "()[B"⟩ : MethodName) (head1 (Jvm.Cond.code (⟨"com/example/commitlog/commitlog/codec/JsonWriter", "bytes", "()[B"⟩ : MethodName) prog_9_method_13_code 1 (some (.array .byte)) :: ws) ({ frames := 0, cells := 0, slots := 0, locals := 0 } : Room)) (fun a U => a = #[(.ref a0)] ∧ Z.Warmed39 U.vm ∧ U.heap = h0) (fun _ _ _ _ _ => True) (fun _ U o U' => ∃ v L, o = .returned v ∧ Q3 Z a0 w_bytes_a0 w_length_a0 w_afterValue_a0 h0 n0 v U'.heap L ∧ FrameEnd U o U' L ({ frames := 0, cells := 0, slots := 0, locals := 0 } : Room).cells ({ frames := 0, cells := 0, slots := 0, locals := 0 } : Room).slots) := by
  refine MetFree.of_bodySF (plainFor_of_name pn_3) hisR ?_
  intro p e s m args below meth c s₁ Bd hml0 hP hK
  obtain ⟨rfl, hZ, hh⟩ := hP
  have hx := Bd.exec
  have hby := Bd.bytes
  have hml : c.maxLocals = 1 := hml0
  have hown : s.vm.findClass "com/example/commitlog/commitlog/codec/JsonWriter" = some m.cls := findClass_of_methodNamed Bd.named
  have hnm := (name_of_methodNamed Bd.named Bd.method).1
  have X0 : Stand p l e ({ frames := 0, cells := 0, slots := 0, locals := 0 } : Room) s m #[(.ref a0)] below meth c s₁ [] 0 0 := Stand.of_body Bd
  have e0 : s₁.heap = h0 := by rw [← hh, Bd.state]; rfl
  have N0 := Fr.nil n0
  have pre0 : ∀ t, Steps p.tables e below (s₁.setTop (mkF m 0 #[.val (.ref a0)] [])) t → Steps p.tables e below (s₁.setTop (entryFrame m #[(.ref a0)] 1)) t := fun t k => castTop (ef_3 m a0) k
  obtain ⟨T1, X1, e1, st1⟩ := getF X0 hx hZ hown (host := "") (Or.inl (hw _ (List.mem_of_getElem? (i := 11) rfl))) Via.refl e0 F_bytes_a0 (g := (mkF m 1 #[.val (.ref a0)] [(.ref a0)])) rfl rfl (hb hby d3_1)
  obtain ⟨fs, hr, hrun, hended, hW, hsame⟩ := X1.leave (v := some (.ref w_bytes_a0)) (fun h => by rw [Bd.returns] at h; cases h)
  refine ⟨_, _, pre0 _ ?_, hrun, hended, _, _, rfl, ?_, ⟨_, rfl⟩, hW, hsame.mono (by decide) (by decide)⟩
  · show Steps p.tables e below (s₁.setTop (mkF m 0 #[.val (.ref a0)] [])) _
    refine XS.aloadN X0.here hx rfl (hb hby d3_0) rfl rfl ?_
    show Steps p.tables e below (s₁.setTop (mkF m 1 #[.val (.ref a0)] [(.ref a0)])) _
    refine st1 _ ?_
    show Steps p.tables e below (T1.setTop (mkF m 4 #[.val (.ref a0)] [(.ref w_bytes_a0)])) _
    exact retOut X1 hx Bd.returns rfl (Or.inr (Or.inr (Or.inr (Or.inr ⟨rfl, rfl, rfl⟩)))) (hb hby d3_4) hr
  · show Q3 Z a0 w_bytes_a0 w_length_a0 w_afterValue_a0 h0 n0 _ T1.heap _
    exact ⟨rfl, N0, e1⟩

theorem own_arv1 {Z : State} {h : Heap} {b : Addr} {k : ClassId} {x : Int32} {z : Int32} (A : Arv Z h b k .byte z [.int x] (.int 0)) (hz : z = 1 := by rfl) : AF Z h b .byte 1 (fun j => .int ((fun _ => x) j)) := by
  subst hz
  obtain ⟨c, A, -, r1, -, H, -⟩ := A
  have e : c.slots.size = 1 := r1
  refine ⟨c, A, e, by decide, fun j hj => ?_⟩
  have q := H j (by omega)
  have : j = 0 := by omega
  subst this
  exact q
theorem own_neA {Z : State} {h : Heap} {b b2 : Addr} {n : Nat} {g f : Nat → Int32} (A : AF Z h b .byte n (fun j => .int (g j))) (A2 : AF Z h b2 .byte 1 (fun j => .int (f j))) (q : n ≠ 1 ∨ g 0 ≠ f 0) : b ≠ b2 := fun e => by
  subst e
  obtain ⟨c, ⟨a1, -⟩, r1, -, r3⟩ := A
  obtain ⟨c2, ⟨b1, -⟩, s1, -, s3⟩ := A2
  cases a1.symm.trans b1
  have e : n = 1 := r1.symm.trans s1
  rcases q with q | q
  · exact q e
  · have x := r3 0 (by omega)
    have y := s3 0 (by omega)
    have z := Option.some.inj (x.symm.trans y)
    exact q (Value.int.inj z)
theorem AF.arr {Z : State} {h : Heap} {a : Addr} {ty : FieldType} {n : Nat} {f : Nat → Value} {C : String} {k : Nat} {A0 : Array Value} {x : Addr} (F : AF Z h a ty n f) (E : Exa Z h x C) (wi : (Cond.instantiable C k).before A0 Z = true) : x ≠ a := by
  obtain ⟨c, A, -⟩ := F
  exact ne_arr E wi A
theorem own_cap (p : Int32) : ¬ (p &&& (31 : Int32)) < (0 : Int32) ∧ ((p &&& (31 : Int32))).toNatClampNeg ≤ 31 := by
  have m := c_mask p 31 5 (by decide) (by decide)
  have k0 := own_z32
  have cl : (p &&& (31 : Int32)).toNatClampNeg = (p &&& (31 : Int32)).toInt.toNat := rfl
  rw [Int32.lt_iff_toInt_lt]
  omega
theorem own_keep (p q v : Int32) (hv : v = (if (q &&& (2 : Int32)) = (0 : Int32) then (p &&& (2147483647 : Int32)) else (p &&& (63 : Int32)))) : 0 ≤ v.toInt := by
  have m := c_mask p 63 6 (by decide) (by decide)
  have m2 := c_mask p 2147483647 31 (by decide) (by decide)
  rw [hv]
  split <;> omega
theorem own_kneg (v : Int32) (h : 0 ≤ v.toInt) : ¬ v < (0 : Int32) := by
  have k0 := own_z32
  rw [Int32.lt_iff_toInt_lt]; omega
theorem own_kcap (v : Int32) (n : Nat) (h0 : 0 ≤ v.toInt) (hn : n ≤ 40) (h : v < Int32.ofNat n) : v.toNatClampNeg ≤ 40 := by
  rw [Int32.lt_iff_toInt_lt, Int32.toInt_ofNat_of_lt (by omega)] at h
  have cl : v.toNatClampNeg = v.toInt.toNat := rfl
  omega
theorem own_back (v : Int32) (h0 : 0 ≤ v.toInt) : (Int32.ofNat (v).toNatClampNeg) = v := by
  have r := rng32 v
  have cl : v.toNatClampNeg = v.toInt.toNat := rfl
  apply Int32.toInt_inj.mp
  rw [Int32.toInt_ofNat_of_lt (by omega)]
  omega

theorem ef_0 (m : MethodId) (p0 : Int32) (p1 : Int32) (q2 : Int64) (p3 : Int32) : entryFrame m #[(.int p0), (.int p1), (.long q2), (.int p3)] maxLocals = mkF m 0 #[.val (.int p0), .val (.int p1), .val (.long q2), .second, .val (.int p3), .unset, .unset, .unset, .unset, .unset, .unset, .unset, .unset] [] := by first | (simp [entryFrame, mkF, argsToLocals, Value.category, maxLocals]; done) | rfl
def Q0 (h0 : Heap) (n0 : Nat) (v : Option Value) (h : Heap) (L : List Loc) : Prop := v = some (.int 1) ∧ Fr n0 L
set_option maxRecDepth 65536 in
set_option maxHeartbeats 40000000 in
theorem rm0 (l : Launch) (Z : State) (A0 : Array Value) (hw : ∀ d ∈ tables_1, d.before A0 Z = true) (ws : List Jvm.Cond) (p0 : Int32) (p1 : Int32) (q2 : Int64) (p3 : Int32) (s_COMPACT_STRINGS : Int32) (s_SIOOBE_FORMATTER : Value) (h0 : Heap) (n0 : Nat) (Z0 : n0 ≤ h0.size) (S_COMPACT_STRINGS : SO Z n0 h0 "java/lang/String" "COMPACT_STRINGS" "Z" (.int s_COMPACT_STRINGS)) (S_SIOOBE_FORMATTER : SO Z n0 h0 "jdk/internal/util/Preconditions" "SIOOBE_FORMATTER" "Ljava/util/function/BiFunction;" s_SIOOBE_FORMATTER) (hn0 : n0 = h0.size) (hcst29 : Jvm.Lit.constHeld Z "com/example/commitlog/commitlog/codec/JsonWriterResetPinLaw" 29) (hcw : Jvm.Lit.compactW.before A0 Z = true) (hcom : ¬ (s_COMPACT_STRINGS = (0 : Int32))) (rf_s_SIOOBE_FORMATTER : s_SIOOBE_FORMATTER.isRef = true) :
    MetFree l x (head1 (Jvm.Cond.code x code maxLocals ret :: ws) room_1) (fun a U => a = #[(.int p0), (.int p1), (.long q2), (.int p3)] ∧ U = Z ∧ U.heap = h0) (fun _ _ _ _ _ => True) (fun _ U o U' => ∃ v L, o = .returned v ∧ Q0 h0 n0 v U'.heap L ∧ ReturnedEndW U o U' L 8 274) := by
  refine MetFree.of_bodySF (plainFor_of_name pn_0) hisR ?_
  intro p e s m args below meth c s₁ Bd hml0 hP hK
  obtain ⟨rfl, hUZ, hh⟩ := hP
  have hZ : Z.Warmed39 s.vm := by rw [hUZ]; exact State.Warmed39.refl Z
  have hx := Bd.exec
  have hby := Bd.bytes
  have hml : c.maxLocals = 13 := hml0
  have hown : s.vm.findClass "com/example/commitlog/commitlog/codec/JsonWriterResetPinLaw" = some m.cls := findClass_of_methodNamed Bd.named
  have hnm := (name_of_methodNamed Bd.named Bd.method).1
  have X0 : Stand p l e room_1 s m #[(.int p0), (.int p1), (.long q2), (.int p3)] below meth c s₁ [] 0 0 := Stand.of_body Bd
  have e0 : s₁.heap = h0 := by rw [← hh, Bd.state]; rfl
  have N0 := Fr.nil n0
  have pre0 : ∀ t, Steps p.tables e below (s₁.setTop (mkF m 0 #[.val (.int p0), .val (.int p1), .val (.long q2), .second, .val (.int p3), .unset, .unset, .unset, .unset, .unset, .unset, .unset, .unset] [])) t → Steps p.tables e below (s₁.setTop (entryFrame m #[(.int p0), (.int p1), (.long q2), (.int p3)] maxLocals)) t := fun t k => castTop (ef_0 m p0 p1 q2 p3) k
  have hkp : ∀ (b : Addr) (cl : Cell), Z.heap[b]? = some cl → s.heap[b]? = some cl := fun b cl q => by rw [hUZ]; exact q
  have hfr : ∀ {L : List Loc}, Fr n0 L → Fr s.heap.size L := fun q => by rw [hh, ← hn0]; exact q
  have hcap0 := own_cap p0
  obtain ⟨v2, hv2⟩ : ∃ z : Int32, z = if (p3 &&& (2 : Int32)) = (0 : Int32) then (p1 &&& (2147483647 : Int32)) else (p1 &&& (63 : Int32)) := ⟨_, rfl⟩
  obtain ⟨T3, h3, X3, e3, E3, A3, D3, -, st3⟩ := newO X0 hx hZ hown (hw _ (List.mem_of_getElem? (i := 1) rfl)) (hw _ (List.mem_of_getElem? (i := 2) rfl)) (hw _ (List.mem_of_getElem? (i := 3) rfl)) e0 (g := (mkF m 26 #[.val (.int p0), .val (.int p1), .val (.long q2), .second, .val (.int p3), .val (.int (p0 &&& (31 : Int32))), .val (.int v2), .unset, .unset, .unset, .unset, .unset, .unset] [])) rfl (hb hby at_26) (by decide) (by decide)
  obtain ⟨b3, g3⟩ : ∃ z, z = h0.size := ⟨_, rfl⟩
  rw [← g3] at A3 D3 st3
  have nw_b3 : n0 ≤ b3 := Nat.le_trans (Nat.le_trans Z0 (Keep.refl h0 []).1) (Nat.le_of_eq g3.symm)
  have sz_b3 : h0.size ≤ b3 := Nat.le_trans (Keep.refl h0 []).1 (Nat.le_of_eq g3.symm)
  have K3 : Keep h0 h3 [] := (Keep.refl h0 []).ext E3
  have F_bytes_b3 : Fld Z h3 b3 "com/example/commitlog/commitlog/codec/JsonWriter" "bytes" "[B" .null := D3 (Or.inl (hw _ (List.mem_of_getElem? (i := 12) rfl))) (ty := (.array .byte)) (by decide)
  have F_length_b3 : Fld Z h3 b3 "com/example/commitlog/commitlog/codec/JsonWriter" "length" "I" (.int (0 : Int32)) := D3 (Or.inl (hw _ (List.mem_of_getElem? (i := 24) rfl))) (ty := .int) (by decide)
  have F_afterValue_b3 : Fld Z h3 b3 "com/example/commitlog/commitlog/codec/JsonWriter" "afterValue" "Z" (.int (0 : Int32)) := D3 (Or.inl (hw _ (List.mem_of_getElem? (i := 26) rfl))) (ty := .boolean) (by decide)
  have hp4 : ¬ (p0 &&& (31 : Int32)) < (0 : Int32) := hcap0.1
  have hp5 : (p0 &&& (31 : Int32)).toNatClampNeg ≤ 31 := hcap0.2
  obtain ⟨_, _, ⟨T6, L6, k6, n6⟩, -, X6, ⟨Lc6, hQ6, l6, y6, z6⟩, st6⟩ := X3.specialBack hx (y := (⟨"com/example/commitlog/commitlog/codec/JsonWriter", "<init>", "(I)V"⟩ : MethodName)) rfl hown (mvT hZ (hw _ (List.mem_of_getElem? (i := 4) rfl))) (mvT hZ (hw _ (List.mem_of_getElem? (i := 5) rfl))) (mvT hZ (hw _ (List.mem_of_getElem? (i := 6) rfl))) (by decide) (backOf (W := 1) (rm1 l Z A0 hw [] b3 (p0 &&& (31 : Int32)) .null (0 : Int32) (0 : Int32) h3 n0 (Nat.le_trans Z0 K3.1) A3 F_bytes_b3 F_length_b3 F_afterValue_b3 nw_b3 hp4 hp5) hZ (hw _ (List.mem_of_getElem? (i := 6) rfl)) (hw _ (List.mem_of_getElem? (i := 3) rfl)) (by decide) (by decide)) (g := (mkF m 32 #[.val (.int p0), .val (.int p1), .val (.long q2), .second, .val (.int p3), .val (.int (p0 &&& (31 : Int32))), .val (.int v2), .unset, .unset, .unset, .unset, .unset, .unset] [(.int (p0 &&& (31 : Int32))), (.ref b3), (.ref b3)])) rfl (by rw [hml]; rfl) (Steps.refl _) (a := b3) (argsL := [(.int (p0 &&& (31 : Int32)))]) (rest := [(.ref b3)]) (lenOf pd_0 rfl) rfl (by show 2 * 0 + _ ≤ _; exact Nat.le_of_eq rfl) (hb hby at_32) (fun _ _ => ⟨rfl, e3, (by decide : 1 + 1 ≤ _), (by decide : 3 + 31 ≤ _)⟩)
  dsimp only [Pt.U, Pt.locs, Pt.cells, Pt.slots] at X6 l6 y6 z6 st6 hQ6
  subst l6 y6 z6
  obtain ⟨b6_b2, rfl, N6q, Kc6, szb6_b2, P7, P8, P9, P10, P11⟩ := hQ6
  have ne_b3_b6_b2 : b3 ≠ b6_b2 := Nat.ne_of_lt (Nat.lt_of_lt_of_le A3.lt szb6_b2)
  have nw_b6_b2 : n0 ≤ b6_b2 := Nat.le_trans (Nat.le_trans Z0 K3.1) szb6_b2
  have sq_b6_b2 : h0.size ≤ b6_b2 := Nat.le_trans K3.1 szb6_b2
  have K6 : Keep h0 T6.heap [] := K3.trans Kc6 (allS (Or.inr sz_b3) all0)
  have N6 := Fr.app N0 N6q
  have ck12 : ∀ t, Steps p.tables e below (T6.setTop (mkF m 41 #[.val (.int p0), .val (.int p1), .val (.long q2), .second, .val (.int p3), .val (.int (p0 &&& (31 : Int32))), .val (.int v2), .val (.ref b3), .unset, .unset, .unset, .unset, .unset] [(.int (p3 &&& (1 : Int32)))])) t → Steps p.tables e below (s₁.setTop (mkF m 0 #[.val (.int p0), .val (.int p1), .val (.long q2), .second, .val (.int p3), .unset, .unset, .unset, .unset, .unset, .unset, .unset, .unset] [])) t := by
    intro t kt
    show Steps p.tables e below (s₁.setTop (mkF m 0 #[.val (.int p0), .val (.int p1), .val (.long q2), .second, .val (.int p3), .unset, .unset, .unset, .unset, .unset, .unset, .unset, .unset] [])) _
    refine XS.iloadN X0.here hx rfl (hb hby at_0) rfl ?_
    show Steps p.tables e below (s₁.setTop (mkF m 1 #[.val (.int p0), .val (.int p1), .val (.long q2), .second, .val (.int p3), .unset, .unset, .unset, .unset, .unset, .unset, .unset, .unset] [(.int p0)])) _
    refine XS.bipush X0.here hx rfl (hb hby at_1) ?_
    show Steps p.tables e below (s₁.setTop (mkF m 3 #[.val (.int p0), .val (.int p1), .val (.long q2), .second, .val (.int p3), .unset, .unset, .unset, .unset, .unset, .unset, .unset, .unset] [(.int (31 : Int32)), (.int p0)])) _
    refine XS.iand X0.here hx rfl (hb hby at_3) rfl ?_
    show Steps p.tables e below (s₁.setTop (mkF m 4 #[.val (.int p0), .val (.int p1), .val (.long q2), .second, .val (.int p3), .unset, .unset, .unset, .unset, .unset, .unset, .unset, .unset] [(.int (p0 &&& (31 : Int32)))])) _
    refine XS.istore X0.here hx rfl (hb hby at_4) rfl (l' := #[.val (.int p0), .val (.int p1), .val (.long q2), .second, .val (.int p3), .val (.int (p0 &&& (31 : Int32))), .unset, .unset, .unset, .unset, .unset, .unset, .unset]) rfl ?_
    show Steps p.tables e below (s₁.setTop (mkF m 6 #[.val (.int p0), .val (.int p1), .val (.long q2), .second, .val (.int p3), .val (.int (p0 &&& (31 : Int32))), .unset, .unset, .unset, .unset, .unset, .unset, .unset] [])) _
    refine XS.iload X0.here hx rfl (hb hby at_6) rfl ?_
    show Steps p.tables e below (s₁.setTop (mkF m 8 #[.val (.int p0), .val (.int p1), .val (.long q2), .second, .val (.int p3), .val (.int (p0 &&& (31 : Int32))), .unset, .unset, .unset, .unset, .unset, .unset, .unset] [(.int p3)])) _
    refine XS.iconst X0.here hx rfl (hb hby at_8) ?_
    show Steps p.tables e below (s₁.setTop (mkF m 9 #[.val (.int p0), .val (.int p1), .val (.long q2), .second, .val (.int p3), .val (.int (p0 &&& (31 : Int32))), .unset, .unset, .unset, .unset, .unset, .unset, .unset] [(.int (2 : Int32)), (.int p3)])) _
    refine XS.iand X0.here hx rfl (hb hby at_9) rfl ?_
    show Steps p.tables e below (s₁.setTop (mkF m 10 #[.val (.int p0), .val (.int p1), .val (.long q2), .second, .val (.int p3), .val (.int (p0 &&& (31 : Int32))), .unset, .unset, .unset, .unset, .unset, .unset, .unset] [(.int (p3 &&& (2 : Int32)))])) _
    refine own_dia (F := (mkF m 24 #[.val (.int p0), .val (.int p1), .val (.long q2), .second, .val (.int p3), .val (.int (p0 &&& (31 : Int32))), .unset, .unset, .unset, .unset, .unset, .unset, .unset] [(.int v2)])) ?_ ?_
    · intro kt
      by_cases hc1 : (p3 &&& (2 : Int32)) = (0 : Int32)
      · show Steps p.tables e below (s₁.setTop (mkF m 10 #[.val (.int p0), .val (.int p1), .val (.long q2), .second, .val (.int p3), .val (.int (p0 &&& (31 : Int32))), .unset, .unset, .unset, .unset, .unset, .unset, .unset] [(.int (p3 &&& (2 : Int32)))])) _
        refine XS.ifYes X0.here hx rfl (pc0 := 10) (pc' := 20) rfl (hb hby at_10) rfl ((if0 _ _).trans (teq hc1).1) (by decide) (by decide) ?_
        show Steps p.tables e below (s₁.setTop (mkF m 20 #[.val (.int p0), .val (.int p1), .val (.long q2), .second, .val (.int p3), .val (.int (p0 &&& (31 : Int32))), .unset, .unset, .unset, .unset, .unset, .unset, .unset] [])) _
        refine XS.iloadN X0.here hx rfl (hb hby at_20) rfl ?_
        show Steps p.tables e below (s₁.setTop (mkF m 21 #[.val (.int p0), .val (.int p1), .val (.long q2), .second, .val (.int p3), .val (.int (p0 &&& (31 : Int32))), .unset, .unset, .unset, .unset, .unset, .unset, .unset] [(.int p1)])) _
        refine X0.ldcInt hx hown (mvT hZ (hw _ (List.mem_of_getElem? (i := 0) rfl))) (g := (mkF m 21 #[.val (.int p0), .val (.int p1), .val (.long q2), .second, .val (.int p3), .val (.int (p0 &&& (31 : Int32))), .unset, .unset, .unset, .unset, .unset, .unset, .unset] [(.int p1)])) rfl (hb hby at_21) _ ?_
        show Steps p.tables e below (s₁.setTop (mkF m 23 #[.val (.int p0), .val (.int p1), .val (.long q2), .second, .val (.int p3), .val (.int (p0 &&& (31 : Int32))), .unset, .unset, .unset, .unset, .unset, .unset, .unset] [(.int (2147483647 : Int32)), (.int p1)])) _
        refine XS.iand X0.here hx rfl (hb hby at_23) rfl ?_
        exact castTop (by rw [hv2, if_pos hc1] <;> rfl) kt
      · show Steps p.tables e below (s₁.setTop (mkF m 10 #[.val (.int p0), .val (.int p1), .val (.long q2), .second, .val (.int p3), .val (.int (p0 &&& (31 : Int32))), .unset, .unset, .unset, .unset, .unset, .unset, .unset] [(.int (p3 &&& (2 : Int32)))])) _
        refine XS.ifNo X0.here hx rfl (hb hby at_10) rfl ((if0 _ _).trans (feq hc1).1) ?_
        show Steps p.tables e below (s₁.setTop (mkF m 13 #[.val (.int p0), .val (.int p1), .val (.long q2), .second, .val (.int p3), .val (.int (p0 &&& (31 : Int32))), .unset, .unset, .unset, .unset, .unset, .unset, .unset] [])) _
        refine XS.iloadN X0.here hx rfl (hb hby at_13) rfl ?_
        show Steps p.tables e below (s₁.setTop (mkF m 14 #[.val (.int p0), .val (.int p1), .val (.long q2), .second, .val (.int p3), .val (.int (p0 &&& (31 : Int32))), .unset, .unset, .unset, .unset, .unset, .unset, .unset] [(.int p1)])) _
        refine XS.bipush X0.here hx rfl (hb hby at_14) ?_
        show Steps p.tables e below (s₁.setTop (mkF m 16 #[.val (.int p0), .val (.int p1), .val (.long q2), .second, .val (.int p3), .val (.int (p0 &&& (31 : Int32))), .unset, .unset, .unset, .unset, .unset, .unset, .unset] [(.int (63 : Int32)), (.int p1)])) _
        refine XS.iand X0.here hx rfl (hb hby at_16) rfl ?_
        show Steps p.tables e below (s₁.setTop (mkF m 17 #[.val (.int p0), .val (.int p1), .val (.long q2), .second, .val (.int p3), .val (.int (p0 &&& (31 : Int32))), .unset, .unset, .unset, .unset, .unset, .unset, .unset] [(.int (p1 &&& (63 : Int32)))])) _
        refine XS.goto X0.here hx rfl (pc0 := 17) (pc' := 24) rfl (hb hby at_17) (by decide) (by decide) ?_
        exact castTop (by rw [hv2, if_neg hc1] <;> rfl) kt
    show Steps p.tables e below (s₁.setTop (mkF m 24 #[.val (.int p0), .val (.int p1), .val (.long q2), .second, .val (.int p3), .val (.int (p0 &&& (31 : Int32))), .unset, .unset, .unset, .unset, .unset, .unset, .unset] [(.int v2)])) _
    refine XS.istore X0.here hx rfl (hb hby at_24) rfl (l' := #[.val (.int p0), .val (.int p1), .val (.long q2), .second, .val (.int p3), .val (.int (p0 &&& (31 : Int32))), .val (.int v2), .unset, .unset, .unset, .unset, .unset, .unset]) rfl ?_
    show Steps p.tables e below (s₁.setTop (mkF m 26 #[.val (.int p0), .val (.int p1), .val (.long q2), .second, .val (.int p3), .val (.int (p0 &&& (31 : Int32))), .val (.int v2), .unset, .unset, .unset, .unset, .unset, .unset] [])) _
    refine st3 _ ?_
    show Steps p.tables e below (T3.setTop (mkF m 29 #[.val (.int p0), .val (.int p1), .val (.long q2), .second, .val (.int p3), .val (.int (p0 &&& (31 : Int32))), .val (.int v2), .unset, .unset, .unset, .unset, .unset, .unset] [(.ref b3)])) _
    refine XS.dup X3.here hx rfl (hb hby at_29) rfl rfl ?_
    show Steps p.tables e below (T3.setTop (mkF m 30 #[.val (.int p0), .val (.int p1), .val (.long q2), .second, .val (.int p3), .val (.int (p0 &&& (31 : Int32))), .val (.int v2), .unset, .unset, .unset, .unset, .unset, .unset] [(.ref b3), (.ref b3)])) _
    refine XS.iload X3.here hx rfl (hb hby at_30) rfl ?_
    show Steps p.tables e below (T3.setTop (mkF m 32 #[.val (.int p0), .val (.int p1), .val (.long q2), .second, .val (.int p3), .val (.int (p0 &&& (31 : Int32))), .val (.int v2), .unset, .unset, .unset, .unset, .unset, .unset] [(.int (p0 &&& (31 : Int32))), (.ref b3), (.ref b3)])) _
    refine st6.trans ?_
    show Steps p.tables e below (T6.setTop (mkF m 35 #[.val (.int p0), .val (.int p1), .val (.long q2), .second, .val (.int p3), .val (.int (p0 &&& (31 : Int32))), .val (.int v2), .unset, .unset, .unset, .unset, .unset, .unset] [(.ref b3)])) _
    refine XS.astore X6.here hx rfl (hb hby at_35) rfl rfl (l' := #[.val (.int p0), .val (.int p1), .val (.long q2), .second, .val (.int p3), .val (.int (p0 &&& (31 : Int32))), .val (.int v2), .val (.ref b3), .unset, .unset, .unset, .unset, .unset]) rfl ?_
    show Steps p.tables e below (T6.setTop (mkF m 37 #[.val (.int p0), .val (.int p1), .val (.long q2), .second, .val (.int p3), .val (.int (p0 &&& (31 : Int32))), .val (.int v2), .val (.ref b3), .unset, .unset, .unset, .unset, .unset] [])) _
    refine XS.iload X6.here hx rfl (hb hby at_37) rfl ?_
    show Steps p.tables e below (T6.setTop (mkF m 39 #[.val (.int p0), .val (.int p1), .val (.long q2), .second, .val (.int p3), .val (.int (p0 &&& (31 : Int32))), .val (.int v2), .val (.ref b3), .unset, .unset, .unset, .unset, .unset] [(.int p3)])) _
    refine XS.iconst X6.here hx rfl (hb hby at_39) ?_
    show Steps p.tables e below (T6.setTop (mkF m 40 #[.val (.int p0), .val (.int p1), .val (.long q2), .second, .val (.int p3), .val (.int (p0 &&& (31 : Int32))), .val (.int v2), .val (.ref b3), .unset, .unset, .unset, .unset, .unset] [(.int (1 : Int32)), (.int p3)])) _
    refine XS.iand X6.here hx rfl (hb hby at_40) rfl ?_
    exact kt
  by_cases hfl : (p3 &&& (1 : Int32)) = (0 : Int32)
  · obtain ⟨cq13, kq13, q13a, q13b, q13c⟩ := isOf hZ rfl P7
    obtain ⟨_, _, ⟨T13, L13, k13, n13⟩, -, X13, ⟨Lc13, hQ13, l13, y13, z13⟩, st13⟩ := X6.virtualBack hx (y := (⟨"com/example/commitlog/commitlog/codec/JsonWriter", "bytes", "()[B"⟩ : MethodName)) (z := (⟨"com/example/commitlog/commitlog/codec/JsonWriter", "bytes", "()[B"⟩ : MethodName)) hown (mvT hZ (hw _ (List.mem_of_getElem? (i := 13) rfl))) (mvT hZ (hw _ (List.mem_of_getElem? (i := 14) rfl))) (notFace_of_selects (args := #[]) (mvT hZ (hw _ (List.mem_of_getElem? (i := 16) rfl)))) (mvT hZ (hw _ (List.mem_of_getElem? (i := 16) rfl))) (mvT hZ (hw _ (List.mem_of_getElem? (i := 15) rfl))) (by decide) (backOf (W := 0) (rm3 l Z A0 hw [] b3 b6_b2 (0 : Int32) (0 : Int32) T6.heap n0 (Nat.le_trans Z0 K6.1) P7 P8 P9 P10) hZ (hw _ (List.mem_of_getElem? (i := 17) rfl)) (hw _ (List.mem_of_getElem? (i := 3) rfl)) (by decide) (by decide)) q13a q13c (g := (mkF m 53 #[.val (.int p0), .val (.int p1), .val (.long q2), .second, .val (.int p3), .val (.int (p0 &&& (31 : Int32))), .val (.int v2), .val (.ref b3), .unset, .unset, .unset, .unset, .unset] [(.ref b3)])) rfl (by rw [hml]; rfl) (Steps.refl _) (argsL := []) (rest := []) (lenOf pd_2 rfl) rfl (by show 2 * 0 + _ ≤ _; exact Nat.le_of_eq rfl) (hb hby at_53) (fun _ _ => ⟨rfl, rfl, (by decide : 2 + 0 ≤ _), (by decide : 34 + 0 ≤ _)⟩)
    dsimp only [Pt.U, Pt.locs, Pt.cells, Pt.slots] at X13 l13 y13 z13 st13 hQ13
    subst l13 y13 z13
    obtain ⟨rfl, N13q, e13⟩ := hQ13
    have N13 := Fr.app N6 N13q
    have hNN : ((p0 &&& (31 : Int32))).toNatClampNeg ≤ 40 := Nat.le_trans hcap0.2 (by decide)
    have hkeep := own_keep _ _ v2 hv2
    have ck14 : ∀ t, Steps p.tables e below (T13.setTop (mkF m 67 #[.val (.int p0), .val (.int p1), .val (.long q2), .second, .val (.int p3), .val (.int (p0 &&& (31 : Int32))), .val (.int v2), .val (.ref b3), .val (.ref b6_b2), .val (.int (Int32.ofNat ((p0 &&& (31 : Int32))).toNatClampNeg)), .unset, .unset, .unset] [(.int v2), (.ref b3)])) t → Steps p.tables e below (T6.setTop (mkF m 41 #[.val (.int p0), .val (.int p1), .val (.long q2), .second, .val (.int p3), .val (.int (p0 &&& (31 : Int32))), .val (.int v2), .val (.ref b3), .unset, .unset, .unset, .unset, .unset] [(.int (p3 &&& (1 : Int32)))])) t := by
      intro t kt
      show Steps p.tables e below (T6.setTop (mkF m 41 #[.val (.int p0), .val (.int p1), .val (.long q2), .second, .val (.int p3), .val (.int (p0 &&& (31 : Int32))), .val (.int v2), .val (.ref b3), .unset, .unset, .unset, .unset, .unset] [(.int (p3 &&& (1 : Int32)))])) _
      refine XS.ifYes X6.here hx rfl (pc0 := 41) (pc' := 51) rfl (hb hby at_41) rfl ((if0 _ _).trans (teq hfl).1) (by decide) (by decide) ?_
      show Steps p.tables e below (T6.setTop (mkF m 51 #[.val (.int p0), .val (.int p1), .val (.long q2), .second, .val (.int p3), .val (.int (p0 &&& (31 : Int32))), .val (.int v2), .val (.ref b3), .unset, .unset, .unset, .unset, .unset] [])) _
      refine XS.aload X6.here hx rfl (hb hby at_51) rfl rfl ?_
      show Steps p.tables e below (T6.setTop (mkF m 53 #[.val (.int p0), .val (.int p1), .val (.long q2), .second, .val (.int p3), .val (.int (p0 &&& (31 : Int32))), .val (.int v2), .val (.ref b3), .unset, .unset, .unset, .unset, .unset] [(.ref b3)])) _
      refine st13.trans ?_
      show Steps p.tables e below (T13.setTop (mkF m 56 #[.val (.int p0), .val (.int p1), .val (.long q2), .second, .val (.int p3), .val (.int (p0 &&& (31 : Int32))), .val (.int v2), .val (.ref b3), .unset, .unset, .unset, .unset, .unset] [(.ref b6_b2)])) _
      refine XS.astore X13.here hx rfl (hb hby at_56) rfl rfl (l' := #[.val (.int p0), .val (.int p1), .val (.long q2), .second, .val (.int p3), .val (.int (p0 &&& (31 : Int32))), .val (.int v2), .val (.ref b3), .val (.ref b6_b2), .unset, .unset, .unset, .unset]) rfl ?_
      show Steps p.tables e below (T13.setTop (mkF m 58 #[.val (.int p0), .val (.int p1), .val (.long q2), .second, .val (.int p3), .val (.int (p0 &&& (31 : Int32))), .val (.int v2), .val (.ref b3), .val (.ref b6_b2), .unset, .unset, .unset, .unset] [])) _
      refine XS.aload X13.here hx rfl (hb hby at_58) rfl rfl ?_
      show Steps p.tables e below (T13.setTop (mkF m 60 #[.val (.int p0), .val (.int p1), .val (.long q2), .second, .val (.int p3), .val (.int (p0 &&& (31 : Int32))), .val (.int v2), .val (.ref b3), .val (.ref b6_b2), .unset, .unset, .unset, .unset] [(.ref b6_b2)])) _
      refine AF.len X13 hx hZ e13 P11 (g := (mkF m 60 #[.val (.int p0), .val (.int p1), .val (.long q2), .second, .val (.int p3), .val (.int (p0 &&& (31 : Int32))), .val (.int v2), .val (.ref b3), .val (.ref b6_b2), .unset, .unset, .unset, .unset] [(.ref b6_b2)])) rfl rfl (hb hby at_60) _ ?_
      show Steps p.tables e below (T13.setTop (mkF m 61 #[.val (.int p0), .val (.int p1), .val (.long q2), .second, .val (.int p3), .val (.int (p0 &&& (31 : Int32))), .val (.int v2), .val (.ref b3), .val (.ref b6_b2), .unset, .unset, .unset, .unset] [(.int (Int32.ofNat ((p0 &&& (31 : Int32))).toNatClampNeg))])) _
      refine XS.istore X13.here hx rfl (hb hby at_61) rfl (l' := #[.val (.int p0), .val (.int p1), .val (.long q2), .second, .val (.int p3), .val (.int (p0 &&& (31 : Int32))), .val (.int v2), .val (.ref b3), .val (.ref b6_b2), .val (.int (Int32.ofNat ((p0 &&& (31 : Int32))).toNatClampNeg)), .unset, .unset, .unset]) rfl ?_
      show Steps p.tables e below (T13.setTop (mkF m 63 #[.val (.int p0), .val (.int p1), .val (.long q2), .second, .val (.int p3), .val (.int (p0 &&& (31 : Int32))), .val (.int v2), .val (.ref b3), .val (.ref b6_b2), .val (.int (Int32.ofNat ((p0 &&& (31 : Int32))).toNatClampNeg)), .unset, .unset, .unset] [])) _
      refine XS.aload X13.here hx rfl (hb hby at_63) rfl rfl ?_
      show Steps p.tables e below (T13.setTop (mkF m 65 #[.val (.int p0), .val (.int p1), .val (.long q2), .second, .val (.int p3), .val (.int (p0 &&& (31 : Int32))), .val (.int v2), .val (.ref b3), .val (.ref b6_b2), .val (.int (Int32.ofNat ((p0 &&& (31 : Int32))).toNatClampNeg)), .unset, .unset, .unset] [(.ref b3)])) _
      refine XS.iload X13.here hx rfl (hb hby at_65) rfl ?_
      exact kt
    rcases Classical.em (v2 < (Int32.ofNat ((p0 &&& (31 : Int32))).toNatClampNeg)) with hk | hk
    · have hp15 : v2 < (Int32.ofNat ((p0 &&& (31 : Int32))).toNatClampNeg) := hk
      have hp16 : ¬ v2 < (0 : Int32) := (own_kneg _ hkeep)
      have hp17 : v2.toNatClampNeg ≤ 40 := (own_kcap _ _ hkeep hNN hk)
      obtain ⟨cq18, kq18, q18a, q18b, q18c⟩ := isOf hZ e13 P7
      obtain ⟨_, _, ⟨T18, L18, k18, n18⟩, -, X18, ⟨Lc18, hQ18, l18, y18, z18⟩, st18⟩ := X13.virtualBack hx (y := (⟨"com/example/commitlog/commitlog/codec/JsonWriter", "reset", "(I)Lcom/example/commitlog/commitlog/codec/JsonWriter;"⟩ : MethodName)) (z := (⟨"com/example/commitlog/commitlog/codec/JsonWriter", "reset", "(I)Lcom/example/commitlog/commitlog/codec/JsonWriter;"⟩ : MethodName)) hown (mvT hZ (hw _ (List.mem_of_getElem? (i := 18) rfl))) (mvT hZ (hw _ (List.mem_of_getElem? (i := 19) rfl))) (notFace_of_selects (args := #[]) (mvT hZ (hw _ (List.mem_of_getElem? (i := 21) rfl)))) (mvT hZ (hw _ (List.mem_of_getElem? (i := 21) rfl))) (mvT hZ (hw _ (List.mem_of_getElem? (i := 20) rfl))) (by decide) (backOf (W := 0) (rm4g l Z A0 hw [] b3 v2 b6_b2 (0 : Int32) (0 : Int32) (((p0 &&& (31 : Int32))).toNatClampNeg) (fun _ => (0 : Int32)) T6.heap n0 (Nat.le_trans Z0 K6.1) P7 P8 P9 P10 P11 nw_b3 hp15 hp16 hp17) hZ (hw _ (List.mem_of_getElem? (i := 22) rfl)) (hw _ (List.mem_of_getElem? (i := 3) rfl)) (by decide) (by decide)) q18a q18c (g := (mkF m 67 #[.val (.int p0), .val (.int p1), .val (.long q2), .second, .val (.int p3), .val (.int (p0 &&& (31 : Int32))), .val (.int v2), .val (.ref b3), .val (.ref b6_b2), .val (.int (Int32.ofNat ((p0 &&& (31 : Int32))).toNatClampNeg)), .unset, .unset, .unset] [(.int v2), (.ref b3)])) rfl (by rw [hml]; rfl) (Steps.refl _) (argsL := [(.int v2)]) (rest := []) (lenOf pd_3 rfl) rfl (by show 2 * 0 + _ ≤ _; exact Nat.le_of_eq rfl) (hb hby at_67) (fun _ _ => ⟨rfl, e13, (by decide : 2 + 1 ≤ _), (by decide : 34 + 40 ≤ _)⟩)
      dsimp only [Pt.U, Pt.locs, Pt.cells, Pt.slots] at X18 l18 y18 z18 st18 hQ18
      subst l18 y18 z18
      obtain ⟨b18_b2, rfl, N18q, Kc18, szb18_b2, P19, P20, P21, P22, P23⟩ := hQ18
      have ne_b3_b18_b2 : b3 ≠ b18_b2 := Nat.ne_of_lt (Nat.lt_of_lt_of_le P7.lt szb18_b2)
      have ne_b6_b2_b18_b2 : b6_b2 ≠ b18_b2 := Nat.ne_of_lt (Nat.lt_of_lt_of_le P11.lt szb18_b2)
      have nw_b18_b2 : n0 ≤ b18_b2 := Nat.le_trans (Nat.le_trans Z0 K6.1) szb18_b2
      have sq_b18_b2 : h0.size ≤ b18_b2 := Nat.le_trans K6.1 szb18_b2
      have K18 : Keep h0 T18.heap [] := K6.trans Kc18 (allS (Or.inr sz_b3) all0)
      have N18 := Fr.app N13 N18q
      obtain ⟨cq24, kq24, q24a, q24b, q24c⟩ := isOf hZ rfl P19
      obtain ⟨_, _, ⟨T24, L24, k24, n24⟩, -, X24, ⟨Lc24, hQ24, l24, y24, z24⟩, st24⟩ := X18.virtualBack hx (y := (⟨"com/example/commitlog/commitlog/codec/JsonWriter", "length", "()I"⟩ : MethodName)) (z := (⟨"com/example/commitlog/commitlog/codec/JsonWriter", "length", "()I"⟩ : MethodName)) hown (mvT hZ (hw _ (List.mem_of_getElem? (i := 27) rfl))) (mvT hZ (hw _ (List.mem_of_getElem? (i := 28) rfl))) (notFace_of_selects (args := #[]) (mvT hZ (hw _ (List.mem_of_getElem? (i := 30) rfl)))) (mvT hZ (hw _ (List.mem_of_getElem? (i := 30) rfl))) (mvT hZ (hw _ (List.mem_of_getElem? (i := 29) rfl))) (by decide) (backOf (W := 0) (rm5 l Z A0 hw [] b3 (.ref b18_b2) (0 : Int32) (0 : Int32) T18.heap n0 (Nat.le_trans Z0 K18.1) P19 P20 P21 P22) hZ (hw _ (List.mem_of_getElem? (i := 31) rfl)) (hw _ (List.mem_of_getElem? (i := 3) rfl)) (by decide) (by decide)) q24a q24c (g := (mkF m 83 #[.val (.int p0), .val (.int p1), .val (.long q2), .second, .val (.int p3), .val (.int (p0 &&& (31 : Int32))), .val (.int v2), .val (.ref b3), .val (.ref b6_b2), .val (.int (Int32.ofNat ((p0 &&& (31 : Int32))).toNatClampNeg)), .val (.ref b3), .unset, .unset] [(.ref b3)])) rfl (by rw [hml]; rfl) (Steps.refl _) (argsL := []) (rest := []) (lenOf pd_4 rfl) rfl (by show 2 * 0 + _ ≤ _; exact Nat.le_of_eq rfl) (hb hby at_83) (fun _ _ => ⟨rfl, rfl, (by decide : 3 + 0 ≤ _), (by decide : 74 + 0 ≤ _)⟩)
      dsimp only [Pt.U, Pt.locs, Pt.cells, Pt.slots] at X24 l24 y24 z24 st24 hQ24
      subst l24 y24 z24
      obtain ⟨rfl, N24q, e24⟩ := hQ24
      have N24 := Fr.app N18 N24q
      obtain ⟨cq25, kq25, q25a, q25b, q25c⟩ := isOf hZ e24 P19
      obtain ⟨_, _, ⟨T25, L25, k25, n25⟩, -, X25, ⟨Lc25, hQ25, l25, y25, z25⟩, st25⟩ := X24.virtualBack hx (y := (⟨"com/example/commitlog/commitlog/codec/JsonWriter", "bytes", "()[B"⟩ : MethodName)) (z := (⟨"com/example/commitlog/commitlog/codec/JsonWriter", "bytes", "()[B"⟩ : MethodName)) hown (mvT hZ (hw _ (List.mem_of_getElem? (i := 13) rfl))) (mvT hZ (hw _ (List.mem_of_getElem? (i := 14) rfl))) (notFace_of_selects (args := #[]) (mvT hZ (hw _ (List.mem_of_getElem? (i := 16) rfl)))) (mvT hZ (hw _ (List.mem_of_getElem? (i := 16) rfl))) (mvT hZ (hw _ (List.mem_of_getElem? (i := 15) rfl))) (by decide) (backOf (W := 0) (rm3 l Z A0 hw [] b3 b18_b2 (0 : Int32) (0 : Int32) T18.heap n0 (Nat.le_trans Z0 K18.1) P19 P20 P21 P22) hZ (hw _ (List.mem_of_getElem? (i := 17) rfl)) (hw _ (List.mem_of_getElem? (i := 3) rfl)) (by decide) (by decide)) q25a q25c (g := (mkF m 93 #[.val (.int p0), .val (.int p1), .val (.long q2), .second, .val (.int p3), .val (.int (p0 &&& (31 : Int32))), .val (.int v2), .val (.ref b3), .val (.ref b6_b2), .val (.int (Int32.ofNat ((p0 &&& (31 : Int32))).toNatClampNeg)), .val (.ref b3), .unset, .unset] [(.ref b3)])) rfl (by rw [hml]; rfl) (Steps.refl _) (argsL := []) (rest := []) (lenOf pd_2 rfl) rfl (by show 2 * 0 + _ ≤ _; exact Nat.le_of_eq rfl) (hb hby at_93) (fun _ _ => ⟨rfl, e24, (by decide : 3 + 0 ≤ _), (by decide : 74 + 0 ≤ _)⟩)
      dsimp only [Pt.U, Pt.locs, Pt.cells, Pt.slots] at X25 l25 y25 z25 st25 hQ25
      subst l25 y25 z25
      obtain ⟨rfl, N25q, e25⟩ := hQ25
      have N25 := Fr.app N24 N25q
      have hk26 : v2 < (Int32.ofNat ((p0 &&& (31 : Int32))).toNatClampNeg) := hk
      have hk27 : (Int32.ofNat (v2).toNatClampNeg) = v2 := own_back v2 hkeep
      have wS : ∀ d ∈ Bundle.stringAtoms, d.before A0 Z = true := by
        intro d hd
        simp only [Bundle.stringAtoms, List.mem_cons, List.not_mem_nil, or_false] at hd
        rcases hd with rfl | rfl | rfl | rfl | rfl | rfl | rfl
        · exact (hw _ (List.mem_of_getElem? (i := 33) rfl))
        · exact (hw _ (List.mem_of_getElem? (i := 34) rfl))
        · exact (hw _ (List.mem_of_getElem? (i := 10) rfl))
        · exact (hw _ (List.mem_of_getElem? (i := 35) rfl))
        · exact (hw _ (List.mem_of_getElem? (i := 36) rfl))
        · exact (hw _ (List.mem_of_getElem? (i := 37) rfl))
        · exact (hw _ (List.mem_of_getElem? (i := 38) rfl))
      have SI0 : s.Since s.vm 0 := State.WarmedH.since (State.WarmedH.refl s) 0
      have X28 : Stand p l e room_1 (s.setVm s.vm) m #[(.int p0), (.int p1), (.long q2), (.int p3)] below meth c T25 _ 3 74 := X25
      have LE0 : 0 ≤ T18.heap.size := Nat.zero_le _
      obtain ⟨as29, T29, h29, k29, bs29, kk29, X29, e29, E29, SI29, LE29, hZ29, hown29, Es29, Fc29, Fv29, Av29, -, -, IB29, st29⟩ := ldcSV X28 hx hZ hown (hw _ (List.mem_of_getElem? (i := 32) rfl)) wS e25 SI0 LE0 (hfr N25) hkp (by rw [hUZ]; exact IB.start) (by simp) hcst29 hcw (vs := [.int 97]) (z := 1) ⟨by decide, rfl⟩ (by decide) rfl (g := (mkF m 133 #[.val (.int p0), .val (.int p1), .val (.long q2), .second, .val (.int p3), .val (.int (p0 &&& (31 : Int32))), .val (.int v2), .val (.ref b3), .val (.ref b6_b2), .val (.int (Int32.ofNat ((p0 &&& (31 : Int32))).toNatClampNeg)), .val (.ref b3), .val (.ref b18_b2), .unset] [(.ref b3)])) rfl (hb hby at_133) (n := 4) (by decide) (by decide) (by decide) (by decide)
      have K29 : Keep h0 h29 [] := K18.ext E29
      have V29 : AF Z h29 bs29 .byte 1 (fun j => .int ((fun _ => (97 : Int32)) j)) := own_arv1 Av29
      have G30 : Exa Z h29 b3 "com/example/commitlog/commitlog/codec/JsonWriter" := (P19.ext E29)
      have G31 : AF Z h29 b18_b2 .byte (v2).toNatClampNeg (fun j => .int ((fun _ => (0 : Int32)) j)) := (P23.ext E29)
      have ne_o_s : b3 ≠ as29 := ne_exa G30 Es29 (by decide)
      have ne_o_v : b3 ≠ bs29 := V29.arr G30 (hw _ (List.mem_of_getElem? (i := 2) rfl))
      have ne_s_b : as29 ≠ b18_b2 := G31.arr Es29 (hw _ (List.mem_of_getElem? (i := 34) rfl))
      have ne_b_v : b18_b2 ≠ bs29 := own_neA G31 V29 (Or.inr (by decide))
      have G32 : Fld Z h29 b3 "com/example/commitlog/commitlog/codec/JsonWriter" "bytes" "[B" (.ref b18_b2) := (P20.ext E29)
      have G33 : Fld Z h29 b3 "com/example/commitlog/commitlog/codec/JsonWriter" "length" "I" (.int (0 : Int32)) := (P21.ext E29)
      have G34 : Fld Z h29 b3 "com/example/commitlog/commitlog/codec/JsonWriter" "afterValue" "Z" (.int (0 : Int32)) := (P22.ext E29)
      have G35 : SO Z n0 h29 "java/lang/String" "COMPACT_STRINGS" "Z" (.int s_COMPACT_STRINGS) := ((((S_COMPACT_STRINGS.ext E3).keep Kc6 (allS nw_b3 all0)).keep Kc18 (allS nw_b3 all0)).ext E29)
      have G36 : SO Z n0 h29 "jdk/internal/util/Preconditions" "SIOOBE_FORMATTER" "Ljava/util/function/BiFunction;" s_SIOOBE_FORMATTER := ((((S_SIOOBE_FORMATTER.ext E3).keep Kc6 (allS nw_b3 all0)).keep Kc18 (allS nw_b3 all0)).ext E29)
      have hp37 : s_SIOOBE_FORMATTER.isRef = true := rf_s_SIOOBE_FORMATTER
      have hp38 : ¬ (s_COMPACT_STRINGS = (0 : Int32)) := hcom
      have hp39 : (v2).toNatClampNeg ≤ 40 := (own_kcap _ _ hkeep hNN hk)
      have hp40 : own_B (fun _ => (0 : Int32)) := own_B0
      have hp41 : s_SIOOBE_FORMATTER.isRef = true := rf_s_SIOOBE_FORMATTER
      have hp42 : ¬ (s_COMPACT_STRINGS = (0 : Int32)) := hcom
      have hp43 : s_SIOOBE_FORMATTER.isRef = true := rf_s_SIOOBE_FORMATTER
      have hp44 : s_SIOOBE_FORMATTER.isRef = true := rf_s_SIOOBE_FORMATTER
      have hp45 : s_SIOOBE_FORMATTER.isRef = true := rf_s_SIOOBE_FORMATTER
      have hp46 : (fun _ => (97 : Int32)) 0 = (97 : Int32) := rfl
      obtain ⟨cq47, kq47, q47a, q47b, q47c⟩ := isOf hZ29 e29 G30
      obtain ⟨_, _, ⟨T47, L47, k47, n47⟩, -, X47, ⟨Lc47, hQ47, l47, y47, z47⟩, st47⟩ := X29.virtualBack hx (y := (⟨"com/example/commitlog/commitlog/codec/JsonWriter", "name", "(Ljava/lang/String;)Lcom/example/commitlog/commitlog/codec/JsonWriter;"⟩ : MethodName)) (z := (⟨"com/example/commitlog/commitlog/codec/JsonWriter", "name", "(Ljava/lang/String;)Lcom/example/commitlog/commitlog/codec/JsonWriter;"⟩ : MethodName)) hown29 (mvT hZ29 (hw _ (List.mem_of_getElem? (i := 39) rfl))) (mvT hZ29 (hw _ (List.mem_of_getElem? (i := 40) rfl))) (notFace_of_selects (args := #[]) (mvT hZ29 (hw _ (List.mem_of_getElem? (i := 42) rfl)))) (mvT hZ29 (hw _ (List.mem_of_getElem? (i := 42) rfl))) (mvT hZ29 (hw _ (List.mem_of_getElem? (i := 41) rfl))) (by decide) (backOf (W := 0) (rm6 l Z A0 hw [] b3 as29 b18_b2 bs29 (fun _ => (97 : Int32)) s_COMPACT_STRINGS ((v2).toNatClampNeg) (fun _ => (0 : Int32)) s_SIOOBE_FORMATTER h29 n0 (Nat.le_trans Z0 K29.1) G30 G32 G33 G34 Es29 Fv29 Fc29 V29 G35 G31 nw_b3 ne_o_s ne_o_v G36 ne_b3_b18_b2 nw_b18_b2 ne_s_b ne_b_v hp37 hp38 hp39 hp40 hp41 hp42 hp43 hp44 hp45 hp46) hZ29 (hw _ (List.mem_of_getElem? (i := 43) rfl)) (hw _ (List.mem_of_getElem? (i := 3) rfl)) (by decide) (by decide)) q47a q47c (g := (mkF m 135 #[.val (.int p0), .val (.int p1), .val (.long q2), .second, .val (.int p3), .val (.int (p0 &&& (31 : Int32))), .val (.int v2), .val (.ref b3), .val (.ref b6_b2), .val (.int (Int32.ofNat ((p0 &&& (31 : Int32))).toNatClampNeg)), .val (.ref b3), .val (.ref b18_b2), .unset] [(.ref as29), (.ref b3)])) rfl (by rw [hml]; rfl) (Steps.refl _) (argsL := [(.ref as29)]) (rest := []) (lenOf pd_5 rfl) rfl (by show 2 * 0 + _ ≤ _; exact Nat.le_of_eq rfl) (hb hby at_135) (fun _ _ => ⟨rfl, e29, (by decide : 5 + 2 ≤ _), (by decide : 82 + 128 ≤ _)⟩)
      dsimp only [Pt.U, Pt.locs, Pt.cells, Pt.slots] at X47 l47 y47 z47 st47 hQ47
      subst l47 y47 z47
      obtain ⟨bx47, zx47, fx47, rfl, N47q, Kc47, or47, nw_bx47, ne_b3_bx47, Fb47, Fl47, Fa47, A47, B47, x47_0, x47_1, x47_2, x47_3, x47_4⟩ := hQ47
      have sq_bx47 : h0.size ≤ bx47 := by
        rcases or47 with q | q
        · rw [q]; exact sq_b18_b2
        · exact Nat.le_trans K29.1 q
      have K47 : Keep h0 T47.heap [] := K29.trans Kc47 (allS (Or.inr sz_b3) (allS (Or.inr sq_b18_b2) all0))
      have N47 := Fr.app N25 N47q
      have G48 : Exa Z T47.heap b3 "com/example/commitlog/commitlog/codec/JsonWriter" := (G30.keep Kc47)
      obtain ⟨cq49, kq49, q49a, q49b, q49c⟩ := isOf hZ29 rfl G48
      obtain ⟨_, _, ⟨T49, L49, k49, n49⟩, -, X49, ⟨Lc49, hQ49, l49, y49, z49⟩, st49⟩ := X47.virtualBack hx (y := (⟨"com/example/commitlog/commitlog/codec/JsonWriter", "bytes", "()[B"⟩ : MethodName)) (z := (⟨"com/example/commitlog/commitlog/codec/JsonWriter", "bytes", "()[B"⟩ : MethodName)) hown29 (mvT hZ29 (hw _ (List.mem_of_getElem? (i := 13) rfl))) (mvT hZ29 (hw _ (List.mem_of_getElem? (i := 14) rfl))) (notFace_of_selects (args := #[]) (mvT hZ29 (hw _ (List.mem_of_getElem? (i := 16) rfl)))) (mvT hZ29 (hw _ (List.mem_of_getElem? (i := 16) rfl))) (mvT hZ29 (hw _ (List.mem_of_getElem? (i := 15) rfl))) (by decide) (backOf (W := 0) (rm3 l Z A0 hw [] b3 bx47 (4 : Int32) (0 : Int32) T47.heap n0 (Nat.le_trans Z0 K47.1) G48 Fb47 Fl47 Fa47) hZ29 (hw _ (List.mem_of_getElem? (i := 17) rfl)) (hw _ (List.mem_of_getElem? (i := 3) rfl)) (by decide) (by decide)) q49a q49c (g := (mkF m 141 #[.val (.int p0), .val (.int p1), .val (.long q2), .second, .val (.int p3), .val (.int (p0 &&& (31 : Int32))), .val (.int v2), .val (.ref b3), .val (.ref b6_b2), .val (.int (Int32.ofNat ((p0 &&& (31 : Int32))).toNatClampNeg)), .val (.ref b3), .val (.ref b18_b2), .unset] [(.ref b3)])) rfl (by rw [hml]; rfl) (Steps.refl _) (argsL := []) (rest := []) (lenOf pd_2 rfl) rfl (by show 2 * 0 + _ ≤ _; exact Nat.le_of_eq rfl) (hb hby at_141) (fun _ _ => ⟨rfl, rfl, (by decide : 7 + 0 ≤ _), (by decide : 210 + 0 ≤ _)⟩)
      dsimp only [Pt.U, Pt.locs, Pt.cells, Pt.slots] at X49 l49 y49 z49 st49 hQ49
      subst l49 y49 z49
      obtain ⟨rfl, N49q, e49⟩ := hQ49
      have N49 := Fr.app N47 N49q
      obtain ⟨cq50, kq50, q50a, q50b, q50c⟩ := isOf hZ29 e49 G48
      obtain ⟨_, _, ⟨T50, L50, k50, n50⟩, -, X50, ⟨Lc50, hQ50, l50, y50, z50⟩, st50⟩ := X49.virtualBack hx (y := (⟨"com/example/commitlog/commitlog/codec/JsonWriter", "length", "()I"⟩ : MethodName)) (z := (⟨"com/example/commitlog/commitlog/codec/JsonWriter", "length", "()I"⟩ : MethodName)) hown29 (mvT hZ29 (hw _ (List.mem_of_getElem? (i := 27) rfl))) (mvT hZ29 (hw _ (List.mem_of_getElem? (i := 28) rfl))) (notFace_of_selects (args := #[]) (mvT hZ29 (hw _ (List.mem_of_getElem? (i := 30) rfl)))) (mvT hZ29 (hw _ (List.mem_of_getElem? (i := 30) rfl))) (mvT hZ29 (hw _ (List.mem_of_getElem? (i := 29) rfl))) (by decide) (backOf (W := 0) (rm5 l Z A0 hw [] b3 (.ref bx47) (4 : Int32) (0 : Int32) T47.heap n0 (Nat.le_trans Z0 K47.1) G48 Fb47 Fl47 Fa47) hZ29 (hw _ (List.mem_of_getElem? (i := 31) rfl)) (hw _ (List.mem_of_getElem? (i := 3) rfl)) (by decide) (by decide)) q50a q50c (g := (mkF m 148 #[.val (.int p0), .val (.int p1), .val (.long q2), .second, .val (.int p3), .val (.int (p0 &&& (31 : Int32))), .val (.int v2), .val (.ref b3), .val (.ref b6_b2), .val (.int (Int32.ofNat ((p0 &&& (31 : Int32))).toNatClampNeg)), .val (.ref b3), .val (.ref b18_b2), .val (.ref bx47)] [(.ref b3)])) rfl (by rw [hml]; rfl) (Steps.refl _) (argsL := []) (rest := []) (lenOf pd_4 rfl) rfl (by show 2 * 0 + _ ≤ _; exact Nat.le_of_eq rfl) (hb hby at_148) (fun _ _ => ⟨rfl, e49, (by decide : 7 + 0 ≤ _), (by decide : 210 + 0 ≤ _)⟩)
      dsimp only [Pt.U, Pt.locs, Pt.cells, Pt.slots] at X50 l50 y50 z50 st50 hQ50
      subst l50 y50 z50
      obtain ⟨rfl, N50q, e50⟩ := hQ50
      have N50 := Fr.app N49 N50q
      have hi51 : own_in (0 : Int32) zx47 := ⟨by decide, by have z := x47_0; have k : (0 : Int32).toInt = 0 := (by decide); omega⟩
      have hk52 : (fx47 0) = (34 : Int32) := x47_1
      have hi53 : own_in (1 : Int32) zx47 := ⟨by decide, by have z := x47_0; have k : (1 : Int32).toInt = 1 := (by decide); omega⟩
      have hk54 : (fx47 1) = (97 : Int32) := x47_2
      have hi55 : own_in (2 : Int32) zx47 := ⟨by decide, by have z := x47_0; have k : (2 : Int32).toInt = 2 := (by decide); omega⟩
      have hk56 : (fx47 2) = (34 : Int32) := x47_3
      have hi57 : own_in (3 : Int32) zx47 := ⟨by decide, by have z := x47_0; have k : (3 : Int32).toInt = 3 := (by decide); omega⟩
      have hk58 : (fx47 3) = (58 : Int32) := x47_4
      have G59 : k29 ≤ T47.heap.size := (Nat.le_trans LE29 Kc47.1)
      obtain ⟨fs, hr, hrun, hended, hRW⟩ := X50.leaveW SI29 (by rw [e50]; exact G59) (v := some (.int (1 : Int32))) (fun h => by rw [Bd.returns] at h; cases h)
      refine ⟨_, _, pre0 _ (ck12 _ (ck14 _ ?_)), hrun, hended, _, _, rfl, ?_, hRW.1, hRW.2.1, hRW.2.2.1, hRW.2.2.2.mono (by decide) (by decide)⟩
      · show Steps p.tables e below (T13.setTop (mkF m 67 #[.val (.int p0), .val (.int p1), .val (.long q2), .second, .val (.int p3), .val (.int (p0 &&& (31 : Int32))), .val (.int v2), .val (.ref b3), .val (.ref b6_b2), .val (.int (Int32.ofNat ((p0 &&& (31 : Int32))).toNatClampNeg)), .unset, .unset, .unset] [(.int v2), (.ref b3)])) _
        refine st18.trans ?_
        show Steps p.tables e below (T18.setTop (mkF m 70 #[.val (.int p0), .val (.int p1), .val (.long q2), .second, .val (.int p3), .val (.int (p0 &&& (31 : Int32))), .val (.int v2), .val (.ref b3), .val (.ref b6_b2), .val (.int (Int32.ofNat ((p0 &&& (31 : Int32))).toNatClampNeg)), .unset, .unset, .unset] [(.ref b3)])) _
        refine XS.astore X18.here hx rfl (hb hby at_70) rfl rfl (l' := #[.val (.int p0), .val (.int p1), .val (.long q2), .second, .val (.int p3), .val (.int (p0 &&& (31 : Int32))), .val (.int v2), .val (.ref b3), .val (.ref b6_b2), .val (.int (Int32.ofNat ((p0 &&& (31 : Int32))).toNatClampNeg)), .val (.ref b3), .unset, .unset]) rfl ?_
        show Steps p.tables e below (T18.setTop (mkF m 72 #[.val (.int p0), .val (.int p1), .val (.long q2), .second, .val (.int p3), .val (.int (p0 &&& (31 : Int32))), .val (.int v2), .val (.ref b3), .val (.ref b6_b2), .val (.int (Int32.ofNat ((p0 &&& (31 : Int32))).toNatClampNeg)), .val (.ref b3), .unset, .unset] [])) _
        refine XS.aload X18.here hx rfl (hb hby at_72) rfl rfl ?_
        show Steps p.tables e below (T18.setTop (mkF m 74 #[.val (.int p0), .val (.int p1), .val (.long q2), .second, .val (.int p3), .val (.int (p0 &&& (31 : Int32))), .val (.int v2), .val (.ref b3), .val (.ref b6_b2), .val (.int (Int32.ofNat ((p0 &&& (31 : Int32))).toNatClampNeg)), .val (.ref b3), .unset, .unset] [(.ref b3)])) _
        refine XS.aload X18.here hx rfl (hb hby at_74) rfl rfl ?_
        show Steps p.tables e below (T18.setTop (mkF m 76 #[.val (.int p0), .val (.int p1), .val (.long q2), .second, .val (.int p3), .val (.int (p0 &&& (31 : Int32))), .val (.int v2), .val (.ref b3), .val (.ref b6_b2), .val (.int (Int32.ofNat ((p0 &&& (31 : Int32))).toNatClampNeg)), .val (.ref b3), .unset, .unset] [(.ref b3), (.ref b3)])) _
        refine XS.acmpYes X18.here hx rfl (pc0 := 76) (pc' := 81) rfl (hb hby at_76) rfl (own_aeqT rfl) (by decide) (by decide) ?_
        show Steps p.tables e below (T18.setTop (mkF m 81 #[.val (.int p0), .val (.int p1), .val (.long q2), .second, .val (.int p3), .val (.int (p0 &&& (31 : Int32))), .val (.int v2), .val (.ref b3), .val (.ref b6_b2), .val (.int (Int32.ofNat ((p0 &&& (31 : Int32))).toNatClampNeg)), .val (.ref b3), .unset, .unset] [])) _
        refine XS.aload X18.here hx rfl (hb hby at_81) rfl rfl ?_
        show Steps p.tables e below (T18.setTop (mkF m 83 #[.val (.int p0), .val (.int p1), .val (.long q2), .second, .val (.int p3), .val (.int (p0 &&& (31 : Int32))), .val (.int v2), .val (.ref b3), .val (.ref b6_b2), .val (.int (Int32.ofNat ((p0 &&& (31 : Int32))).toNatClampNeg)), .val (.ref b3), .unset, .unset] [(.ref b3)])) _
        refine st24.trans ?_
        show Steps p.tables e below (T24.setTop (mkF m 86 #[.val (.int p0), .val (.int p1), .val (.long q2), .second, .val (.int p3), .val (.int (p0 &&& (31 : Int32))), .val (.int v2), .val (.ref b3), .val (.ref b6_b2), .val (.int (Int32.ofNat ((p0 &&& (31 : Int32))).toNatClampNeg)), .val (.ref b3), .unset, .unset] [(.int (0 : Int32))])) _
        refine XS.ifYes X24.here hx rfl (pc0 := 86) (pc' := 91) rfl (hb hby at_86) rfl ((if0 _ _).trans (teq (by decide)).1) (by decide) (by decide) ?_
        show Steps p.tables e below (T24.setTop (mkF m 91 #[.val (.int p0), .val (.int p1), .val (.long q2), .second, .val (.int p3), .val (.int (p0 &&& (31 : Int32))), .val (.int v2), .val (.ref b3), .val (.ref b6_b2), .val (.int (Int32.ofNat ((p0 &&& (31 : Int32))).toNatClampNeg)), .val (.ref b3), .unset, .unset] [])) _
        refine XS.aload X24.here hx rfl (hb hby at_91) rfl rfl ?_
        show Steps p.tables e below (T24.setTop (mkF m 93 #[.val (.int p0), .val (.int p1), .val (.long q2), .second, .val (.int p3), .val (.int (p0 &&& (31 : Int32))), .val (.int v2), .val (.ref b3), .val (.ref b6_b2), .val (.int (Int32.ofNat ((p0 &&& (31 : Int32))).toNatClampNeg)), .val (.ref b3), .unset, .unset] [(.ref b3)])) _
        refine st25.trans ?_
        show Steps p.tables e below (T25.setTop (mkF m 96 #[.val (.int p0), .val (.int p1), .val (.long q2), .second, .val (.int p3), .val (.int (p0 &&& (31 : Int32))), .val (.int v2), .val (.ref b3), .val (.ref b6_b2), .val (.int (Int32.ofNat ((p0 &&& (31 : Int32))).toNatClampNeg)), .val (.ref b3), .unset, .unset] [(.ref b18_b2)])) _
        refine XS.astore X25.here hx rfl (hb hby at_96) rfl rfl (l' := #[.val (.int p0), .val (.int p1), .val (.long q2), .second, .val (.int p3), .val (.int (p0 &&& (31 : Int32))), .val (.int v2), .val (.ref b3), .val (.ref b6_b2), .val (.int (Int32.ofNat ((p0 &&& (31 : Int32))).toNatClampNeg)), .val (.ref b3), .val (.ref b18_b2), .unset]) rfl ?_
        show Steps p.tables e below (T25.setTop (mkF m 98 #[.val (.int p0), .val (.int p1), .val (.long q2), .second, .val (.int p3), .val (.int (p0 &&& (31 : Int32))), .val (.int v2), .val (.ref b3), .val (.ref b6_b2), .val (.int (Int32.ofNat ((p0 &&& (31 : Int32))).toNatClampNeg)), .val (.ref b3), .val (.ref b18_b2), .unset] [])) _
        refine XS.iload X25.here hx rfl (hb hby at_98) rfl ?_
        show Steps p.tables e below (T25.setTop (mkF m 100 #[.val (.int p0), .val (.int p1), .val (.long q2), .second, .val (.int p3), .val (.int (p0 &&& (31 : Int32))), .val (.int v2), .val (.ref b3), .val (.ref b6_b2), .val (.int (Int32.ofNat ((p0 &&& (31 : Int32))).toNatClampNeg)), .val (.ref b3), .val (.ref b18_b2), .unset] [(.int (Int32.ofNat ((p0 &&& (31 : Int32))).toNatClampNeg))])) _
        refine XS.iload X25.here hx rfl (hb hby at_100) rfl ?_
        show Steps p.tables e below (T25.setTop (mkF m 102 #[.val (.int p0), .val (.int p1), .val (.long q2), .second, .val (.int p3), .val (.int (p0 &&& (31 : Int32))), .val (.int v2), .val (.ref b3), .val (.ref b6_b2), .val (.int (Int32.ofNat ((p0 &&& (31 : Int32))).toNatClampNeg)), .val (.ref b3), .val (.ref b18_b2), .unset] [(.int v2), (.int (Int32.ofNat ((p0 &&& (31 : Int32))).toNatClampNeg))])) _
        refine XS.icmpNo X25.here hx rfl (hb hby at_102) rfl (tlt hk26).2.2.2 ?_
        show Steps p.tables e below (T25.setTop (mkF m 105 #[.val (.int p0), .val (.int p1), .val (.long q2), .second, .val (.int p3), .val (.int (p0 &&& (31 : Int32))), .val (.int v2), .val (.ref b3), .val (.ref b6_b2), .val (.int (Int32.ofNat ((p0 &&& (31 : Int32))).toNatClampNeg)), .val (.ref b3), .val (.ref b18_b2), .unset] [])) _
        refine XS.aload X25.here hx rfl (hb hby at_105) rfl rfl ?_
        show Steps p.tables e below (T25.setTop (mkF m 107 #[.val (.int p0), .val (.int p1), .val (.long q2), .second, .val (.int p3), .val (.int (p0 &&& (31 : Int32))), .val (.int v2), .val (.ref b3), .val (.ref b6_b2), .val (.int (Int32.ofNat ((p0 &&& (31 : Int32))).toNatClampNeg)), .val (.ref b3), .val (.ref b18_b2), .unset] [(.ref b18_b2)])) _
        refine XS.aload X25.here hx rfl (hb hby at_107) rfl rfl ?_
        show Steps p.tables e below (T25.setTop (mkF m 109 #[.val (.int p0), .val (.int p1), .val (.long q2), .second, .val (.int p3), .val (.int (p0 &&& (31 : Int32))), .val (.int v2), .val (.ref b3), .val (.ref b6_b2), .val (.int (Int32.ofNat ((p0 &&& (31 : Int32))).toNatClampNeg)), .val (.ref b3), .val (.ref b18_b2), .unset] [(.ref b6_b2), (.ref b18_b2)])) _
        refine XS.acmpNo X25.here hx rfl (hb hby at_109) rfl (own_aeqF (Ne.symm ne_b6_b2_b18_b2)) ?_
        show Steps p.tables e below (T25.setTop (mkF m 112 #[.val (.int p0), .val (.int p1), .val (.long q2), .second, .val (.int p3), .val (.int (p0 &&& (31 : Int32))), .val (.int v2), .val (.ref b3), .val (.ref b6_b2), .val (.int (Int32.ofNat ((p0 &&& (31 : Int32))).toNatClampNeg)), .val (.ref b3), .val (.ref b18_b2), .unset] [])) _
        refine XS.aload X25.here hx rfl (hb hby at_112) rfl rfl ?_
        show Steps p.tables e below (T25.setTop (mkF m 114 #[.val (.int p0), .val (.int p1), .val (.long q2), .second, .val (.int p3), .val (.int (p0 &&& (31 : Int32))), .val (.int v2), .val (.ref b3), .val (.ref b6_b2), .val (.int (Int32.ofNat ((p0 &&& (31 : Int32))).toNatClampNeg)), .val (.ref b3), .val (.ref b18_b2), .unset] [(.ref b18_b2)])) _
        refine AF.len X25 hx hZ e25 P23 (g := (mkF m 114 #[.val (.int p0), .val (.int p1), .val (.long q2), .second, .val (.int p3), .val (.int (p0 &&& (31 : Int32))), .val (.int v2), .val (.ref b3), .val (.ref b6_b2), .val (.int (Int32.ofNat ((p0 &&& (31 : Int32))).toNatClampNeg)), .val (.ref b3), .val (.ref b18_b2), .unset] [(.ref b18_b2)])) rfl rfl (hb hby at_114) _ ?_
        show Steps p.tables e below (T25.setTop (mkF m 115 #[.val (.int p0), .val (.int p1), .val (.long q2), .second, .val (.int p3), .val (.int (p0 &&& (31 : Int32))), .val (.int v2), .val (.ref b3), .val (.ref b6_b2), .val (.int (Int32.ofNat ((p0 &&& (31 : Int32))).toNatClampNeg)), .val (.ref b3), .val (.ref b18_b2), .unset] [(.int (Int32.ofNat (v2).toNatClampNeg))])) _
        refine XS.iload X25.here hx rfl (hb hby at_115) rfl ?_
        show Steps p.tables e below (T25.setTop (mkF m 117 #[.val (.int p0), .val (.int p1), .val (.long q2), .second, .val (.int p3), .val (.int (p0 &&& (31 : Int32))), .val (.int v2), .val (.ref b3), .val (.ref b6_b2), .val (.int (Int32.ofNat ((p0 &&& (31 : Int32))).toNatClampNeg)), .val (.ref b3), .val (.ref b18_b2), .unset] [(.int v2), (.int (Int32.ofNat (v2).toNatClampNeg))])) _
        refine XS.icmpYes X25.here hx rfl (pc0 := 117) (pc' := 131) rfl (hb hby at_117) rfl (teq hk27).1 (by decide) (by decide) ?_
        show Steps p.tables e below (T25.setTop (mkF m 131 #[.val (.int p0), .val (.int p1), .val (.long q2), .second, .val (.int p3), .val (.int (p0 &&& (31 : Int32))), .val (.int v2), .val (.ref b3), .val (.ref b6_b2), .val (.int (Int32.ofNat ((p0 &&& (31 : Int32))).toNatClampNeg)), .val (.ref b3), .val (.ref b18_b2), .unset] [])) _
        refine XS.aload X25.here hx rfl (hb hby at_131) rfl rfl ?_
        show Steps p.tables e below (T25.setTop (mkF m 133 #[.val (.int p0), .val (.int p1), .val (.long q2), .second, .val (.int p3), .val (.int (p0 &&& (31 : Int32))), .val (.int v2), .val (.ref b3), .val (.ref b6_b2), .val (.int (Int32.ofNat ((p0 &&& (31 : Int32))).toNatClampNeg)), .val (.ref b3), .val (.ref b18_b2), .unset] [(.ref b3)])) _
        refine st29 _ ?_
        show Steps p.tables e below (T29.setTop (mkF m 135 #[.val (.int p0), .val (.int p1), .val (.long q2), .second, .val (.int p3), .val (.int (p0 &&& (31 : Int32))), .val (.int v2), .val (.ref b3), .val (.ref b6_b2), .val (.int (Int32.ofNat ((p0 &&& (31 : Int32))).toNatClampNeg)), .val (.ref b3), .val (.ref b18_b2), .unset] [(.ref as29), (.ref b3)])) _
        refine st47.trans ?_
        show Steps p.tables e below (T47.setTop (mkF m 138 #[.val (.int p0), .val (.int p1), .val (.long q2), .second, .val (.int p3), .val (.int (p0 &&& (31 : Int32))), .val (.int v2), .val (.ref b3), .val (.ref b6_b2), .val (.int (Int32.ofNat ((p0 &&& (31 : Int32))).toNatClampNeg)), .val (.ref b3), .val (.ref b18_b2), .unset] [(.ref b3)])) _
        refine XS.pop X47.here hx rfl (hb hby at_138) rfl rfl ?_
        show Steps p.tables e below (T47.setTop (mkF m 139 #[.val (.int p0), .val (.int p1), .val (.long q2), .second, .val (.int p3), .val (.int (p0 &&& (31 : Int32))), .val (.int v2), .val (.ref b3), .val (.ref b6_b2), .val (.int (Int32.ofNat ((p0 &&& (31 : Int32))).toNatClampNeg)), .val (.ref b3), .val (.ref b18_b2), .unset] [])) _
        refine XS.aload X47.here hx rfl (hb hby at_139) rfl rfl ?_
        show Steps p.tables e below (T47.setTop (mkF m 141 #[.val (.int p0), .val (.int p1), .val (.long q2), .second, .val (.int p3), .val (.int (p0 &&& (31 : Int32))), .val (.int v2), .val (.ref b3), .val (.ref b6_b2), .val (.int (Int32.ofNat ((p0 &&& (31 : Int32))).toNatClampNeg)), .val (.ref b3), .val (.ref b18_b2), .unset] [(.ref b3)])) _
        refine st49.trans ?_
        show Steps p.tables e below (T49.setTop (mkF m 144 #[.val (.int p0), .val (.int p1), .val (.long q2), .second, .val (.int p3), .val (.int (p0 &&& (31 : Int32))), .val (.int v2), .val (.ref b3), .val (.ref b6_b2), .val (.int (Int32.ofNat ((p0 &&& (31 : Int32))).toNatClampNeg)), .val (.ref b3), .val (.ref b18_b2), .unset] [(.ref bx47)])) _
        refine XS.astore X49.here hx rfl (hb hby at_144) rfl rfl (l' := #[.val (.int p0), .val (.int p1), .val (.long q2), .second, .val (.int p3), .val (.int (p0 &&& (31 : Int32))), .val (.int v2), .val (.ref b3), .val (.ref b6_b2), .val (.int (Int32.ofNat ((p0 &&& (31 : Int32))).toNatClampNeg)), .val (.ref b3), .val (.ref b18_b2), .val (.ref bx47)]) rfl ?_
        show Steps p.tables e below (T49.setTop (mkF m 146 #[.val (.int p0), .val (.int p1), .val (.long q2), .second, .val (.int p3), .val (.int (p0 &&& (31 : Int32))), .val (.int v2), .val (.ref b3), .val (.ref b6_b2), .val (.int (Int32.ofNat ((p0 &&& (31 : Int32))).toNatClampNeg)), .val (.ref b3), .val (.ref b18_b2), .val (.ref bx47)] [])) _
        refine XS.aload X49.here hx rfl (hb hby at_146) rfl rfl ?_
        show Steps p.tables e below (T49.setTop (mkF m 148 #[.val (.int p0), .val (.int p1), .val (.long q2), .second, .val (.int p3), .val (.int (p0 &&& (31 : Int32))), .val (.int v2), .val (.ref b3), .val (.ref b6_b2), .val (.int (Int32.ofNat ((p0 &&& (31 : Int32))).toNatClampNeg)), .val (.ref b3), .val (.ref b18_b2), .val (.ref bx47)] [(.ref b3)])) _
        refine st50.trans ?_
        show Steps p.tables e below (T50.setTop (mkF m 151 #[.val (.int p0), .val (.int p1), .val (.long q2), .second, .val (.int p3), .val (.int (p0 &&& (31 : Int32))), .val (.int v2), .val (.ref b3), .val (.ref b6_b2), .val (.int (Int32.ofNat ((p0 &&& (31 : Int32))).toNatClampNeg)), .val (.ref b3), .val (.ref b18_b2), .val (.ref bx47)] [(.int (4 : Int32))])) _
        refine XS.iconst X50.here hx rfl (hb hby at_151) ?_
        show Steps p.tables e below (T50.setTop (mkF m 152 #[.val (.int p0), .val (.int p1), .val (.long q2), .second, .val (.int p3), .val (.int (p0 &&& (31 : Int32))), .val (.int v2), .val (.ref b3), .val (.ref b6_b2), .val (.int (Int32.ofNat ((p0 &&& (31 : Int32))).toNatClampNeg)), .val (.ref b3), .val (.ref b18_b2), .val (.ref bx47)] [(.int (4 : Int32)), (.int (4 : Int32))])) _
        refine XS.icmpNo X50.here hx rfl (hb hby at_152) rfl (teq (by decide)).2 ?_
        show Steps p.tables e below (T50.setTop (mkF m 155 #[.val (.int p0), .val (.int p1), .val (.long q2), .second, .val (.int p3), .val (.int (p0 &&& (31 : Int32))), .val (.int v2), .val (.ref b3), .val (.ref b6_b2), .val (.int (Int32.ofNat ((p0 &&& (31 : Int32))).toNatClampNeg)), .val (.ref b3), .val (.ref b18_b2), .val (.ref bx47)] [])) _
        refine XS.aload X50.here hx rfl (hb hby at_155) rfl rfl ?_
        show Steps p.tables e below (T50.setTop (mkF m 157 #[.val (.int p0), .val (.int p1), .val (.long q2), .second, .val (.int p3), .val (.int (p0 &&& (31 : Int32))), .val (.int v2), .val (.ref b3), .val (.ref b6_b2), .val (.int (Int32.ofNat ((p0 &&& (31 : Int32))).toNatClampNeg)), .val (.ref b3), .val (.ref b18_b2), .val (.ref bx47)] [(.ref bx47)])) _
        refine XS.iconst X50.here hx rfl (hb hby at_157) ?_
        show Steps p.tables e below (T50.setTop (mkF m 158 #[.val (.int p0), .val (.int p1), .val (.long q2), .second, .val (.int p3), .val (.int (p0 &&& (31 : Int32))), .val (.int v2), .val (.ref b3), .val (.ref b6_b2), .val (.int (Int32.ofNat ((p0 &&& (31 : Int32))).toNatClampNeg)), .val (.ref b3), .val (.ref b18_b2), .val (.ref bx47)] [(.int (0 : Int32)), (.ref bx47)])) _
        refine AF.ldB X50 hx hZ29 e50 A47 hi51 (g := (mkF m 158 #[.val (.int p0), .val (.int p1), .val (.long q2), .second, .val (.int p3), .val (.int (p0 &&& (31 : Int32))), .val (.int v2), .val (.ref b3), .val (.ref b6_b2), .val (.int (Int32.ofNat ((p0 &&& (31 : Int32))).toNatClampNeg)), .val (.ref b3), .val (.ref b18_b2), .val (.ref bx47)] [(.int (0 : Int32)), (.ref bx47)])) rfl rfl (hb hby at_158) _ ?_
        show Steps p.tables e below (T50.setTop (mkF m 159 #[.val (.int p0), .val (.int p1), .val (.long q2), .second, .val (.int p3), .val (.int (p0 &&& (31 : Int32))), .val (.int v2), .val (.ref b3), .val (.ref b6_b2), .val (.int (Int32.ofNat ((p0 &&& (31 : Int32))).toNatClampNeg)), .val (.ref b3), .val (.ref b18_b2), .val (.ref bx47)] [(.int (fx47 0))])) _
        refine XS.bipush X50.here hx rfl (hb hby at_159) ?_
        show Steps p.tables e below (T50.setTop (mkF m 161 #[.val (.int p0), .val (.int p1), .val (.long q2), .second, .val (.int p3), .val (.int (p0 &&& (31 : Int32))), .val (.int v2), .val (.ref b3), .val (.ref b6_b2), .val (.int (Int32.ofNat ((p0 &&& (31 : Int32))).toNatClampNeg)), .val (.ref b3), .val (.ref b18_b2), .val (.ref bx47)] [(.int (34 : Int32)), (.int (fx47 0))])) _
        refine XS.icmpNo X50.here hx rfl (hb hby at_161) rfl (teq hk52).2 ?_
        show Steps p.tables e below (T50.setTop (mkF m 164 #[.val (.int p0), .val (.int p1), .val (.long q2), .second, .val (.int p3), .val (.int (p0 &&& (31 : Int32))), .val (.int v2), .val (.ref b3), .val (.ref b6_b2), .val (.int (Int32.ofNat ((p0 &&& (31 : Int32))).toNatClampNeg)), .val (.ref b3), .val (.ref b18_b2), .val (.ref bx47)] [])) _
        refine XS.aload X50.here hx rfl (hb hby at_164) rfl rfl ?_
        show Steps p.tables e below (T50.setTop (mkF m 166 #[.val (.int p0), .val (.int p1), .val (.long q2), .second, .val (.int p3), .val (.int (p0 &&& (31 : Int32))), .val (.int v2), .val (.ref b3), .val (.ref b6_b2), .val (.int (Int32.ofNat ((p0 &&& (31 : Int32))).toNatClampNeg)), .val (.ref b3), .val (.ref b18_b2), .val (.ref bx47)] [(.ref bx47)])) _
        refine XS.iconst X50.here hx rfl (hb hby at_166) ?_
        show Steps p.tables e below (T50.setTop (mkF m 167 #[.val (.int p0), .val (.int p1), .val (.long q2), .second, .val (.int p3), .val (.int (p0 &&& (31 : Int32))), .val (.int v2), .val (.ref b3), .val (.ref b6_b2), .val (.int (Int32.ofNat ((p0 &&& (31 : Int32))).toNatClampNeg)), .val (.ref b3), .val (.ref b18_b2), .val (.ref bx47)] [(.int (1 : Int32)), (.ref bx47)])) _
        refine AF.ldB X50 hx hZ29 e50 A47 hi53 (g := (mkF m 167 #[.val (.int p0), .val (.int p1), .val (.long q2), .second, .val (.int p3), .val (.int (p0 &&& (31 : Int32))), .val (.int v2), .val (.ref b3), .val (.ref b6_b2), .val (.int (Int32.ofNat ((p0 &&& (31 : Int32))).toNatClampNeg)), .val (.ref b3), .val (.ref b18_b2), .val (.ref bx47)] [(.int (1 : Int32)), (.ref bx47)])) rfl rfl (hb hby at_167) _ ?_
        show Steps p.tables e below (T50.setTop (mkF m 168 #[.val (.int p0), .val (.int p1), .val (.long q2), .second, .val (.int p3), .val (.int (p0 &&& (31 : Int32))), .val (.int v2), .val (.ref b3), .val (.ref b6_b2), .val (.int (Int32.ofNat ((p0 &&& (31 : Int32))).toNatClampNeg)), .val (.ref b3), .val (.ref b18_b2), .val (.ref bx47)] [(.int (fx47 1))])) _
        refine XS.bipush X50.here hx rfl (hb hby at_168) ?_
        show Steps p.tables e below (T50.setTop (mkF m 170 #[.val (.int p0), .val (.int p1), .val (.long q2), .second, .val (.int p3), .val (.int (p0 &&& (31 : Int32))), .val (.int v2), .val (.ref b3), .val (.ref b6_b2), .val (.int (Int32.ofNat ((p0 &&& (31 : Int32))).toNatClampNeg)), .val (.ref b3), .val (.ref b18_b2), .val (.ref bx47)] [(.int (97 : Int32)), (.int (fx47 1))])) _
        refine XS.icmpNo X50.here hx rfl (hb hby at_170) rfl (teq hk54).2 ?_
        show Steps p.tables e below (T50.setTop (mkF m 173 #[.val (.int p0), .val (.int p1), .val (.long q2), .second, .val (.int p3), .val (.int (p0 &&& (31 : Int32))), .val (.int v2), .val (.ref b3), .val (.ref b6_b2), .val (.int (Int32.ofNat ((p0 &&& (31 : Int32))).toNatClampNeg)), .val (.ref b3), .val (.ref b18_b2), .val (.ref bx47)] [])) _
        refine XS.aload X50.here hx rfl (hb hby at_173) rfl rfl ?_
        show Steps p.tables e below (T50.setTop (mkF m 175 #[.val (.int p0), .val (.int p1), .val (.long q2), .second, .val (.int p3), .val (.int (p0 &&& (31 : Int32))), .val (.int v2), .val (.ref b3), .val (.ref b6_b2), .val (.int (Int32.ofNat ((p0 &&& (31 : Int32))).toNatClampNeg)), .val (.ref b3), .val (.ref b18_b2), .val (.ref bx47)] [(.ref bx47)])) _
        refine XS.iconst X50.here hx rfl (hb hby at_175) ?_
        show Steps p.tables e below (T50.setTop (mkF m 176 #[.val (.int p0), .val (.int p1), .val (.long q2), .second, .val (.int p3), .val (.int (p0 &&& (31 : Int32))), .val (.int v2), .val (.ref b3), .val (.ref b6_b2), .val (.int (Int32.ofNat ((p0 &&& (31 : Int32))).toNatClampNeg)), .val (.ref b3), .val (.ref b18_b2), .val (.ref bx47)] [(.int (2 : Int32)), (.ref bx47)])) _
        refine AF.ldB X50 hx hZ29 e50 A47 hi55 (g := (mkF m 176 #[.val (.int p0), .val (.int p1), .val (.long q2), .second, .val (.int p3), .val (.int (p0 &&& (31 : Int32))), .val (.int v2), .val (.ref b3), .val (.ref b6_b2), .val (.int (Int32.ofNat ((p0 &&& (31 : Int32))).toNatClampNeg)), .val (.ref b3), .val (.ref b18_b2), .val (.ref bx47)] [(.int (2 : Int32)), (.ref bx47)])) rfl rfl (hb hby at_176) _ ?_
        show Steps p.tables e below (T50.setTop (mkF m 177 #[.val (.int p0), .val (.int p1), .val (.long q2), .second, .val (.int p3), .val (.int (p0 &&& (31 : Int32))), .val (.int v2), .val (.ref b3), .val (.ref b6_b2), .val (.int (Int32.ofNat ((p0 &&& (31 : Int32))).toNatClampNeg)), .val (.ref b3), .val (.ref b18_b2), .val (.ref bx47)] [(.int (fx47 2))])) _
        refine XS.bipush X50.here hx rfl (hb hby at_177) ?_
        show Steps p.tables e below (T50.setTop (mkF m 179 #[.val (.int p0), .val (.int p1), .val (.long q2), .second, .val (.int p3), .val (.int (p0 &&& (31 : Int32))), .val (.int v2), .val (.ref b3), .val (.ref b6_b2), .val (.int (Int32.ofNat ((p0 &&& (31 : Int32))).toNatClampNeg)), .val (.ref b3), .val (.ref b18_b2), .val (.ref bx47)] [(.int (34 : Int32)), (.int (fx47 2))])) _
        refine XS.icmpNo X50.here hx rfl (hb hby at_179) rfl (teq hk56).2 ?_
        show Steps p.tables e below (T50.setTop (mkF m 182 #[.val (.int p0), .val (.int p1), .val (.long q2), .second, .val (.int p3), .val (.int (p0 &&& (31 : Int32))), .val (.int v2), .val (.ref b3), .val (.ref b6_b2), .val (.int (Int32.ofNat ((p0 &&& (31 : Int32))).toNatClampNeg)), .val (.ref b3), .val (.ref b18_b2), .val (.ref bx47)] [])) _
        refine XS.aload X50.here hx rfl (hb hby at_182) rfl rfl ?_
        show Steps p.tables e below (T50.setTop (mkF m 184 #[.val (.int p0), .val (.int p1), .val (.long q2), .second, .val (.int p3), .val (.int (p0 &&& (31 : Int32))), .val (.int v2), .val (.ref b3), .val (.ref b6_b2), .val (.int (Int32.ofNat ((p0 &&& (31 : Int32))).toNatClampNeg)), .val (.ref b3), .val (.ref b18_b2), .val (.ref bx47)] [(.ref bx47)])) _
        refine XS.iconst X50.here hx rfl (hb hby at_184) ?_
        show Steps p.tables e below (T50.setTop (mkF m 185 #[.val (.int p0), .val (.int p1), .val (.long q2), .second, .val (.int p3), .val (.int (p0 &&& (31 : Int32))), .val (.int v2), .val (.ref b3), .val (.ref b6_b2), .val (.int (Int32.ofNat ((p0 &&& (31 : Int32))).toNatClampNeg)), .val (.ref b3), .val (.ref b18_b2), .val (.ref bx47)] [(.int (3 : Int32)), (.ref bx47)])) _
        refine AF.ldB X50 hx hZ29 e50 A47 hi57 (g := (mkF m 185 #[.val (.int p0), .val (.int p1), .val (.long q2), .second, .val (.int p3), .val (.int (p0 &&& (31 : Int32))), .val (.int v2), .val (.ref b3), .val (.ref b6_b2), .val (.int (Int32.ofNat ((p0 &&& (31 : Int32))).toNatClampNeg)), .val (.ref b3), .val (.ref b18_b2), .val (.ref bx47)] [(.int (3 : Int32)), (.ref bx47)])) rfl rfl (hb hby at_185) _ ?_
        show Steps p.tables e below (T50.setTop (mkF m 186 #[.val (.int p0), .val (.int p1), .val (.long q2), .second, .val (.int p3), .val (.int (p0 &&& (31 : Int32))), .val (.int v2), .val (.ref b3), .val (.ref b6_b2), .val (.int (Int32.ofNat ((p0 &&& (31 : Int32))).toNatClampNeg)), .val (.ref b3), .val (.ref b18_b2), .val (.ref bx47)] [(.int (fx47 3))])) _
        refine XS.bipush X50.here hx rfl (hb hby at_186) ?_
        show Steps p.tables e below (T50.setTop (mkF m 188 #[.val (.int p0), .val (.int p1), .val (.long q2), .second, .val (.int p3), .val (.int (p0 &&& (31 : Int32))), .val (.int v2), .val (.ref b3), .val (.ref b6_b2), .val (.int (Int32.ofNat ((p0 &&& (31 : Int32))).toNatClampNeg)), .val (.ref b3), .val (.ref b18_b2), .val (.ref bx47)] [(.int (58 : Int32)), (.int (fx47 3))])) _
        refine XS.icmpNo X50.here hx rfl (hb hby at_188) rfl (teq hk58).2 ?_
        show Steps p.tables e below (T50.setTop (mkF m 191 #[.val (.int p0), .val (.int p1), .val (.long q2), .second, .val (.int p3), .val (.int (p0 &&& (31 : Int32))), .val (.int v2), .val (.ref b3), .val (.ref b6_b2), .val (.int (Int32.ofNat ((p0 &&& (31 : Int32))).toNatClampNeg)), .val (.ref b3), .val (.ref b18_b2), .val (.ref bx47)] [])) _
        refine XS.iconst X50.here hx rfl (hb hby at_191) ?_
        show Steps p.tables e below (T50.setTop (mkF m 192 #[.val (.int p0), .val (.int p1), .val (.long q2), .second, .val (.int p3), .val (.int (p0 &&& (31 : Int32))), .val (.int v2), .val (.ref b3), .val (.ref b6_b2), .val (.int (Int32.ofNat ((p0 &&& (31 : Int32))).toNatClampNeg)), .val (.ref b3), .val (.ref b18_b2), .val (.ref bx47)] [(.int (1 : Int32))])) _
        refine XS.goto X50.here hx rfl (pc0 := 192) (pc' := 196) rfl (hb hby at_192) (by decide) (by decide) ?_
        show Steps p.tables e below (T50.setTop (mkF m 196 #[.val (.int p0), .val (.int p1), .val (.long q2), .second, .val (.int p3), .val (.int (p0 &&& (31 : Int32))), .val (.int v2), .val (.ref b3), .val (.ref b6_b2), .val (.int (Int32.ofNat ((p0 &&& (31 : Int32))).toNatClampNeg)), .val (.ref b3), .val (.ref b18_b2), .val (.ref bx47)] [(.int (1 : Int32))])) _
        exact retN X50 hx (t := .boolean) Bd.returns (by simp) (hb hby at_196) hr
      · show Q0 h0 n0 _ T50.heap _
        exact ⟨rfl, N50⟩
    · have hp60 : ¬ (v2 < (Int32.ofNat ((p0 &&& (31 : Int32))).toNatClampNeg)) := hk
      obtain ⟨cq61, kq61, q61a, q61b, q61c⟩ := isOf hZ e13 P7
      obtain ⟨_, _, ⟨T61, L61, k61, n61⟩, -, X61, ⟨Lc61, hQ61, l61, y61, z61⟩, st61⟩ := X13.virtualBack hx (y := (⟨"com/example/commitlog/commitlog/codec/JsonWriter", "reset", "(I)Lcom/example/commitlog/commitlog/codec/JsonWriter;"⟩ : MethodName)) (z := (⟨"com/example/commitlog/commitlog/codec/JsonWriter", "reset", "(I)Lcom/example/commitlog/commitlog/codec/JsonWriter;"⟩ : MethodName)) hown (mvT hZ (hw _ (List.mem_of_getElem? (i := 18) rfl))) (mvT hZ (hw _ (List.mem_of_getElem? (i := 19) rfl))) (notFace_of_selects (args := #[]) (mvT hZ (hw _ (List.mem_of_getElem? (i := 21) rfl)))) (mvT hZ (hw _ (List.mem_of_getElem? (i := 21) rfl))) (mvT hZ (hw _ (List.mem_of_getElem? (i := 20) rfl))) (by decide) (backOf (W := 0) (rm4k l Z A0 hw [] b3 v2 b6_b2 (0 : Int32) (0 : Int32) (((p0 &&& (31 : Int32))).toNatClampNeg) (fun _ => (0 : Int32)) T6.heap n0 (Nat.le_trans Z0 K6.1) P7 P8 P9 P10 P11 nw_b3 hp60) hZ (hw _ (List.mem_of_getElem? (i := 22) rfl)) (hw _ (List.mem_of_getElem? (i := 3) rfl)) (by decide) (by decide)) q61a q61c (g := (mkF m 67 #[.val (.int p0), .val (.int p1), .val (.long q2), .second, .val (.int p3), .val (.int (p0 &&& (31 : Int32))), .val (.int v2), .val (.ref b3), .val (.ref b6_b2), .val (.int (Int32.ofNat ((p0 &&& (31 : Int32))).toNatClampNeg)), .unset, .unset, .unset] [(.int v2), (.ref b3)])) rfl (by rw [hml]; rfl) (Steps.refl _) (argsL := [(.int v2)]) (rest := []) (lenOf pd_3 rfl) rfl (by show 2 * 0 + _ ≤ _; exact Nat.le_of_eq rfl) (hb hby at_67) (fun _ _ => ⟨rfl, e13, (by decide : 2 + 0 ≤ _), (by decide : 34 + 0 ≤ _)⟩)
      dsimp only [Pt.U, Pt.locs, Pt.cells, Pt.slots] at X61 l61 y61 z61 st61 hQ61
      subst l61 y61 z61
      obtain ⟨rfl, N61q, Kc61, P62, P63, P64, P65⟩ := hQ61
      have K61 : Keep h0 T61.heap [] := K6.trans Kc61 (allS (Or.inr sz_b3) all0)
      have N61 := Fr.app N13 N61q
      obtain ⟨cq66, kq66, q66a, q66b, q66c⟩ := isOf hZ rfl P62
      obtain ⟨_, _, ⟨T66, L66, k66, n66⟩, -, X66, ⟨Lc66, hQ66, l66, y66, z66⟩, st66⟩ := X61.virtualBack hx (y := (⟨"com/example/commitlog/commitlog/codec/JsonWriter", "length", "()I"⟩ : MethodName)) (z := (⟨"com/example/commitlog/commitlog/codec/JsonWriter", "length", "()I"⟩ : MethodName)) hown (mvT hZ (hw _ (List.mem_of_getElem? (i := 27) rfl))) (mvT hZ (hw _ (List.mem_of_getElem? (i := 28) rfl))) (notFace_of_selects (args := #[]) (mvT hZ (hw _ (List.mem_of_getElem? (i := 30) rfl)))) (mvT hZ (hw _ (List.mem_of_getElem? (i := 30) rfl))) (mvT hZ (hw _ (List.mem_of_getElem? (i := 29) rfl))) (by decide) (backOf (W := 0) (rm5 l Z A0 hw [] b3 (.ref b6_b2) (0 : Int32) (0 : Int32) T61.heap n0 (Nat.le_trans Z0 K61.1) P62 P63 P64 P65) hZ (hw _ (List.mem_of_getElem? (i := 31) rfl)) (hw _ (List.mem_of_getElem? (i := 3) rfl)) (by decide) (by decide)) q66a q66c (g := (mkF m 83 #[.val (.int p0), .val (.int p1), .val (.long q2), .second, .val (.int p3), .val (.int (p0 &&& (31 : Int32))), .val (.int v2), .val (.ref b3), .val (.ref b6_b2), .val (.int (Int32.ofNat ((p0 &&& (31 : Int32))).toNatClampNeg)), .val (.ref b3), .unset, .unset] [(.ref b3)])) rfl (by rw [hml]; rfl) (Steps.refl _) (argsL := []) (rest := []) (lenOf pd_4 rfl) rfl (by show 2 * 0 + _ ≤ _; exact Nat.le_of_eq rfl) (hb hby at_83) (fun _ _ => ⟨rfl, rfl, (by decide : 2 + 0 ≤ _), (by decide : 34 + 0 ≤ _)⟩)
      dsimp only [Pt.U, Pt.locs, Pt.cells, Pt.slots] at X66 l66 y66 z66 st66 hQ66
      subst l66 y66 z66
      obtain ⟨rfl, N66q, e66⟩ := hQ66
      have N66 := Fr.app N61 N66q
      obtain ⟨cq67, kq67, q67a, q67b, q67c⟩ := isOf hZ e66 P62
      obtain ⟨_, _, ⟨T67, L67, k67, n67⟩, -, X67, ⟨Lc67, hQ67, l67, y67, z67⟩, st67⟩ := X66.virtualBack hx (y := (⟨"com/example/commitlog/commitlog/codec/JsonWriter", "bytes", "()[B"⟩ : MethodName)) (z := (⟨"com/example/commitlog/commitlog/codec/JsonWriter", "bytes", "()[B"⟩ : MethodName)) hown (mvT hZ (hw _ (List.mem_of_getElem? (i := 13) rfl))) (mvT hZ (hw _ (List.mem_of_getElem? (i := 14) rfl))) (notFace_of_selects (args := #[]) (mvT hZ (hw _ (List.mem_of_getElem? (i := 16) rfl)))) (mvT hZ (hw _ (List.mem_of_getElem? (i := 16) rfl))) (mvT hZ (hw _ (List.mem_of_getElem? (i := 15) rfl))) (by decide) (backOf (W := 0) (rm3 l Z A0 hw [] b3 b6_b2 (0 : Int32) (0 : Int32) T61.heap n0 (Nat.le_trans Z0 K61.1) P62 P63 P64 P65) hZ (hw _ (List.mem_of_getElem? (i := 17) rfl)) (hw _ (List.mem_of_getElem? (i := 3) rfl)) (by decide) (by decide)) q67a q67c (g := (mkF m 93 #[.val (.int p0), .val (.int p1), .val (.long q2), .second, .val (.int p3), .val (.int (p0 &&& (31 : Int32))), .val (.int v2), .val (.ref b3), .val (.ref b6_b2), .val (.int (Int32.ofNat ((p0 &&& (31 : Int32))).toNatClampNeg)), .val (.ref b3), .unset, .unset] [(.ref b3)])) rfl (by rw [hml]; rfl) (Steps.refl _) (argsL := []) (rest := []) (lenOf pd_2 rfl) rfl (by show 2 * 0 + _ ≤ _; exact Nat.le_of_eq rfl) (hb hby at_93) (fun _ _ => ⟨rfl, e66, (by decide : 2 + 0 ≤ _), (by decide : 34 + 0 ≤ _)⟩)
      dsimp only [Pt.U, Pt.locs, Pt.cells, Pt.slots] at X67 l67 y67 z67 st67 hQ67
      subst l67 y67 z67
      obtain ⟨rfl, N67q, e67⟩ := hQ67
      have N67 := Fr.app N66 N67q
      have hk68 : ¬ (v2 < (Int32.ofNat ((p0 &&& (31 : Int32))).toNatClampNeg)) := hk
      have wS : ∀ d ∈ Bundle.stringAtoms, d.before A0 Z = true := by
        intro d hd
        simp only [Bundle.stringAtoms, List.mem_cons, List.not_mem_nil, or_false] at hd
        rcases hd with rfl | rfl | rfl | rfl | rfl | rfl | rfl
        · exact (hw _ (List.mem_of_getElem? (i := 33) rfl))
        · exact (hw _ (List.mem_of_getElem? (i := 34) rfl))
        · exact (hw _ (List.mem_of_getElem? (i := 10) rfl))
        · exact (hw _ (List.mem_of_getElem? (i := 35) rfl))
        · exact (hw _ (List.mem_of_getElem? (i := 36) rfl))
        · exact (hw _ (List.mem_of_getElem? (i := 37) rfl))
        · exact (hw _ (List.mem_of_getElem? (i := 38) rfl))
      have SI0 : s.Since s.vm 0 := State.WarmedH.since (State.WarmedH.refl s) 0
      have X69 : Stand p l e room_1 (s.setVm s.vm) m #[(.int p0), (.int p1), (.long q2), (.int p3)] below meth c T67 _ 2 34 := X67
      have LE0 : 0 ≤ T61.heap.size := Nat.zero_le _
      obtain ⟨as70, T70, h70, k70, bs70, kk70, X70, e70, E70, SI70, LE70, hZ70, hown70, Es70, Fc70, Fv70, Av70, -, -, IB70, st70⟩ := ldcSV X69 hx hZ hown (hw _ (List.mem_of_getElem? (i := 32) rfl)) wS e67 SI0 LE0 (hfr N67) hkp (by rw [hUZ]; exact IB.start) (by simp) hcst29 hcw (vs := [.int 97]) (z := 1) ⟨by decide, rfl⟩ (by decide) rfl (g := (mkF m 133 #[.val (.int p0), .val (.int p1), .val (.long q2), .second, .val (.int p3), .val (.int (p0 &&& (31 : Int32))), .val (.int v2), .val (.ref b3), .val (.ref b6_b2), .val (.int (Int32.ofNat ((p0 &&& (31 : Int32))).toNatClampNeg)), .val (.ref b3), .val (.ref b6_b2), .unset] [(.ref b3)])) rfl (hb hby at_133) (n := 4) (by decide) (by decide) (by decide) (by decide)
      have K70 : Keep h0 h70 [] := K61.ext E70
      have V70 : AF Z h70 bs70 .byte 1 (fun j => .int ((fun _ => (97 : Int32)) j)) := own_arv1 Av70
      have G71 : Exa Z h70 b3 "com/example/commitlog/commitlog/codec/JsonWriter" := (P62.ext E70)
      have G72 : AF Z h70 b6_b2 .byte ((p0 &&& (31 : Int32))).toNatClampNeg (fun j => .int ((fun _ => (0 : Int32)) j)) := ((P11.keep Kc61 (ninS (Ne.symm ne_b3_b6_b2) nin0)).ext E70)
      have ne_o_s : b3 ≠ as70 := ne_exa G71 Es70 (by decide)
      have ne_o_v : b3 ≠ bs70 := V70.arr G71 (hw _ (List.mem_of_getElem? (i := 2) rfl))
      have ne_s_b : as70 ≠ b6_b2 := G72.arr Es70 (hw _ (List.mem_of_getElem? (i := 34) rfl))
      have ne_b_v : b6_b2 ≠ bs70 := own_neA G72 V70 (Or.inr (by decide))
      have G73 : Fld Z h70 b3 "com/example/commitlog/commitlog/codec/JsonWriter" "bytes" "[B" (.ref b6_b2) := (P63.ext E70)
      have G74 : Fld Z h70 b3 "com/example/commitlog/commitlog/codec/JsonWriter" "length" "I" (.int (0 : Int32)) := (P64.ext E70)
      have G75 : Fld Z h70 b3 "com/example/commitlog/commitlog/codec/JsonWriter" "afterValue" "Z" (.int (0 : Int32)) := (P65.ext E70)
      have G76 : SO Z n0 h70 "java/lang/String" "COMPACT_STRINGS" "Z" (.int s_COMPACT_STRINGS) := ((((S_COMPACT_STRINGS.ext E3).keep Kc6 (allS nw_b3 all0)).keep Kc61 (allS nw_b3 all0)).ext E70)
      have G77 : SO Z n0 h70 "jdk/internal/util/Preconditions" "SIOOBE_FORMATTER" "Ljava/util/function/BiFunction;" s_SIOOBE_FORMATTER := ((((S_SIOOBE_FORMATTER.ext E3).keep Kc6 (allS nw_b3 all0)).keep Kc61 (allS nw_b3 all0)).ext E70)
      have hp78 : s_SIOOBE_FORMATTER.isRef = true := rf_s_SIOOBE_FORMATTER
      have hp79 : ¬ (s_COMPACT_STRINGS = (0 : Int32)) := hcom
      have hp80 : ((p0 &&& (31 : Int32))).toNatClampNeg ≤ 40 := hNN
      have hp81 : own_B (fun _ => (0 : Int32)) := own_B0
      have hp82 : s_SIOOBE_FORMATTER.isRef = true := rf_s_SIOOBE_FORMATTER
      have hp83 : ¬ (s_COMPACT_STRINGS = (0 : Int32)) := hcom
      have hp84 : s_SIOOBE_FORMATTER.isRef = true := rf_s_SIOOBE_FORMATTER
      have hp85 : s_SIOOBE_FORMATTER.isRef = true := rf_s_SIOOBE_FORMATTER
      have hp86 : s_SIOOBE_FORMATTER.isRef = true := rf_s_SIOOBE_FORMATTER
      have hp87 : (fun _ => (97 : Int32)) 0 = (97 : Int32) := rfl
      obtain ⟨cq88, kq88, q88a, q88b, q88c⟩ := isOf hZ70 e70 G71
      obtain ⟨_, _, ⟨T88, L88, k88, n88⟩, -, X88, ⟨Lc88, hQ88, l88, y88, z88⟩, st88⟩ := X70.virtualBack hx (y := (⟨"com/example/commitlog/commitlog/codec/JsonWriter", "name", "(Ljava/lang/String;)Lcom/example/commitlog/commitlog/codec/JsonWriter;"⟩ : MethodName)) (z := (⟨"com/example/commitlog/commitlog/codec/JsonWriter", "name", "(Ljava/lang/String;)Lcom/example/commitlog/commitlog/codec/JsonWriter;"⟩ : MethodName)) hown70 (mvT hZ70 (hw _ (List.mem_of_getElem? (i := 39) rfl))) (mvT hZ70 (hw _ (List.mem_of_getElem? (i := 40) rfl))) (notFace_of_selects (args := #[]) (mvT hZ70 (hw _ (List.mem_of_getElem? (i := 42) rfl)))) (mvT hZ70 (hw _ (List.mem_of_getElem? (i := 42) rfl))) (mvT hZ70 (hw _ (List.mem_of_getElem? (i := 41) rfl))) (by decide) (backOf (W := 0) (rm6 l Z A0 hw [] b3 as70 b6_b2 bs70 (fun _ => (97 : Int32)) s_COMPACT_STRINGS (((p0 &&& (31 : Int32))).toNatClampNeg) (fun _ => (0 : Int32)) s_SIOOBE_FORMATTER h70 n0 (Nat.le_trans Z0 K70.1) G71 G73 G74 G75 Es70 Fv70 Fc70 V70 G76 G72 nw_b3 ne_o_s ne_o_v G77 ne_b3_b6_b2 nw_b6_b2 ne_s_b ne_b_v hp78 hp79 hp80 hp81 hp82 hp83 hp84 hp85 hp86 hp87) hZ70 (hw _ (List.mem_of_getElem? (i := 43) rfl)) (hw _ (List.mem_of_getElem? (i := 3) rfl)) (by decide) (by decide)) q88a q88c (g := (mkF m 135 #[.val (.int p0), .val (.int p1), .val (.long q2), .second, .val (.int p3), .val (.int (p0 &&& (31 : Int32))), .val (.int v2), .val (.ref b3), .val (.ref b6_b2), .val (.int (Int32.ofNat ((p0 &&& (31 : Int32))).toNatClampNeg)), .val (.ref b3), .val (.ref b6_b2), .unset] [(.ref as70), (.ref b3)])) rfl (by rw [hml]; rfl) (Steps.refl _) (argsL := [(.ref as70)]) (rest := []) (lenOf pd_5 rfl) rfl (by show 2 * 0 + _ ≤ _; exact Nat.le_of_eq rfl) (hb hby at_135) (fun _ _ => ⟨rfl, e70, (by decide : 4 + 2 ≤ _), (by decide : 42 + 128 ≤ _)⟩)
      dsimp only [Pt.U, Pt.locs, Pt.cells, Pt.slots] at X88 l88 y88 z88 st88 hQ88
      subst l88 y88 z88
      obtain ⟨bx88, zx88, fx88, rfl, N88q, Kc88, or88, nw_bx88, ne_b3_bx88, Fb88, Fl88, Fa88, A88, B88, x88_0, x88_1, x88_2, x88_3, x88_4⟩ := hQ88
      have sq_bx88 : h0.size ≤ bx88 := by
        rcases or88 with q | q
        · rw [q]; exact sq_b6_b2
        · exact Nat.le_trans K70.1 q
      have K88 : Keep h0 T88.heap [] := K70.trans Kc88 (allS (Or.inr sz_b3) (allS (Or.inr sq_b6_b2) all0))
      have N88 := Fr.app N67 N88q
      have G89 : Exa Z T88.heap b3 "com/example/commitlog/commitlog/codec/JsonWriter" := (G71.keep Kc88)
      obtain ⟨cq90, kq90, q90a, q90b, q90c⟩ := isOf hZ70 rfl G89
      obtain ⟨_, _, ⟨T90, L90, k90, n90⟩, -, X90, ⟨Lc90, hQ90, l90, y90, z90⟩, st90⟩ := X88.virtualBack hx (y := (⟨"com/example/commitlog/commitlog/codec/JsonWriter", "bytes", "()[B"⟩ : MethodName)) (z := (⟨"com/example/commitlog/commitlog/codec/JsonWriter", "bytes", "()[B"⟩ : MethodName)) hown70 (mvT hZ70 (hw _ (List.mem_of_getElem? (i := 13) rfl))) (mvT hZ70 (hw _ (List.mem_of_getElem? (i := 14) rfl))) (notFace_of_selects (args := #[]) (mvT hZ70 (hw _ (List.mem_of_getElem? (i := 16) rfl)))) (mvT hZ70 (hw _ (List.mem_of_getElem? (i := 16) rfl))) (mvT hZ70 (hw _ (List.mem_of_getElem? (i := 15) rfl))) (by decide) (backOf (W := 0) (rm3 l Z A0 hw [] b3 bx88 (4 : Int32) (0 : Int32) T88.heap n0 (Nat.le_trans Z0 K88.1) G89 Fb88 Fl88 Fa88) hZ70 (hw _ (List.mem_of_getElem? (i := 17) rfl)) (hw _ (List.mem_of_getElem? (i := 3) rfl)) (by decide) (by decide)) q90a q90c (g := (mkF m 141 #[.val (.int p0), .val (.int p1), .val (.long q2), .second, .val (.int p3), .val (.int (p0 &&& (31 : Int32))), .val (.int v2), .val (.ref b3), .val (.ref b6_b2), .val (.int (Int32.ofNat ((p0 &&& (31 : Int32))).toNatClampNeg)), .val (.ref b3), .val (.ref b6_b2), .unset] [(.ref b3)])) rfl (by rw [hml]; rfl) (Steps.refl _) (argsL := []) (rest := []) (lenOf pd_2 rfl) rfl (by show 2 * 0 + _ ≤ _; exact Nat.le_of_eq rfl) (hb hby at_141) (fun _ _ => ⟨rfl, rfl, (by decide : 6 + 0 ≤ _), (by decide : 170 + 0 ≤ _)⟩)
      dsimp only [Pt.U, Pt.locs, Pt.cells, Pt.slots] at X90 l90 y90 z90 st90 hQ90
      subst l90 y90 z90
      obtain ⟨rfl, N90q, e90⟩ := hQ90
      have N90 := Fr.app N88 N90q
      obtain ⟨cq91, kq91, q91a, q91b, q91c⟩ := isOf hZ70 e90 G89
      obtain ⟨_, _, ⟨T91, L91, k91, n91⟩, -, X91, ⟨Lc91, hQ91, l91, y91, z91⟩, st91⟩ := X90.virtualBack hx (y := (⟨"com/example/commitlog/commitlog/codec/JsonWriter", "length", "()I"⟩ : MethodName)) (z := (⟨"com/example/commitlog/commitlog/codec/JsonWriter", "length", "()I"⟩ : MethodName)) hown70 (mvT hZ70 (hw _ (List.mem_of_getElem? (i := 27) rfl))) (mvT hZ70 (hw _ (List.mem_of_getElem? (i := 28) rfl))) (notFace_of_selects (args := #[]) (mvT hZ70 (hw _ (List.mem_of_getElem? (i := 30) rfl)))) (mvT hZ70 (hw _ (List.mem_of_getElem? (i := 30) rfl))) (mvT hZ70 (hw _ (List.mem_of_getElem? (i := 29) rfl))) (by decide) (backOf (W := 0) (rm5 l Z A0 hw [] b3 (.ref bx88) (4 : Int32) (0 : Int32) T88.heap n0 (Nat.le_trans Z0 K88.1) G89 Fb88 Fl88 Fa88) hZ70 (hw _ (List.mem_of_getElem? (i := 31) rfl)) (hw _ (List.mem_of_getElem? (i := 3) rfl)) (by decide) (by decide)) q91a q91c (g := (mkF m 148 #[.val (.int p0), .val (.int p1), .val (.long q2), .second, .val (.int p3), .val (.int (p0 &&& (31 : Int32))), .val (.int v2), .val (.ref b3), .val (.ref b6_b2), .val (.int (Int32.ofNat ((p0 &&& (31 : Int32))).toNatClampNeg)), .val (.ref b3), .val (.ref b6_b2), .val (.ref bx88)] [(.ref b3)])) rfl (by rw [hml]; rfl) (Steps.refl _) (argsL := []) (rest := []) (lenOf pd_4 rfl) rfl (by show 2 * 0 + _ ≤ _; exact Nat.le_of_eq rfl) (hb hby at_148) (fun _ _ => ⟨rfl, e90, (by decide : 6 + 0 ≤ _), (by decide : 170 + 0 ≤ _)⟩)
      dsimp only [Pt.U, Pt.locs, Pt.cells, Pt.slots] at X91 l91 y91 z91 st91 hQ91
      subst l91 y91 z91
      obtain ⟨rfl, N91q, e91⟩ := hQ91
      have N91 := Fr.app N90 N91q
      have hi92 : own_in (0 : Int32) zx88 := ⟨by decide, by have z := x88_0; have k : (0 : Int32).toInt = 0 := (by decide); omega⟩
      have hk93 : (fx88 0) = (34 : Int32) := x88_1
      have hi94 : own_in (1 : Int32) zx88 := ⟨by decide, by have z := x88_0; have k : (1 : Int32).toInt = 1 := (by decide); omega⟩
      have hk95 : (fx88 1) = (97 : Int32) := x88_2
      have hi96 : own_in (2 : Int32) zx88 := ⟨by decide, by have z := x88_0; have k : (2 : Int32).toInt = 2 := (by decide); omega⟩
      have hk97 : (fx88 2) = (34 : Int32) := x88_3
      have hi98 : own_in (3 : Int32) zx88 := ⟨by decide, by have z := x88_0; have k : (3 : Int32).toInt = 3 := (by decide); omega⟩
      have hk99 : (fx88 3) = (58 : Int32) := x88_4
      have G100 : k70 ≤ T88.heap.size := (Nat.le_trans LE70 Kc88.1)
      obtain ⟨fs, hr, hrun, hended, hRW⟩ := X91.leaveW SI70 (by rw [e91]; exact G100) (v := some (.int (1 : Int32))) (fun h => by rw [Bd.returns] at h; cases h)
      refine ⟨_, _, pre0 _ (ck12 _ (ck14 _ ?_)), hrun, hended, _, _, rfl, ?_, hRW.1, hRW.2.1, hRW.2.2.1, hRW.2.2.2.mono (by decide) (by decide)⟩
      · show Steps p.tables e below (T13.setTop (mkF m 67 #[.val (.int p0), .val (.int p1), .val (.long q2), .second, .val (.int p3), .val (.int (p0 &&& (31 : Int32))), .val (.int v2), .val (.ref b3), .val (.ref b6_b2), .val (.int (Int32.ofNat ((p0 &&& (31 : Int32))).toNatClampNeg)), .unset, .unset, .unset] [(.int v2), (.ref b3)])) _
        refine st61.trans ?_
        show Steps p.tables e below (T61.setTop (mkF m 70 #[.val (.int p0), .val (.int p1), .val (.long q2), .second, .val (.int p3), .val (.int (p0 &&& (31 : Int32))), .val (.int v2), .val (.ref b3), .val (.ref b6_b2), .val (.int (Int32.ofNat ((p0 &&& (31 : Int32))).toNatClampNeg)), .unset, .unset, .unset] [(.ref b3)])) _
        refine XS.astore X61.here hx rfl (hb hby at_70) rfl rfl (l' := #[.val (.int p0), .val (.int p1), .val (.long q2), .second, .val (.int p3), .val (.int (p0 &&& (31 : Int32))), .val (.int v2), .val (.ref b3), .val (.ref b6_b2), .val (.int (Int32.ofNat ((p0 &&& (31 : Int32))).toNatClampNeg)), .val (.ref b3), .unset, .unset]) rfl ?_
        show Steps p.tables e below (T61.setTop (mkF m 72 #[.val (.int p0), .val (.int p1), .val (.long q2), .second, .val (.int p3), .val (.int (p0 &&& (31 : Int32))), .val (.int v2), .val (.ref b3), .val (.ref b6_b2), .val (.int (Int32.ofNat ((p0 &&& (31 : Int32))).toNatClampNeg)), .val (.ref b3), .unset, .unset] [])) _
        refine XS.aload X61.here hx rfl (hb hby at_72) rfl rfl ?_
        show Steps p.tables e below (T61.setTop (mkF m 74 #[.val (.int p0), .val (.int p1), .val (.long q2), .second, .val (.int p3), .val (.int (p0 &&& (31 : Int32))), .val (.int v2), .val (.ref b3), .val (.ref b6_b2), .val (.int (Int32.ofNat ((p0 &&& (31 : Int32))).toNatClampNeg)), .val (.ref b3), .unset, .unset] [(.ref b3)])) _
        refine XS.aload X61.here hx rfl (hb hby at_74) rfl rfl ?_
        show Steps p.tables e below (T61.setTop (mkF m 76 #[.val (.int p0), .val (.int p1), .val (.long q2), .second, .val (.int p3), .val (.int (p0 &&& (31 : Int32))), .val (.int v2), .val (.ref b3), .val (.ref b6_b2), .val (.int (Int32.ofNat ((p0 &&& (31 : Int32))).toNatClampNeg)), .val (.ref b3), .unset, .unset] [(.ref b3), (.ref b3)])) _
        refine XS.acmpYes X61.here hx rfl (pc0 := 76) (pc' := 81) rfl (hb hby at_76) rfl (own_aeqT rfl) (by decide) (by decide) ?_
        show Steps p.tables e below (T61.setTop (mkF m 81 #[.val (.int p0), .val (.int p1), .val (.long q2), .second, .val (.int p3), .val (.int (p0 &&& (31 : Int32))), .val (.int v2), .val (.ref b3), .val (.ref b6_b2), .val (.int (Int32.ofNat ((p0 &&& (31 : Int32))).toNatClampNeg)), .val (.ref b3), .unset, .unset] [])) _
        refine XS.aload X61.here hx rfl (hb hby at_81) rfl rfl ?_
        show Steps p.tables e below (T61.setTop (mkF m 83 #[.val (.int p0), .val (.int p1), .val (.long q2), .second, .val (.int p3), .val (.int (p0 &&& (31 : Int32))), .val (.int v2), .val (.ref b3), .val (.ref b6_b2), .val (.int (Int32.ofNat ((p0 &&& (31 : Int32))).toNatClampNeg)), .val (.ref b3), .unset, .unset] [(.ref b3)])) _
        refine st66.trans ?_
        show Steps p.tables e below (T66.setTop (mkF m 86 #[.val (.int p0), .val (.int p1), .val (.long q2), .second, .val (.int p3), .val (.int (p0 &&& (31 : Int32))), .val (.int v2), .val (.ref b3), .val (.ref b6_b2), .val (.int (Int32.ofNat ((p0 &&& (31 : Int32))).toNatClampNeg)), .val (.ref b3), .unset, .unset] [(.int (0 : Int32))])) _
        refine XS.ifYes X66.here hx rfl (pc0 := 86) (pc' := 91) rfl (hb hby at_86) rfl ((if0 _ _).trans (teq (by decide)).1) (by decide) (by decide) ?_
        show Steps p.tables e below (T66.setTop (mkF m 91 #[.val (.int p0), .val (.int p1), .val (.long q2), .second, .val (.int p3), .val (.int (p0 &&& (31 : Int32))), .val (.int v2), .val (.ref b3), .val (.ref b6_b2), .val (.int (Int32.ofNat ((p0 &&& (31 : Int32))).toNatClampNeg)), .val (.ref b3), .unset, .unset] [])) _
        refine XS.aload X66.here hx rfl (hb hby at_91) rfl rfl ?_
        show Steps p.tables e below (T66.setTop (mkF m 93 #[.val (.int p0), .val (.int p1), .val (.long q2), .second, .val (.int p3), .val (.int (p0 &&& (31 : Int32))), .val (.int v2), .val (.ref b3), .val (.ref b6_b2), .val (.int (Int32.ofNat ((p0 &&& (31 : Int32))).toNatClampNeg)), .val (.ref b3), .unset, .unset] [(.ref b3)])) _
        refine st67.trans ?_
        show Steps p.tables e below (T67.setTop (mkF m 96 #[.val (.int p0), .val (.int p1), .val (.long q2), .second, .val (.int p3), .val (.int (p0 &&& (31 : Int32))), .val (.int v2), .val (.ref b3), .val (.ref b6_b2), .val (.int (Int32.ofNat ((p0 &&& (31 : Int32))).toNatClampNeg)), .val (.ref b3), .unset, .unset] [(.ref b6_b2)])) _
        refine XS.astore X67.here hx rfl (hb hby at_96) rfl rfl (l' := #[.val (.int p0), .val (.int p1), .val (.long q2), .second, .val (.int p3), .val (.int (p0 &&& (31 : Int32))), .val (.int v2), .val (.ref b3), .val (.ref b6_b2), .val (.int (Int32.ofNat ((p0 &&& (31 : Int32))).toNatClampNeg)), .val (.ref b3), .val (.ref b6_b2), .unset]) rfl ?_
        show Steps p.tables e below (T67.setTop (mkF m 98 #[.val (.int p0), .val (.int p1), .val (.long q2), .second, .val (.int p3), .val (.int (p0 &&& (31 : Int32))), .val (.int v2), .val (.ref b3), .val (.ref b6_b2), .val (.int (Int32.ofNat ((p0 &&& (31 : Int32))).toNatClampNeg)), .val (.ref b3), .val (.ref b6_b2), .unset] [])) _
        refine XS.iload X67.here hx rfl (hb hby at_98) rfl ?_
        show Steps p.tables e below (T67.setTop (mkF m 100 #[.val (.int p0), .val (.int p1), .val (.long q2), .second, .val (.int p3), .val (.int (p0 &&& (31 : Int32))), .val (.int v2), .val (.ref b3), .val (.ref b6_b2), .val (.int (Int32.ofNat ((p0 &&& (31 : Int32))).toNatClampNeg)), .val (.ref b3), .val (.ref b6_b2), .unset] [(.int (Int32.ofNat ((p0 &&& (31 : Int32))).toNatClampNeg))])) _
        refine XS.iload X67.here hx rfl (hb hby at_100) rfl ?_
        show Steps p.tables e below (T67.setTop (mkF m 102 #[.val (.int p0), .val (.int p1), .val (.long q2), .second, .val (.int p3), .val (.int (p0 &&& (31 : Int32))), .val (.int v2), .val (.ref b3), .val (.ref b6_b2), .val (.int (Int32.ofNat ((p0 &&& (31 : Int32))).toNatClampNeg)), .val (.ref b3), .val (.ref b6_b2), .unset] [(.int v2), (.int (Int32.ofNat ((p0 &&& (31 : Int32))).toNatClampNeg))])) _
        refine XS.icmpYes X67.here hx rfl (pc0 := 102) (pc' := 122) rfl (hb hby at_102) rfl (flt hk68).2.2.2 (by decide) (by decide) ?_
        show Steps p.tables e below (T67.setTop (mkF m 122 #[.val (.int p0), .val (.int p1), .val (.long q2), .second, .val (.int p3), .val (.int (p0 &&& (31 : Int32))), .val (.int v2), .val (.ref b3), .val (.ref b6_b2), .val (.int (Int32.ofNat ((p0 &&& (31 : Int32))).toNatClampNeg)), .val (.ref b3), .val (.ref b6_b2), .unset] [])) _
        refine XS.aload X67.here hx rfl (hb hby at_122) rfl rfl ?_
        show Steps p.tables e below (T67.setTop (mkF m 124 #[.val (.int p0), .val (.int p1), .val (.long q2), .second, .val (.int p3), .val (.int (p0 &&& (31 : Int32))), .val (.int v2), .val (.ref b3), .val (.ref b6_b2), .val (.int (Int32.ofNat ((p0 &&& (31 : Int32))).toNatClampNeg)), .val (.ref b3), .val (.ref b6_b2), .unset] [(.ref b6_b2)])) _
        refine XS.aload X67.here hx rfl (hb hby at_124) rfl rfl ?_
        show Steps p.tables e below (T67.setTop (mkF m 126 #[.val (.int p0), .val (.int p1), .val (.long q2), .second, .val (.int p3), .val (.int (p0 &&& (31 : Int32))), .val (.int v2), .val (.ref b3), .val (.ref b6_b2), .val (.int (Int32.ofNat ((p0 &&& (31 : Int32))).toNatClampNeg)), .val (.ref b3), .val (.ref b6_b2), .unset] [(.ref b6_b2), (.ref b6_b2)])) _
        refine XS.acmpYes X67.here hx rfl (pc0 := 126) (pc' := 131) rfl (hb hby at_126) rfl (own_aeqT rfl) (by decide) (by decide) ?_
        show Steps p.tables e below (T67.setTop (mkF m 131 #[.val (.int p0), .val (.int p1), .val (.long q2), .second, .val (.int p3), .val (.int (p0 &&& (31 : Int32))), .val (.int v2), .val (.ref b3), .val (.ref b6_b2), .val (.int (Int32.ofNat ((p0 &&& (31 : Int32))).toNatClampNeg)), .val (.ref b3), .val (.ref b6_b2), .unset] [])) _
        refine XS.aload X67.here hx rfl (hb hby at_131) rfl rfl ?_
        show Steps p.tables e below (T67.setTop (mkF m 133 #[.val (.int p0), .val (.int p1), .val (.long q2), .second, .val (.int p3), .val (.int (p0 &&& (31 : Int32))), .val (.int v2), .val (.ref b3), .val (.ref b6_b2), .val (.int (Int32.ofNat ((p0 &&& (31 : Int32))).toNatClampNeg)), .val (.ref b3), .val (.ref b6_b2), .unset] [(.ref b3)])) _
        refine st70 _ ?_
        show Steps p.tables e below (T70.setTop (mkF m 135 #[.val (.int p0), .val (.int p1), .val (.long q2), .second, .val (.int p3), .val (.int (p0 &&& (31 : Int32))), .val (.int v2), .val (.ref b3), .val (.ref b6_b2), .val (.int (Int32.ofNat ((p0 &&& (31 : Int32))).toNatClampNeg)), .val (.ref b3), .val (.ref b6_b2), .unset] [(.ref as70), (.ref b3)])) _
        refine st88.trans ?_
        show Steps p.tables e below (T88.setTop (mkF m 138 #[.val (.int p0), .val (.int p1), .val (.long q2), .second, .val (.int p3), .val (.int (p0 &&& (31 : Int32))), .val (.int v2), .val (.ref b3), .val (.ref b6_b2), .val (.int (Int32.ofNat ((p0 &&& (31 : Int32))).toNatClampNeg)), .val (.ref b3), .val (.ref b6_b2), .unset] [(.ref b3)])) _
        refine XS.pop X88.here hx rfl (hb hby at_138) rfl rfl ?_
        show Steps p.tables e below (T88.setTop (mkF m 139 #[.val (.int p0), .val (.int p1), .val (.long q2), .second, .val (.int p3), .val (.int (p0 &&& (31 : Int32))), .val (.int v2), .val (.ref b3), .val (.ref b6_b2), .val (.int (Int32.ofNat ((p0 &&& (31 : Int32))).toNatClampNeg)), .val (.ref b3), .val (.ref b6_b2), .unset] [])) _
        refine XS.aload X88.here hx rfl (hb hby at_139) rfl rfl ?_
        show Steps p.tables e below (T88.setTop (mkF m 141 #[.val (.int p0), .val (.int p1), .val (.long q2), .second, .val (.int p3), .val (.int (p0 &&& (31 : Int32))), .val (.int v2), .val (.ref b3), .val (.ref b6_b2), .val (.int (Int32.ofNat ((p0 &&& (31 : Int32))).toNatClampNeg)), .val (.ref b3), .val (.ref b6_b2), .unset] [(.ref b3)])) _
        refine st90.trans ?_
        show Steps p.tables e below (T90.setTop (mkF m 144 #[.val (.int p0), .val (.int p1), .val (.long q2), .second, .val (.int p3), .val (.int (p0 &&& (31 : Int32))), .val (.int v2), .val (.ref b3), .val (.ref b6_b2), .val (.int (Int32.ofNat ((p0 &&& (31 : Int32))).toNatClampNeg)), .val (.ref b3), .val (.ref b6_b2), .unset] [(.ref bx88)])) _
        refine XS.astore X90.here hx rfl (hb hby at_144) rfl rfl (l' := #[.val (.int p0), .val (.int p1), .val (.long q2), .second, .val (.int p3), .val (.int (p0 &&& (31 : Int32))), .val (.int v2), .val (.ref b3), .val (.ref b6_b2), .val (.int (Int32.ofNat ((p0 &&& (31 : Int32))).toNatClampNeg)), .val (.ref b3), .val (.ref b6_b2), .val (.ref bx88)]) rfl ?_
        show Steps p.tables e below (T90.setTop (mkF m 146 #[.val (.int p0), .val (.int p1), .val (.long q2), .second, .val (.int p3), .val (.int (p0 &&& (31 : Int32))), .val (.int v2), .val (.ref b3), .val (.ref b6_b2), .val (.int (Int32.ofNat ((p0 &&& (31 : Int32))).toNatClampNeg)), .val (.ref b3), .val (.ref b6_b2), .val (.ref bx88)] [])) _
        refine XS.aload X90.here hx rfl (hb hby at_146) rfl rfl ?_
        show Steps p.tables e below (T90.setTop (mkF m 148 #[.val (.int p0), .val (.int p1), .val (.long q2), .second, .val (.int p3), .val (.int (p0 &&& (31 : Int32))), .val (.int v2), .val (.ref b3), .val (.ref b6_b2), .val (.int (Int32.ofNat ((p0 &&& (31 : Int32))).toNatClampNeg)), .val (.ref b3), .val (.ref b6_b2), .val (.ref bx88)] [(.ref b3)])) _
        refine st91.trans ?_
        show Steps p.tables e below (T91.setTop (mkF m 151 #[.val (.int p0), .val (.int p1), .val (.long q2), .second, .val (.int p3), .val (.int (p0 &&& (31 : Int32))), .val (.int v2), .val (.ref b3), .val (.ref b6_b2), .val (.int (Int32.ofNat ((p0 &&& (31 : Int32))).toNatClampNeg)), .val (.ref b3), .val (.ref b6_b2), .val (.ref bx88)] [(.int (4 : Int32))])) _
        refine XS.iconst X91.here hx rfl (hb hby at_151) ?_
        show Steps p.tables e below (T91.setTop (mkF m 152 #[.val (.int p0), .val (.int p1), .val (.long q2), .second, .val (.int p3), .val (.int (p0 &&& (31 : Int32))), .val (.int v2), .val (.ref b3), .val (.ref b6_b2), .val (.int (Int32.ofNat ((p0 &&& (31 : Int32))).toNatClampNeg)), .val (.ref b3), .val (.ref b6_b2), .val (.ref bx88)] [(.int (4 : Int32)), (.int (4 : Int32))])) _
        refine XS.icmpNo X91.here hx rfl (hb hby at_152) rfl (teq (by decide)).2 ?_
        show Steps p.tables e below (T91.setTop (mkF m 155 #[.val (.int p0), .val (.int p1), .val (.long q2), .second, .val (.int p3), .val (.int (p0 &&& (31 : Int32))), .val (.int v2), .val (.ref b3), .val (.ref b6_b2), .val (.int (Int32.ofNat ((p0 &&& (31 : Int32))).toNatClampNeg)), .val (.ref b3), .val (.ref b6_b2), .val (.ref bx88)] [])) _
        refine XS.aload X91.here hx rfl (hb hby at_155) rfl rfl ?_
        show Steps p.tables e below (T91.setTop (mkF m 157 #[.val (.int p0), .val (.int p1), .val (.long q2), .second, .val (.int p3), .val (.int (p0 &&& (31 : Int32))), .val (.int v2), .val (.ref b3), .val (.ref b6_b2), .val (.int (Int32.ofNat ((p0 &&& (31 : Int32))).toNatClampNeg)), .val (.ref b3), .val (.ref b6_b2), .val (.ref bx88)] [(.ref bx88)])) _
        refine XS.iconst X91.here hx rfl (hb hby at_157) ?_
        show Steps p.tables e below (T91.setTop (mkF m 158 #[.val (.int p0), .val (.int p1), .val (.long q2), .second, .val (.int p3), .val (.int (p0 &&& (31 : Int32))), .val (.int v2), .val (.ref b3), .val (.ref b6_b2), .val (.int (Int32.ofNat ((p0 &&& (31 : Int32))).toNatClampNeg)), .val (.ref b3), .val (.ref b6_b2), .val (.ref bx88)] [(.int (0 : Int32)), (.ref bx88)])) _
        refine AF.ldB X91 hx hZ70 e91 A88 hi92 (g := (mkF m 158 #[.val (.int p0), .val (.int p1), .val (.long q2), .second, .val (.int p3), .val (.int (p0 &&& (31 : Int32))), .val (.int v2), .val (.ref b3), .val (.ref b6_b2), .val (.int (Int32.ofNat ((p0 &&& (31 : Int32))).toNatClampNeg)), .val (.ref b3), .val (.ref b6_b2), .val (.ref bx88)] [(.int (0 : Int32)), (.ref bx88)])) rfl rfl (hb hby at_158) _ ?_
        show Steps p.tables e below (T91.setTop (mkF m 159 #[.val (.int p0), .val (.int p1), .val (.long q2), .second, .val (.int p3), .val (.int (p0 &&& (31 : Int32))), .val (.int v2), .val (.ref b3), .val (.ref b6_b2), .val (.int (Int32.ofNat ((p0 &&& (31 : Int32))).toNatClampNeg)), .val (.ref b3), .val (.ref b6_b2), .val (.ref bx88)] [(.int (fx88 0))])) _
        refine XS.bipush X91.here hx rfl (hb hby at_159) ?_
        show Steps p.tables e below (T91.setTop (mkF m 161 #[.val (.int p0), .val (.int p1), .val (.long q2), .second, .val (.int p3), .val (.int (p0 &&& (31 : Int32))), .val (.int v2), .val (.ref b3), .val (.ref b6_b2), .val (.int (Int32.ofNat ((p0 &&& (31 : Int32))).toNatClampNeg)), .val (.ref b3), .val (.ref b6_b2), .val (.ref bx88)] [(.int (34 : Int32)), (.int (fx88 0))])) _
        refine XS.icmpNo X91.here hx rfl (hb hby at_161) rfl (teq hk93).2 ?_
        show Steps p.tables e below (T91.setTop (mkF m 164 #[.val (.int p0), .val (.int p1), .val (.long q2), .second, .val (.int p3), .val (.int (p0 &&& (31 : Int32))), .val (.int v2), .val (.ref b3), .val (.ref b6_b2), .val (.int (Int32.ofNat ((p0 &&& (31 : Int32))).toNatClampNeg)), .val (.ref b3), .val (.ref b6_b2), .val (.ref bx88)] [])) _
        refine XS.aload X91.here hx rfl (hb hby at_164) rfl rfl ?_
        show Steps p.tables e below (T91.setTop (mkF m 166 #[.val (.int p0), .val (.int p1), .val (.long q2), .second, .val (.int p3), .val (.int (p0 &&& (31 : Int32))), .val (.int v2), .val (.ref b3), .val (.ref b6_b2), .val (.int (Int32.ofNat ((p0 &&& (31 : Int32))).toNatClampNeg)), .val (.ref b3), .val (.ref b6_b2), .val (.ref bx88)] [(.ref bx88)])) _
        refine XS.iconst X91.here hx rfl (hb hby at_166) ?_
        show Steps p.tables e below (T91.setTop (mkF m 167 #[.val (.int p0), .val (.int p1), .val (.long q2), .second, .val (.int p3), .val (.int (p0 &&& (31 : Int32))), .val (.int v2), .val (.ref b3), .val (.ref b6_b2), .val (.int (Int32.ofNat ((p0 &&& (31 : Int32))).toNatClampNeg)), .val (.ref b3), .val (.ref b6_b2), .val (.ref bx88)] [(.int (1 : Int32)), (.ref bx88)])) _
        refine AF.ldB X91 hx hZ70 e91 A88 hi94 (g := (mkF m 167 #[.val (.int p0), .val (.int p1), .val (.long q2), .second, .val (.int p3), .val (.int (p0 &&& (31 : Int32))), .val (.int v2), .val (.ref b3), .val (.ref b6_b2), .val (.int (Int32.ofNat ((p0 &&& (31 : Int32))).toNatClampNeg)), .val (.ref b3), .val (.ref b6_b2), .val (.ref bx88)] [(.int (1 : Int32)), (.ref bx88)])) rfl rfl (hb hby at_167) _ ?_
        show Steps p.tables e below (T91.setTop (mkF m 168 #[.val (.int p0), .val (.int p1), .val (.long q2), .second, .val (.int p3), .val (.int (p0 &&& (31 : Int32))), .val (.int v2), .val (.ref b3), .val (.ref b6_b2), .val (.int (Int32.ofNat ((p0 &&& (31 : Int32))).toNatClampNeg)), .val (.ref b3), .val (.ref b6_b2), .val (.ref bx88)] [(.int (fx88 1))])) _
        refine XS.bipush X91.here hx rfl (hb hby at_168) ?_
        show Steps p.tables e below (T91.setTop (mkF m 170 #[.val (.int p0), .val (.int p1), .val (.long q2), .second, .val (.int p3), .val (.int (p0 &&& (31 : Int32))), .val (.int v2), .val (.ref b3), .val (.ref b6_b2), .val (.int (Int32.ofNat ((p0 &&& (31 : Int32))).toNatClampNeg)), .val (.ref b3), .val (.ref b6_b2), .val (.ref bx88)] [(.int (97 : Int32)), (.int (fx88 1))])) _
        refine XS.icmpNo X91.here hx rfl (hb hby at_170) rfl (teq hk95).2 ?_
        show Steps p.tables e below (T91.setTop (mkF m 173 #[.val (.int p0), .val (.int p1), .val (.long q2), .second, .val (.int p3), .val (.int (p0 &&& (31 : Int32))), .val (.int v2), .val (.ref b3), .val (.ref b6_b2), .val (.int (Int32.ofNat ((p0 &&& (31 : Int32))).toNatClampNeg)), .val (.ref b3), .val (.ref b6_b2), .val (.ref bx88)] [])) _
        refine XS.aload X91.here hx rfl (hb hby at_173) rfl rfl ?_
        show Steps p.tables e below (T91.setTop (mkF m 175 #[.val (.int p0), .val (.int p1), .val (.long q2), .second, .val (.int p3), .val (.int (p0 &&& (31 : Int32))), .val (.int v2), .val (.ref b3), .val (.ref b6_b2), .val (.int (Int32.ofNat ((p0 &&& (31 : Int32))).toNatClampNeg)), .val (.ref b3), .val (.ref b6_b2), .val (.ref bx88)] [(.ref bx88)])) _
        refine XS.iconst X91.here hx rfl (hb hby at_175) ?_
        show Steps p.tables e below (T91.setTop (mkF m 176 #[.val (.int p0), .val (.int p1), .val (.long q2), .second, .val (.int p3), .val (.int (p0 &&& (31 : Int32))), .val (.int v2), .val (.ref b3), .val (.ref b6_b2), .val (.int (Int32.ofNat ((p0 &&& (31 : Int32))).toNatClampNeg)), .val (.ref b3), .val (.ref b6_b2), .val (.ref bx88)] [(.int (2 : Int32)), (.ref bx88)])) _
        refine AF.ldB X91 hx hZ70 e91 A88 hi96 (g := (mkF m 176 #[.val (.int p0), .val (.int p1), .val (.long q2), .second, .val (.int p3), .val (.int (p0 &&& (31 : Int32))), .val (.int v2), .val (.ref b3), .val (.ref b6_b2), .val (.int (Int32.ofNat ((p0 &&& (31 : Int32))).toNatClampNeg)), .val (.ref b3), .val (.ref b6_b2), .val (.ref bx88)] [(.int (2 : Int32)), (.ref bx88)])) rfl rfl (hb hby at_176) _ ?_
        show Steps p.tables e below (T91.setTop (mkF m 177 #[.val (.int p0), .val (.int p1), .val (.long q2), .second, .val (.int p3), .val (.int (p0 &&& (31 : Int32))), .val (.int v2), .val (.ref b3), .val (.ref b6_b2), .val (.int (Int32.ofNat ((p0 &&& (31 : Int32))).toNatClampNeg)), .val (.ref b3), .val (.ref b6_b2), .val (.ref bx88)] [(.int (fx88 2))])) _
        refine XS.bipush X91.here hx rfl (hb hby at_177) ?_
        show Steps p.tables e below (T91.setTop (mkF m 179 #[.val (.int p0), .val (.int p1), .val (.long q2), .second, .val (.int p3), .val (.int (p0 &&& (31 : Int32))), .val (.int v2), .val (.ref b3), .val (.ref b6_b2), .val (.int (Int32.ofNat ((p0 &&& (31 : Int32))).toNatClampNeg)), .val (.ref b3), .val (.ref b6_b2), .val (.ref bx88)] [(.int (34 : Int32)), (.int (fx88 2))])) _
        refine XS.icmpNo X91.here hx rfl (hb hby at_179) rfl (teq hk97).2 ?_
        show Steps p.tables e below (T91.setTop (mkF m 182 #[.val (.int p0), .val (.int p1), .val (.long q2), .second, .val (.int p3), .val (.int (p0 &&& (31 : Int32))), .val (.int v2), .val (.ref b3), .val (.ref b6_b2), .val (.int (Int32.ofNat ((p0 &&& (31 : Int32))).toNatClampNeg)), .val (.ref b3), .val (.ref b6_b2), .val (.ref bx88)] [])) _
        refine XS.aload X91.here hx rfl (hb hby at_182) rfl rfl ?_
        show Steps p.tables e below (T91.setTop (mkF m 184 #[.val (.int p0), .val (.int p1), .val (.long q2), .second, .val (.int p3), .val (.int (p0 &&& (31 : Int32))), .val (.int v2), .val (.ref b3), .val (.ref b6_b2), .val (.int (Int32.ofNat ((p0 &&& (31 : Int32))).toNatClampNeg)), .val (.ref b3), .val (.ref b6_b2), .val (.ref bx88)] [(.ref bx88)])) _
        refine XS.iconst X91.here hx rfl (hb hby at_184) ?_
        show Steps p.tables e below (T91.setTop (mkF m 185 #[.val (.int p0), .val (.int p1), .val (.long q2), .second, .val (.int p3), .val (.int (p0 &&& (31 : Int32))), .val (.int v2), .val (.ref b3), .val (.ref b6_b2), .val (.int (Int32.ofNat ((p0 &&& (31 : Int32))).toNatClampNeg)), .val (.ref b3), .val (.ref b6_b2), .val (.ref bx88)] [(.int (3 : Int32)), (.ref bx88)])) _
        refine AF.ldB X91 hx hZ70 e91 A88 hi98 (g := (mkF m 185 #[.val (.int p0), .val (.int p1), .val (.long q2), .second, .val (.int p3), .val (.int (p0 &&& (31 : Int32))), .val (.int v2), .val (.ref b3), .val (.ref b6_b2), .val (.int (Int32.ofNat ((p0 &&& (31 : Int32))).toNatClampNeg)), .val (.ref b3), .val (.ref b6_b2), .val (.ref bx88)] [(.int (3 : Int32)), (.ref bx88)])) rfl rfl (hb hby at_185) _ ?_
        show Steps p.tables e below (T91.setTop (mkF m 186 #[.val (.int p0), .val (.int p1), .val (.long q2), .second, .val (.int p3), .val (.int (p0 &&& (31 : Int32))), .val (.int v2), .val (.ref b3), .val (.ref b6_b2), .val (.int (Int32.ofNat ((p0 &&& (31 : Int32))).toNatClampNeg)), .val (.ref b3), .val (.ref b6_b2), .val (.ref bx88)] [(.int (fx88 3))])) _
        refine XS.bipush X91.here hx rfl (hb hby at_186) ?_
        show Steps p.tables e below (T91.setTop (mkF m 188 #[.val (.int p0), .val (.int p1), .val (.long q2), .second, .val (.int p3), .val (.int (p0 &&& (31 : Int32))), .val (.int v2), .val (.ref b3), .val (.ref b6_b2), .val (.int (Int32.ofNat ((p0 &&& (31 : Int32))).toNatClampNeg)), .val (.ref b3), .val (.ref b6_b2), .val (.ref bx88)] [(.int (58 : Int32)), (.int (fx88 3))])) _
        refine XS.icmpNo X91.here hx rfl (hb hby at_188) rfl (teq hk99).2 ?_
        show Steps p.tables e below (T91.setTop (mkF m 191 #[.val (.int p0), .val (.int p1), .val (.long q2), .second, .val (.int p3), .val (.int (p0 &&& (31 : Int32))), .val (.int v2), .val (.ref b3), .val (.ref b6_b2), .val (.int (Int32.ofNat ((p0 &&& (31 : Int32))).toNatClampNeg)), .val (.ref b3), .val (.ref b6_b2), .val (.ref bx88)] [])) _
        refine XS.iconst X91.here hx rfl (hb hby at_191) ?_
        show Steps p.tables e below (T91.setTop (mkF m 192 #[.val (.int p0), .val (.int p1), .val (.long q2), .second, .val (.int p3), .val (.int (p0 &&& (31 : Int32))), .val (.int v2), .val (.ref b3), .val (.ref b6_b2), .val (.int (Int32.ofNat ((p0 &&& (31 : Int32))).toNatClampNeg)), .val (.ref b3), .val (.ref b6_b2), .val (.ref bx88)] [(.int (1 : Int32))])) _
        refine XS.goto X91.here hx rfl (pc0 := 192) (pc' := 196) rfl (hb hby at_192) (by decide) (by decide) ?_
        show Steps p.tables e below (T91.setTop (mkF m 196 #[.val (.int p0), .val (.int p1), .val (.long q2), .second, .val (.int p3), .val (.int (p0 &&& (31 : Int32))), .val (.int v2), .val (.ref b3), .val (.ref b6_b2), .val (.int (Int32.ofNat ((p0 &&& (31 : Int32))).toNatClampNeg)), .val (.ref b3), .val (.ref b6_b2), .val (.ref bx88)] [(.int (1 : Int32))])) _
        exact retN X91 hx (t := .boolean) Bd.returns (by simp) (hb hby at_196) hr
      · show Q0 h0 n0 _ T91.heap _
        exact ⟨rfl, N91⟩
  · have hp101 : ((p0 &&& (31 : Int32))).toNatClampNeg ≤ 40 := (Nat.le_trans hcap0.2 (by decide))
    have hp102 : own_B (fun _ => (0 : Int32)) := own_B0
    obtain ⟨cq103, kq103, q103a, q103b, q103c⟩ := isOf hZ rfl P7
    obtain ⟨_, _, ⟨T103, L103, k103, n103⟩, -, X103, ⟨Lc103, hQ103, l103, y103, z103⟩, st103⟩ := X6.virtualBack hx (y := (⟨"com/example/commitlog/commitlog/codec/JsonWriter", "value", "(J)Lcom/example/commitlog/commitlog/codec/JsonWriter;"⟩ : MethodName)) (z := (⟨"com/example/commitlog/commitlog/codec/JsonWriter", "value", "(J)Lcom/example/commitlog/commitlog/codec/JsonWriter;"⟩ : MethodName)) hown (mvT hZ (hw _ (List.mem_of_getElem? (i := 111) rfl))) (mvT hZ (hw _ (List.mem_of_getElem? (i := 112) rfl))) (notFace_of_selects (args := #[]) (mvT hZ (hw _ (List.mem_of_getElem? (i := 114) rfl)))) (mvT hZ (hw _ (List.mem_of_getElem? (i := 114) rfl))) (mvT hZ (hw _ (List.mem_of_getElem? (i := 113) rfl))) (by decide) (backOf (W := 0) (rm21 l Z A0 hw [] b3 q2 b6_b2 (0 : Int32) (((p0 &&& (31 : Int32))).toNatClampNeg) (fun _ => (0 : Int32)) T6.heap n0 (Nat.le_trans Z0 K6.1) P7 P8 P9 P10 P11 nw_b3 ne_b3_b6_b2 nw_b6_b2 hp101 hp102) hZ (hw _ (List.mem_of_getElem? (i := 115) rfl)) (hw _ (List.mem_of_getElem? (i := 3) rfl)) (by decide) (by decide)) q103a q103c (g := (mkF m 47 #[.val (.int p0), .val (.int p1), .val (.long q2), .second, .val (.int p3), .val (.int (p0 &&& (31 : Int32))), .val (.int v2), .val (.ref b3), .unset, .unset, .unset, .unset, .unset] [(.long q2), (.ref b3)])) rfl (by rw [hml]; rfl) (Steps.refl _) (argsL := [(.long q2)]) (rest := []) (lenOf pd_17 rfl) rfl (by show 2 * 0 + _ ≤ _; exact Nat.le_of_eq rfl) (hb hby at_47) (fun _ _ => ⟨rfl, rfl, (by decide : 2 + 1 ≤ _), (by decide : 34 + 64 ≤ _)⟩)
    dsimp only [Pt.U, Pt.locs, Pt.cells, Pt.slots] at X103 l103 y103 z103 st103 hQ103
    subst l103 y103 z103
    obtain ⟨bx103, zx103, fx103, lx103, rfl, N103q, Kc103, or103, nw_bx103, ne_b3_bx103, Fb103, Fl103, Fa103, A103, B103, x103_0, x103_1⟩ := hQ103
    have sq_bx103 : h0.size ≤ bx103 := by
      rcases or103 with q | q
      · rw [q]; exact sq_b6_b2
      · exact Nat.le_trans K6.1 q
    have K103 : Keep h0 T103.heap [] := K6.trans Kc103 (allS (Or.inr sz_b3) (allS (Or.inr sq_b6_b2) all0))
    have N103 := Fr.app N6 N103q
    have G104 : Exa Z T103.heap b3 "com/example/commitlog/commitlog/codec/JsonWriter" := (P7.keep Kc103)
    obtain ⟨cq105, kq105, q105a, q105b, q105c⟩ := isOf hZ rfl G104
    obtain ⟨_, _, ⟨T105, L105, k105, n105⟩, -, X105, ⟨Lc105, hQ105, l105, y105, z105⟩, st105⟩ := X103.virtualBack hx (y := (⟨"com/example/commitlog/commitlog/codec/JsonWriter", "bytes", "()[B"⟩ : MethodName)) (z := (⟨"com/example/commitlog/commitlog/codec/JsonWriter", "bytes", "()[B"⟩ : MethodName)) hown (mvT hZ (hw _ (List.mem_of_getElem? (i := 13) rfl))) (mvT hZ (hw _ (List.mem_of_getElem? (i := 14) rfl))) (notFace_of_selects (args := #[]) (mvT hZ (hw _ (List.mem_of_getElem? (i := 16) rfl)))) (mvT hZ (hw _ (List.mem_of_getElem? (i := 16) rfl))) (mvT hZ (hw _ (List.mem_of_getElem? (i := 15) rfl))) (by decide) (backOf (W := 0) (rm3 l Z A0 hw [] b3 bx103 lx103 (1 : Int32) T103.heap n0 (Nat.le_trans Z0 K103.1) G104 Fb103 Fl103 Fa103) hZ (hw _ (List.mem_of_getElem? (i := 17) rfl)) (hw _ (List.mem_of_getElem? (i := 3) rfl)) (by decide) (by decide)) q105a q105c (g := (mkF m 53 #[.val (.int p0), .val (.int p1), .val (.long q2), .second, .val (.int p3), .val (.int (p0 &&& (31 : Int32))), .val (.int v2), .val (.ref b3), .unset, .unset, .unset, .unset, .unset] [(.ref b3)])) rfl (by rw [hml]; rfl) (Steps.refl _) (argsL := []) (rest := []) (lenOf pd_2 rfl) rfl (by show 2 * 0 + _ ≤ _; exact Nat.le_of_eq rfl) (hb hby at_53) (fun _ _ => ⟨rfl, rfl, (by decide : 3 + 0 ≤ _), (by decide : 98 + 0 ≤ _)⟩)
    dsimp only [Pt.U, Pt.locs, Pt.cells, Pt.slots] at X105 l105 y105 z105 st105 hQ105
    subst l105 y105 z105
    obtain ⟨rfl, N105q, e105⟩ := hQ105
    have N105 := Fr.app N103 N105q
    have hNN : zx103 ≤ 40 := x103_1
    have hkeep := own_keep _ _ v2 hv2
    have ck106 : ∀ t, Steps p.tables e below (T105.setTop (mkF m 67 #[.val (.int p0), .val (.int p1), .val (.long q2), .second, .val (.int p3), .val (.int (p0 &&& (31 : Int32))), .val (.int v2), .val (.ref b3), .val (.ref bx103), .val (.int (Int32.ofNat zx103)), .unset, .unset, .unset] [(.int v2), (.ref b3)])) t → Steps p.tables e below (T6.setTop (mkF m 41 #[.val (.int p0), .val (.int p1), .val (.long q2), .second, .val (.int p3), .val (.int (p0 &&& (31 : Int32))), .val (.int v2), .val (.ref b3), .unset, .unset, .unset, .unset, .unset] [(.int (p3 &&& (1 : Int32)))])) t := by
      intro t kt
      show Steps p.tables e below (T6.setTop (mkF m 41 #[.val (.int p0), .val (.int p1), .val (.long q2), .second, .val (.int p3), .val (.int (p0 &&& (31 : Int32))), .val (.int v2), .val (.ref b3), .unset, .unset, .unset, .unset, .unset] [(.int (p3 &&& (1 : Int32)))])) _
      refine XS.ifNo X6.here hx rfl (hb hby at_41) rfl ((if0 _ _).trans (feq hfl).1) ?_
      show Steps p.tables e below (T6.setTop (mkF m 44 #[.val (.int p0), .val (.int p1), .val (.long q2), .second, .val (.int p3), .val (.int (p0 &&& (31 : Int32))), .val (.int v2), .val (.ref b3), .unset, .unset, .unset, .unset, .unset] [])) _
      refine XS.aload X6.here hx rfl (hb hby at_44) rfl rfl ?_
      show Steps p.tables e below (T6.setTop (mkF m 46 #[.val (.int p0), .val (.int p1), .val (.long q2), .second, .val (.int p3), .val (.int (p0 &&& (31 : Int32))), .val (.int v2), .val (.ref b3), .unset, .unset, .unset, .unset, .unset] [(.ref b3)])) _
      refine XS.lloadN X6.here hx rfl (hb hby at_46) rfl ?_
      show Steps p.tables e below (T6.setTop (mkF m 47 #[.val (.int p0), .val (.int p1), .val (.long q2), .second, .val (.int p3), .val (.int (p0 &&& (31 : Int32))), .val (.int v2), .val (.ref b3), .unset, .unset, .unset, .unset, .unset] [(.long q2), (.ref b3)])) _
      refine st103.trans ?_
      show Steps p.tables e below (T103.setTop (mkF m 50 #[.val (.int p0), .val (.int p1), .val (.long q2), .second, .val (.int p3), .val (.int (p0 &&& (31 : Int32))), .val (.int v2), .val (.ref b3), .unset, .unset, .unset, .unset, .unset] [(.ref b3)])) _
      refine XS.pop X103.here hx rfl (hb hby at_50) rfl rfl ?_
      show Steps p.tables e below (T103.setTop (mkF m 51 #[.val (.int p0), .val (.int p1), .val (.long q2), .second, .val (.int p3), .val (.int (p0 &&& (31 : Int32))), .val (.int v2), .val (.ref b3), .unset, .unset, .unset, .unset, .unset] [])) _
      refine XS.aload X103.here hx rfl (hb hby at_51) rfl rfl ?_
      show Steps p.tables e below (T103.setTop (mkF m 53 #[.val (.int p0), .val (.int p1), .val (.long q2), .second, .val (.int p3), .val (.int (p0 &&& (31 : Int32))), .val (.int v2), .val (.ref b3), .unset, .unset, .unset, .unset, .unset] [(.ref b3)])) _
      refine st105.trans ?_
      show Steps p.tables e below (T105.setTop (mkF m 56 #[.val (.int p0), .val (.int p1), .val (.long q2), .second, .val (.int p3), .val (.int (p0 &&& (31 : Int32))), .val (.int v2), .val (.ref b3), .unset, .unset, .unset, .unset, .unset] [(.ref bx103)])) _
      refine XS.astore X105.here hx rfl (hb hby at_56) rfl rfl (l' := #[.val (.int p0), .val (.int p1), .val (.long q2), .second, .val (.int p3), .val (.int (p0 &&& (31 : Int32))), .val (.int v2), .val (.ref b3), .val (.ref bx103), .unset, .unset, .unset, .unset]) rfl ?_
      show Steps p.tables e below (T105.setTop (mkF m 58 #[.val (.int p0), .val (.int p1), .val (.long q2), .second, .val (.int p3), .val (.int (p0 &&& (31 : Int32))), .val (.int v2), .val (.ref b3), .val (.ref bx103), .unset, .unset, .unset, .unset] [])) _
      refine XS.aload X105.here hx rfl (hb hby at_58) rfl rfl ?_
      show Steps p.tables e below (T105.setTop (mkF m 60 #[.val (.int p0), .val (.int p1), .val (.long q2), .second, .val (.int p3), .val (.int (p0 &&& (31 : Int32))), .val (.int v2), .val (.ref b3), .val (.ref bx103), .unset, .unset, .unset, .unset] [(.ref bx103)])) _
      refine AF.len X105 hx hZ e105 A103 (g := (mkF m 60 #[.val (.int p0), .val (.int p1), .val (.long q2), .second, .val (.int p3), .val (.int (p0 &&& (31 : Int32))), .val (.int v2), .val (.ref b3), .val (.ref bx103), .unset, .unset, .unset, .unset] [(.ref bx103)])) rfl rfl (hb hby at_60) _ ?_
      show Steps p.tables e below (T105.setTop (mkF m 61 #[.val (.int p0), .val (.int p1), .val (.long q2), .second, .val (.int p3), .val (.int (p0 &&& (31 : Int32))), .val (.int v2), .val (.ref b3), .val (.ref bx103), .unset, .unset, .unset, .unset] [(.int (Int32.ofNat zx103))])) _
      refine XS.istore X105.here hx rfl (hb hby at_61) rfl (l' := #[.val (.int p0), .val (.int p1), .val (.long q2), .second, .val (.int p3), .val (.int (p0 &&& (31 : Int32))), .val (.int v2), .val (.ref b3), .val (.ref bx103), .val (.int (Int32.ofNat zx103)), .unset, .unset, .unset]) rfl ?_
      show Steps p.tables e below (T105.setTop (mkF m 63 #[.val (.int p0), .val (.int p1), .val (.long q2), .second, .val (.int p3), .val (.int (p0 &&& (31 : Int32))), .val (.int v2), .val (.ref b3), .val (.ref bx103), .val (.int (Int32.ofNat zx103)), .unset, .unset, .unset] [])) _
      refine XS.aload X105.here hx rfl (hb hby at_63) rfl rfl ?_
      show Steps p.tables e below (T105.setTop (mkF m 65 #[.val (.int p0), .val (.int p1), .val (.long q2), .second, .val (.int p3), .val (.int (p0 &&& (31 : Int32))), .val (.int v2), .val (.ref b3), .val (.ref bx103), .val (.int (Int32.ofNat zx103)), .unset, .unset, .unset] [(.ref b3)])) _
      refine XS.iload X105.here hx rfl (hb hby at_65) rfl ?_
      exact kt
    rcases Classical.em (v2 < (Int32.ofNat zx103)) with hk | hk
    · have hp107 : v2 < (Int32.ofNat zx103) := hk
      have hp108 : ¬ v2 < (0 : Int32) := (own_kneg _ hkeep)
      have hp109 : v2.toNatClampNeg ≤ 40 := (own_kcap _ _ hkeep hNN hk)
      obtain ⟨cq110, kq110, q110a, q110b, q110c⟩ := isOf hZ e105 G104
      obtain ⟨_, _, ⟨T110, L110, k110, n110⟩, -, X110, ⟨Lc110, hQ110, l110, y110, z110⟩, st110⟩ := X105.virtualBack hx (y := (⟨"com/example/commitlog/commitlog/codec/JsonWriter", "reset", "(I)Lcom/example/commitlog/commitlog/codec/JsonWriter;"⟩ : MethodName)) (z := (⟨"com/example/commitlog/commitlog/codec/JsonWriter", "reset", "(I)Lcom/example/commitlog/commitlog/codec/JsonWriter;"⟩ : MethodName)) hown (mvT hZ (hw _ (List.mem_of_getElem? (i := 18) rfl))) (mvT hZ (hw _ (List.mem_of_getElem? (i := 19) rfl))) (notFace_of_selects (args := #[]) (mvT hZ (hw _ (List.mem_of_getElem? (i := 21) rfl)))) (mvT hZ (hw _ (List.mem_of_getElem? (i := 21) rfl))) (mvT hZ (hw _ (List.mem_of_getElem? (i := 20) rfl))) (by decide) (backOf (W := 0) (rm4g l Z A0 hw [] b3 v2 bx103 lx103 (1 : Int32) zx103 fx103 T103.heap n0 (Nat.le_trans Z0 K103.1) G104 Fb103 Fl103 Fa103 A103 nw_b3 hp107 hp108 hp109) hZ (hw _ (List.mem_of_getElem? (i := 22) rfl)) (hw _ (List.mem_of_getElem? (i := 3) rfl)) (by decide) (by decide)) q110a q110c (g := (mkF m 67 #[.val (.int p0), .val (.int p1), .val (.long q2), .second, .val (.int p3), .val (.int (p0 &&& (31 : Int32))), .val (.int v2), .val (.ref b3), .val (.ref bx103), .val (.int (Int32.ofNat zx103)), .unset, .unset, .unset] [(.int v2), (.ref b3)])) rfl (by rw [hml]; rfl) (Steps.refl _) (argsL := [(.int v2)]) (rest := []) (lenOf pd_3 rfl) rfl (by show 2 * 0 + _ ≤ _; exact Nat.le_of_eq rfl) (hb hby at_67) (fun _ _ => ⟨rfl, e105, (by decide : 3 + 1 ≤ _), (by decide : 98 + 40 ≤ _)⟩)
      dsimp only [Pt.U, Pt.locs, Pt.cells, Pt.slots] at X110 l110 y110 z110 st110 hQ110
      subst l110 y110 z110
      obtain ⟨b110_b2, rfl, N110q, Kc110, szb110_b2, P111, P112, P113, P114, P115⟩ := hQ110
      have ne_b3_b110_b2 : b3 ≠ b110_b2 := Nat.ne_of_lt (Nat.lt_of_lt_of_le G104.lt szb110_b2)
      have ne_bx103_b110_b2 : bx103 ≠ b110_b2 := Nat.ne_of_lt (Nat.lt_of_lt_of_le A103.lt szb110_b2)
      have nw_b110_b2 : n0 ≤ b110_b2 := Nat.le_trans (Nat.le_trans Z0 K103.1) szb110_b2
      have sq_b110_b2 : h0.size ≤ b110_b2 := Nat.le_trans K103.1 szb110_b2
      have K110 : Keep h0 T110.heap [] := K103.trans Kc110 (allS (Or.inr sz_b3) all0)
      have N110 := Fr.app N105 N110q
      obtain ⟨cq116, kq116, q116a, q116b, q116c⟩ := isOf hZ rfl P111
      obtain ⟨_, _, ⟨T116, L116, k116, n116⟩, -, X116, ⟨Lc116, hQ116, l116, y116, z116⟩, st116⟩ := X110.virtualBack hx (y := (⟨"com/example/commitlog/commitlog/codec/JsonWriter", "length", "()I"⟩ : MethodName)) (z := (⟨"com/example/commitlog/commitlog/codec/JsonWriter", "length", "()I"⟩ : MethodName)) hown (mvT hZ (hw _ (List.mem_of_getElem? (i := 27) rfl))) (mvT hZ (hw _ (List.mem_of_getElem? (i := 28) rfl))) (notFace_of_selects (args := #[]) (mvT hZ (hw _ (List.mem_of_getElem? (i := 30) rfl)))) (mvT hZ (hw _ (List.mem_of_getElem? (i := 30) rfl))) (mvT hZ (hw _ (List.mem_of_getElem? (i := 29) rfl))) (by decide) (backOf (W := 0) (rm5 l Z A0 hw [] b3 (.ref b110_b2) (0 : Int32) (0 : Int32) T110.heap n0 (Nat.le_trans Z0 K110.1) P111 P112 P113 P114) hZ (hw _ (List.mem_of_getElem? (i := 31) rfl)) (hw _ (List.mem_of_getElem? (i := 3) rfl)) (by decide) (by decide)) q116a q116c (g := (mkF m 83 #[.val (.int p0), .val (.int p1), .val (.long q2), .second, .val (.int p3), .val (.int (p0 &&& (31 : Int32))), .val (.int v2), .val (.ref b3), .val (.ref bx103), .val (.int (Int32.ofNat zx103)), .val (.ref b3), .unset, .unset] [(.ref b3)])) rfl (by rw [hml]; rfl) (Steps.refl _) (argsL := []) (rest := []) (lenOf pd_4 rfl) rfl (by show 2 * 0 + _ ≤ _; exact Nat.le_of_eq rfl) (hb hby at_83) (fun _ _ => ⟨rfl, rfl, (by decide : 4 + 0 ≤ _), (by decide : 138 + 0 ≤ _)⟩)
      dsimp only [Pt.U, Pt.locs, Pt.cells, Pt.slots] at X116 l116 y116 z116 st116 hQ116
      subst l116 y116 z116
      obtain ⟨rfl, N116q, e116⟩ := hQ116
      have N116 := Fr.app N110 N116q
      obtain ⟨cq117, kq117, q117a, q117b, q117c⟩ := isOf hZ e116 P111
      obtain ⟨_, _, ⟨T117, L117, k117, n117⟩, -, X117, ⟨Lc117, hQ117, l117, y117, z117⟩, st117⟩ := X116.virtualBack hx (y := (⟨"com/example/commitlog/commitlog/codec/JsonWriter", "bytes", "()[B"⟩ : MethodName)) (z := (⟨"com/example/commitlog/commitlog/codec/JsonWriter", "bytes", "()[B"⟩ : MethodName)) hown (mvT hZ (hw _ (List.mem_of_getElem? (i := 13) rfl))) (mvT hZ (hw _ (List.mem_of_getElem? (i := 14) rfl))) (notFace_of_selects (args := #[]) (mvT hZ (hw _ (List.mem_of_getElem? (i := 16) rfl)))) (mvT hZ (hw _ (List.mem_of_getElem? (i := 16) rfl))) (mvT hZ (hw _ (List.mem_of_getElem? (i := 15) rfl))) (by decide) (backOf (W := 0) (rm3 l Z A0 hw [] b3 b110_b2 (0 : Int32) (0 : Int32) T110.heap n0 (Nat.le_trans Z0 K110.1) P111 P112 P113 P114) hZ (hw _ (List.mem_of_getElem? (i := 17) rfl)) (hw _ (List.mem_of_getElem? (i := 3) rfl)) (by decide) (by decide)) q117a q117c (g := (mkF m 93 #[.val (.int p0), .val (.int p1), .val (.long q2), .second, .val (.int p3), .val (.int (p0 &&& (31 : Int32))), .val (.int v2), .val (.ref b3), .val (.ref bx103), .val (.int (Int32.ofNat zx103)), .val (.ref b3), .unset, .unset] [(.ref b3)])) rfl (by rw [hml]; rfl) (Steps.refl _) (argsL := []) (rest := []) (lenOf pd_2 rfl) rfl (by show 2 * 0 + _ ≤ _; exact Nat.le_of_eq rfl) (hb hby at_93) (fun _ _ => ⟨rfl, e116, (by decide : 4 + 0 ≤ _), (by decide : 138 + 0 ≤ _)⟩)
      dsimp only [Pt.U, Pt.locs, Pt.cells, Pt.slots] at X117 l117 y117 z117 st117 hQ117
      subst l117 y117 z117
      obtain ⟨rfl, N117q, e117⟩ := hQ117
      have N117 := Fr.app N116 N117q
      have hk118 : v2 < (Int32.ofNat zx103) := hk
      have hk119 : (Int32.ofNat (v2).toNatClampNeg) = v2 := own_back v2 hkeep
      have wS : ∀ d ∈ Bundle.stringAtoms, d.before A0 Z = true := by
        intro d hd
        simp only [Bundle.stringAtoms, List.mem_cons, List.not_mem_nil, or_false] at hd
        rcases hd with rfl | rfl | rfl | rfl | rfl | rfl | rfl
        · exact (hw _ (List.mem_of_getElem? (i := 33) rfl))
        · exact (hw _ (List.mem_of_getElem? (i := 34) rfl))
        · exact (hw _ (List.mem_of_getElem? (i := 10) rfl))
        · exact (hw _ (List.mem_of_getElem? (i := 35) rfl))
        · exact (hw _ (List.mem_of_getElem? (i := 36) rfl))
        · exact (hw _ (List.mem_of_getElem? (i := 37) rfl))
        · exact (hw _ (List.mem_of_getElem? (i := 38) rfl))
      have SI0 : s.Since s.vm 0 := State.WarmedH.since (State.WarmedH.refl s) 0
      have X120 : Stand p l e room_1 (s.setVm s.vm) m #[(.int p0), (.int p1), (.long q2), (.int p3)] below meth c T117 _ 4 138 := X117
      have LE0 : 0 ≤ T110.heap.size := Nat.zero_le _
      obtain ⟨as121, T121, h121, k121, bs121, kk121, X121, e121, E121, SI121, LE121, hZ121, hown121, Es121, Fc121, Fv121, Av121, -, -, IB121, st121⟩ := ldcSV X120 hx hZ hown (hw _ (List.mem_of_getElem? (i := 32) rfl)) wS e117 SI0 LE0 (hfr N117) hkp (by rw [hUZ]; exact IB.start) (by simp) hcst29 hcw (vs := [.int 97]) (z := 1) ⟨by decide, rfl⟩ (by decide) rfl (g := (mkF m 133 #[.val (.int p0), .val (.int p1), .val (.long q2), .second, .val (.int p3), .val (.int (p0 &&& (31 : Int32))), .val (.int v2), .val (.ref b3), .val (.ref bx103), .val (.int (Int32.ofNat zx103)), .val (.ref b3), .val (.ref b110_b2), .unset] [(.ref b3)])) rfl (hb hby at_133) (n := 4) (by decide) (by decide) (by decide) (by decide)
      have K121 : Keep h0 h121 [] := K110.ext E121
      have V121 : AF Z h121 bs121 .byte 1 (fun j => .int ((fun _ => (97 : Int32)) j)) := own_arv1 Av121
      have G122 : Exa Z h121 b3 "com/example/commitlog/commitlog/codec/JsonWriter" := (P111.ext E121)
      have G123 : AF Z h121 b110_b2 .byte (v2).toNatClampNeg (fun j => .int ((fun _ => (0 : Int32)) j)) := (P115.ext E121)
      have ne_o_s : b3 ≠ as121 := ne_exa G122 Es121 (by decide)
      have ne_o_v : b3 ≠ bs121 := V121.arr G122 (hw _ (List.mem_of_getElem? (i := 2) rfl))
      have ne_s_b : as121 ≠ b110_b2 := G123.arr Es121 (hw _ (List.mem_of_getElem? (i := 34) rfl))
      have ne_b_v : b110_b2 ≠ bs121 := own_neA G123 V121 (Or.inr (by decide))
      have G124 : Fld Z h121 b3 "com/example/commitlog/commitlog/codec/JsonWriter" "bytes" "[B" (.ref b110_b2) := (P112.ext E121)
      have G125 : Fld Z h121 b3 "com/example/commitlog/commitlog/codec/JsonWriter" "length" "I" (.int (0 : Int32)) := (P113.ext E121)
      have G126 : Fld Z h121 b3 "com/example/commitlog/commitlog/codec/JsonWriter" "afterValue" "Z" (.int (0 : Int32)) := (P114.ext E121)
      have G127 : SO Z n0 h121 "java/lang/String" "COMPACT_STRINGS" "Z" (.int s_COMPACT_STRINGS) := (((((S_COMPACT_STRINGS.ext E3).keep Kc6 (allS nw_b3 all0)).keep Kc103 (allS nw_b3 (allS nw_b6_b2 all0))).keep Kc110 (allS nw_b3 all0)).ext E121)
      have G128 : SO Z n0 h121 "jdk/internal/util/Preconditions" "SIOOBE_FORMATTER" "Ljava/util/function/BiFunction;" s_SIOOBE_FORMATTER := (((((S_SIOOBE_FORMATTER.ext E3).keep Kc6 (allS nw_b3 all0)).keep Kc103 (allS nw_b3 (allS nw_b6_b2 all0))).keep Kc110 (allS nw_b3 all0)).ext E121)
      have hp129 : s_SIOOBE_FORMATTER.isRef = true := rf_s_SIOOBE_FORMATTER
      have hp130 : ¬ (s_COMPACT_STRINGS = (0 : Int32)) := hcom
      have hp131 : (v2).toNatClampNeg ≤ 40 := (own_kcap _ _ hkeep hNN hk)
      have hp132 : own_B (fun _ => (0 : Int32)) := own_B0
      have hp133 : s_SIOOBE_FORMATTER.isRef = true := rf_s_SIOOBE_FORMATTER
      have hp134 : ¬ (s_COMPACT_STRINGS = (0 : Int32)) := hcom
      have hp135 : s_SIOOBE_FORMATTER.isRef = true := rf_s_SIOOBE_FORMATTER
      have hp136 : s_SIOOBE_FORMATTER.isRef = true := rf_s_SIOOBE_FORMATTER
      have hp137 : s_SIOOBE_FORMATTER.isRef = true := rf_s_SIOOBE_FORMATTER
      have hp138 : (fun _ => (97 : Int32)) 0 = (97 : Int32) := rfl
      obtain ⟨cq139, kq139, q139a, q139b, q139c⟩ := isOf hZ121 e121 G122
      obtain ⟨_, _, ⟨T139, L139, k139, n139⟩, -, X139, ⟨Lc139, hQ139, l139, y139, z139⟩, st139⟩ := X121.virtualBack hx (y := (⟨"com/example/commitlog/commitlog/codec/JsonWriter", "name", "(Ljava/lang/String;)Lcom/example/commitlog/commitlog/codec/JsonWriter;"⟩ : MethodName)) (z := (⟨"com/example/commitlog/commitlog/codec/JsonWriter", "name", "(Ljava/lang/String;)Lcom/example/commitlog/commitlog/codec/JsonWriter;"⟩ : MethodName)) hown121 (mvT hZ121 (hw _ (List.mem_of_getElem? (i := 39) rfl))) (mvT hZ121 (hw _ (List.mem_of_getElem? (i := 40) rfl))) (notFace_of_selects (args := #[]) (mvT hZ121 (hw _ (List.mem_of_getElem? (i := 42) rfl)))) (mvT hZ121 (hw _ (List.mem_of_getElem? (i := 42) rfl))) (mvT hZ121 (hw _ (List.mem_of_getElem? (i := 41) rfl))) (by decide) (backOf (W := 0) (rm6 l Z A0 hw [] b3 as121 b110_b2 bs121 (fun _ => (97 : Int32)) s_COMPACT_STRINGS ((v2).toNatClampNeg) (fun _ => (0 : Int32)) s_SIOOBE_FORMATTER h121 n0 (Nat.le_trans Z0 K121.1) G122 G124 G125 G126 Es121 Fv121 Fc121 V121 G127 G123 nw_b3 ne_o_s ne_o_v G128 ne_b3_b110_b2 nw_b110_b2 ne_s_b ne_b_v hp129 hp130 hp131 hp132 hp133 hp134 hp135 hp136 hp137 hp138) hZ121 (hw _ (List.mem_of_getElem? (i := 43) rfl)) (hw _ (List.mem_of_getElem? (i := 3) rfl)) (by decide) (by decide)) q139a q139c (g := (mkF m 135 #[.val (.int p0), .val (.int p1), .val (.long q2), .second, .val (.int p3), .val (.int (p0 &&& (31 : Int32))), .val (.int v2), .val (.ref b3), .val (.ref bx103), .val (.int (Int32.ofNat zx103)), .val (.ref b3), .val (.ref b110_b2), .unset] [(.ref as121), (.ref b3)])) rfl (by rw [hml]; rfl) (Steps.refl _) (argsL := [(.ref as121)]) (rest := []) (lenOf pd_5 rfl) rfl (by show 2 * 0 + _ ≤ _; exact Nat.le_of_eq rfl) (hb hby at_135) (fun _ _ => ⟨rfl, e121, (by decide : 6 + 2 ≤ _), (by decide : 146 + 128 ≤ _)⟩)
      dsimp only [Pt.U, Pt.locs, Pt.cells, Pt.slots] at X139 l139 y139 z139 st139 hQ139
      subst l139 y139 z139
      obtain ⟨bx139, zx139, fx139, rfl, N139q, Kc139, or139, nw_bx139, ne_b3_bx139, Fb139, Fl139, Fa139, A139, B139, x139_0, x139_1, x139_2, x139_3, x139_4⟩ := hQ139
      have sq_bx139 : h0.size ≤ bx139 := by
        rcases or139 with q | q
        · rw [q]; exact sq_b110_b2
        · exact Nat.le_trans K121.1 q
      have K139 : Keep h0 T139.heap [] := K121.trans Kc139 (allS (Or.inr sz_b3) (allS (Or.inr sq_b110_b2) all0))
      have N139 := Fr.app N117 N139q
      have G140 : Exa Z T139.heap b3 "com/example/commitlog/commitlog/codec/JsonWriter" := (G122.keep Kc139)
      obtain ⟨cq141, kq141, q141a, q141b, q141c⟩ := isOf hZ121 rfl G140
      obtain ⟨_, _, ⟨T141, L141, k141, n141⟩, -, X141, ⟨Lc141, hQ141, l141, y141, z141⟩, st141⟩ := X139.virtualBack hx (y := (⟨"com/example/commitlog/commitlog/codec/JsonWriter", "bytes", "()[B"⟩ : MethodName)) (z := (⟨"com/example/commitlog/commitlog/codec/JsonWriter", "bytes", "()[B"⟩ : MethodName)) hown121 (mvT hZ121 (hw _ (List.mem_of_getElem? (i := 13) rfl))) (mvT hZ121 (hw _ (List.mem_of_getElem? (i := 14) rfl))) (notFace_of_selects (args := #[]) (mvT hZ121 (hw _ (List.mem_of_getElem? (i := 16) rfl)))) (mvT hZ121 (hw _ (List.mem_of_getElem? (i := 16) rfl))) (mvT hZ121 (hw _ (List.mem_of_getElem? (i := 15) rfl))) (by decide) (backOf (W := 0) (rm3 l Z A0 hw [] b3 bx139 (4 : Int32) (0 : Int32) T139.heap n0 (Nat.le_trans Z0 K139.1) G140 Fb139 Fl139 Fa139) hZ121 (hw _ (List.mem_of_getElem? (i := 17) rfl)) (hw _ (List.mem_of_getElem? (i := 3) rfl)) (by decide) (by decide)) q141a q141c (g := (mkF m 141 #[.val (.int p0), .val (.int p1), .val (.long q2), .second, .val (.int p3), .val (.int (p0 &&& (31 : Int32))), .val (.int v2), .val (.ref b3), .val (.ref bx103), .val (.int (Int32.ofNat zx103)), .val (.ref b3), .val (.ref b110_b2), .unset] [(.ref b3)])) rfl (by rw [hml]; rfl) (Steps.refl _) (argsL := []) (rest := []) (lenOf pd_2 rfl) rfl (by show 2 * 0 + _ ≤ _; exact Nat.le_of_eq rfl) (hb hby at_141) (fun _ _ => ⟨rfl, rfl, (by decide : 8 + 0 ≤ _), (by decide : 274 + 0 ≤ _)⟩)
      dsimp only [Pt.U, Pt.locs, Pt.cells, Pt.slots] at X141 l141 y141 z141 st141 hQ141
      subst l141 y141 z141
      obtain ⟨rfl, N141q, e141⟩ := hQ141
      have N141 := Fr.app N139 N141q
      obtain ⟨cq142, kq142, q142a, q142b, q142c⟩ := isOf hZ121 e141 G140
      obtain ⟨_, _, ⟨T142, L142, k142, n142⟩, -, X142, ⟨Lc142, hQ142, l142, y142, z142⟩, st142⟩ := X141.virtualBack hx (y := (⟨"com/example/commitlog/commitlog/codec/JsonWriter", "length", "()I"⟩ : MethodName)) (z := (⟨"com/example/commitlog/commitlog/codec/JsonWriter", "length", "()I"⟩ : MethodName)) hown121 (mvT hZ121 (hw _ (List.mem_of_getElem? (i := 27) rfl))) (mvT hZ121 (hw _ (List.mem_of_getElem? (i := 28) rfl))) (notFace_of_selects (args := #[]) (mvT hZ121 (hw _ (List.mem_of_getElem? (i := 30) rfl)))) (mvT hZ121 (hw _ (List.mem_of_getElem? (i := 30) rfl))) (mvT hZ121 (hw _ (List.mem_of_getElem? (i := 29) rfl))) (by decide) (backOf (W := 0) (rm5 l Z A0 hw [] b3 (.ref bx139) (4 : Int32) (0 : Int32) T139.heap n0 (Nat.le_trans Z0 K139.1) G140 Fb139 Fl139 Fa139) hZ121 (hw _ (List.mem_of_getElem? (i := 31) rfl)) (hw _ (List.mem_of_getElem? (i := 3) rfl)) (by decide) (by decide)) q142a q142c (g := (mkF m 148 #[.val (.int p0), .val (.int p1), .val (.long q2), .second, .val (.int p3), .val (.int (p0 &&& (31 : Int32))), .val (.int v2), .val (.ref b3), .val (.ref bx103), .val (.int (Int32.ofNat zx103)), .val (.ref b3), .val (.ref b110_b2), .val (.ref bx139)] [(.ref b3)])) rfl (by rw [hml]; rfl) (Steps.refl _) (argsL := []) (rest := []) (lenOf pd_4 rfl) rfl (by show 2 * 0 + _ ≤ _; exact Nat.le_of_eq rfl) (hb hby at_148) (fun _ _ => ⟨rfl, e141, (by decide : 8 + 0 ≤ _), (by decide : 274 + 0 ≤ _)⟩)
      dsimp only [Pt.U, Pt.locs, Pt.cells, Pt.slots] at X142 l142 y142 z142 st142 hQ142
      subst l142 y142 z142
      obtain ⟨rfl, N142q, e142⟩ := hQ142
      have N142 := Fr.app N141 N142q
      have hi143 : own_in (0 : Int32) zx139 := ⟨by decide, by have z := x139_0; have k : (0 : Int32).toInt = 0 := (by decide); omega⟩
      have hk144 : (fx139 0) = (34 : Int32) := x139_1
      have hi145 : own_in (1 : Int32) zx139 := ⟨by decide, by have z := x139_0; have k : (1 : Int32).toInt = 1 := (by decide); omega⟩
      have hk146 : (fx139 1) = (97 : Int32) := x139_2
      have hi147 : own_in (2 : Int32) zx139 := ⟨by decide, by have z := x139_0; have k : (2 : Int32).toInt = 2 := (by decide); omega⟩
      have hk148 : (fx139 2) = (34 : Int32) := x139_3
      have hi149 : own_in (3 : Int32) zx139 := ⟨by decide, by have z := x139_0; have k : (3 : Int32).toInt = 3 := (by decide); omega⟩
      have hk150 : (fx139 3) = (58 : Int32) := x139_4
      have G151 : k121 ≤ T139.heap.size := (Nat.le_trans LE121 Kc139.1)
      obtain ⟨fs, hr, hrun, hended, hRW⟩ := X142.leaveW SI121 (by rw [e142]; exact G151) (v := some (.int (1 : Int32))) (fun h => by rw [Bd.returns] at h; cases h)
      refine ⟨_, _, pre0 _ (ck12 _ (ck106 _ ?_)), hrun, hended, _, _, rfl, ?_, hRW.1, hRW.2.1, hRW.2.2.1, hRW.2.2.2.mono (by decide) (by decide)⟩
      · show Steps p.tables e below (T105.setTop (mkF m 67 #[.val (.int p0), .val (.int p1), .val (.long q2), .second, .val (.int p3), .val (.int (p0 &&& (31 : Int32))), .val (.int v2), .val (.ref b3), .val (.ref bx103), .val (.int (Int32.ofNat zx103)), .unset, .unset, .unset] [(.int v2), (.ref b3)])) _
        refine st110.trans ?_
        show Steps p.tables e below (T110.setTop (mkF m 70 #[.val (.int p0), .val (.int p1), .val (.long q2), .second, .val (.int p3), .val (.int (p0 &&& (31 : Int32))), .val (.int v2), .val (.ref b3), .val (.ref bx103), .val (.int (Int32.ofNat zx103)), .unset, .unset, .unset] [(.ref b3)])) _
        refine XS.astore X110.here hx rfl (hb hby at_70) rfl rfl (l' := #[.val (.int p0), .val (.int p1), .val (.long q2), .second, .val (.int p3), .val (.int (p0 &&& (31 : Int32))), .val (.int v2), .val (.ref b3), .val (.ref bx103), .val (.int (Int32.ofNat zx103)), .val (.ref b3), .unset, .unset]) rfl ?_
        show Steps p.tables e below (T110.setTop (mkF m 72 #[.val (.int p0), .val (.int p1), .val (.long q2), .second, .val (.int p3), .val (.int (p0 &&& (31 : Int32))), .val (.int v2), .val (.ref b3), .val (.ref bx103), .val (.int (Int32.ofNat zx103)), .val (.ref b3), .unset, .unset] [])) _
        refine XS.aload X110.here hx rfl (hb hby at_72) rfl rfl ?_
        show Steps p.tables e below (T110.setTop (mkF m 74 #[.val (.int p0), .val (.int p1), .val (.long q2), .second, .val (.int p3), .val (.int (p0 &&& (31 : Int32))), .val (.int v2), .val (.ref b3), .val (.ref bx103), .val (.int (Int32.ofNat zx103)), .val (.ref b3), .unset, .unset] [(.ref b3)])) _
        refine XS.aload X110.here hx rfl (hb hby at_74) rfl rfl ?_
        show Steps p.tables e below (T110.setTop (mkF m 76 #[.val (.int p0), .val (.int p1), .val (.long q2), .second, .val (.int p3), .val (.int (p0 &&& (31 : Int32))), .val (.int v2), .val (.ref b3), .val (.ref bx103), .val (.int (Int32.ofNat zx103)), .val (.ref b3), .unset, .unset] [(.ref b3), (.ref b3)])) _
        refine XS.acmpYes X110.here hx rfl (pc0 := 76) (pc' := 81) rfl (hb hby at_76) rfl (own_aeqT rfl) (by decide) (by decide) ?_
        show Steps p.tables e below (T110.setTop (mkF m 81 #[.val (.int p0), .val (.int p1), .val (.long q2), .second, .val (.int p3), .val (.int (p0 &&& (31 : Int32))), .val (.int v2), .val (.ref b3), .val (.ref bx103), .val (.int (Int32.ofNat zx103)), .val (.ref b3), .unset, .unset] [])) _
        refine XS.aload X110.here hx rfl (hb hby at_81) rfl rfl ?_
        show Steps p.tables e below (T110.setTop (mkF m 83 #[.val (.int p0), .val (.int p1), .val (.long q2), .second, .val (.int p3), .val (.int (p0 &&& (31 : Int32))), .val (.int v2), .val (.ref b3), .val (.ref bx103), .val (.int (Int32.ofNat zx103)), .val (.ref b3), .unset, .unset] [(.ref b3)])) _
        refine st116.trans ?_
        show Steps p.tables e below (T116.setTop (mkF m 86 #[.val (.int p0), .val (.int p1), .val (.long q2), .second, .val (.int p3), .val (.int (p0 &&& (31 : Int32))), .val (.int v2), .val (.ref b3), .val (.ref bx103), .val (.int (Int32.ofNat zx103)), .val (.ref b3), .unset, .unset] [(.int (0 : Int32))])) _
        refine XS.ifYes X116.here hx rfl (pc0 := 86) (pc' := 91) rfl (hb hby at_86) rfl ((if0 _ _).trans (teq (by decide)).1) (by decide) (by decide) ?_
        show Steps p.tables e below (T116.setTop (mkF m 91 #[.val (.int p0), .val (.int p1), .val (.long q2), .second, .val (.int p3), .val (.int (p0 &&& (31 : Int32))), .val (.int v2), .val (.ref b3), .val (.ref bx103), .val (.int (Int32.ofNat zx103)), .val (.ref b3), .unset, .unset] [])) _
        refine XS.aload X116.here hx rfl (hb hby at_91) rfl rfl ?_
        show Steps p.tables e below (T116.setTop (mkF m 93 #[.val (.int p0), .val (.int p1), .val (.long q2), .second, .val (.int p3), .val (.int (p0 &&& (31 : Int32))), .val (.int v2), .val (.ref b3), .val (.ref bx103), .val (.int (Int32.ofNat zx103)), .val (.ref b3), .unset, .unset] [(.ref b3)])) _
        refine st117.trans ?_
        show Steps p.tables e below (T117.setTop (mkF m 96 #[.val (.int p0), .val (.int p1), .val (.long q2), .second, .val (.int p3), .val (.int (p0 &&& (31 : Int32))), .val (.int v2), .val (.ref b3), .val (.ref bx103), .val (.int (Int32.ofNat zx103)), .val (.ref b3), .unset, .unset] [(.ref b110_b2)])) _
        refine XS.astore X117.here hx rfl (hb hby at_96) rfl rfl (l' := #[.val (.int p0), .val (.int p1), .val (.long q2), .second, .val (.int p3), .val (.int (p0 &&& (31 : Int32))), .val (.int v2), .val (.ref b3), .val (.ref bx103), .val (.int (Int32.ofNat zx103)), .val (.ref b3), .val (.ref b110_b2), .unset]) rfl ?_
        show Steps p.tables e below (T117.setTop (mkF m 98 #[.val (.int p0), .val (.int p1), .val (.long q2), .second, .val (.int p3), .val (.int (p0 &&& (31 : Int32))), .val (.int v2), .val (.ref b3), .val (.ref bx103), .val (.int (Int32.ofNat zx103)), .val (.ref b3), .val (.ref b110_b2), .unset] [])) _
        refine XS.iload X117.here hx rfl (hb hby at_98) rfl ?_
        show Steps p.tables e below (T117.setTop (mkF m 100 #[.val (.int p0), .val (.int p1), .val (.long q2), .second, .val (.int p3), .val (.int (p0 &&& (31 : Int32))), .val (.int v2), .val (.ref b3), .val (.ref bx103), .val (.int (Int32.ofNat zx103)), .val (.ref b3), .val (.ref b110_b2), .unset] [(.int (Int32.ofNat zx103))])) _
        refine XS.iload X117.here hx rfl (hb hby at_100) rfl ?_
        show Steps p.tables e below (T117.setTop (mkF m 102 #[.val (.int p0), .val (.int p1), .val (.long q2), .second, .val (.int p3), .val (.int (p0 &&& (31 : Int32))), .val (.int v2), .val (.ref b3), .val (.ref bx103), .val (.int (Int32.ofNat zx103)), .val (.ref b3), .val (.ref b110_b2), .unset] [(.int v2), (.int (Int32.ofNat zx103))])) _
        refine XS.icmpNo X117.here hx rfl (hb hby at_102) rfl (tlt hk118).2.2.2 ?_
        show Steps p.tables e below (T117.setTop (mkF m 105 #[.val (.int p0), .val (.int p1), .val (.long q2), .second, .val (.int p3), .val (.int (p0 &&& (31 : Int32))), .val (.int v2), .val (.ref b3), .val (.ref bx103), .val (.int (Int32.ofNat zx103)), .val (.ref b3), .val (.ref b110_b2), .unset] [])) _
        refine XS.aload X117.here hx rfl (hb hby at_105) rfl rfl ?_
        show Steps p.tables e below (T117.setTop (mkF m 107 #[.val (.int p0), .val (.int p1), .val (.long q2), .second, .val (.int p3), .val (.int (p0 &&& (31 : Int32))), .val (.int v2), .val (.ref b3), .val (.ref bx103), .val (.int (Int32.ofNat zx103)), .val (.ref b3), .val (.ref b110_b2), .unset] [(.ref b110_b2)])) _
        refine XS.aload X117.here hx rfl (hb hby at_107) rfl rfl ?_
        show Steps p.tables e below (T117.setTop (mkF m 109 #[.val (.int p0), .val (.int p1), .val (.long q2), .second, .val (.int p3), .val (.int (p0 &&& (31 : Int32))), .val (.int v2), .val (.ref b3), .val (.ref bx103), .val (.int (Int32.ofNat zx103)), .val (.ref b3), .val (.ref b110_b2), .unset] [(.ref bx103), (.ref b110_b2)])) _
        refine XS.acmpNo X117.here hx rfl (hb hby at_109) rfl (own_aeqF (Ne.symm ne_bx103_b110_b2)) ?_
        show Steps p.tables e below (T117.setTop (mkF m 112 #[.val (.int p0), .val (.int p1), .val (.long q2), .second, .val (.int p3), .val (.int (p0 &&& (31 : Int32))), .val (.int v2), .val (.ref b3), .val (.ref bx103), .val (.int (Int32.ofNat zx103)), .val (.ref b3), .val (.ref b110_b2), .unset] [])) _
        refine XS.aload X117.here hx rfl (hb hby at_112) rfl rfl ?_
        show Steps p.tables e below (T117.setTop (mkF m 114 #[.val (.int p0), .val (.int p1), .val (.long q2), .second, .val (.int p3), .val (.int (p0 &&& (31 : Int32))), .val (.int v2), .val (.ref b3), .val (.ref bx103), .val (.int (Int32.ofNat zx103)), .val (.ref b3), .val (.ref b110_b2), .unset] [(.ref b110_b2)])) _
        refine AF.len X117 hx hZ e117 P115 (g := (mkF m 114 #[.val (.int p0), .val (.int p1), .val (.long q2), .second, .val (.int p3), .val (.int (p0 &&& (31 : Int32))), .val (.int v2), .val (.ref b3), .val (.ref bx103), .val (.int (Int32.ofNat zx103)), .val (.ref b3), .val (.ref b110_b2), .unset] [(.ref b110_b2)])) rfl rfl (hb hby at_114) _ ?_
        show Steps p.tables e below (T117.setTop (mkF m 115 #[.val (.int p0), .val (.int p1), .val (.long q2), .second, .val (.int p3), .val (.int (p0 &&& (31 : Int32))), .val (.int v2), .val (.ref b3), .val (.ref bx103), .val (.int (Int32.ofNat zx103)), .val (.ref b3), .val (.ref b110_b2), .unset] [(.int (Int32.ofNat (v2).toNatClampNeg))])) _
        refine XS.iload X117.here hx rfl (hb hby at_115) rfl ?_
        show Steps p.tables e below (T117.setTop (mkF m 117 #[.val (.int p0), .val (.int p1), .val (.long q2), .second, .val (.int p3), .val (.int (p0 &&& (31 : Int32))), .val (.int v2), .val (.ref b3), .val (.ref bx103), .val (.int (Int32.ofNat zx103)), .val (.ref b3), .val (.ref b110_b2), .unset] [(.int v2), (.int (Int32.ofNat (v2).toNatClampNeg))])) _
        refine XS.icmpYes X117.here hx rfl (pc0 := 117) (pc' := 131) rfl (hb hby at_117) rfl (teq hk119).1 (by decide) (by decide) ?_
        show Steps p.tables e below (T117.setTop (mkF m 131 #[.val (.int p0), .val (.int p1), .val (.long q2), .second, .val (.int p3), .val (.int (p0 &&& (31 : Int32))), .val (.int v2), .val (.ref b3), .val (.ref bx103), .val (.int (Int32.ofNat zx103)), .val (.ref b3), .val (.ref b110_b2), .unset] [])) _
        refine XS.aload X117.here hx rfl (hb hby at_131) rfl rfl ?_
        show Steps p.tables e below (T117.setTop (mkF m 133 #[.val (.int p0), .val (.int p1), .val (.long q2), .second, .val (.int p3), .val (.int (p0 &&& (31 : Int32))), .val (.int v2), .val (.ref b3), .val (.ref bx103), .val (.int (Int32.ofNat zx103)), .val (.ref b3), .val (.ref b110_b2), .unset] [(.ref b3)])) _
        refine st121 _ ?_
        show Steps p.tables e below (T121.setTop (mkF m 135 #[.val (.int p0), .val (.int p1), .val (.long q2), .second, .val (.int p3), .val (.int (p0 &&& (31 : Int32))), .val (.int v2), .val (.ref b3), .val (.ref bx103), .val (.int (Int32.ofNat zx103)), .val (.ref b3), .val (.ref b110_b2), .unset] [(.ref as121), (.ref b3)])) _
        refine st139.trans ?_
        show Steps p.tables e below (T139.setTop (mkF m 138 #[.val (.int p0), .val (.int p1), .val (.long q2), .second, .val (.int p3), .val (.int (p0 &&& (31 : Int32))), .val (.int v2), .val (.ref b3), .val (.ref bx103), .val (.int (Int32.ofNat zx103)), .val (.ref b3), .val (.ref b110_b2), .unset] [(.ref b3)])) _
        refine XS.pop X139.here hx rfl (hb hby at_138) rfl rfl ?_
        show Steps p.tables e below (T139.setTop (mkF m 139 #[.val (.int p0), .val (.int p1), .val (.long q2), .second, .val (.int p3), .val (.int (p0 &&& (31 : Int32))), .val (.int v2), .val (.ref b3), .val (.ref bx103), .val (.int (Int32.ofNat zx103)), .val (.ref b3), .val (.ref b110_b2), .unset] [])) _
        refine XS.aload X139.here hx rfl (hb hby at_139) rfl rfl ?_
        show Steps p.tables e below (T139.setTop (mkF m 141 #[.val (.int p0), .val (.int p1), .val (.long q2), .second, .val (.int p3), .val (.int (p0 &&& (31 : Int32))), .val (.int v2), .val (.ref b3), .val (.ref bx103), .val (.int (Int32.ofNat zx103)), .val (.ref b3), .val (.ref b110_b2), .unset] [(.ref b3)])) _
        refine st141.trans ?_
        show Steps p.tables e below (T141.setTop (mkF m 144 #[.val (.int p0), .val (.int p1), .val (.long q2), .second, .val (.int p3), .val (.int (p0 &&& (31 : Int32))), .val (.int v2), .val (.ref b3), .val (.ref bx103), .val (.int (Int32.ofNat zx103)), .val (.ref b3), .val (.ref b110_b2), .unset] [(.ref bx139)])) _
        refine XS.astore X141.here hx rfl (hb hby at_144) rfl rfl (l' := #[.val (.int p0), .val (.int p1), .val (.long q2), .second, .val (.int p3), .val (.int (p0 &&& (31 : Int32))), .val (.int v2), .val (.ref b3), .val (.ref bx103), .val (.int (Int32.ofNat zx103)), .val (.ref b3), .val (.ref b110_b2), .val (.ref bx139)]) rfl ?_
        show Steps p.tables e below (T141.setTop (mkF m 146 #[.val (.int p0), .val (.int p1), .val (.long q2), .second, .val (.int p3), .val (.int (p0 &&& (31 : Int32))), .val (.int v2), .val (.ref b3), .val (.ref bx103), .val (.int (Int32.ofNat zx103)), .val (.ref b3), .val (.ref b110_b2), .val (.ref bx139)] [])) _
        refine XS.aload X141.here hx rfl (hb hby at_146) rfl rfl ?_
        show Steps p.tables e below (T141.setTop (mkF m 148 #[.val (.int p0), .val (.int p1), .val (.long q2), .second, .val (.int p3), .val (.int (p0 &&& (31 : Int32))), .val (.int v2), .val (.ref b3), .val (.ref bx103), .val (.int (Int32.ofNat zx103)), .val (.ref b3), .val (.ref b110_b2), .val (.ref bx139)] [(.ref b3)])) _
        refine st142.trans ?_
        show Steps p.tables e below (T142.setTop (mkF m 151 #[.val (.int p0), .val (.int p1), .val (.long q2), .second, .val (.int p3), .val (.int (p0 &&& (31 : Int32))), .val (.int v2), .val (.ref b3), .val (.ref bx103), .val (.int (Int32.ofNat zx103)), .val (.ref b3), .val (.ref b110_b2), .val (.ref bx139)] [(.int (4 : Int32))])) _
        refine XS.iconst X142.here hx rfl (hb hby at_151) ?_
        show Steps p.tables e below (T142.setTop (mkF m 152 #[.val (.int p0), .val (.int p1), .val (.long q2), .second, .val (.int p3), .val (.int (p0 &&& (31 : Int32))), .val (.int v2), .val (.ref b3), .val (.ref bx103), .val (.int (Int32.ofNat zx103)), .val (.ref b3), .val (.ref b110_b2), .val (.ref bx139)] [(.int (4 : Int32)), (.int (4 : Int32))])) _
        refine XS.icmpNo X142.here hx rfl (hb hby at_152) rfl (teq (by decide)).2 ?_
        show Steps p.tables e below (T142.setTop (mkF m 155 #[.val (.int p0), .val (.int p1), .val (.long q2), .second, .val (.int p3), .val (.int (p0 &&& (31 : Int32))), .val (.int v2), .val (.ref b3), .val (.ref bx103), .val (.int (Int32.ofNat zx103)), .val (.ref b3), .val (.ref b110_b2), .val (.ref bx139)] [])) _
        refine XS.aload X142.here hx rfl (hb hby at_155) rfl rfl ?_
        show Steps p.tables e below (T142.setTop (mkF m 157 #[.val (.int p0), .val (.int p1), .val (.long q2), .second, .val (.int p3), .val (.int (p0 &&& (31 : Int32))), .val (.int v2), .val (.ref b3), .val (.ref bx103), .val (.int (Int32.ofNat zx103)), .val (.ref b3), .val (.ref b110_b2), .val (.ref bx139)] [(.ref bx139)])) _
        refine XS.iconst X142.here hx rfl (hb hby at_157) ?_
        show Steps p.tables e below (T142.setTop (mkF m 158 #[.val (.int p0), .val (.int p1), .val (.long q2), .second, .val (.int p3), .val (.int (p0 &&& (31 : Int32))), .val (.int v2), .val (.ref b3), .val (.ref bx103), .val (.int (Int32.ofNat zx103)), .val (.ref b3), .val (.ref b110_b2), .val (.ref bx139)] [(.int (0 : Int32)), (.ref bx139)])) _
        refine AF.ldB X142 hx hZ121 e142 A139 hi143 (g := (mkF m 158 #[.val (.int p0), .val (.int p1), .val (.long q2), .second, .val (.int p3), .val (.int (p0 &&& (31 : Int32))), .val (.int v2), .val (.ref b3), .val (.ref bx103), .val (.int (Int32.ofNat zx103)), .val (.ref b3), .val (.ref b110_b2), .val (.ref bx139)] [(.int (0 : Int32)), (.ref bx139)])) rfl rfl (hb hby at_158) _ ?_
        show Steps p.tables e below (T142.setTop (mkF m 159 #[.val (.int p0), .val (.int p1), .val (.long q2), .second, .val (.int p3), .val (.int (p0 &&& (31 : Int32))), .val (.int v2), .val (.ref b3), .val (.ref bx103), .val (.int (Int32.ofNat zx103)), .val (.ref b3), .val (.ref b110_b2), .val (.ref bx139)] [(.int (fx139 0))])) _
        refine XS.bipush X142.here hx rfl (hb hby at_159) ?_
        show Steps p.tables e below (T142.setTop (mkF m 161 #[.val (.int p0), .val (.int p1), .val (.long q2), .second, .val (.int p3), .val (.int (p0 &&& (31 : Int32))), .val (.int v2), .val (.ref b3), .val (.ref bx103), .val (.int (Int32.ofNat zx103)), .val (.ref b3), .val (.ref b110_b2), .val (.ref bx139)] [(.int (34 : Int32)), (.int (fx139 0))])) _
        refine XS.icmpNo X142.here hx rfl (hb hby at_161) rfl (teq hk144).2 ?_
        show Steps p.tables e below (T142.setTop (mkF m 164 #[.val (.int p0), .val (.int p1), .val (.long q2), .second, .val (.int p3), .val (.int (p0 &&& (31 : Int32))), .val (.int v2), .val (.ref b3), .val (.ref bx103), .val (.int (Int32.ofNat zx103)), .val (.ref b3), .val (.ref b110_b2), .val (.ref bx139)] [])) _
        refine XS.aload X142.here hx rfl (hb hby at_164) rfl rfl ?_
        show Steps p.tables e below (T142.setTop (mkF m 166 #[.val (.int p0), .val (.int p1), .val (.long q2), .second, .val (.int p3), .val (.int (p0 &&& (31 : Int32))), .val (.int v2), .val (.ref b3), .val (.ref bx103), .val (.int (Int32.ofNat zx103)), .val (.ref b3), .val (.ref b110_b2), .val (.ref bx139)] [(.ref bx139)])) _
        refine XS.iconst X142.here hx rfl (hb hby at_166) ?_
        show Steps p.tables e below (T142.setTop (mkF m 167 #[.val (.int p0), .val (.int p1), .val (.long q2), .second, .val (.int p3), .val (.int (p0 &&& (31 : Int32))), .val (.int v2), .val (.ref b3), .val (.ref bx103), .val (.int (Int32.ofNat zx103)), .val (.ref b3), .val (.ref b110_b2), .val (.ref bx139)] [(.int (1 : Int32)), (.ref bx139)])) _
        refine AF.ldB X142 hx hZ121 e142 A139 hi145 (g := (mkF m 167 #[.val (.int p0), .val (.int p1), .val (.long q2), .second, .val (.int p3), .val (.int (p0 &&& (31 : Int32))), .val (.int v2), .val (.ref b3), .val (.ref bx103), .val (.int (Int32.ofNat zx103)), .val (.ref b3), .val (.ref b110_b2), .val (.ref bx139)] [(.int (1 : Int32)), (.ref bx139)])) rfl rfl (hb hby at_167) _ ?_
        show Steps p.tables e below (T142.setTop (mkF m 168 #[.val (.int p0), .val (.int p1), .val (.long q2), .second, .val (.int p3), .val (.int (p0 &&& (31 : Int32))), .val (.int v2), .val (.ref b3), .val (.ref bx103), .val (.int (Int32.ofNat zx103)), .val (.ref b3), .val (.ref b110_b2), .val (.ref bx139)] [(.int (fx139 1))])) _
        refine XS.bipush X142.here hx rfl (hb hby at_168) ?_
        show Steps p.tables e below (T142.setTop (mkF m 170 #[.val (.int p0), .val (.int p1), .val (.long q2), .second, .val (.int p3), .val (.int (p0 &&& (31 : Int32))), .val (.int v2), .val (.ref b3), .val (.ref bx103), .val (.int (Int32.ofNat zx103)), .val (.ref b3), .val (.ref b110_b2), .val (.ref bx139)] [(.int (97 : Int32)), (.int (fx139 1))])) _
        refine XS.icmpNo X142.here hx rfl (hb hby at_170) rfl (teq hk146).2 ?_
        show Steps p.tables e below (T142.setTop (mkF m 173 #[.val (.int p0), .val (.int p1), .val (.long q2), .second, .val (.int p3), .val (.int (p0 &&& (31 : Int32))), .val (.int v2), .val (.ref b3), .val (.ref bx103), .val (.int (Int32.ofNat zx103)), .val (.ref b3), .val (.ref b110_b2), .val (.ref bx139)] [])) _
        refine XS.aload X142.here hx rfl (hb hby at_173) rfl rfl ?_
        show Steps p.tables e below (T142.setTop (mkF m 175 #[.val (.int p0), .val (.int p1), .val (.long q2), .second, .val (.int p3), .val (.int (p0 &&& (31 : Int32))), .val (.int v2), .val (.ref b3), .val (.ref bx103), .val (.int (Int32.ofNat zx103)), .val (.ref b3), .val (.ref b110_b2), .val (.ref bx139)] [(.ref bx139)])) _
        refine XS.iconst X142.here hx rfl (hb hby at_175) ?_
        show Steps p.tables e below (T142.setTop (mkF m 176 #[.val (.int p0), .val (.int p1), .val (.long q2), .second, .val (.int p3), .val (.int (p0 &&& (31 : Int32))), .val (.int v2), .val (.ref b3), .val (.ref bx103), .val (.int (Int32.ofNat zx103)), .val (.ref b3), .val (.ref b110_b2), .val (.ref bx139)] [(.int (2 : Int32)), (.ref bx139)])) _
        refine AF.ldB X142 hx hZ121 e142 A139 hi147 (g := (mkF m 176 #[.val (.int p0), .val (.int p1), .val (.long q2), .second, .val (.int p3), .val (.int (p0 &&& (31 : Int32))), .val (.int v2), .val (.ref b3), .val (.ref bx103), .val (.int (Int32.ofNat zx103)), .val (.ref b3), .val (.ref b110_b2), .val (.ref bx139)] [(.int (2 : Int32)), (.ref bx139)])) rfl rfl (hb hby at_176) _ ?_
        show Steps p.tables e below (T142.setTop (mkF m 177 #[.val (.int p0), .val (.int p1), .val (.long q2), .second, .val (.int p3), .val (.int (p0 &&& (31 : Int32))), .val (.int v2), .val (.ref b3), .val (.ref bx103), .val (.int (Int32.ofNat zx103)), .val (.ref b3), .val (.ref b110_b2), .val (.ref bx139)] [(.int (fx139 2))])) _
        refine XS.bipush X142.here hx rfl (hb hby at_177) ?_
        show Steps p.tables e below (T142.setTop (mkF m 179 #[.val (.int p0), .val (.int p1), .val (.long q2), .second, .val (.int p3), .val (.int (p0 &&& (31 : Int32))), .val (.int v2), .val (.ref b3), .val (.ref bx103), .val (.int (Int32.ofNat zx103)), .val (.ref b3), .val (.ref b110_b2), .val (.ref bx139)] [(.int (34 : Int32)), (.int (fx139 2))])) _
        refine XS.icmpNo X142.here hx rfl (hb hby at_179) rfl (teq hk148).2 ?_
        show Steps p.tables e below (T142.setTop (mkF m 182 #[.val (.int p0), .val (.int p1), .val (.long q2), .second, .val (.int p3), .val (.int (p0 &&& (31 : Int32))), .val (.int v2), .val (.ref b3), .val (.ref bx103), .val (.int (Int32.ofNat zx103)), .val (.ref b3), .val (.ref b110_b2), .val (.ref bx139)] [])) _
        refine XS.aload X142.here hx rfl (hb hby at_182) rfl rfl ?_
        show Steps p.tables e below (T142.setTop (mkF m 184 #[.val (.int p0), .val (.int p1), .val (.long q2), .second, .val (.int p3), .val (.int (p0 &&& (31 : Int32))), .val (.int v2), .val (.ref b3), .val (.ref bx103), .val (.int (Int32.ofNat zx103)), .val (.ref b3), .val (.ref b110_b2), .val (.ref bx139)] [(.ref bx139)])) _
        refine XS.iconst X142.here hx rfl (hb hby at_184) ?_
        show Steps p.tables e below (T142.setTop (mkF m 185 #[.val (.int p0), .val (.int p1), .val (.long q2), .second, .val (.int p3), .val (.int (p0 &&& (31 : Int32))), .val (.int v2), .val (.ref b3), .val (.ref bx103), .val (.int (Int32.ofNat zx103)), .val (.ref b3), .val (.ref b110_b2), .val (.ref bx139)] [(.int (3 : Int32)), (.ref bx139)])) _
        refine AF.ldB X142 hx hZ121 e142 A139 hi149 (g := (mkF m 185 #[.val (.int p0), .val (.int p1), .val (.long q2), .second, .val (.int p3), .val (.int (p0 &&& (31 : Int32))), .val (.int v2), .val (.ref b3), .val (.ref bx103), .val (.int (Int32.ofNat zx103)), .val (.ref b3), .val (.ref b110_b2), .val (.ref bx139)] [(.int (3 : Int32)), (.ref bx139)])) rfl rfl (hb hby at_185) _ ?_
        show Steps p.tables e below (T142.setTop (mkF m 186 #[.val (.int p0), .val (.int p1), .val (.long q2), .second, .val (.int p3), .val (.int (p0 &&& (31 : Int32))), .val (.int v2), .val (.ref b3), .val (.ref bx103), .val (.int (Int32.ofNat zx103)), .val (.ref b3), .val (.ref b110_b2), .val (.ref bx139)] [(.int (fx139 3))])) _
        refine XS.bipush X142.here hx rfl (hb hby at_186) ?_
        show Steps p.tables e below (T142.setTop (mkF m 188 #[.val (.int p0), .val (.int p1), .val (.long q2), .second, .val (.int p3), .val (.int (p0 &&& (31 : Int32))), .val (.int v2), .val (.ref b3), .val (.ref bx103), .val (.int (Int32.ofNat zx103)), .val (.ref b3), .val (.ref b110_b2), .val (.ref bx139)] [(.int (58 : Int32)), (.int (fx139 3))])) _
        refine XS.icmpNo X142.here hx rfl (hb hby at_188) rfl (teq hk150).2 ?_
        show Steps p.tables e below (T142.setTop (mkF m 191 #[.val (.int p0), .val (.int p1), .val (.long q2), .second, .val (.int p3), .val (.int (p0 &&& (31 : Int32))), .val (.int v2), .val (.ref b3), .val (.ref bx103), .val (.int (Int32.ofNat zx103)), .val (.ref b3), .val (.ref b110_b2), .val (.ref bx139)] [])) _
        refine XS.iconst X142.here hx rfl (hb hby at_191) ?_
        show Steps p.tables e below (T142.setTop (mkF m 192 #[.val (.int p0), .val (.int p1), .val (.long q2), .second, .val (.int p3), .val (.int (p0 &&& (31 : Int32))), .val (.int v2), .val (.ref b3), .val (.ref bx103), .val (.int (Int32.ofNat zx103)), .val (.ref b3), .val (.ref b110_b2), .val (.ref bx139)] [(.int (1 : Int32))])) _
        refine XS.goto X142.here hx rfl (pc0 := 192) (pc' := 196) rfl (hb hby at_192) (by decide) (by decide) ?_
        show Steps p.tables e below (T142.setTop (mkF m 196 #[.val (.int p0), .val (.int p1), .val (.long q2), .second, .val (.int p3), .val (.int (p0 &&& (31 : Int32))), .val (.int v2), .val (.ref b3), .val (.ref bx103), .val (.int (Int32.ofNat zx103)), .val (.ref b3), .val (.ref b110_b2), .val (.ref bx139)] [(.int (1 : Int32))])) _
        exact retN X142 hx (t := .boolean) Bd.returns (by simp) (hb hby at_196) hr
      · show Q0 h0 n0 _ T142.heap _
        exact ⟨rfl, N142⟩
    · have hp152 : ¬ (v2 < (Int32.ofNat zx103)) := hk
      obtain ⟨cq153, kq153, q153a, q153b, q153c⟩ := isOf hZ e105 G104
      obtain ⟨_, _, ⟨T153, L153, k153, n153⟩, -, X153, ⟨Lc153, hQ153, l153, y153, z153⟩, st153⟩ := X105.virtualBack hx (y := (⟨"com/example/commitlog/commitlog/codec/JsonWriter", "reset", "(I)Lcom/example/commitlog/commitlog/codec/JsonWriter;"⟩ : MethodName)) (z := (⟨"com/example/commitlog/commitlog/codec/JsonWriter", "reset", "(I)Lcom/example/commitlog/commitlog/codec/JsonWriter;"⟩ : MethodName)) hown (mvT hZ (hw _ (List.mem_of_getElem? (i := 18) rfl))) (mvT hZ (hw _ (List.mem_of_getElem? (i := 19) rfl))) (notFace_of_selects (args := #[]) (mvT hZ (hw _ (List.mem_of_getElem? (i := 21) rfl)))) (mvT hZ (hw _ (List.mem_of_getElem? (i := 21) rfl))) (mvT hZ (hw _ (List.mem_of_getElem? (i := 20) rfl))) (by decide) (backOf (W := 0) (rm4k l Z A0 hw [] b3 v2 bx103 lx103 (1 : Int32) zx103 fx103 T103.heap n0 (Nat.le_trans Z0 K103.1) G104 Fb103 Fl103 Fa103 A103 nw_b3 hp152) hZ (hw _ (List.mem_of_getElem? (i := 22) rfl)) (hw _ (List.mem_of_getElem? (i := 3) rfl)) (by decide) (by decide)) q153a q153c (g := (mkF m 67 #[.val (.int p0), .val (.int p1), .val (.long q2), .second, .val (.int p3), .val (.int (p0 &&& (31 : Int32))), .val (.int v2), .val (.ref b3), .val (.ref bx103), .val (.int (Int32.ofNat zx103)), .unset, .unset, .unset] [(.int v2), (.ref b3)])) rfl (by rw [hml]; rfl) (Steps.refl _) (argsL := [(.int v2)]) (rest := []) (lenOf pd_3 rfl) rfl (by show 2 * 0 + _ ≤ _; exact Nat.le_of_eq rfl) (hb hby at_67) (fun _ _ => ⟨rfl, e105, (by decide : 3 + 0 ≤ _), (by decide : 98 + 0 ≤ _)⟩)
      dsimp only [Pt.U, Pt.locs, Pt.cells, Pt.slots] at X153 l153 y153 z153 st153 hQ153
      subst l153 y153 z153
      obtain ⟨rfl, N153q, Kc153, P154, P155, P156, P157⟩ := hQ153
      have K153 : Keep h0 T153.heap [] := K103.trans Kc153 (allS (Or.inr sz_b3) all0)
      have N153 := Fr.app N105 N153q
      obtain ⟨cq158, kq158, q158a, q158b, q158c⟩ := isOf hZ rfl P154
      obtain ⟨_, _, ⟨T158, L158, k158, n158⟩, -, X158, ⟨Lc158, hQ158, l158, y158, z158⟩, st158⟩ := X153.virtualBack hx (y := (⟨"com/example/commitlog/commitlog/codec/JsonWriter", "length", "()I"⟩ : MethodName)) (z := (⟨"com/example/commitlog/commitlog/codec/JsonWriter", "length", "()I"⟩ : MethodName)) hown (mvT hZ (hw _ (List.mem_of_getElem? (i := 27) rfl))) (mvT hZ (hw _ (List.mem_of_getElem? (i := 28) rfl))) (notFace_of_selects (args := #[]) (mvT hZ (hw _ (List.mem_of_getElem? (i := 30) rfl)))) (mvT hZ (hw _ (List.mem_of_getElem? (i := 30) rfl))) (mvT hZ (hw _ (List.mem_of_getElem? (i := 29) rfl))) (by decide) (backOf (W := 0) (rm5 l Z A0 hw [] b3 (.ref bx103) (0 : Int32) (0 : Int32) T153.heap n0 (Nat.le_trans Z0 K153.1) P154 P155 P156 P157) hZ (hw _ (List.mem_of_getElem? (i := 31) rfl)) (hw _ (List.mem_of_getElem? (i := 3) rfl)) (by decide) (by decide)) q158a q158c (g := (mkF m 83 #[.val (.int p0), .val (.int p1), .val (.long q2), .second, .val (.int p3), .val (.int (p0 &&& (31 : Int32))), .val (.int v2), .val (.ref b3), .val (.ref bx103), .val (.int (Int32.ofNat zx103)), .val (.ref b3), .unset, .unset] [(.ref b3)])) rfl (by rw [hml]; rfl) (Steps.refl _) (argsL := []) (rest := []) (lenOf pd_4 rfl) rfl (by show 2 * 0 + _ ≤ _; exact Nat.le_of_eq rfl) (hb hby at_83) (fun _ _ => ⟨rfl, rfl, (by decide : 3 + 0 ≤ _), (by decide : 98 + 0 ≤ _)⟩)
      dsimp only [Pt.U, Pt.locs, Pt.cells, Pt.slots] at X158 l158 y158 z158 st158 hQ158
      subst l158 y158 z158
      obtain ⟨rfl, N158q, e158⟩ := hQ158
      have N158 := Fr.app N153 N158q
      obtain ⟨cq159, kq159, q159a, q159b, q159c⟩ := isOf hZ e158 P154
      obtain ⟨_, _, ⟨T159, L159, k159, n159⟩, -, X159, ⟨Lc159, hQ159, l159, y159, z159⟩, st159⟩ := X158.virtualBack hx (y := (⟨"com/example/commitlog/commitlog/codec/JsonWriter", "bytes", "()[B"⟩ : MethodName)) (z := (⟨"com/example/commitlog/commitlog/codec/JsonWriter", "bytes", "()[B"⟩ : MethodName)) hown (mvT hZ (hw _ (List.mem_of_getElem? (i := 13) rfl))) (mvT hZ (hw _ (List.mem_of_getElem? (i := 14) rfl))) (notFace_of_selects (args := #[]) (mvT hZ (hw _ (List.mem_of_getElem? (i := 16) rfl)))) (mvT hZ (hw _ (List.mem_of_getElem? (i := 16) rfl))) (mvT hZ (hw _ (List.mem_of_getElem? (i := 15) rfl))) (by decide) (backOf (W := 0) (rm3 l Z A0 hw [] b3 bx103 (0 : Int32) (0 : Int32) T153.heap n0 (Nat.le_trans Z0 K153.1) P154 P155 P156 P157) hZ (hw _ (List.mem_of_getElem? (i := 17) rfl)) (hw _ (List.mem_of_getElem? (i := 3) rfl)) (by decide) (by decide)) q159a q159c (g := (mkF m 93 #[.val (.int p0), .val (.int p1), .val (.long q2), .second, .val (.int p3), .val (.int (p0 &&& (31 : Int32))), .val (.int v2), .val (.ref b3), .val (.ref bx103), .val (.int (Int32.ofNat zx103)), .val (.ref b3), .unset, .unset] [(.ref b3)])) rfl (by rw [hml]; rfl) (Steps.refl _) (argsL := []) (rest := []) (lenOf pd_2 rfl) rfl (by show 2 * 0 + _ ≤ _; exact Nat.le_of_eq rfl) (hb hby at_93) (fun _ _ => ⟨rfl, e158, (by decide : 3 + 0 ≤ _), (by decide : 98 + 0 ≤ _)⟩)
      dsimp only [Pt.U, Pt.locs, Pt.cells, Pt.slots] at X159 l159 y159 z159 st159 hQ159
      subst l159 y159 z159
      obtain ⟨rfl, N159q, e159⟩ := hQ159
      have N159 := Fr.app N158 N159q
      have hk160 : ¬ (v2 < (Int32.ofNat zx103)) := hk
      have wS : ∀ d ∈ Bundle.stringAtoms, d.before A0 Z = true := by
        intro d hd
        simp only [Bundle.stringAtoms, List.mem_cons, List.not_mem_nil, or_false] at hd
        rcases hd with rfl | rfl | rfl | rfl | rfl | rfl | rfl
        · exact (hw _ (List.mem_of_getElem? (i := 33) rfl))
        · exact (hw _ (List.mem_of_getElem? (i := 34) rfl))
        · exact (hw _ (List.mem_of_getElem? (i := 10) rfl))
        · exact (hw _ (List.mem_of_getElem? (i := 35) rfl))
        · exact (hw _ (List.mem_of_getElem? (i := 36) rfl))
        · exact (hw _ (List.mem_of_getElem? (i := 37) rfl))
        · exact (hw _ (List.mem_of_getElem? (i := 38) rfl))
      have SI0 : s.Since s.vm 0 := State.WarmedH.since (State.WarmedH.refl s) 0
      have X161 : Stand p l e room_1 (s.setVm s.vm) m #[(.int p0), (.int p1), (.long q2), (.int p3)] below meth c T159 _ 3 98 := X159
      have LE0 : 0 ≤ T153.heap.size := Nat.zero_le _
      obtain ⟨as162, T162, h162, k162, bs162, kk162, X162, e162, E162, SI162, LE162, hZ162, hown162, Es162, Fc162, Fv162, Av162, -, -, IB162, st162⟩ := ldcSV X161 hx hZ hown (hw _ (List.mem_of_getElem? (i := 32) rfl)) wS e159 SI0 LE0 (hfr N159) hkp (by rw [hUZ]; exact IB.start) (by simp) hcst29 hcw (vs := [.int 97]) (z := 1) ⟨by decide, rfl⟩ (by decide) rfl (g := (mkF m 133 #[.val (.int p0), .val (.int p1), .val (.long q2), .second, .val (.int p3), .val (.int (p0 &&& (31 : Int32))), .val (.int v2), .val (.ref b3), .val (.ref bx103), .val (.int (Int32.ofNat zx103)), .val (.ref b3), .val (.ref bx103), .unset] [(.ref b3)])) rfl (hb hby at_133) (n := 4) (by decide) (by decide) (by decide) (by decide)
      have K162 : Keep h0 h162 [] := K153.ext E162
      have V162 : AF Z h162 bs162 .byte 1 (fun j => .int ((fun _ => (97 : Int32)) j)) := own_arv1 Av162
      have G163 : Exa Z h162 b3 "com/example/commitlog/commitlog/codec/JsonWriter" := (P154.ext E162)
      have G164 : AF Z h162 bx103 .byte zx103 (fun j => .int (fx103 j)) := ((A103.keep Kc153 (ninS (Ne.symm ne_b3_bx103) nin0)).ext E162)
      have ne_o_s : b3 ≠ as162 := ne_exa G163 Es162 (by decide)
      have ne_o_v : b3 ≠ bs162 := V162.arr G163 (hw _ (List.mem_of_getElem? (i := 2) rfl))
      have ne_s_b : as162 ≠ bx103 := G164.arr Es162 (hw _ (List.mem_of_getElem? (i := 34) rfl))
      have ne_b_v : bx103 ≠ bs162 := own_neA G164 V162 (Or.inl (by have z := x103_0; omega))
      have G165 : Fld Z h162 b3 "com/example/commitlog/commitlog/codec/JsonWriter" "bytes" "[B" (.ref bx103) := (P155.ext E162)
      have G166 : Fld Z h162 b3 "com/example/commitlog/commitlog/codec/JsonWriter" "length" "I" (.int (0 : Int32)) := (P156.ext E162)
      have G167 : Fld Z h162 b3 "com/example/commitlog/commitlog/codec/JsonWriter" "afterValue" "Z" (.int (0 : Int32)) := (P157.ext E162)
      have G168 : SO Z n0 h162 "java/lang/String" "COMPACT_STRINGS" "Z" (.int s_COMPACT_STRINGS) := (((((S_COMPACT_STRINGS.ext E3).keep Kc6 (allS nw_b3 all0)).keep Kc103 (allS nw_b3 (allS nw_b6_b2 all0))).keep Kc153 (allS nw_b3 all0)).ext E162)
      have G169 : SO Z n0 h162 "jdk/internal/util/Preconditions" "SIOOBE_FORMATTER" "Ljava/util/function/BiFunction;" s_SIOOBE_FORMATTER := (((((S_SIOOBE_FORMATTER.ext E3).keep Kc6 (allS nw_b3 all0)).keep Kc103 (allS nw_b3 (allS nw_b6_b2 all0))).keep Kc153 (allS nw_b3 all0)).ext E162)
      have hp170 : s_SIOOBE_FORMATTER.isRef = true := rf_s_SIOOBE_FORMATTER
      have hp171 : ¬ (s_COMPACT_STRINGS = (0 : Int32)) := hcom
      have hp172 : zx103 ≤ 40 := hNN
      have hp173 : own_B fx103 := B103
      have hp174 : s_SIOOBE_FORMATTER.isRef = true := rf_s_SIOOBE_FORMATTER
      have hp175 : ¬ (s_COMPACT_STRINGS = (0 : Int32)) := hcom
      have hp176 : s_SIOOBE_FORMATTER.isRef = true := rf_s_SIOOBE_FORMATTER
      have hp177 : s_SIOOBE_FORMATTER.isRef = true := rf_s_SIOOBE_FORMATTER
      have hp178 : s_SIOOBE_FORMATTER.isRef = true := rf_s_SIOOBE_FORMATTER
      have hp179 : (fun _ => (97 : Int32)) 0 = (97 : Int32) := rfl
      obtain ⟨cq180, kq180, q180a, q180b, q180c⟩ := isOf hZ162 e162 G163
      obtain ⟨_, _, ⟨T180, L180, k180, n180⟩, -, X180, ⟨Lc180, hQ180, l180, y180, z180⟩, st180⟩ := X162.virtualBack hx (y := (⟨"com/example/commitlog/commitlog/codec/JsonWriter", "name", "(Ljava/lang/String;)Lcom/example/commitlog/commitlog/codec/JsonWriter;"⟩ : MethodName)) (z := (⟨"com/example/commitlog/commitlog/codec/JsonWriter", "name", "(Ljava/lang/String;)Lcom/example/commitlog/commitlog/codec/JsonWriter;"⟩ : MethodName)) hown162 (mvT hZ162 (hw _ (List.mem_of_getElem? (i := 39) rfl))) (mvT hZ162 (hw _ (List.mem_of_getElem? (i := 40) rfl))) (notFace_of_selects (args := #[]) (mvT hZ162 (hw _ (List.mem_of_getElem? (i := 42) rfl)))) (mvT hZ162 (hw _ (List.mem_of_getElem? (i := 42) rfl))) (mvT hZ162 (hw _ (List.mem_of_getElem? (i := 41) rfl))) (by decide) (backOf (W := 0) (rm6 l Z A0 hw [] b3 as162 bx103 bs162 (fun _ => (97 : Int32)) s_COMPACT_STRINGS zx103 fx103 s_SIOOBE_FORMATTER h162 n0 (Nat.le_trans Z0 K162.1) G163 G165 G166 G167 Es162 Fv162 Fc162 V162 G168 G164 nw_b3 ne_o_s ne_o_v G169 ne_b3_bx103 nw_bx103 ne_s_b ne_b_v hp170 hp171 hp172 hp173 hp174 hp175 hp176 hp177 hp178 hp179) hZ162 (hw _ (List.mem_of_getElem? (i := 43) rfl)) (hw _ (List.mem_of_getElem? (i := 3) rfl)) (by decide) (by decide)) q180a q180c (g := (mkF m 135 #[.val (.int p0), .val (.int p1), .val (.long q2), .second, .val (.int p3), .val (.int (p0 &&& (31 : Int32))), .val (.int v2), .val (.ref b3), .val (.ref bx103), .val (.int (Int32.ofNat zx103)), .val (.ref b3), .val (.ref bx103), .unset] [(.ref as162), (.ref b3)])) rfl (by rw [hml]; rfl) (Steps.refl _) (argsL := [(.ref as162)]) (rest := []) (lenOf pd_5 rfl) rfl (by show 2 * 0 + _ ≤ _; exact Nat.le_of_eq rfl) (hb hby at_135) (fun _ _ => ⟨rfl, e162, (by decide : 5 + 2 ≤ _), (by decide : 106 + 128 ≤ _)⟩)
      dsimp only [Pt.U, Pt.locs, Pt.cells, Pt.slots] at X180 l180 y180 z180 st180 hQ180
      subst l180 y180 z180
      obtain ⟨bx180, zx180, fx180, rfl, N180q, Kc180, or180, nw_bx180, ne_b3_bx180, Fb180, Fl180, Fa180, A180, B180, x180_0, x180_1, x180_2, x180_3, x180_4⟩ := hQ180
      have sq_bx180 : h0.size ≤ bx180 := by
        rcases or180 with q | q
        · rw [q]; exact sq_bx103
        · exact Nat.le_trans K162.1 q
      have K180 : Keep h0 T180.heap [] := K162.trans Kc180 (allS (Or.inr sz_b3) (allS (Or.inr sq_bx103) all0))
      have N180 := Fr.app N159 N180q
      have G181 : Exa Z T180.heap b3 "com/example/commitlog/commitlog/codec/JsonWriter" := (G163.keep Kc180)
      obtain ⟨cq182, kq182, q182a, q182b, q182c⟩ := isOf hZ162 rfl G181
      obtain ⟨_, _, ⟨T182, L182, k182, n182⟩, -, X182, ⟨Lc182, hQ182, l182, y182, z182⟩, st182⟩ := X180.virtualBack hx (y := (⟨"com/example/commitlog/commitlog/codec/JsonWriter", "bytes", "()[B"⟩ : MethodName)) (z := (⟨"com/example/commitlog/commitlog/codec/JsonWriter", "bytes", "()[B"⟩ : MethodName)) hown162 (mvT hZ162 (hw _ (List.mem_of_getElem? (i := 13) rfl))) (mvT hZ162 (hw _ (List.mem_of_getElem? (i := 14) rfl))) (notFace_of_selects (args := #[]) (mvT hZ162 (hw _ (List.mem_of_getElem? (i := 16) rfl)))) (mvT hZ162 (hw _ (List.mem_of_getElem? (i := 16) rfl))) (mvT hZ162 (hw _ (List.mem_of_getElem? (i := 15) rfl))) (by decide) (backOf (W := 0) (rm3 l Z A0 hw [] b3 bx180 (4 : Int32) (0 : Int32) T180.heap n0 (Nat.le_trans Z0 K180.1) G181 Fb180 Fl180 Fa180) hZ162 (hw _ (List.mem_of_getElem? (i := 17) rfl)) (hw _ (List.mem_of_getElem? (i := 3) rfl)) (by decide) (by decide)) q182a q182c (g := (mkF m 141 #[.val (.int p0), .val (.int p1), .val (.long q2), .second, .val (.int p3), .val (.int (p0 &&& (31 : Int32))), .val (.int v2), .val (.ref b3), .val (.ref bx103), .val (.int (Int32.ofNat zx103)), .val (.ref b3), .val (.ref bx103), .unset] [(.ref b3)])) rfl (by rw [hml]; rfl) (Steps.refl _) (argsL := []) (rest := []) (lenOf pd_2 rfl) rfl (by show 2 * 0 + _ ≤ _; exact Nat.le_of_eq rfl) (hb hby at_141) (fun _ _ => ⟨rfl, rfl, (by decide : 7 + 0 ≤ _), (by decide : 234 + 0 ≤ _)⟩)
      dsimp only [Pt.U, Pt.locs, Pt.cells, Pt.slots] at X182 l182 y182 z182 st182 hQ182
      subst l182 y182 z182
      obtain ⟨rfl, N182q, e182⟩ := hQ182
      have N182 := Fr.app N180 N182q
      obtain ⟨cq183, kq183, q183a, q183b, q183c⟩ := isOf hZ162 e182 G181
      obtain ⟨_, _, ⟨T183, L183, k183, n183⟩, -, X183, ⟨Lc183, hQ183, l183, y183, z183⟩, st183⟩ := X182.virtualBack hx (y := (⟨"com/example/commitlog/commitlog/codec/JsonWriter", "length", "()I"⟩ : MethodName)) (z := (⟨"com/example/commitlog/commitlog/codec/JsonWriter", "length", "()I"⟩ : MethodName)) hown162 (mvT hZ162 (hw _ (List.mem_of_getElem? (i := 27) rfl))) (mvT hZ162 (hw _ (List.mem_of_getElem? (i := 28) rfl))) (notFace_of_selects (args := #[]) (mvT hZ162 (hw _ (List.mem_of_getElem? (i := 30) rfl)))) (mvT hZ162 (hw _ (List.mem_of_getElem? (i := 30) rfl))) (mvT hZ162 (hw _ (List.mem_of_getElem? (i := 29) rfl))) (by decide) (backOf (W := 0) (rm5 l Z A0 hw [] b3 (.ref bx180) (4 : Int32) (0 : Int32) T180.heap n0 (Nat.le_trans Z0 K180.1) G181 Fb180 Fl180 Fa180) hZ162 (hw _ (List.mem_of_getElem? (i := 31) rfl)) (hw _ (List.mem_of_getElem? (i := 3) rfl)) (by decide) (by decide)) q183a q183c (g := (mkF m 148 #[.val (.int p0), .val (.int p1), .val (.long q2), .second, .val (.int p3), .val (.int (p0 &&& (31 : Int32))), .val (.int v2), .val (.ref b3), .val (.ref bx103), .val (.int (Int32.ofNat zx103)), .val (.ref b3), .val (.ref bx103), .val (.ref bx180)] [(.ref b3)])) rfl (by rw [hml]; rfl) (Steps.refl _) (argsL := []) (rest := []) (lenOf pd_4 rfl) rfl (by show 2 * 0 + _ ≤ _; exact Nat.le_of_eq rfl) (hb hby at_148) (fun _ _ => ⟨rfl, e182, (by decide : 7 + 0 ≤ _), (by decide : 234 + 0 ≤ _)⟩)
      dsimp only [Pt.U, Pt.locs, Pt.cells, Pt.slots] at X183 l183 y183 z183 st183 hQ183
      subst l183 y183 z183
      obtain ⟨rfl, N183q, e183⟩ := hQ183
      have N183 := Fr.app N182 N183q
      have hi184 : own_in (0 : Int32) zx180 := ⟨by decide, by have z := x180_0; have k : (0 : Int32).toInt = 0 := (by decide); omega⟩
      have hk185 : (fx180 0) = (34 : Int32) := x180_1
      have hi186 : own_in (1 : Int32) zx180 := ⟨by decide, by have z := x180_0; have k : (1 : Int32).toInt = 1 := (by decide); omega⟩
      have hk187 : (fx180 1) = (97 : Int32) := x180_2
      have hi188 : own_in (2 : Int32) zx180 := ⟨by decide, by have z := x180_0; have k : (2 : Int32).toInt = 2 := (by decide); omega⟩
      have hk189 : (fx180 2) = (34 : Int32) := x180_3
      have hi190 : own_in (3 : Int32) zx180 := ⟨by decide, by have z := x180_0; have k : (3 : Int32).toInt = 3 := (by decide); omega⟩
      have hk191 : (fx180 3) = (58 : Int32) := x180_4
      have G192 : k162 ≤ T180.heap.size := (Nat.le_trans LE162 Kc180.1)
      obtain ⟨fs, hr, hrun, hended, hRW⟩ := X183.leaveW SI162 (by rw [e183]; exact G192) (v := some (.int (1 : Int32))) (fun h => by rw [Bd.returns] at h; cases h)
      refine ⟨_, _, pre0 _ (ck12 _ (ck106 _ ?_)), hrun, hended, _, _, rfl, ?_, hRW.1, hRW.2.1, hRW.2.2.1, hRW.2.2.2.mono (by decide) (by decide)⟩
      · show Steps p.tables e below (T105.setTop (mkF m 67 #[.val (.int p0), .val (.int p1), .val (.long q2), .second, .val (.int p3), .val (.int (p0 &&& (31 : Int32))), .val (.int v2), .val (.ref b3), .val (.ref bx103), .val (.int (Int32.ofNat zx103)), .unset, .unset, .unset] [(.int v2), (.ref b3)])) _
        refine st153.trans ?_
        show Steps p.tables e below (T153.setTop (mkF m 70 #[.val (.int p0), .val (.int p1), .val (.long q2), .second, .val (.int p3), .val (.int (p0 &&& (31 : Int32))), .val (.int v2), .val (.ref b3), .val (.ref bx103), .val (.int (Int32.ofNat zx103)), .unset, .unset, .unset] [(.ref b3)])) _
        refine XS.astore X153.here hx rfl (hb hby at_70) rfl rfl (l' := #[.val (.int p0), .val (.int p1), .val (.long q2), .second, .val (.int p3), .val (.int (p0 &&& (31 : Int32))), .val (.int v2), .val (.ref b3), .val (.ref bx103), .val (.int (Int32.ofNat zx103)), .val (.ref b3), .unset, .unset]) rfl ?_
        show Steps p.tables e below (T153.setTop (mkF m 72 #[.val (.int p0), .val (.int p1), .val (.long q2), .second, .val (.int p3), .val (.int (p0 &&& (31 : Int32))), .val (.int v2), .val (.ref b3), .val (.ref bx103), .val (.int (Int32.ofNat zx103)), .val (.ref b3), .unset, .unset] [])) _
        refine XS.aload X153.here hx rfl (hb hby at_72) rfl rfl ?_
        show Steps p.tables e below (T153.setTop (mkF m 74 #[.val (.int p0), .val (.int p1), .val (.long q2), .second, .val (.int p3), .val (.int (p0 &&& (31 : Int32))), .val (.int v2), .val (.ref b3), .val (.ref bx103), .val (.int (Int32.ofNat zx103)), .val (.ref b3), .unset, .unset] [(.ref b3)])) _
        refine XS.aload X153.here hx rfl (hb hby at_74) rfl rfl ?_
        show Steps p.tables e below (T153.setTop (mkF m 76 #[.val (.int p0), .val (.int p1), .val (.long q2), .second, .val (.int p3), .val (.int (p0 &&& (31 : Int32))), .val (.int v2), .val (.ref b3), .val (.ref bx103), .val (.int (Int32.ofNat zx103)), .val (.ref b3), .unset, .unset] [(.ref b3), (.ref b3)])) _
        refine XS.acmpYes X153.here hx rfl (pc0 := 76) (pc' := 81) rfl (hb hby at_76) rfl (own_aeqT rfl) (by decide) (by decide) ?_
        show Steps p.tables e below (T153.setTop (mkF m 81 #[.val (.int p0), .val (.int p1), .val (.long q2), .second, .val (.int p3), .val (.int (p0 &&& (31 : Int32))), .val (.int v2), .val (.ref b3), .val (.ref bx103), .val (.int (Int32.ofNat zx103)), .val (.ref b3), .unset, .unset] [])) _
        refine XS.aload X153.here hx rfl (hb hby at_81) rfl rfl ?_
        show Steps p.tables e below (T153.setTop (mkF m 83 #[.val (.int p0), .val (.int p1), .val (.long q2), .second, .val (.int p3), .val (.int (p0 &&& (31 : Int32))), .val (.int v2), .val (.ref b3), .val (.ref bx103), .val (.int (Int32.ofNat zx103)), .val (.ref b3), .unset, .unset] [(.ref b3)])) _
        refine st158.trans ?_
        show Steps p.tables e below (T158.setTop (mkF m 86 #[.val (.int p0), .val (.int p1), .val (.long q2), .second, .val (.int p3), .val (.int (p0 &&& (31 : Int32))), .val (.int v2), .val (.ref b3), .val (.ref bx103), .val (.int (Int32.ofNat zx103)), .val (.ref b3), .unset, .unset] [(.int (0 : Int32))])) _
        refine XS.ifYes X158.here hx rfl (pc0 := 86) (pc' := 91) rfl (hb hby at_86) rfl ((if0 _ _).trans (teq (by decide)).1) (by decide) (by decide) ?_
        show Steps p.tables e below (T158.setTop (mkF m 91 #[.val (.int p0), .val (.int p1), .val (.long q2), .second, .val (.int p3), .val (.int (p0 &&& (31 : Int32))), .val (.int v2), .val (.ref b3), .val (.ref bx103), .val (.int (Int32.ofNat zx103)), .val (.ref b3), .unset, .unset] [])) _
        refine XS.aload X158.here hx rfl (hb hby at_91) rfl rfl ?_
        show Steps p.tables e below (T158.setTop (mkF m 93 #[.val (.int p0), .val (.int p1), .val (.long q2), .second, .val (.int p3), .val (.int (p0 &&& (31 : Int32))), .val (.int v2), .val (.ref b3), .val (.ref bx103), .val (.int (Int32.ofNat zx103)), .val (.ref b3), .unset, .unset] [(.ref b3)])) _
        refine st159.trans ?_
        show Steps p.tables e below (T159.setTop (mkF m 96 #[.val (.int p0), .val (.int p1), .val (.long q2), .second, .val (.int p3), .val (.int (p0 &&& (31 : Int32))), .val (.int v2), .val (.ref b3), .val (.ref bx103), .val (.int (Int32.ofNat zx103)), .val (.ref b3), .unset, .unset] [(.ref bx103)])) _
        refine XS.astore X159.here hx rfl (hb hby at_96) rfl rfl (l' := #[.val (.int p0), .val (.int p1), .val (.long q2), .second, .val (.int p3), .val (.int (p0 &&& (31 : Int32))), .val (.int v2), .val (.ref b3), .val (.ref bx103), .val (.int (Int32.ofNat zx103)), .val (.ref b3), .val (.ref bx103), .unset]) rfl ?_
        show Steps p.tables e below (T159.setTop (mkF m 98 #[.val (.int p0), .val (.int p1), .val (.long q2), .second, .val (.int p3), .val (.int (p0 &&& (31 : Int32))), .val (.int v2), .val (.ref b3), .val (.ref bx103), .val (.int (Int32.ofNat zx103)), .val (.ref b3), .val (.ref bx103), .unset] [])) _
        refine XS.iload X159.here hx rfl (hb hby at_98) rfl ?_
        show Steps p.tables e below (T159.setTop (mkF m 100 #[.val (.int p0), .val (.int p1), .val (.long q2), .second, .val (.int p3), .val (.int (p0 &&& (31 : Int32))), .val (.int v2), .val (.ref b3), .val (.ref bx103), .val (.int (Int32.ofNat zx103)), .val (.ref b3), .val (.ref bx103), .unset] [(.int (Int32.ofNat zx103))])) _
        refine XS.iload X159.here hx rfl (hb hby at_100) rfl ?_
        show Steps p.tables e below (T159.setTop (mkF m 102 #[.val (.int p0), .val (.int p1), .val (.long q2), .second, .val (.int p3), .val (.int (p0 &&& (31 : Int32))), .val (.int v2), .val (.ref b3), .val (.ref bx103), .val (.int (Int32.ofNat zx103)), .val (.ref b3), .val (.ref bx103), .unset] [(.int v2), (.int (Int32.ofNat zx103))])) _
        refine XS.icmpYes X159.here hx rfl (pc0 := 102) (pc' := 122) rfl (hb hby at_102) rfl (flt hk160).2.2.2 (by decide) (by decide) ?_
        show Steps p.tables e below (T159.setTop (mkF m 122 #[.val (.int p0), .val (.int p1), .val (.long q2), .second, .val (.int p3), .val (.int (p0 &&& (31 : Int32))), .val (.int v2), .val (.ref b3), .val (.ref bx103), .val (.int (Int32.ofNat zx103)), .val (.ref b3), .val (.ref bx103), .unset] [])) _
        refine XS.aload X159.here hx rfl (hb hby at_122) rfl rfl ?_
        show Steps p.tables e below (T159.setTop (mkF m 124 #[.val (.int p0), .val (.int p1), .val (.long q2), .second, .val (.int p3), .val (.int (p0 &&& (31 : Int32))), .val (.int v2), .val (.ref b3), .val (.ref bx103), .val (.int (Int32.ofNat zx103)), .val (.ref b3), .val (.ref bx103), .unset] [(.ref bx103)])) _
        refine XS.aload X159.here hx rfl (hb hby at_124) rfl rfl ?_
        show Steps p.tables e below (T159.setTop (mkF m 126 #[.val (.int p0), .val (.int p1), .val (.long q2), .second, .val (.int p3), .val (.int (p0 &&& (31 : Int32))), .val (.int v2), .val (.ref b3), .val (.ref bx103), .val (.int (Int32.ofNat zx103)), .val (.ref b3), .val (.ref bx103), .unset] [(.ref bx103), (.ref bx103)])) _
        refine XS.acmpYes X159.here hx rfl (pc0 := 126) (pc' := 131) rfl (hb hby at_126) rfl (own_aeqT rfl) (by decide) (by decide) ?_
        show Steps p.tables e below (T159.setTop (mkF m 131 #[.val (.int p0), .val (.int p1), .val (.long q2), .second, .val (.int p3), .val (.int (p0 &&& (31 : Int32))), .val (.int v2), .val (.ref b3), .val (.ref bx103), .val (.int (Int32.ofNat zx103)), .val (.ref b3), .val (.ref bx103), .unset] [])) _
        refine XS.aload X159.here hx rfl (hb hby at_131) rfl rfl ?_
        show Steps p.tables e below (T159.setTop (mkF m 133 #[.val (.int p0), .val (.int p1), .val (.long q2), .second, .val (.int p3), .val (.int (p0 &&& (31 : Int32))), .val (.int v2), .val (.ref b3), .val (.ref bx103), .val (.int (Int32.ofNat zx103)), .val (.ref b3), .val (.ref bx103), .unset] [(.ref b3)])) _
        refine st162 _ ?_
        show Steps p.tables e below (T162.setTop (mkF m 135 #[.val (.int p0), .val (.int p1), .val (.long q2), .second, .val (.int p3), .val (.int (p0 &&& (31 : Int32))), .val (.int v2), .val (.ref b3), .val (.ref bx103), .val (.int (Int32.ofNat zx103)), .val (.ref b3), .val (.ref bx103), .unset] [(.ref as162), (.ref b3)])) _
        refine st180.trans ?_
        show Steps p.tables e below (T180.setTop (mkF m 138 #[.val (.int p0), .val (.int p1), .val (.long q2), .second, .val (.int p3), .val (.int (p0 &&& (31 : Int32))), .val (.int v2), .val (.ref b3), .val (.ref bx103), .val (.int (Int32.ofNat zx103)), .val (.ref b3), .val (.ref bx103), .unset] [(.ref b3)])) _
        refine XS.pop X180.here hx rfl (hb hby at_138) rfl rfl ?_
        show Steps p.tables e below (T180.setTop (mkF m 139 #[.val (.int p0), .val (.int p1), .val (.long q2), .second, .val (.int p3), .val (.int (p0 &&& (31 : Int32))), .val (.int v2), .val (.ref b3), .val (.ref bx103), .val (.int (Int32.ofNat zx103)), .val (.ref b3), .val (.ref bx103), .unset] [])) _
        refine XS.aload X180.here hx rfl (hb hby at_139) rfl rfl ?_
        show Steps p.tables e below (T180.setTop (mkF m 141 #[.val (.int p0), .val (.int p1), .val (.long q2), .second, .val (.int p3), .val (.int (p0 &&& (31 : Int32))), .val (.int v2), .val (.ref b3), .val (.ref bx103), .val (.int (Int32.ofNat zx103)), .val (.ref b3), .val (.ref bx103), .unset] [(.ref b3)])) _
        refine st182.trans ?_
        show Steps p.tables e below (T182.setTop (mkF m 144 #[.val (.int p0), .val (.int p1), .val (.long q2), .second, .val (.int p3), .val (.int (p0 &&& (31 : Int32))), .val (.int v2), .val (.ref b3), .val (.ref bx103), .val (.int (Int32.ofNat zx103)), .val (.ref b3), .val (.ref bx103), .unset] [(.ref bx180)])) _
        refine XS.astore X182.here hx rfl (hb hby at_144) rfl rfl (l' := #[.val (.int p0), .val (.int p1), .val (.long q2), .second, .val (.int p3), .val (.int (p0 &&& (31 : Int32))), .val (.int v2), .val (.ref b3), .val (.ref bx103), .val (.int (Int32.ofNat zx103)), .val (.ref b3), .val (.ref bx103), .val (.ref bx180)]) rfl ?_
        show Steps p.tables e below (T182.setTop (mkF m 146 #[.val (.int p0), .val (.int p1), .val (.long q2), .second, .val (.int p3), .val (.int (p0 &&& (31 : Int32))), .val (.int v2), .val (.ref b3), .val (.ref bx103), .val (.int (Int32.ofNat zx103)), .val (.ref b3), .val (.ref bx103), .val (.ref bx180)] [])) _
        refine XS.aload X182.here hx rfl (hb hby at_146) rfl rfl ?_
        show Steps p.tables e below (T182.setTop (mkF m 148 #[.val (.int p0), .val (.int p1), .val (.long q2), .second, .val (.int p3), .val (.int (p0 &&& (31 : Int32))), .val (.int v2), .val (.ref b3), .val (.ref bx103), .val (.int (Int32.ofNat zx103)), .val (.ref b3), .val (.ref bx103), .val (.ref bx180)] [(.ref b3)])) _
        refine st183.trans ?_
        show Steps p.tables e below (T183.setTop (mkF m 151 #[.val (.int p0), .val (.int p1), .val (.long q2), .second, .val (.int p3), .val (.int (p0 &&& (31 : Int32))), .val (.int v2), .val (.ref b3), .val (.ref bx103), .val (.int (Int32.ofNat zx103)), .val (.ref b3), .val (.ref bx103), .val (.ref bx180)] [(.int (4 : Int32))])) _
        refine XS.iconst X183.here hx rfl (hb hby at_151) ?_
        show Steps p.tables e below (T183.setTop (mkF m 152 #[.val (.int p0), .val (.int p1), .val (.long q2), .second, .val (.int p3), .val (.int (p0 &&& (31 : Int32))), .val (.int v2), .val (.ref b3), .val (.ref bx103), .val (.int (Int32.ofNat zx103)), .val (.ref b3), .val (.ref bx103), .val (.ref bx180)] [(.int (4 : Int32)), (.int (4 : Int32))])) _
        refine XS.icmpNo X183.here hx rfl (hb hby at_152) rfl (teq (by decide)).2 ?_
        show Steps p.tables e below (T183.setTop (mkF m 155 #[.val (.int p0), .val (.int p1), .val (.long q2), .second, .val (.int p3), .val (.int (p0 &&& (31 : Int32))), .val (.int v2), .val (.ref b3), .val (.ref bx103), .val (.int (Int32.ofNat zx103)), .val (.ref b3), .val (.ref bx103), .val (.ref bx180)] [])) _
        refine XS.aload X183.here hx rfl (hb hby at_155) rfl rfl ?_
        show Steps p.tables e below (T183.setTop (mkF m 157 #[.val (.int p0), .val (.int p1), .val (.long q2), .second, .val (.int p3), .val (.int (p0 &&& (31 : Int32))), .val (.int v2), .val (.ref b3), .val (.ref bx103), .val (.int (Int32.ofNat zx103)), .val (.ref b3), .val (.ref bx103), .val (.ref bx180)] [(.ref bx180)])) _
        refine XS.iconst X183.here hx rfl (hb hby at_157) ?_
        show Steps p.tables e below (T183.setTop (mkF m 158 #[.val (.int p0), .val (.int p1), .val (.long q2), .second, .val (.int p3), .val (.int (p0 &&& (31 : Int32))), .val (.int v2), .val (.ref b3), .val (.ref bx103), .val (.int (Int32.ofNat zx103)), .val (.ref b3), .val (.ref bx103), .val (.ref bx180)] [(.int (0 : Int32)), (.ref bx180)])) _
        refine AF.ldB X183 hx hZ162 e183 A180 hi184 (g := (mkF m 158 #[.val (.int p0), .val (.int p1), .val (.long q2), .second, .val (.int p3), .val (.int (p0 &&& (31 : Int32))), .val (.int v2), .val (.ref b3), .val (.ref bx103), .val (.int (Int32.ofNat zx103)), .val (.ref b3), .val (.ref bx103), .val (.ref bx180)] [(.int (0 : Int32)), (.ref bx180)])) rfl rfl (hb hby at_158) _ ?_
        show Steps p.tables e below (T183.setTop (mkF m 159 #[.val (.int p0), .val (.int p1), .val (.long q2), .second, .val (.int p3), .val (.int (p0 &&& (31 : Int32))), .val (.int v2), .val (.ref b3), .val (.ref bx103), .val (.int (Int32.ofNat zx103)), .val (.ref b3), .val (.ref bx103), .val (.ref bx180)] [(.int (fx180 0))])) _
        refine XS.bipush X183.here hx rfl (hb hby at_159) ?_
        show Steps p.tables e below (T183.setTop (mkF m 161 #[.val (.int p0), .val (.int p1), .val (.long q2), .second, .val (.int p3), .val (.int (p0 &&& (31 : Int32))), .val (.int v2), .val (.ref b3), .val (.ref bx103), .val (.int (Int32.ofNat zx103)), .val (.ref b3), .val (.ref bx103), .val (.ref bx180)] [(.int (34 : Int32)), (.int (fx180 0))])) _
        refine XS.icmpNo X183.here hx rfl (hb hby at_161) rfl (teq hk185).2 ?_
        show Steps p.tables e below (T183.setTop (mkF m 164 #[.val (.int p0), .val (.int p1), .val (.long q2), .second, .val (.int p3), .val (.int (p0 &&& (31 : Int32))), .val (.int v2), .val (.ref b3), .val (.ref bx103), .val (.int (Int32.ofNat zx103)), .val (.ref b3), .val (.ref bx103), .val (.ref bx180)] [])) _
        refine XS.aload X183.here hx rfl (hb hby at_164) rfl rfl ?_
        show Steps p.tables e below (T183.setTop (mkF m 166 #[.val (.int p0), .val (.int p1), .val (.long q2), .second, .val (.int p3), .val (.int (p0 &&& (31 : Int32))), .val (.int v2), .val (.ref b3), .val (.ref bx103), .val (.int (Int32.ofNat zx103)), .val (.ref b3), .val (.ref bx103), .val (.ref bx180)] [(.ref bx180)])) _
        refine XS.iconst X183.here hx rfl (hb hby at_166) ?_
        show Steps p.tables e below (T183.setTop (mkF m 167 #[.val (.int p0), .val (.int p1), .val (.long q2), .second, .val (.int p3), .val (.int (p0 &&& (31 : Int32))), .val (.int v2), .val (.ref b3), .val (.ref bx103), .val (.int (Int32.ofNat zx103)), .val (.ref b3), .val (.ref bx103), .val (.ref bx180)] [(.int (1 : Int32)), (.ref bx180)])) _
        refine AF.ldB X183 hx hZ162 e183 A180 hi186 (g := (mkF m 167 #[.val (.int p0), .val (.int p1), .val (.long q2), .second, .val (.int p3), .val (.int (p0 &&& (31 : Int32))), .val (.int v2), .val (.ref b3), .val (.ref bx103), .val (.int (Int32.ofNat zx103)), .val (.ref b3), .val (.ref bx103), .val (.ref bx180)] [(.int (1 : Int32)), (.ref bx180)])) rfl rfl (hb hby at_167) _ ?_
        show Steps p.tables e below (T183.setTop (mkF m 168 #[.val (.int p0), .val (.int p1), .val (.long q2), .second, .val (.int p3), .val (.int (p0 &&& (31 : Int32))), .val (.int v2), .val (.ref b3), .val (.ref bx103), .val (.int (Int32.ofNat zx103)), .val (.ref b3), .val (.ref bx103), .val (.ref bx180)] [(.int (fx180 1))])) _
        refine XS.bipush X183.here hx rfl (hb hby at_168) ?_
        show Steps p.tables e below (T183.setTop (mkF m 170 #[.val (.int p0), .val (.int p1), .val (.long q2), .second, .val (.int p3), .val (.int (p0 &&& (31 : Int32))), .val (.int v2), .val (.ref b3), .val (.ref bx103), .val (.int (Int32.ofNat zx103)), .val (.ref b3), .val (.ref bx103), .val (.ref bx180)] [(.int (97 : Int32)), (.int (fx180 1))])) _
        refine XS.icmpNo X183.here hx rfl (hb hby at_170) rfl (teq hk187).2 ?_
        show Steps p.tables e below (T183.setTop (mkF m 173 #[.val (.int p0), .val (.int p1), .val (.long q2), .second, .val (.int p3), .val (.int (p0 &&& (31 : Int32))), .val (.int v2), .val (.ref b3), .val (.ref bx103), .val (.int (Int32.ofNat zx103)), .val (.ref b3), .val (.ref bx103), .val (.ref bx180)] [])) _
        refine XS.aload X183.here hx rfl (hb hby at_173) rfl rfl ?_
        show Steps p.tables e below (T183.setTop (mkF m 175 #[.val (.int p0), .val (.int p1), .val (.long q2), .second, .val (.int p3), .val (.int (p0 &&& (31 : Int32))), .val (.int v2), .val (.ref b3), .val (.ref bx103), .val (.int (Int32.ofNat zx103)), .val (.ref b3), .val (.ref bx103), .val (.ref bx180)] [(.ref bx180)])) _
        refine XS.iconst X183.here hx rfl (hb hby at_175) ?_
        show Steps p.tables e below (T183.setTop (mkF m 176 #[.val (.int p0), .val (.int p1), .val (.long q2), .second, .val (.int p3), .val (.int (p0 &&& (31 : Int32))), .val (.int v2), .val (.ref b3), .val (.ref bx103), .val (.int (Int32.ofNat zx103)), .val (.ref b3), .val (.ref bx103), .val (.ref bx180)] [(.int (2 : Int32)), (.ref bx180)])) _
        refine AF.ldB X183 hx hZ162 e183 A180 hi188 (g := (mkF m 176 #[.val (.int p0), .val (.int p1), .val (.long q2), .second, .val (.int p3), .val (.int (p0 &&& (31 : Int32))), .val (.int v2), .val (.ref b3), .val (.ref bx103), .val (.int (Int32.ofNat zx103)), .val (.ref b3), .val (.ref bx103), .val (.ref bx180)] [(.int (2 : Int32)), (.ref bx180)])) rfl rfl (hb hby at_176) _ ?_
        show Steps p.tables e below (T183.setTop (mkF m 177 #[.val (.int p0), .val (.int p1), .val (.long q2), .second, .val (.int p3), .val (.int (p0 &&& (31 : Int32))), .val (.int v2), .val (.ref b3), .val (.ref bx103), .val (.int (Int32.ofNat zx103)), .val (.ref b3), .val (.ref bx103), .val (.ref bx180)] [(.int (fx180 2))])) _
        refine XS.bipush X183.here hx rfl (hb hby at_177) ?_
        show Steps p.tables e below (T183.setTop (mkF m 179 #[.val (.int p0), .val (.int p1), .val (.long q2), .second, .val (.int p3), .val (.int (p0 &&& (31 : Int32))), .val (.int v2), .val (.ref b3), .val (.ref bx103), .val (.int (Int32.ofNat zx103)), .val (.ref b3), .val (.ref bx103), .val (.ref bx180)] [(.int (34 : Int32)), (.int (fx180 2))])) _
        refine XS.icmpNo X183.here hx rfl (hb hby at_179) rfl (teq hk189).2 ?_
        show Steps p.tables e below (T183.setTop (mkF m 182 #[.val (.int p0), .val (.int p1), .val (.long q2), .second, .val (.int p3), .val (.int (p0 &&& (31 : Int32))), .val (.int v2), .val (.ref b3), .val (.ref bx103), .val (.int (Int32.ofNat zx103)), .val (.ref b3), .val (.ref bx103), .val (.ref bx180)] [])) _
        refine XS.aload X183.here hx rfl (hb hby at_182) rfl rfl ?_
        show Steps p.tables e below (T183.setTop (mkF m 184 #[.val (.int p0), .val (.int p1), .val (.long q2), .second, .val (.int p3), .val (.int (p0 &&& (31 : Int32))), .val (.int v2), .val (.ref b3), .val (.ref bx103), .val (.int (Int32.ofNat zx103)), .val (.ref b3), .val (.ref bx103), .val (.ref bx180)] [(.ref bx180)])) _
        refine XS.iconst X183.here hx rfl (hb hby at_184) ?_
        show Steps p.tables e below (T183.setTop (mkF m 185 #[.val (.int p0), .val (.int p1), .val (.long q2), .second, .val (.int p3), .val (.int (p0 &&& (31 : Int32))), .val (.int v2), .val (.ref b3), .val (.ref bx103), .val (.int (Int32.ofNat zx103)), .val (.ref b3), .val (.ref bx103), .val (.ref bx180)] [(.int (3 : Int32)), (.ref bx180)])) _
        refine AF.ldB X183 hx hZ162 e183 A180 hi190 (g := (mkF m 185 #[.val (.int p0), .val (.int p1), .val (.long q2), .second, .val (.int p3), .val (.int (p0 &&& (31 : Int32))), .val (.int v2), .val (.ref b3), .val (.ref bx103), .val (.int (Int32.ofNat zx103)), .val (.ref b3), .val (.ref bx103), .val (.ref bx180)] [(.int (3 : Int32)), (.ref bx180)])) rfl rfl (hb hby at_185) _ ?_
        show Steps p.tables e below (T183.setTop (mkF m 186 #[.val (.int p0), .val (.int p1), .val (.long q2), .second, .val (.int p3), .val (.int (p0 &&& (31 : Int32))), .val (.int v2), .val (.ref b3), .val (.ref bx103), .val (.int (Int32.ofNat zx103)), .val (.ref b3), .val (.ref bx103), .val (.ref bx180)] [(.int (fx180 3))])) _
        refine XS.bipush X183.here hx rfl (hb hby at_186) ?_
        show Steps p.tables e below (T183.setTop (mkF m 188 #[.val (.int p0), .val (.int p1), .val (.long q2), .second, .val (.int p3), .val (.int (p0 &&& (31 : Int32))), .val (.int v2), .val (.ref b3), .val (.ref bx103), .val (.int (Int32.ofNat zx103)), .val (.ref b3), .val (.ref bx103), .val (.ref bx180)] [(.int (58 : Int32)), (.int (fx180 3))])) _
        refine XS.icmpNo X183.here hx rfl (hb hby at_188) rfl (teq hk191).2 ?_
        show Steps p.tables e below (T183.setTop (mkF m 191 #[.val (.int p0), .val (.int p1), .val (.long q2), .second, .val (.int p3), .val (.int (p0 &&& (31 : Int32))), .val (.int v2), .val (.ref b3), .val (.ref bx103), .val (.int (Int32.ofNat zx103)), .val (.ref b3), .val (.ref bx103), .val (.ref bx180)] [])) _
        refine XS.iconst X183.here hx rfl (hb hby at_191) ?_
        show Steps p.tables e below (T183.setTop (mkF m 192 #[.val (.int p0), .val (.int p1), .val (.long q2), .second, .val (.int p3), .val (.int (p0 &&& (31 : Int32))), .val (.int v2), .val (.ref b3), .val (.ref bx103), .val (.int (Int32.ofNat zx103)), .val (.ref b3), .val (.ref bx103), .val (.ref bx180)] [(.int (1 : Int32))])) _
        refine XS.goto X183.here hx rfl (pc0 := 192) (pc' := 196) rfl (hb hby at_192) (by decide) (by decide) ?_
        show Steps p.tables e below (T183.setTop (mkF m 196 #[.val (.int p0), .val (.int p1), .val (.long q2), .second, .val (.int p3), .val (.int (p0 &&& (31 : Int32))), .val (.int v2), .val (.ref b3), .val (.ref bx103), .val (.int (Int32.ofNat zx103)), .val (.ref b3), .val (.ref bx103), .val (.ref bx180)] [(.int (1 : Int32))])) _
        exact retN X183 hx (t := .boolean) Bd.returns (by simp) (hb hby at_196) hr
      · show Q0 h0 n0 _ T183.heap _
        exact ⟨rfl, N183⟩
set_option maxRecDepth 65536 in
set_option maxHeartbeats 40000000 in
theorem comes_1 {Post : Tables → Env → Array Value → State → Outcome → State → Prop} (hpost : ∀ tb e args s v u, (limb_1_1.after args s (.returned v) u = true ∧ limb_1_2.after args s (.returned v) u = true ∧ True) → ReturnedEndW s (.returned v) u (Jvm.fieldLocs frame_1_writes args s ++ Jvm.arrayLocs frame_1_arrays args s ++ Jvm.staticLocs frame_1_statics s) 24 1280 → Post tb e args s (.returned v) u) :
    ArmFor flags0 classFile x code maxLocals ret World_1 tables_1 room_1 Calls_1 rest_1 Pre_1 Post := by
  intro l hfl _ _ p e ha hc hk s m args below hf hA hF happ hP
  obtain ⟨hcalls, hrest, hpre⟩ := hP
  obtain ⟨-, -, -, hnamed, -, -, -, hat⟩ := (Spec.applies_iff hf).mp happ
  obtain ⟨hg, hn⟩ := and_e (Cond.before_iff.mp (show (Jvm.Cond.and given_1 narrow_1).before args s = true from hpre))
  obtain ⟨gg1, gg2⟩ := and_e hg
  obtain ⟨gg3, gg4⟩ := and_e gg2
  obtain ⟨gg5, gg6⟩ := and_e gg4
  obtain ⟨gg7, gg8⟩ := and_e gg6
  obtain ⟨w0, w1, w2, w3, rfl⟩ : ∃ w0 w1 w2 w3 : Value, args = #[w0, w1, w2, w3] := by
    have hs : args.size = 4 := by simpa [Cond.value, given_1] using gg1
    obtain ⟨L⟩ := args
    match L, hs with
    | [w0, w1, w2, w3], _ => exact ⟨w0, w1, w2, w3, rfl⟩
  have hw := fun d (hd : d ∈ tables_1) => atoms_spec (ws := Jvm.Cond.code x code maxLocals ret :: tables_1) hat d (List.mem_cons_of_mem _ hd)
  have hfit : Fit s := fun {y c} hc i hi => by
    obtain ⟨ha, rfl⟩ := Array.getElem?_eq_some_iff.mp hc
    have q := List.all_eq_true.mp ((Array.all_eq_true_iff_forall_mem.mp hF) _ (Array.getElem_mem ha)) i (List.mem_range.mpr hi)
    simpa [Array.getElem?_eq_getElem hi] using q
  obtain ⟨hsets, hown0⟩ := atoms_of _ (rest_1_c_eq ▸ (show rest_1_c.before _ s = true from hrest))
  have hr0 := Cond.before_iff.mp hown0
  obtain ⟨i0, ei0⟩ := is_v gg3
  obtain rfl : w0 = (.int i0) := Option.some.inj ei0
  obtain ⟨i1, ei1⟩ := is_v gg5
  obtain rfl : w1 = (.int i1) := Option.some.inj ei1
  obtain ⟨i2, ei2⟩ := isL_v gg7
  obtain rfl : w2 = (.long i2) := Option.some.inj ei2
  obtain ⟨i3, ei3⟩ := is_v gg8
  obtain rfl : w3 = (.int i3) := Option.some.inj ei3
  obtain ⟨cz, ecz⟩ := is_v (Cond.before_iff.mp (hsets _ (List.mem_of_getElem? (i := 1) rfl)))
  have nv := not_v (Cond.before_iff.mp (hsets _ (List.mem_of_getElem? (i := 2) rfl)))
  have hcz : ¬ (cz = (0 : Int32)) := fun z => by
    subst z
    have q := eq_i ecz (Term.int_eval 0) rfl
    rw [q] at nv
    cases nv
  obtain ⟨fz, efz, rfz⟩ := isR_v (Cond.before_iff.mp (hsets _ (List.mem_of_getElem? (i := 8) rfl)))
  have SS1 : Sta s s.heap "java/lang/String" "COMPACT_STRINGS" "Z" (.int cz) := Sta.start ecz (Or.inl (hsets _ (List.mem_of_getElem? (i := 0) rfl)))
  have SS2 : Sta s s.heap "jdk/internal/util/Preconditions" "SIOOBE_FORMATTER" "Ljava/util/function/BiFunction;" fz := Sta.start efz (Or.inl (hsets _ (List.mem_of_getElem? (i := 7) rfl)))
  obtain ⟨n, o, h1, h2, h3, _, L, rfl, ⟨rfl, N⟩, hq⟩ := rm0 l s _ hw tables_1 i0 i1 i2 i3 cz fz s.heap s.heap.size (Nat.le_refl _) ⟨SS1, Old.start s⟩ ⟨SS2, Old.start s⟩ rfl (hcalls.1 ("com/example/commitlog/commitlog/codec/JsonWriterResetPinLaw", 29) (List.mem_of_getElem? (i := 0) rfl)) (hsets _ (List.mem_of_getElem? (i := 2) rfl)) hcz rfz p e ha hc hk s m _ below hf ((Spec.applies_iff_loose hf).mp happ).1 ⟨rfl, rfl, rfl⟩ trivial
  refine ⟨n, _, h1, h2, h3, hpost _ _ _ _ _ _ ⟨Cond.after_iff.mpr rfl, Cond.after_iff.mpr (eq_i res_at (Term.int_eval (1)) rfl), trivial⟩ ⟨hq.1, hq.2.1, hq.2.2.1, (hq.2.2.2.sift fun y hy => Or.inr (N y hy)).mono (by decide) (by decide)⟩⟩
theorem main_1_1 : Claimed_1_1 := comes_1 fun _ _ _ _ _ _ h hF => ⟨h.1, hF⟩
theorem main_1_2 : Claimed_1_2 := comes_1 fun _ _ _ _ _ _ h hF => ⟨h.2.1, hF⟩
end Jvm.Pilot.@@N@@
namespace Jvm.Pilot.@@N@@
open Jvm Jvm.ClassFile Sem Op Lib Jvm.Free Jvm.Stand Jvm.Pilot.@@N@@.Jvm.D
/-! MADE BY PROGRAM (witnessworld.py) out of the Statement's table words and the real class files: 20 classes; the members and pool entries that the words name. The judged class is class 1, her method 1. -/
namespace start1
open Jvm.ClassFile
def u (s : String) : CpInfo := .utf8 (stringToUtf16 s)
/-- a pool by its gaps: so many unusable entries, then the entry; so many at the end -/
def gap : Nat → List CpInfo → List CpInfo
  | 0, r => r
  | n + 1, r => .unusable :: gap n r
def poolList (es : List (Nat × CpInfo)) (last : Nat) : List CpInfo := es.foldr (fun e r => gap e.1 (e.2 :: r)) (gap last [])
def pool (es : List (Nat × CpInfo)) (last : Nat) : Array CpInfo := ⟨poolList es last⟩
def fileOf (pool : Array CpInfo) (this : Nat) (attrs : Array Attribute := #[]) (ms : Array MethodInfo := #[]) (fl : Nat := 33) (sup : Nat := 0) (ifs : Array Nat := #[]) (fds : Array FieldInfo := #[]) : ClassFile where
  minorVersion := 0
  majorVersion := 65
  constantPool := pool
  accessFlags := fl
  thisClass := this
  superClass := sup
  interfaces := ifs
  fields := fds
  methods := ms
  attributes := attrs
def plain (name : String) (sup : Option ClassId) : Class where
  name := name
  kind := .ordinary
  loader := none
  accessFlags := 33
  super := sup
  interfaces := #[]
  cf := none
  fields := #[]
  methods := #[]
  instanceTypes := #[]
  staticTypes := #[]
  resolved := #[]
  callSites := []
  init := .initialized
  statics := none
  mirror := none

def pool0 : Array CpInfo := pool [(5, u "<init>"), (0, u "()V"), (1, .class_ 10), (1, u "java/lang/Object")] 113

def k0c0 : Code := { maxStack := 0, maxLocals := 1, code := object_method_1_code, exceptionTable := #[], attributes := #[] }
def k0m0 : Method := { name := "<init>", desc := "()V", sig := { parameters := [], returnType := none }, accessFlags := 1, code := some k0c0 }
/-- java/lang/Object -/
def k0 : Class := { plain "java/lang/Object" none with
  accessFlags := 33
  interfaces := #[]
  cf := some (fileOf pool0 8 #[] #[{ accessFlags := 1, nameIndex := 5, descriptorIndex := 6, attributes := #[] }] 33 0 #[] #[])
  fields := #[]
  methods := #[k0m0]
  instanceTypes := #[]
  staticTypes := #[]
  resolved := Array.replicate 124 none
  statics := none }

def pool1 : Array CpInfo := pool [(2, .class_ 4), (1, u "java/lang/Object"), (0, u "<init>"), (0, u "()V"), (0, .integer 2147483647), (0, .class_ 9), (0, u "com/example/commitlog/commitlog/codec/JsonWriter"), (0, .methodref 8 11), (0, .nameAndType 5 12), (0, u "(I)V"), (0, .methodref 8 14), (0, .nameAndType 15 16), (0, u "value"), (0, u "(J)Lcom/example/commitlog/commitlog/codec/JsonWriter;"), (0, .methodref 8 18), (0, .nameAndType 19 20), (0, u "bytes"), (0, u "()[B"), (0, .methodref 8 22), (0, .nameAndType 23 24), (0, u "reset"), (0, u "(I)Lcom/example/commitlog/commitlog/codec/JsonWriter;"), (0, .methodref 8 26), (0, .nameAndType 27 28), (0, u "length"), (0, u "()I"), (0, .string 30), (0, u "a"), (0, .methodref 8 32), (0, .nameAndType 33 34), (0, u "name"), (0, u "(Ljava/lang/String;)Lcom/example/commitlog/commitlog/codec/JsonWriter;"), (0, .class_ 36), (0, u "com/example/commitlog/commitlog/codec/JsonWriterResetPinLaw"), (2, u "law"), (0, u "(IIJI)Z")] 5

def k1m0 : Method := { name := "<init>", desc := "()V", sig := { parameters := [], returnType := none }, accessFlags := 1, code := none }
def k1c1 : Code := { maxStack := 3, maxLocals := 13, code := code, exceptionTable := #[], attributes := #[] }
def k1m1 : Method := { name := "law", desc := "(IIJI)Z", sig := { parameters := [.int, .int, .long, .int], returnType := some .boolean }, accessFlags := 9, code := some k1c1 }
/-- com/example/commitlog/commitlog/codec/JsonWriterResetPinLaw -/
def k1 : Class := { plain "com/example/commitlog/commitlog/codec/JsonWriterResetPinLaw" (some 0) with
  accessFlags := 49
  interfaces := #[]
  cf := some (fileOf pool1 35 #[] #[{ accessFlags := 1, nameIndex := 5, descriptorIndex := 6, attributes := #[] }, { accessFlags := 9, nameIndex := 39, descriptorIndex := 40, attributes := #[] }] 49 2 #[] #[])
  fields := #[]
  methods := #[k1m0, k1m1]
  instanceTypes := #[]
  staticTypes := #[]
  resolved := Array.replicate 46 none
  statics := none }

def pool2 : Array CpInfo := pool [(3, .methodref 4 5), (0, .class_ 6), (0, .nameAndType 7 8), (0, u "java/lang/Object"), (0, u "<init>"), (0, u "()V"), (0, .fieldref 10 11), (0, .class_ 12), (0, .nameAndType 13 14), (0, u "com/example/commitlog/commitlog/codec/JsonWriter"), (0, u "bytes"), (0, u "[B"), (0, .methodref 10 16), (0, .nameAndType 17 18), (0, u "put"), (0, u "(I)V"), (0, .fieldref 10 20), (0, .nameAndType 21 22), (0, u "afterValue"), (0, u "Z"), (0, .methodref 10 24), (0, .nameAndType 25 26), (0, u "string"), (0, u "(Ljava/lang/String;)V"), (0, .methodref 10 28), (0, .nameAndType 29 18), (0, u "room"), (0, .fieldref 10 31), (0, .nameAndType 32 33), (0, u "length"), (0, u "I"), (6, .methodref 41 42), (0, .class_ 43), (0, .nameAndType 32 44), (0, u "java/lang/String"), (0, u "()I"), (4, u "name"), (0, u "(Ljava/lang/String;)Lcom/example/commitlog/commitlog/codec/JsonWriter;"), (0, .methodref 52 53), (0, .class_ 54), (0, .nameAndType 55 56), (0, u "java/util/Arrays"), (0, u "copyOf"), (0, u "([BI)[B"), (0, .long 48), (1, .long 10), (1, .methodref 41 62), (0, .nameAndType 63 64), (0, u "charAt"), (0, u "(I)C"), (30, u "HEX_DIGITS"), (0, .long 2147483639), (1, .long 2), (1, .methodref 101 102), (0, .class_ 103), (0, .nameAndType 104 105), (0, u "java/lang/Math"), (0, u "max"), (0, u "(JJ)J"), (0, .methodref 101 107), (0, .nameAndType 108 105), (0, u "min"), (0, u "FIRST_PRINTABLE"), (2, u "FIRST_NON_ASCII"), (1, u "FIRST_OF_THREE_BYTES"), (1, u "MAX_LENGTH"), (1, u "MAX_LONG_LENGTH"), (10, u "value"), (0, u "(J)Lcom/example/commitlog/commitlog/codec/JsonWriter;"), (0, u "reset"), (0, u "(I)Lcom/example/commitlog/commitlog/codec/JsonWriter;"), (3, u "()[B")] 3

def k2c0 : Code := { maxStack := 2, maxLocals := 2, code := prog_9_method_1_code, exceptionTable := #[], attributes := #[] }
def k2m0 : Method := { name := "<init>", desc := "(I)V", sig := { parameters := [.int], returnType := none }, accessFlags := 0, code := some k2c0 }
def k2c1 : Code := { maxStack := 2, maxLocals := 2, code := prog_9_method_4_code, exceptionTable := #[], attributes := #[] }
def k2m1 : Method := { name := "name", desc := "(Ljava/lang/String;)Lcom/example/commitlog/commitlog/codec/JsonWriter;", sig := { parameters := [(.object "java/lang/String")], returnType := some (.object "com/example/commitlog/commitlog/codec/JsonWriter") }, accessFlags := 0, code := some k2c1 }
def k2c2 : Code := { maxStack := 8, maxLocals := 9, code := prog_9_method_8_code, exceptionTable := #[], attributes := #[] }
def k2m2 : Method := { name := "value", desc := "(J)Lcom/example/commitlog/commitlog/codec/JsonWriter;", sig := { parameters := [.long], returnType := some (.object "com/example/commitlog/commitlog/codec/JsonWriter") }, accessFlags := 0, code := some k2c2 }
def k2c3 : Code := { maxStack := 1, maxLocals := 1, code := prog_9_method_9_code, exceptionTable := #[], attributes := #[] }
def k2m3 : Method := { name := "length", desc := "()I", sig := { parameters := [], returnType := some .int }, accessFlags := 0, code := some k2c3 }
def k2c4 : Code := { maxStack := 2, maxLocals := 2, code := prog_9_method_10_code, exceptionTable := #[], attributes := #[] }
def k2m4 : Method := { name := "reset", desc := "(I)Lcom/example/commitlog/commitlog/codec/JsonWriter;", sig := { parameters := [.int], returnType := some (.object "com/example/commitlog/commitlog/codec/JsonWriter") }, accessFlags := 0, code := some k2c4 }
def k2c5 : Code := { maxStack := 1, maxLocals := 1, code := prog_9_method_13_code, exceptionTable := #[], attributes := #[] }
def k2m5 : Method := { name := "bytes", desc := "()[B", sig := { parameters := [], returnType := some (.array .byte) }, accessFlags := 0, code := some k2c5 }
def k2c6 : Code := { maxStack := 5, maxLocals := 5, code := prog_9_method_14_code, exceptionTable := #[], attributes := #[] }
def k2m6 : Method := { name := "string", desc := "(Ljava/lang/String;)V", sig := { parameters := [(.object "java/lang/String")], returnType := none }, accessFlags := 2, code := some k2c6 }
def k2c7 : Code := { maxStack := 5, maxLocals := 2, code := prog_9_method_18_code, exceptionTable := #[], attributes := #[] }
def k2m7 : Method := { name := "put", desc := "(I)V", sig := { parameters := [.int], returnType := none }, accessFlags := 2, code := some k2c7 }
def k2c8 : Code := { maxStack := 10, maxLocals := 2, code := prog_9_method_19_code, exceptionTable := #[], attributes := #[] }
def k2m8 : Method := { name := "room", desc := "(I)V", sig := { parameters := [.int], returnType := none }, accessFlags := 2, code := some k2c8 }
/-- com/example/commitlog/commitlog/codec/JsonWriter -/
def k2 : Class := { plain "com/example/commitlog/commitlog/codec/JsonWriter" (some 0) with
  accessFlags := 48
  interfaces := #[]
  cf := some (fileOf pool2 10 #[] #[{ accessFlags := 0, nameIndex := 7, descriptorIndex := 18, attributes := #[] }, { accessFlags := 0, nameIndex := 49, descriptorIndex := 50, attributes := #[] }, { accessFlags := 0, nameIndex := 129, descriptorIndex := 130, attributes := #[] }, { accessFlags := 0, nameIndex := 32, descriptorIndex := 44, attributes := #[] }, { accessFlags := 0, nameIndex := 131, descriptorIndex := 132, attributes := #[] }, { accessFlags := 0, nameIndex := 13, descriptorIndex := 136, attributes := #[] }, { accessFlags := 2, nameIndex := 25, descriptorIndex := 26, attributes := #[] }, { accessFlags := 2, nameIndex := 17, descriptorIndex := 18, attributes := #[] }, { accessFlags := 2, nameIndex := 29, descriptorIndex := 18, attributes := #[] }] 48 4 #[] #[{ accessFlags := 26, nameIndex := 95, descriptorIndex := 14, attributes := #[] }, { accessFlags := 26, nameIndex := 109, descriptorIndex := 33, attributes := #[] }, { accessFlags := 26, nameIndex := 112, descriptorIndex := 33, attributes := #[] }, { accessFlags := 26, nameIndex := 114, descriptorIndex := 33, attributes := #[] }, { accessFlags := 26, nameIndex := 116, descriptorIndex := 33, attributes := #[] }, { accessFlags := 26, nameIndex := 118, descriptorIndex := 33, attributes := #[] }, { accessFlags := 2, nameIndex := 13, descriptorIndex := 14, attributes := #[] }, { accessFlags := 2, nameIndex := 32, descriptorIndex := 33, attributes := #[] }, { accessFlags := 2, nameIndex := 21, descriptorIndex := 22, attributes := #[] }])
  fields := #[{ name := "HEX_DIGITS", type := (.array .byte), accessFlags := 26, slot := 0, constantValue := 0 }, { name := "FIRST_PRINTABLE", type := .int, accessFlags := 26, slot := 1, constantValue := 0 }, { name := "FIRST_NON_ASCII", type := .int, accessFlags := 26, slot := 2, constantValue := 0 }, { name := "FIRST_OF_THREE_BYTES", type := .int, accessFlags := 26, slot := 3, constantValue := 0 }, { name := "MAX_LENGTH", type := .int, accessFlags := 26, slot := 4, constantValue := 0 }, { name := "MAX_LONG_LENGTH", type := .int, accessFlags := 26, slot := 5, constantValue := 0 }, { name := "bytes", type := (.array .byte), accessFlags := 2, slot := 0, constantValue := 0 }, { name := "length", type := .int, accessFlags := 2, slot := 1, constantValue := 0 }, { name := "afterValue", type := .boolean, accessFlags := 2, slot := 2, constantValue := 0 }]
  methods := #[k2m0, k2m1, k2m2, k2m3, k2m4, k2m5, k2m6, k2m7, k2m8]
  instanceTypes := #[(.array .byte), .int, .boolean]
  staticTypes := #[(.array .byte), .int, .int, .int, .int, .int]
  resolved := Array.replicate 140 none
  statics := none }

def pool3 : Array CpInfo := pool [(1, .class_ 2), (0, u "java/io/Serializable"), (0, .class_ 4), (0, u "java/lang/Object")] 2

/-- java/io/Serializable -/
def k3 : Class := { plain "java/io/Serializable" (some 0) with
  accessFlags := 1537
  interfaces := #[]
  cf := some (fileOf pool3 1 #[] #[] 1537 3 #[] #[])
  fields := #[]
  methods := #[]
  instanceTypes := #[]
  staticTypes := #[]
  resolved := Array.replicate 7 none
  statics := none }

def pool4 : Array CpInfo := pool [(1, .class_ 2), (0, u "java/lang/Comparable"), (0, .class_ 4), (0, u "java/lang/Object")] 7

/-- java/lang/Comparable -/
def k4 : Class := { plain "java/lang/Comparable" (some 0) with
  accessFlags := 1537
  interfaces := #[]
  cf := some (fileOf pool4 1 #[] #[] 1537 3 #[] #[])
  fields := #[]
  methods := #[]
  instanceTypes := #[]
  staticTypes := #[]
  resolved := Array.replicate 12 none
  statics := none }

def pool5 : Array CpInfo := pool [(2, .class_ 4), (1, u "java/lang/CharSequence"), (42, .class_ 48), (0, u "java/lang/CharSequence$1CodePointIterator"), (10, .class_ 60), (0, u "java/lang/CharSequence$1CharIterator"), (5, .class_ 67), (0, u "java/lang/Object")] 63

/-- java/lang/CharSequence -/
def k5 : Class := { plain "java/lang/CharSequence" (some 0) with
  accessFlags := 1537
  interfaces := #[]
  cf := some (fileOf pool5 2 #[.nestMembers #[47, 59]] #[] 1537 66 #[] #[])
  fields := #[]
  methods := #[]
  instanceTypes := #[]
  staticTypes := #[]
  resolved := Array.replicate 131 none
  statics := none }

def pool6 : Array CpInfo := pool [(1, .class_ 2), (0, u "java/lang/constant/Constable"), (0, .class_ 4), (0, u "java/lang/Object")] 6

/-- java/lang/constant/Constable -/
def k6 : Class := { plain "java/lang/constant/Constable" (some 0) with
  accessFlags := 1537
  interfaces := #[]
  cf := some (fileOf pool6 1 #[] #[] 1537 3 #[] #[])
  fields := #[]
  methods := #[]
  instanceTypes := #[]
  staticTypes := #[]
  resolved := Array.replicate 11 none
  statics := none }

def pool7 : Array CpInfo := pool [(1, .class_ 2), (0, u "java/lang/constant/ConstantDesc"), (0, .class_ 4), (0, u "java/lang/Object")] 32

/-- java/lang/constant/ConstantDesc -/
def k7 : Class := { plain "java/lang/constant/ConstantDesc" (some 0) with
  accessFlags := 1537
  interfaces := #[]
  cf := some (fileOf pool7 1 #[] #[] 1537 3 #[] #[])
  fields := #[]
  methods := #[]
  instanceTypes := #[]
  staticTypes := #[]
  resolved := Array.replicate 37 none
  statics := none }

def pool8 : Array CpInfo := pool [(2, .class_ 4), (1, u "java/lang/Object"), (0, u "<init>"), (0, u "()V"), (2, .fieldref 10 11), (0, .class_ 12), (0, .nameAndType 13 14), (0, u "java/lang/String"), (0, u "value"), (0, u "[B"), (0, .fieldref 10 16), (0, .nameAndType 17 18), (0, u "coder"), (0, u "B"), (2, u "hash"), (0, u "I"), (2, u "hashIsZero"), (0, u "Z"), (11, .fieldref 10 39), (0, .nameAndType 40 26), (0, u "COMPACT_STRINGS"), (66, .class_ 109), (1, u "java/lang/StringLatin1"), (32, u "()Z"), (191, u "()I"), (0, .methodref 10 336), (0, .nameAndType 17 337), (0, u "()B"), (25, u "([BI)C"), (27, u "(II)V"), (35, u "(I)C"), (64, .methodref 10 493), (0, .nameAndType 494 142), (0, u "isLatin1"), (0, .methodref 107 496), (0, .nameAndType 497 363), (0, u "charAt"), (3, u "checkIndex"), (5, u "length"), (67, .class_ 576), (0, u "java/lang/CharSequence"), (22, u "CASE_INSENSITIVE_ORDER"), (0, u "Ljava/util/Comparator;"), (452, .fieldref 1054 1055), (0, .class_ 1056), (0, .nameAndType 1057 1058), (0, u "jdk/internal/util/Preconditions"), (0, u "SIOOBE_FORMATTER"), (0, u "Ljava/util/function/BiFunction;"), (0, .methodref 1054 1060), (0, .nameAndType 501 1061), (0, u "(IILjava/util/function/BiFunction;)I"), (39, u "serialPersistentFields"), (0, u "[Ljava/io/ObjectStreamField;"), (0, .class_ 1104), (0, u "java/lang/String$CaseInsensitiveComparator"), (1, .class_ 1107), (0, u "java/io/Serializable"), (0, .class_ 1109), (0, u "java/lang/Comparable"), (0, .class_ 1111), (0, u "java/lang/constant/Constable"), (0, .class_ 1113), (0, u "java/lang/constant/ConstantDesc"), (2, u "serialVersionUID"), (0, u "J"), (3, u "REPL"), (0, u "C"), (2, u "LATIN1"), (1, u "UTF16")] 323

def k8m0 : Method := { name := "<init>", desc := "()V", sig := { parameters := [], returnType := none }, accessFlags := 1, code := none }
def k8c1 : Code := { maxStack := 2, maxLocals := 1, code := jdk_42_method_54_code, exceptionTable := #[], attributes := #[] }
def k8m1 : Method := { name := "length", desc := "()I", sig := { parameters := [], returnType := some .int }, accessFlags := 1, code := some k8c1 }
def k8c2 : Code := { maxStack := 2, maxLocals := 2, code := jdk_42_method_56_code, exceptionTable := #[], attributes := #[] }
def k8m2 : Method := { name := "charAt", desc := "(I)C", sig := { parameters := [.int], returnType := some .char }, accessFlags := 1, code := some k8c2 }
def k8c3 : Code := { maxStack := 1, maxLocals := 1, code := jdk_42_method_152_code, exceptionTable := #[], attributes := #[] }
def k8m3 : Method := { name := "coder", desc := "()B", sig := { parameters := [], returnType := some .byte }, accessFlags := 0, code := some k8c3 }
def k8c4 : Code := { maxStack := 1, maxLocals := 1, code := jdk_42_method_154_code, exceptionTable := #[], attributes := #[] }
def k8m4 : Method := { name := "isLatin1", desc := "()Z", sig := { parameters := [], returnType := some .boolean }, accessFlags := 0, code := some k8c4 }
def k8c5 : Code := { maxStack := 3, maxLocals := 2, code := jdk_42_method_155_code, exceptionTable := #[], attributes := #[] }
def k8m5 : Method := { name := "checkIndex", desc := "(II)V", sig := { parameters := [.int, .int], returnType := none }, accessFlags := 8, code := some k8c5 }
/-- java/lang/String -/
def k8 : Class := { plain "java/lang/String" (some 0) with
  accessFlags := 49
  interfaces := #[3, 4, 5, 6, 7]
  cf := some (fileOf pool8 10 #[.nestMembers #[1103]] #[{ accessFlags := 1, nameIndex := 5, descriptorIndex := 6, attributes := #[] }, { accessFlags := 1, nameIndex := 507, descriptorIndex := 334, attributes := #[] }, { accessFlags := 1, nameIndex := 497, descriptorIndex := 427, attributes := #[] }, { accessFlags := 0, nameIndex := 17, descriptorIndex := 337, attributes := #[] }, { accessFlags := 0, nameIndex := 494, descriptorIndex := 142, attributes := #[] }, { accessFlags := 8, nameIndex := 501, descriptorIndex := 391, attributes := #[] }] 49 2 #[1106, 1108, 575, 1110, 1112] #[{ accessFlags := 18, nameIndex := 13, descriptorIndex := 14, attributes := #[] }, { accessFlags := 18, nameIndex := 17, descriptorIndex := 18, attributes := #[] }, { accessFlags := 2, nameIndex := 21, descriptorIndex := 22, attributes := #[] }, { accessFlags := 2, nameIndex := 25, descriptorIndex := 26, attributes := #[] }, { accessFlags := 26, nameIndex := 1116, descriptorIndex := 1117, attributes := #[] }, { accessFlags := 24, nameIndex := 40, descriptorIndex := 26, attributes := #[] }, { accessFlags := 26, nameIndex := 1101, descriptorIndex := 1102, attributes := #[] }, { accessFlags := 26, nameIndex := 1121, descriptorIndex := 1122, attributes := #[] }, { accessFlags := 25, nameIndex := 599, descriptorIndex := 600, attributes := #[] }, { accessFlags := 24, nameIndex := 1125, descriptorIndex := 18, attributes := #[] }, { accessFlags := 24, nameIndex := 1127, descriptorIndex := 18, attributes := #[] }])
  fields := #[{ name := "value", type := (.array .byte), accessFlags := 18, slot := 0, constantValue := 0 }, { name := "coder", type := .byte, accessFlags := 18, slot := 1, constantValue := 0 }, { name := "hash", type := .int, accessFlags := 2, slot := 2, constantValue := 0 }, { name := "hashIsZero", type := .boolean, accessFlags := 2, slot := 3, constantValue := 0 }, { name := "serialVersionUID", type := .long, accessFlags := 26, slot := 0, constantValue := 0 }, { name := "COMPACT_STRINGS", type := .boolean, accessFlags := 24, slot := 1, constantValue := 0 }, { name := "serialPersistentFields", type := (.array (.object "java/io/ObjectStreamField")), accessFlags := 26, slot := 2, constantValue := 0 }, { name := "REPL", type := .char, accessFlags := 26, slot := 3, constantValue := 0 }, { name := "CASE_INSENSITIVE_ORDER", type := (.object "java/util/Comparator"), accessFlags := 25, slot := 4, constantValue := 0 }, { name := "LATIN1", type := .byte, accessFlags := 24, slot := 5, constantValue := 0 }, { name := "UTF16", type := .byte, accessFlags := 24, slot := 6, constantValue := 0 }]
  methods := #[k8m0, k8m1, k8m2, k8m3, k8m4, k8m5]
  instanceTypes := #[(.array .byte), .byte, .int, .boolean]
  staticTypes := #[.long, .boolean, (.array (.object "java/io/ObjectStreamField")), .char, (.object "java/util/Comparator"), .byte, .byte]
  resolved := Array.replicate 1451 none
  statics := some 0 }

def pool9 : Array CpInfo := pool [(1, .class_ 2), (0, u "java/lang/Math"), (1, .class_ 6), (1, u "java/lang/Object"), (0, u "<init>"), (0, u "()V"), (89, .class_ 100), (1, u "java/lang/Math$RandomNumberGeneratorHolder"), (20, u "(JJ)J"), (50, u "negativeZeroFloatBits"), (0, u "J"), (2, u "negativeZeroDoubleBits"), (21, u "max"), (2, u "min"), (43, u "$assertionsDisabled"), (0, u "Z"), (88, u "(II)I"), (2, u "twoToTheDoubleScaleDown"), (0, u "D"), (4, u "twoToTheDoubleScaleUp"), (9, u "E"), (3, u "PI"), (2, u "TAU"), (2, u "DEGREES_TO_RADIANS"), (0, u "RADIANS_TO_DEGREES")] 94

def k9m0 : Method := { name := "<init>", desc := "()V", sig := { parameters := [], returnType := none }, accessFlags := 2, code := none }
def k9c1 : Code := { maxStack := 4, maxLocals := 4, code := jdk_29_method_66_code, exceptionTable := #[], attributes := #[] }
def k9m1 : Method := { name := "max", desc := "(JJ)J", sig := { parameters := [.long, .long], returnType := some .long }, accessFlags := 9, code := some k9c1 }
def k9c2 : Code := { maxStack := 2, maxLocals := 2, code := jdk_29_method_69_code, exceptionTable := #[], attributes := #[] }
def k9m2 : Method := { name := "min", desc := "(II)I", sig := { parameters := [.int, .int], returnType := some .int }, accessFlags := 9, code := some k9c2 }
def k9c3 : Code := { maxStack := 4, maxLocals := 4, code := jdk_29_method_70_code, exceptionTable := #[], attributes := #[] }
def k9m3 : Method := { name := "min", desc := "(JJ)J", sig := { parameters := [.long, .long], returnType := some .long }, accessFlags := 9, code := some k9c3 }
/-- java/lang/Math -/
def k9 : Class := { plain "java/lang/Math" (some 0) with
  accessFlags := 49
  interfaces := #[]
  cf := some (fileOf pool9 1 #[.nestMembers #[98]] #[{ accessFlags := 2, nameIndex := 7, descriptorIndex := 8, attributes := #[] }, { accessFlags := 9, nameIndex := 198, descriptorIndex := 121, attributes := #[] }, { accessFlags := 9, nameIndex := 201, descriptorIndex := 335, attributes := #[] }, { accessFlags := 9, nameIndex := 201, descriptorIndex := 121, attributes := #[] }] 49 4 #[] #[{ accessFlags := 25, nameIndex := 354, descriptorIndex := 339, attributes := #[] }, { accessFlags := 25, nameIndex := 358, descriptorIndex := 339, attributes := #[] }, { accessFlags := 25, nameIndex := 361, descriptorIndex := 339, attributes := #[] }, { accessFlags := 26, nameIndex := 364, descriptorIndex := 339, attributes := #[] }, { accessFlags := 26, nameIndex := 365, descriptorIndex := 339, attributes := #[] }, { accessFlags := 26, nameIndex := 172, descriptorIndex := 173, attributes := #[] }, { accessFlags := 26, nameIndex := 176, descriptorIndex := 173, attributes := #[] }, { accessFlags := 8, nameIndex := 344, descriptorIndex := 339, attributes := #[] }, { accessFlags := 8, nameIndex := 338, descriptorIndex := 339, attributes := #[] }, { accessFlags := 4120, nameIndex := 245, descriptorIndex := 246, attributes := #[] }])
  fields := #[{ name := "E", type := .double, accessFlags := 25, slot := 0, constantValue := 0 }, { name := "PI", type := .double, accessFlags := 25, slot := 1, constantValue := 0 }, { name := "TAU", type := .double, accessFlags := 25, slot := 2, constantValue := 0 }, { name := "DEGREES_TO_RADIANS", type := .double, accessFlags := 26, slot := 3, constantValue := 0 }, { name := "RADIANS_TO_DEGREES", type := .double, accessFlags := 26, slot := 4, constantValue := 0 }, { name := "negativeZeroFloatBits", type := .long, accessFlags := 26, slot := 5, constantValue := 0 }, { name := "negativeZeroDoubleBits", type := .long, accessFlags := 26, slot := 6, constantValue := 0 }, { name := "twoToTheDoubleScaleUp", type := .double, accessFlags := 8, slot := 7, constantValue := 0 }, { name := "twoToTheDoubleScaleDown", type := .double, accessFlags := 8, slot := 8, constantValue := 0 }, { name := "$assertionsDisabled", type := .boolean, accessFlags := 4120, slot := 9, constantValue := 0 }]
  methods := #[k9m0, k9m1, k9m2, k9m3]
  instanceTypes := #[]
  staticTypes := #[.double, .double, .double, .double, .double, .long, .long, .double, .double, .boolean]
  resolved := Array.replicate 460 none
  statics := none }

def pool10 : Array CpInfo := pool [(2, .class_ 4), (1, u "java/lang/Object"), (0, u "<init>"), (0, u "()V"), (7, .class_ 16), (1, u "java/util/Arrays"), (57, .class_ 76), (1, u "java/util/Arrays$NaturalOrder"), (36, .class_ 115), (1, u "java/util/Arrays$LegacyMergeSort"), (1, u "Z"), (32, .methodref 151 152), (0, .class_ 153), (0, .nameAndType 154 155), (0, u "java/lang/System"), (0, u "arraycopy"), (0, u "(Ljava/lang/Object;ILjava/lang/Object;II)V"), (146, u "copyOf"), (1, .methodref 305 306), (0, .class_ 307), (0, .nameAndType 308 309), (0, u "java/lang/Math"), (0, u "min"), (0, u "(II)I"), (65, .class_ 376), (0, u "java/util/Arrays$ArrayList"), (68, u "$assertionsDisabled"), (269, u "MIN_ARRAY_SORT_GRAN"), (0, u "I"), (2, u "INSERTIONSORT_THRESHOLD"), (149, u "([BI)[B"), (105, .class_ 976), (0, u "java/util/Arrays$ArrayItr")] 52

def k10m0 : Method := { name := "<init>", desc := "()V", sig := { parameters := [], returnType := none }, accessFlags := 2, code := none }
def k10c1 : Code := { maxStack := 6, maxLocals := 3, code := jdk_65_method_121_code, exceptionTable := #[], attributes := #[] }
def k10m1 : Method := { name := "copyOf", desc := "([BI)[B", sig := { parameters := [(.array .byte), .int], returnType := some (.array .byte) }, accessFlags := 9, code := some k10c1 }
/-- java/util/Arrays -/
def k10 : Class := { plain "java/util/Arrays" (some 0) with
  accessFlags := 49
  interfaces := #[]
  cf := some (fileOf pool10 14 #[.nestMembers #[975, 375, 113, 74]] #[{ accessFlags := 2, nameIndex := 5, descriptorIndex := 6, attributes := #[] }, { accessFlags := 9, nameIndex := 302, descriptorIndex := 869, attributes := #[] }] 49 2 #[] #[{ accessFlags := 26, nameIndex := 715, descriptorIndex := 716, attributes := #[] }, { accessFlags := 26, nameIndex := 719, descriptorIndex := 716, attributes := #[] }, { accessFlags := 4120, nameIndex := 445, descriptorIndex := 117, attributes := #[] }])
  fields := #[{ name := "MIN_ARRAY_SORT_GRAN", type := .int, accessFlags := 26, slot := 0, constantValue := 0 }, { name := "INSERTIONSORT_THRESHOLD", type := .int, accessFlags := 26, slot := 1, constantValue := 0 }, { name := "$assertionsDisabled", type := .boolean, accessFlags := 4120, slot := 2, constantValue := 0 }]
  methods := #[k10m0, k10m1]
  instanceTypes := #[]
  staticTypes := #[.int, .int, .boolean]
  resolved := Array.replicate 1029 none
  statics := none }

def pool11 : Array CpInfo := pool [(2, .class_ 4), (1, u "java/lang/Object"), (0, u "<init>"), (0, u "()V"), (1, .class_ 10), (1, u "java/lang/System"), (0, u "allowSecurityManager"), (0, u "I"), (16, u "cons"), (0, u "Ljava/io/Console;"), (77, .class_ 110), (1, u "java/lang/System$CallersHolder"), (43, u "initialErrStream"), (0, u "Ljava/io/PrintStream;"), (19, u "security"), (0, u "Ljava/lang/SecurityManager;"), (31, .class_ 209), (0, u "java/lang/System$1"), (7, u "props"), (0, u "Ljava/util/Properties;"), (2, u "lineSeparator"), (0, u "Ljava/lang/String;"), (96, .class_ 321), (1, u "java/lang/System$LoggerFinder"), (5, .class_ 328), (0, u "java/lang/System$Logger"), (67, u "err"), (2, u "out"), (91, u "notSupportedJnuEncoding"), (15, u "in"), (17, u "initialIn"), (0, u "Ljava/io/InputStream;"), (35, u "bootLayer"), (0, u "Ljava/lang/ModuleLayer;"), (99, .class_ 664), (0, u "java/lang/System$2"), (9, u "NEVER"), (2, u "MAYBE"), (49, u "arraycopy"), (0, u "(Ljava/lang/Object;ILjava/lang/Object;II)V"), (72, .class_ 802), (0, u "java/lang/System$Logger$Level")] 31

def k11m0 : Method := { name := "<init>", desc := "()V", sig := { parameters := [], returnType := none }, accessFlags := 2, code := none }
def k11m1 : Method := { name := "arraycopy", desc := "(Ljava/lang/Object;ILjava/lang/Object;II)V", sig := { parameters := [(.object "java/lang/Object"), .int, (.object "java/lang/Object"), .int, .int], returnType := none }, accessFlags := 265, code := none }
/-- java/lang/System -/
def k11 : Class := { plain "java/lang/System" (some 0) with
  accessFlags := 49
  interfaces := #[]
  cf := some (fileOf pool11 8 #[.nestMembers #[319, 327, 801, 108, 663, 208]] #[{ accessFlags := 2, nameIndex := 5, descriptorIndex := 6, attributes := #[] }, { accessFlags := 265, nameIndex := 727, descriptorIndex := 728, attributes := #[] }] 49 2 #[] #[{ accessFlags := 25, nameIndex := 507, descriptorIndex := 526, attributes := #[] }, { accessFlags := 25, nameIndex := 399, descriptorIndex := 155, attributes := #[] }, { accessFlags := 25, nameIndex := 396, descriptorIndex := 155, attributes := #[] }, { accessFlags := 10, nameIndex := 525, descriptorIndex := 526, attributes := #[] }, { accessFlags := 26, nameIndex := 674, descriptorIndex := 12, attributes := #[] }, { accessFlags := 26, nameIndex := 677, descriptorIndex := 12, attributes := #[] }, { accessFlags := 10, nameIndex := 11, descriptorIndex := 12, attributes := #[] }, { accessFlags := 74, nameIndex := 175, descriptorIndex := 176, attributes := #[] }, { accessFlags := 10, nameIndex := 491, descriptorIndex := 222, attributes := #[] }, { accessFlags := 74, nameIndex := 29, descriptorIndex := 30, attributes := #[] }, { accessFlags := 74, nameIndex := 154, descriptorIndex := 155, attributes := #[] }, { accessFlags := 10, nameIndex := 217, descriptorIndex := 218, attributes := #[] }, { accessFlags := 10, nameIndex := 221, descriptorIndex := 222, attributes := #[] }, { accessFlags := 8, nameIndex := 562, descriptorIndex := 563, attributes := #[] }])
  fields := #[{ name := "in", type := (.object "java/io/InputStream"), accessFlags := 25, slot := 0, constantValue := 0 }, { name := "out", type := (.object "java/io/PrintStream"), accessFlags := 25, slot := 1, constantValue := 0 }, { name := "err", type := (.object "java/io/PrintStream"), accessFlags := 25, slot := 2, constantValue := 0 }, { name := "initialIn", type := (.object "java/io/InputStream"), accessFlags := 10, slot := 3, constantValue := 0 }, { name := "NEVER", type := .int, accessFlags := 26, slot := 4, constantValue := 0 }, { name := "MAYBE", type := .int, accessFlags := 26, slot := 5, constantValue := 0 }, { name := "allowSecurityManager", type := .int, accessFlags := 10, slot := 6, constantValue := 0 }, { name := "security", type := (.object "java/lang/SecurityManager"), accessFlags := 74, slot := 7, constantValue := 0 }, { name := "notSupportedJnuEncoding", type := (.object "java/lang/String"), accessFlags := 10, slot := 8, constantValue := 0 }, { name := "cons", type := (.object "java/io/Console"), accessFlags := 74, slot := 9, constantValue := 0 }, { name := "initialErrStream", type := (.object "java/io/PrintStream"), accessFlags := 74, slot := 10, constantValue := 0 }, { name := "props", type := (.object "java/util/Properties"), accessFlags := 10, slot := 11, constantValue := 0 }, { name := "lineSeparator", type := (.object "java/lang/String"), accessFlags := 10, slot := 12, constantValue := 0 }, { name := "bootLayer", type := (.object "java/lang/ModuleLayer"), accessFlags := 8, slot := 13, constantValue := 0 }]
  methods := #[k11m0, k11m1]
  instanceTypes := #[]
  staticTypes := #[(.object "java/io/InputStream"), (.object "java/io/PrintStream"), (.object "java/io/PrintStream"), (.object "java/io/InputStream"), .int, .int, .int, (.object "java/lang/SecurityManager"), (.object "java/lang/String"), (.object "java/io/Console"), (.object "java/io/PrintStream"), (.object "java/util/Properties"), (.object "java/lang/String"), (.object "java/lang/ModuleLayer")]
  resolved := Array.replicate 834 none
  statics := none }

def pool12 : Array CpInfo := pool [(1, .class_ 2), (0, u "java/lang/String"), (1, .class_ 6), (1, u "java/lang/Object"), (0, u "<init>"), (0, u "()V"), (0, .methodref 1 10), (0, .nameAndType 11 12), (0, u "checkIndex"), (0, u "(II)V"), (1, .class_ 16), (1, u "java/lang/StringLatin1"), (36, u "([BI)C"), (67, u "$assertionsDisabled"), (0, u "Z"), (98, .class_ 223), (1, u "java/lang/StringLatin1$LinesSpliterator"), (28, u "charAt"), (137, .class_ 391), (0, u "java/lang/StringLatin1$CharsSpliterator")] 3

def k12m0 : Method := { name := "<init>", desc := "()V", sig := { parameters := [], returnType := none }, accessFlags := 0, code := none }
def k12c1 : Code := { maxStack := 2, maxLocals := 2, code := jdk_43_method_2_code, exceptionTable := #[], attributes := #[] }
def k12m1 : Method := { name := "charAt", desc := "([BI)C", sig := { parameters := [(.array .byte), .int], returnType := some .char }, accessFlags := 9, code := some k12c1 }
/-- java/lang/StringLatin1 -/
def k12 : Class := { plain "java/lang/StringLatin1" (some 0) with
  accessFlags := 48
  interfaces := #[]
  cf := some (fileOf pool12 14 #[.nestMembers #[390, 221]] #[{ accessFlags := 0, nameIndex := 7, descriptorIndex := 8, attributes := #[] }, { accessFlags := 9, nameIndex := 252, descriptorIndex := 53, attributes := #[] }] 48 4 #[] #[{ accessFlags := 4120, nameIndex := 121, descriptorIndex := 122, attributes := #[] }])
  fields := #[{ name := "$assertionsDisabled", type := .boolean, accessFlags := 4120, slot := 0, constantValue := 0 }]
  methods := #[k12m0, k12m1]
  instanceTypes := #[]
  staticTypes := #[.boolean]
  resolved := Array.replicate 395 none
  statics := none }

def pool13 : Array CpInfo := pool [(2, .class_ 4), (1, u "java/lang/Object"), (0, u "<init>"), (0, u "()V"), (17, .class_ 26), (1, u "jdk/internal/util/Preconditions"), (6, u "checkIndex"), (21, .class_ 56), (0, u "jdk/internal/util/Preconditions$4"), (57, .class_ 115), (0, u "jdk/internal/util/Preconditions$1"), (7, u "SIOOBE_FORMATTER"), (0, u "Ljava/util/function/BiFunction;"), (0, .class_ 126), (0, u "jdk/internal/util/Preconditions$2"), (3, u "AIOOBE_FORMATTER"), (0, .class_ 132), (0, u "jdk/internal/util/Preconditions$3"), (3, u "IOOBE_FORMATTER"), (41, u "(IILjava/util/function/BiFunction;)I")] 15

def k13m0 : Method := { name := "<init>", desc := "()V", sig := { parameters := [], returnType := none }, accessFlags := 1, code := none }
def k13c1 : Code := { maxStack := 3, maxLocals := 3, code := jdk_41_method_11_code, exceptionTable := #[], attributes := #[] }
def k13m1 : Method := { name := "checkIndex", desc := "(IILjava/util/function/BiFunction;)I", sig := { parameters := [.int, .int, (.object "java/util/function/BiFunction")], returnType := some .int }, accessFlags := 9, code := some k13c1 }
/-- jdk/internal/util/Preconditions -/
def k13 : Class := { plain "jdk/internal/util/Preconditions" (some 0) with
  accessFlags := 33
  interfaces := #[]
  cf := some (fileOf pool13 24 #[.nestMembers #[55, 131, 125, 114]] #[{ accessFlags := 1, nameIndex := 5, descriptorIndex := 6, attributes := #[] }, { accessFlags := 9, nameIndex := 33, descriptorIndex := 178, attributes := #[] }] 33 2 #[] #[{ accessFlags := 25, nameIndex := 123, descriptorIndex := 124, attributes := #[] }, { accessFlags := 25, nameIndex := 130, descriptorIndex := 124, attributes := #[] }, { accessFlags := 25, nameIndex := 136, descriptorIndex := 124, attributes := #[] }])
  fields := #[{ name := "SIOOBE_FORMATTER", type := (.object "java/util/function/BiFunction"), accessFlags := 25, slot := 0, constantValue := 0 }, { name := "AIOOBE_FORMATTER", type := (.object "java/util/function/BiFunction"), accessFlags := 25, slot := 1, constantValue := 0 }, { name := "IOOBE_FORMATTER", type := (.object "java/util/function/BiFunction"), accessFlags := 25, slot := 2, constantValue := 0 }]
  methods := #[k13m0, k13m1]
  instanceTypes := #[]
  staticTypes := #[(.object "java/util/function/BiFunction"), (.object "java/util/function/BiFunction"), (.object "java/util/function/BiFunction")]
  resolved := Array.replicate 194 none
  statics := some 1 }

def pool14 : Array CpInfo := pool [(9, u "<init>"), (6, .class_ 18), (1, u "java/lang/Object"), (0, u "()V"), (1, .class_ 23), (1, u "jdk/internal/util/ArraysSupport"), (0, u "LOG2_ARRAY_LONG_INDEX_SCALE"), (0, u "I"), (2, u "U"), (0, u "Ljdk/internal/misc/Unsafe;"), (8, u "BIG_ENDIAN"), (0, u "Z"), (8, u "LOG2_BYTE_BIT_SIZE"), (4, u "LOG2_ARRAY_INT_INDEX_SCALE"), (54, u "JLA"), (0, u "Ljdk/internal/access/JavaLangAccess;"), (11, u "LOG2_ARRAY_BOOLEAN_INDEX_SCALE"), (9, u "LOG2_ARRAY_BYTE_INDEX_SCALE"), (5, u "LOG2_ARRAY_CHAR_INDEX_SCALE"), (5, u "LOG2_ARRAY_SHORT_INDEX_SCALE"), (18, u "LOG2_ARRAY_FLOAT_INDEX_SCALE"), (24, u "LOG2_ARRAY_DOUBLE_INDEX_SCALE"), (89, u "T_BOOLEAN"), (2, u "T_CHAR"), (1, u "T_FLOAT"), (1, u "T_DOUBLE"), (1, u "T_BYTE"), (1, u "T_SHORT"), (1, u "T_INT"), (1, u "T_LONG"), (1, u "SOFT_MAX_ARRAY_LENGTH")] 83

def k14m0 : Method := { name := "<init>", desc := "()V", sig := { parameters := [], returnType := none }, accessFlags := 2, code := none }
/-- jdk/internal/util/ArraysSupport -/
def k14 : Class := { plain "jdk/internal/util/ArraysSupport" (some 0) with
  accessFlags := 33
  interfaces := #[]
  cf := some (fileOf pool14 21 #[] #[{ accessFlags := 2, nameIndex := 9, descriptorIndex := 19, attributes := #[] }] 33 16 #[] #[{ accessFlags := 24, nameIndex := 28, descriptorIndex := 29, attributes := #[] }, { accessFlags := 26, nameIndex := 38, descriptorIndex := 39, attributes := #[] }, { accessFlags := 25, nameIndex := 121, descriptorIndex := 25, attributes := #[] }, { accessFlags := 25, nameIndex := 131, descriptorIndex := 25, attributes := #[] }, { accessFlags := 25, nameIndex := 137, descriptorIndex := 25, attributes := #[] }, { accessFlags := 25, nameIndex := 143, descriptorIndex := 25, attributes := #[] }, { accessFlags := 25, nameIndex := 53, descriptorIndex := 25, attributes := #[] }, { accessFlags := 25, nameIndex := 24, descriptorIndex := 25, attributes := #[] }, { accessFlags := 25, nameIndex := 162, descriptorIndex := 25, attributes := #[] }, { accessFlags := 25, nameIndex := 187, descriptorIndex := 25, attributes := #[] }, { accessFlags := 26, nameIndex := 48, descriptorIndex := 25, attributes := #[] }, { accessFlags := 25, nameIndex := 277, descriptorIndex := 25, attributes := #[] }, { accessFlags := 25, nameIndex := 280, descriptorIndex := 25, attributes := #[] }, { accessFlags := 25, nameIndex := 282, descriptorIndex := 25, attributes := #[] }, { accessFlags := 25, nameIndex := 284, descriptorIndex := 25, attributes := #[] }, { accessFlags := 25, nameIndex := 286, descriptorIndex := 25, attributes := #[] }, { accessFlags := 25, nameIndex := 288, descriptorIndex := 25, attributes := #[] }, { accessFlags := 25, nameIndex := 290, descriptorIndex := 25, attributes := #[] }, { accessFlags := 25, nameIndex := 292, descriptorIndex := 25, attributes := #[] }, { accessFlags := 26, nameIndex := 108, descriptorIndex := 109, attributes := #[] }, { accessFlags := 25, nameIndex := 294, descriptorIndex := 25, attributes := #[] }])
  fields := #[{ name := "U", type := (.object "jdk/internal/misc/Unsafe"), accessFlags := 24, slot := 0, constantValue := 0 }, { name := "BIG_ENDIAN", type := .boolean, accessFlags := 26, slot := 1, constantValue := 0 }, { name := "LOG2_ARRAY_BOOLEAN_INDEX_SCALE", type := .int, accessFlags := 25, slot := 2, constantValue := 0 }, { name := "LOG2_ARRAY_BYTE_INDEX_SCALE", type := .int, accessFlags := 25, slot := 3, constantValue := 0 }, { name := "LOG2_ARRAY_CHAR_INDEX_SCALE", type := .int, accessFlags := 25, slot := 4, constantValue := 0 }, { name := "LOG2_ARRAY_SHORT_INDEX_SCALE", type := .int, accessFlags := 25, slot := 5, constantValue := 0 }, { name := "LOG2_ARRAY_INT_INDEX_SCALE", type := .int, accessFlags := 25, slot := 6, constantValue := 0 }, { name := "LOG2_ARRAY_LONG_INDEX_SCALE", type := .int, accessFlags := 25, slot := 7, constantValue := 0 }, { name := "LOG2_ARRAY_FLOAT_INDEX_SCALE", type := .int, accessFlags := 25, slot := 8, constantValue := 0 }, { name := "LOG2_ARRAY_DOUBLE_INDEX_SCALE", type := .int, accessFlags := 25, slot := 9, constantValue := 0 }, { name := "LOG2_BYTE_BIT_SIZE", type := .int, accessFlags := 26, slot := 10, constantValue := 0 }, { name := "T_BOOLEAN", type := .int, accessFlags := 25, slot := 11, constantValue := 0 }, { name := "T_CHAR", type := .int, accessFlags := 25, slot := 12, constantValue := 0 }, { name := "T_FLOAT", type := .int, accessFlags := 25, slot := 13, constantValue := 0 }, { name := "T_DOUBLE", type := .int, accessFlags := 25, slot := 14, constantValue := 0 }, { name := "T_BYTE", type := .int, accessFlags := 25, slot := 15, constantValue := 0 }, { name := "T_SHORT", type := .int, accessFlags := 25, slot := 16, constantValue := 0 }, { name := "T_INT", type := .int, accessFlags := 25, slot := 17, constantValue := 0 }, { name := "T_LONG", type := .int, accessFlags := 25, slot := 18, constantValue := 0 }, { name := "JLA", type := (.object "jdk/internal/access/JavaLangAccess"), accessFlags := 26, slot := 19, constantValue := 0 }, { name := "SOFT_MAX_ARRAY_LENGTH", type := .int, accessFlags := 25, slot := 20, constantValue := 0 }]
  methods := #[k14m0]
  instanceTypes := #[]
  staticTypes := #[(.object "jdk/internal/misc/Unsafe"), .boolean, .int, .int, .int, .int, .int, .int, .int, .int, .int, .int, .int, .int, .int, .int, .int, .int, .int, (.object "jdk/internal/access/JavaLangAccess"), .int]
  resolved := Array.replicate 378 none
  statics := none }

def pool15 : Array CpInfo := pool [(1, u "java/lang/Cloneable"), (0, .class_ 1), (0, u "java/lang/Object"), (0, .class_ 3)] 3

/-- java/lang/Cloneable -/
def k15 : Class := { plain "java/lang/Cloneable" (some 0) with
  accessFlags := 1537
  interfaces := #[]
  cf := some (fileOf pool15 2 #[] #[] 1537 4 #[] #[])
  fields := #[]
  methods := #[]
  instanceTypes := #[]
  staticTypes := #[]
  resolved := Array.replicate 8 none
  statics := none }

/-- the primitive byte -/
def k16 : Class := { plain "byte" none with kind := .primitive 'B', accessFlags := 0x411 }
/-- [B -/
def k17 : Class := { plain "[B" (some 0) with kind := .array 16 .byte, interfaces := #[15, 3], accessFlags := 1041 }

/-- the primitive int -/
def k18 : Class := { plain "int" none with kind := .primitive 'I', accessFlags := 0x411 }
/-- [I -/
def k19 : Class := { plain "[I" (some 0) with kind := .array 18 .int, interfaces := #[15, 3], accessFlags := 1041 }

def heap : Heap := #[{ cls := 8, slots := #[.long 0, .int 1, .null, .int 0, .null, .int 0, .int 0], vm := .statics 8 },
  { cls := 13, slots := #[.null, .null, .null], vm := .statics 13 }]
def classes : Array Class := #[k0, k1, k2, k3, k4, k5, k6, k7, k8, k9, k10, k11, k12, k13, k14, k15, k16, k17, k18, k19]
def interned : List (Array UInt16 × Addr) := []
def slotsUsed : Nat := 10
def theMethod : MethodId := ⟨1, 1⟩
def args0 : Array Value := #[.int 5, .int 5, .long 5, .int 5]
def aboutOver (below : List Frame) : State where
  vm := { classes := classes, interned := interned.toArray }
  heap := heap
  slotsUsed := slotsUsed
  threads := #[{ frames := .invoking theMethod args0 :: below }]
def below0 : List Frame := [.native { method := ⟨0, 0⟩, args := #[] }]
def about1 : State := aboutOver below0
def p0 : Program := .bare "" "" ""
def e0 : Env := launch0.env 0 0 0
theorem w_frames : about1.frames = Frame.invoking theMethod args0 :: below0 := rfl
set_option maxRecDepth 65536 in
theorem w_args : argsFit about1.vm theMethod args0 = true := by decide +kernel
set_option maxRecDepth 65536 in
theorem w_heap : heapFits about1 = true := by decide +kernel
set_option maxRecDepth 65536 in
theorem w_runnable : about1.curStatus? = some .runnable := by decide +kernel
set_option maxRecDepth 65536 in
theorem w_alone : about1.alone = true := by decide +kernel
set_option maxRecDepth 65536 in
theorem w_named : about1.methodNamed? x = some theMethod := by decide +kernel
set_option maxRecDepth 65536 in
theorem w_hears : about1.hears theMethod below0 = true := by decide +kernel
set_option maxRecDepth 65536 in
theorem w_ripe : about1.ripe theMethod args0 below0 = true := by decide +kernel
theorem w_running : about1.status = .running := rfl
set_option maxRecDepth 65536 in
theorem w_room : about1.hasRoom e0.platform room_1 = true :=
  launch0.hasRoom_least _ room_1 (by decide +kernel) (by decide +kernel) (by decide +kernel) (by decide +kernel) (by decide +kernel) (by decide +kernel)
theorem allAtoms_all (ts : List Jvm.Cond) (a : Array Jvm.Value) (st : Jvm.State) : (allAtoms ts).before a st = ts.all (fun c => c.before a st) := by
  induction ts with
  | nil => rfl
  | cons c t ih =>
    show (Jvm.Cond.and c (allAtoms t)).before a st = _
    rw [Jvm.Cond.before_and, ih, List.all_cons]
def words1 : List Jvm.Cond := Jvm.Cond.code x code maxLocals ret :: tables_1
/-- a 'code' word, met by the world's own term for the bytes: nothing is compared byte by byte -/
theorem code_word {y : MethodName} {bytes : ByteArray} {mx : Nat} {rt : Option FieldType} {a : Array Value} {s : State} {m : MethodId} {meth : Method} {c : Code} (h1 : s.methodNamed? y = some m) (h2 : s.vm.method? m = some meth) (h3 : meth.code = some c) (h4 : c.code = bytes)
    (h5 : (c.maxLocals == mx && c.exceptionTable.isEmpty && decide (c.maxStack ≤ mostOperands) && decide (meth.sig.returnType = rt) && !meth.locks && decide (parseMethodDescriptor y.desc = some meth.sig)) = true) : (Jvm.Cond.code y bytes mx rt).before a s = true := by
  simp only [Bool.and_eq_true, beq_iff_eq, Bool.not_eq_true', decide_eq_true_eq] at h5
  obtain ⟨⟨⟨⟨⟨g1, g2⟩, g3⟩, g4⟩, g5⟩, g6⟩ := h5
  simp [Cond.before, Cond.holds, Cond.value, h1, h2, h3, h4, g1, g2, g3, g4, g5, g6]
def isCode : Jvm.Cond → Bool
  | .code _ _ _ _ => true
  | _ => false
theorem all_split {L : List Jvm.Cond} {P : Jvm.Cond → Bool} (h1 : L.all (fun c => isCode c || P c) = true) (h2 : ∀ c ∈ L.filter isCode, P c = true) : L.all P = true := by
  refine List.all_eq_true.mpr fun c hc => ?_
  have h := List.all_eq_true.mp h1 c hc
  rcases Bool.eq_false_or_eq_true (isCode c) with hi | hi
  · exact h2 c (List.mem_filter.mpr ⟨hc, hi⟩)
  · simpa [hi] using h
set_option maxRecDepth 65536 in
theorem w_c0 : (Jvm.Cond.code x code maxLocals ret).before args0 about1 = true := code_word (m := ⟨1, 1⟩) (meth := k1m1) (c := k1c1) (by decide +kernel) rfl rfl rfl (by decide +kernel)
set_option maxRecDepth 65536 in
theorem w_c1 : (Jvm.Cond.code ({ cls := "com/example/commitlog/commitlog/codec/JsonWriter", name := "<init>", desc := "(I)V" } : Jvm.MethodName) prog_9_method_1_code (2 : Nat) (Option.none : Option Jvm.ClassFile.FieldType)).before args0 about1 = true := code_word (m := ⟨2, 0⟩) (meth := k2m0) (c := k2c0) (by decide +kernel) rfl rfl rfl (by decide +kernel)
set_option maxRecDepth 65536 in
theorem w_c2 : (Jvm.Cond.code ({ cls := "java/lang/Object", name := "<init>", desc := "()V" } : Jvm.MethodName) object_method_1_code (1 : Nat) (Option.none : Option Jvm.ClassFile.FieldType)).before args0 about1 = true := code_word (m := ⟨0, 0⟩) (meth := k0m0) (c := k0c0) (by decide +kernel) rfl rfl rfl (by decide +kernel)
set_option maxRecDepth 65536 in
theorem w_c3 : (Jvm.Cond.code ({ cls := "com/example/commitlog/commitlog/codec/JsonWriter", name := "bytes", desc := "()[B" } : Jvm.MethodName) prog_9_method_13_code (1 : Nat) (Option.some (Jvm.ClassFile.FieldType.array Jvm.ClassFile.FieldType.byte))).before args0 about1 = true := code_word (m := ⟨2, 5⟩) (meth := k2m5) (c := k2c5) (by decide +kernel) rfl rfl rfl (by decide +kernel)
set_option maxRecDepth 65536 in
theorem w_c4 : (Jvm.Cond.code ({ cls := "com/example/commitlog/commitlog/codec/JsonWriter", name := "reset", desc := "(I)Lcom/example/commitlog/commitlog/codec/JsonWriter;" } : Jvm.MethodName) prog_9_method_10_code (2 : Nat) (Option.some (Jvm.ClassFile.FieldType.object "com/example/commitlog/commitlog/codec/JsonWriter"))).before args0 about1 = true := code_word (m := ⟨2, 4⟩) (meth := k2m4) (c := k2c4) (by decide +kernel) rfl rfl rfl (by decide +kernel)
set_option maxRecDepth 65536 in
theorem w_c5 : (Jvm.Cond.code ({ cls := "com/example/commitlog/commitlog/codec/JsonWriter", name := "length", desc := "()I" } : Jvm.MethodName) prog_9_method_9_code (1 : Nat) (Option.some Jvm.ClassFile.FieldType.int)).before args0 about1 = true := code_word (m := ⟨2, 3⟩) (meth := k2m3) (c := k2c3) (by decide +kernel) rfl rfl rfl (by decide +kernel)
set_option maxRecDepth 65536 in
theorem w_c6 : (Jvm.Cond.code ({ cls := "com/example/commitlog/commitlog/codec/JsonWriter", name := "name", desc := "(Ljava/lang/String;)Lcom/example/commitlog/commitlog/codec/JsonWriter;" } : Jvm.MethodName) prog_9_method_4_code (2 : Nat) (Option.some (Jvm.ClassFile.FieldType.object "com/example/commitlog/commitlog/codec/JsonWriter"))).before args0 about1 = true := code_word (m := ⟨2, 1⟩) (meth := k2m1) (c := k2c1) (by decide +kernel) rfl rfl rfl (by decide +kernel)
set_option maxRecDepth 65536 in
theorem w_c7 : (Jvm.Cond.code ({ cls := "com/example/commitlog/commitlog/codec/JsonWriter", name := "string", desc := "(Ljava/lang/String;)V" } : Jvm.MethodName) prog_9_method_14_code (5 : Nat) (Option.none : Option Jvm.ClassFile.FieldType)).before args0 about1 = true := code_word (m := ⟨2, 6⟩) (meth := k2m6) (c := k2c6) (by decide +kernel) rfl rfl rfl (by decide +kernel)
set_option maxRecDepth 65536 in
theorem w_c8 : (Jvm.Cond.code ({ cls := "java/lang/String", name := "length", desc := "()I" } : Jvm.MethodName) jdk_42_method_54_code (1 : Nat) (Option.some Jvm.ClassFile.FieldType.int)).before args0 about1 = true := code_word (m := ⟨8, 1⟩) (meth := k8m1) (c := k8c1) (by decide +kernel) rfl rfl rfl (by decide +kernel)
set_option maxRecDepth 65536 in
theorem w_c9 : (Jvm.Cond.code ({ cls := "java/lang/String", name := "coder", desc := "()B" } : Jvm.MethodName) jdk_42_method_152_code (1 : Nat) (Option.some Jvm.ClassFile.FieldType.byte)).before args0 about1 = true := code_word (m := ⟨8, 3⟩) (meth := k8m3) (c := k8c3) (by decide +kernel) rfl rfl rfl (by decide +kernel)
set_option maxRecDepth 65536 in
theorem w_c10 : (Jvm.Cond.code ({ cls := "com/example/commitlog/commitlog/codec/JsonWriter", name := "room", desc := "(I)V" } : Jvm.MethodName) prog_9_method_19_code (2 : Nat) (Option.none : Option Jvm.ClassFile.FieldType)).before args0 about1 = true := code_word (m := ⟨2, 8⟩) (meth := k2m8) (c := k2c8) (by decide +kernel) rfl rfl rfl (by decide +kernel)
set_option maxRecDepth 65536 in
theorem w_c11 : (Jvm.Cond.code ({ cls := "java/lang/Math", name := "max", desc := "(JJ)J" } : Jvm.MethodName) jdk_29_method_66_code (4 : Nat) (Option.some Jvm.ClassFile.FieldType.long)).before args0 about1 = true := code_word (m := ⟨9, 1⟩) (meth := k9m1) (c := k9c1) (by decide +kernel) rfl rfl rfl (by decide +kernel)
set_option maxRecDepth 65536 in
theorem w_c12 : (Jvm.Cond.code ({ cls := "java/lang/Math", name := "min", desc := "(JJ)J" } : Jvm.MethodName) jdk_29_method_70_code (4 : Nat) (Option.some Jvm.ClassFile.FieldType.long)).before args0 about1 = true := code_word (m := ⟨9, 3⟩) (meth := k9m3) (c := k9c3) (by decide +kernel) rfl rfl rfl (by decide +kernel)
set_option maxRecDepth 65536 in
theorem w_c13 : (Jvm.Cond.code ({ cls := "java/util/Arrays", name := "copyOf", desc := "([BI)[B" } : Jvm.MethodName) jdk_65_method_121_code (3 : Nat) (Option.some (Jvm.ClassFile.FieldType.array Jvm.ClassFile.FieldType.byte))).before args0 about1 = true := code_word (m := ⟨10, 1⟩) (meth := k10m1) (c := k10c1) (by decide +kernel) rfl rfl rfl (by decide +kernel)
set_option maxRecDepth 65536 in
theorem w_c14 : (Jvm.Cond.code ({ cls := "java/lang/Math", name := "min", desc := "(II)I" } : Jvm.MethodName) jdk_29_method_69_code (2 : Nat) (Option.some Jvm.ClassFile.FieldType.int)).before args0 about1 = true := code_word (m := ⟨9, 2⟩) (meth := k9m2) (c := k9c2) (by decide +kernel) rfl rfl rfl (by decide +kernel)
set_option maxRecDepth 65536 in
theorem w_c15 : (Jvm.Cond.code ({ cls := "java/lang/String", name := "charAt", desc := "(I)C" } : Jvm.MethodName) jdk_42_method_56_code (2 : Nat) (Option.some Jvm.ClassFile.FieldType.char)).before args0 about1 = true := code_word (m := ⟨8, 2⟩) (meth := k8m2) (c := k8c2) (by decide +kernel) rfl rfl rfl (by decide +kernel)
set_option maxRecDepth 65536 in
theorem w_c16 : (Jvm.Cond.code ({ cls := "java/lang/String", name := "isLatin1", desc := "()Z" } : Jvm.MethodName) jdk_42_method_154_code (1 : Nat) (Option.some Jvm.ClassFile.FieldType.boolean)).before args0 about1 = true := code_word (m := ⟨8, 4⟩) (meth := k8m4) (c := k8c4) (by decide +kernel) rfl rfl rfl (by decide +kernel)
set_option maxRecDepth 65536 in
theorem w_c17 : (Jvm.Cond.code ({ cls := "java/lang/StringLatin1", name := "charAt", desc := "([BI)C" } : Jvm.MethodName) jdk_43_method_2_code (2 : Nat) (Option.some Jvm.ClassFile.FieldType.char)).before args0 about1 = true := code_word (m := ⟨12, 1⟩) (meth := k12m1) (c := k12c1) (by decide +kernel) rfl rfl rfl (by decide +kernel)
set_option maxRecDepth 65536 in
theorem w_c18 : (Jvm.Cond.code ({ cls := "java/lang/String", name := "checkIndex", desc := "(II)V" } : Jvm.MethodName) jdk_42_method_155_code (2 : Nat) (Option.none : Option Jvm.ClassFile.FieldType)).before args0 about1 = true := code_word (m := ⟨8, 5⟩) (meth := k8m5) (c := k8c5) (by decide +kernel) rfl rfl rfl (by decide +kernel)
set_option maxRecDepth 65536 in
theorem w_c19 : (Jvm.Cond.code ({ cls := "jdk/internal/util/Preconditions", name := "checkIndex", desc := "(IILjava/util/function/BiFunction;)I" } : Jvm.MethodName) jdk_41_method_11_code (3 : Nat) (Option.some Jvm.ClassFile.FieldType.int)).before args0 about1 = true := code_word (m := ⟨13, 1⟩) (meth := k13m1) (c := k13c1) (by decide +kernel) rfl rfl rfl (by decide +kernel)
set_option maxRecDepth 65536 in
theorem w_c20 : (Jvm.Cond.code ({ cls := "com/example/commitlog/commitlog/codec/JsonWriter", name := "put", desc := "(I)V" } : Jvm.MethodName) prog_9_method_18_code (2 : Nat) (Option.none : Option Jvm.ClassFile.FieldType)).before args0 about1 = true := code_word (m := ⟨2, 7⟩) (meth := k2m7) (c := k2c7) (by decide +kernel) rfl rfl rfl (by decide +kernel)
set_option maxRecDepth 65536 in
theorem w_c21 : (Jvm.Cond.code ({ cls := "com/example/commitlog/commitlog/codec/JsonWriter", name := "value", desc := "(J)Lcom/example/commitlog/commitlog/codec/JsonWriter;" } : Jvm.MethodName) prog_9_method_8_code (9 : Nat) (Option.some (Jvm.ClassFile.FieldType.object "com/example/commitlog/commitlog/codec/JsonWriter"))).before args0 about1 = true := code_word (m := ⟨2, 2⟩) (meth := k2m2) (c := k2c2) (by decide +kernel) rfl rfl rfl (by decide +kernel)
def codes1 : List Jvm.Cond := [Jvm.Cond.code x code maxLocals ret, Jvm.Cond.code ({ cls := "com/example/commitlog/commitlog/codec/JsonWriter", name := "<init>", desc := "(I)V" } : Jvm.MethodName) prog_9_method_1_code (2 : Nat) (Option.none : Option Jvm.ClassFile.FieldType), Jvm.Cond.code ({ cls := "java/lang/Object", name := "<init>", desc := "()V" } : Jvm.MethodName) object_method_1_code (1 : Nat) (Option.none : Option Jvm.ClassFile.FieldType), Jvm.Cond.code ({ cls := "com/example/commitlog/commitlog/codec/JsonWriter", name := "bytes", desc := "()[B" } : Jvm.MethodName) prog_9_method_13_code (1 : Nat) (Option.some (Jvm.ClassFile.FieldType.array Jvm.ClassFile.FieldType.byte)), Jvm.Cond.code ({ cls := "com/example/commitlog/commitlog/codec/JsonWriter", name := "reset", desc := "(I)Lcom/example/commitlog/commitlog/codec/JsonWriter;" } : Jvm.MethodName) prog_9_method_10_code (2 : Nat) (Option.some (Jvm.ClassFile.FieldType.object "com/example/commitlog/commitlog/codec/JsonWriter")), Jvm.Cond.code ({ cls := "com/example/commitlog/commitlog/codec/JsonWriter", name := "length", desc := "()I" } : Jvm.MethodName) prog_9_method_9_code (1 : Nat) (Option.some Jvm.ClassFile.FieldType.int), Jvm.Cond.code ({ cls := "com/example/commitlog/commitlog/codec/JsonWriter", name := "name", desc := "(Ljava/lang/String;)Lcom/example/commitlog/commitlog/codec/JsonWriter;" } : Jvm.MethodName) prog_9_method_4_code (2 : Nat) (Option.some (Jvm.ClassFile.FieldType.object "com/example/commitlog/commitlog/codec/JsonWriter")), Jvm.Cond.code ({ cls := "com/example/commitlog/commitlog/codec/JsonWriter", name := "string", desc := "(Ljava/lang/String;)V" } : Jvm.MethodName) prog_9_method_14_code (5 : Nat) (Option.none : Option Jvm.ClassFile.FieldType), Jvm.Cond.code ({ cls := "java/lang/String", name := "length", desc := "()I" } : Jvm.MethodName) jdk_42_method_54_code (1 : Nat) (Option.some Jvm.ClassFile.FieldType.int), Jvm.Cond.code ({ cls := "java/lang/String", name := "coder", desc := "()B" } : Jvm.MethodName) jdk_42_method_152_code (1 : Nat) (Option.some Jvm.ClassFile.FieldType.byte), Jvm.Cond.code ({ cls := "com/example/commitlog/commitlog/codec/JsonWriter", name := "room", desc := "(I)V" } : Jvm.MethodName) prog_9_method_19_code (2 : Nat) (Option.none : Option Jvm.ClassFile.FieldType), Jvm.Cond.code ({ cls := "java/lang/Math", name := "max", desc := "(JJ)J" } : Jvm.MethodName) jdk_29_method_66_code (4 : Nat) (Option.some Jvm.ClassFile.FieldType.long), Jvm.Cond.code ({ cls := "java/lang/Math", name := "min", desc := "(JJ)J" } : Jvm.MethodName) jdk_29_method_70_code (4 : Nat) (Option.some Jvm.ClassFile.FieldType.long), Jvm.Cond.code ({ cls := "java/util/Arrays", name := "copyOf", desc := "([BI)[B" } : Jvm.MethodName) jdk_65_method_121_code (3 : Nat) (Option.some (Jvm.ClassFile.FieldType.array Jvm.ClassFile.FieldType.byte)), Jvm.Cond.code ({ cls := "java/lang/Math", name := "min", desc := "(II)I" } : Jvm.MethodName) jdk_29_method_69_code (2 : Nat) (Option.some Jvm.ClassFile.FieldType.int), Jvm.Cond.code ({ cls := "java/lang/String", name := "charAt", desc := "(I)C" } : Jvm.MethodName) jdk_42_method_56_code (2 : Nat) (Option.some Jvm.ClassFile.FieldType.char), Jvm.Cond.code ({ cls := "java/lang/String", name := "isLatin1", desc := "()Z" } : Jvm.MethodName) jdk_42_method_154_code (1 : Nat) (Option.some Jvm.ClassFile.FieldType.boolean), Jvm.Cond.code ({ cls := "java/lang/StringLatin1", name := "charAt", desc := "([BI)C" } : Jvm.MethodName) jdk_43_method_2_code (2 : Nat) (Option.some Jvm.ClassFile.FieldType.char), Jvm.Cond.code ({ cls := "java/lang/String", name := "checkIndex", desc := "(II)V" } : Jvm.MethodName) jdk_42_method_155_code (2 : Nat) (Option.none : Option Jvm.ClassFile.FieldType), Jvm.Cond.code ({ cls := "jdk/internal/util/Preconditions", name := "checkIndex", desc := "(IILjava/util/function/BiFunction;)I" } : Jvm.MethodName) jdk_41_method_11_code (3 : Nat) (Option.some Jvm.ClassFile.FieldType.int), Jvm.Cond.code ({ cls := "com/example/commitlog/commitlog/codec/JsonWriter", name := "put", desc := "(I)V" } : Jvm.MethodName) prog_9_method_18_code (2 : Nat) (Option.none : Option Jvm.ClassFile.FieldType), Jvm.Cond.code ({ cls := "com/example/commitlog/commitlog/codec/JsonWriter", name := "value", desc := "(J)Lcom/example/commitlog/commitlog/codec/JsonWriter;" } : Jvm.MethodName) prog_9_method_8_code (9 : Nat) (Option.some (Jvm.ClassFile.FieldType.object "com/example/commitlog/commitlog/codec/JsonWriter"))]
set_option maxRecDepth 65536 in
theorem codes_eq : words1.filter isCode = codes1 := rfl
theorem w_codes : ∀ c ∈ words1.filter isCode, c.before args0 about1 = true := by
  rw [codes_eq]
  intro c hc
  simp only [codes1, List.mem_cons, List.not_mem_nil, or_false] at hc
  rcases hc with rfl | rfl | rfl | rfl | rfl | rfl | rfl | rfl | rfl | rfl | rfl | rfl | rfl | rfl | rfl | rfl | rfl | rfl | rfl | rfl | rfl | rfl
  · exact w_c0
  · exact w_c1
  · exact w_c2
  · exact w_c3
  · exact w_c4
  · exact w_c5
  · exact w_c6
  · exact w_c7
  · exact w_c8
  · exact w_c9
  · exact w_c10
  · exact w_c11
  · exact w_c12
  · exact w_c13
  · exact w_c14
  · exact w_c15
  · exact w_c16
  · exact w_c17
  · exact w_c18
  · exact w_c19
  · exact w_c20
  · exact w_c21
set_option maxRecDepth 65536 in
theorem w_t1 : (words1.take 24).all (fun c => isCode c || c.before args0 about1) = true := by decide +kernel
set_option maxRecDepth 65536 in
theorem w_t2 : ((words1.drop 24).take 24).all (fun c => isCode c || c.before args0 about1) = true := by decide +kernel
set_option maxRecDepth 65536 in
theorem w_t3 : (((words1.drop 24).drop 24).take 24).all (fun c => isCode c || c.before args0 about1) = true := by decide +kernel
set_option maxRecDepth 65536 in
theorem w_t4 : ((((words1.drop 24).drop 24).drop 24).take 24).all (fun c => isCode c || c.before args0 about1) = true := by decide +kernel
set_option maxRecDepth 65536 in
theorem w_t5 : ((((words1.drop 24).drop 24).drop 24).drop 24).all (fun c => isCode c || c.before args0 about1) = true := by decide +kernel
theorem w_tables : (allAtoms (Jvm.Cond.code x code maxLocals ret :: tables_1)).before args0 about1 = true := by
  rw [allAtoms_all]
  show words1.all (fun c => c.before args0 about1) = true
  refine all_split ?_ w_codes
  rw [← List.take_append_drop 24 words1, List.all_append, w_t1, ← List.take_append_drop 24 (words1.drop 24), List.all_append, w_t2, ← List.take_append_drop 24 ((words1.drop 24).drop 24), List.all_append, w_t3, ← List.take_append_drop 24 (((words1.drop 24).drop 24).drop 24), List.all_append, w_t4, w_t5]
  rfl
set_option maxRecDepth 65536 in
theorem w_rest : rest_1_c.before args0 about1 = true := by decide +kernel
set_option maxRecDepth 65536 in
theorem w_case : (Jvm.Cond.and given_1 narrow_1).before args0 about1 = true := by decide +kernel
set_option maxRecDepth 65536 in
theorem w_consts : constsHeld consts_1 about1 := Jvm.Lit.constsHeldB_iff.mp (by decide +kernel)
theorem w_applies : (headSpec (Jvm.Cond.code x code maxLocals ret :: tables_1) room_1).applies x e0.platform about1 = true :=
  (Spec.applies_iff w_frames).mpr ⟨w_running, w_runnable, w_alone, w_named, w_hears, w_ripe, w_room, w_tables⟩
theorem atStart : AtStart classFile x code maxLocals ret World_1 tables_1 room_1 Calls_1 rest_1 Pre_1 launch0 p0 e0 about1 theMethod args0 below0 :=
  ⟨lists_1, trivial, launch0.admits_env _ _ _, launch0.least_env, fairChoices_fair.cas, fairChoices_fair.clock, w_frames, w_args, w_heap, w_applies, ⟨w_consts, trivial⟩, w_rest, w_case⟩
end start1
theorem witness_1 : WitnessClaimed_1 := ⟨start1.p0, start1.e0, start1.about1, start1.theMethod, start1.args0, start1.below0, start1.atStart⟩
end Jvm.Pilot.@@N@@
