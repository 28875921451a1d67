import JvmDerived
import JvmDerived.Pilot.@@N@@Statement
import JvmDerived.Pilot.@@N@@Code
set_option linter.unusedVariables false
set_option linter.unusedSimpArgs false
namespace Jvm.Pilot.@@N@@
open Jvm Jvm.ClassFile Sem Op Lib Jvm.Free Jvm.Stand Jvm.LawKit Jvm.RoadKit Bundle Jvm.Pilot.@@N@@.Jvm.D
section OwnKit
variable {p : Program} {l : Launch} {e : Env} {R : Room} {s : State} {m : MethodId} {args : Array Value} {below : List Frame} {meth : Method} {c : Code} {T : State} {locs : List Loc} {cells slots : Nat} {Z : State} {h h' : Heap} {a b : Addr} {ty : FieldType} {n : Nat} {f f' : Nat → Value} {sl : Nat} {v : Value} {ws : List Addr}
theorem own_dia {t : State} {B F : JFrame} (hh : Steps p.tables e below (T.setTop F) t → Steps p.tables e below (T.setTop B) t) (k : Steps p.tables e below (T.setTop F) t) : Steps p.tables e below (T.setTop B) t := hh k
/-- the place j lies in an array of n places -/
abbrev own_in (j : Int32) (n : Nat) : Prop := 0 ≤ j.toInt ∧ j.toInt < n
theorem own_in_nat {j : Int32} (hj : own_in j n) : j.toNatClampNeg < n := by simp only [Int32.toNatClampNeg]; omega
theorem own_in_arr {cl : Cell} {j : Int32} (hs : cl.slots.size = n) (hj : own_in j n) : ¬ (j < 0 ∨ cl.slots.size ≤ j.toNatClampNeg) := by
  have := own_in_nat hj
  have k0 : (0 : Int32).toInt = 0 := by decide
  rw [Int32.lt_iff_toInt_lt, hs, k0]; omega
/-- an array: its kind, its length, and what each place holds -/
def AF (Z : State) (h : Heap) (a : Addr) (ty : FieldType) (n : Nat) (f : Nat → Value) : Prop := ∃ c : Cell, Arr Z h a c ty ∧ c.slots.size = n ∧ n < 2147483648 ∧ ∀ j, j < n → c.slots[j]? = some (f j)
theorem AF.lt (F : AF Z h a ty n f) : a < h.size := by obtain ⟨c, A, -⟩ := F; exact A.lt
theorem AF.small (F : AF Z h a ty n f) : n < 2147483648 := by obtain ⟨c, -, -, q, -⟩ := F; exact q
theorem AF.ext (F : AF Z h a ty n f) (E : Ext h h') : AF Z h' a ty n f := by obtain ⟨c, A, r⟩ := F; exact ⟨c, A.ext E, r⟩
theorem AF.other (F : AF Z h b ty n f) (W : Wr h h' a sl v) (q : b ≠ a) : AF Z h' b ty n f := by obtain ⟨c, A, r⟩ := F; exact ⟨c, A.other W q, r⟩
theorem AF.keep (F : AF Z h a ty n f) (K : Keep h h' ws) (q : a ∉ ws) : AF Z h' a ty n f := by obtain ⟨c, A, r⟩ := F; exact ⟨c, ⟨K.2.1 a c A.1 q, A.2⟩, r⟩
theorem AF.cong (F : AF Z h a ty n f) (q : ∀ j, j < n → f j = f' j) : AF Z h a ty n f' := by obtain ⟨c, A, r1, r2, r3⟩ := F; exact ⟨c, A, r1, r2, fun j hj => by rw [← q j hj]; exact r3 j hj⟩
theorem AF.new {k : ClassId} {z : Int32} (A : Arr Z h a (newA k ty z) ty) (q : ¬ z < 0) : AF Z h a ty z.toNatClampNeg (fun _ => defaultValue ty) := ⟨_, A, sz_new _ _ _, (back32 q).2, fun j hj => by simp [newA, hj]⟩
theorem AF.set (F : AF Z h a ty n f) {k : Nat} (W : Wr h h' a k v) : AF Z h' a ty n (fun i => if i = k then v else f i) := by
  obtain ⟨c, A, r1, r2, r3⟩ := F
  refine ⟨_, Arr.same W A, by rw [sz_set]; exact r1, r2, fun j hj => ?_⟩
  obtain ⟨cell, h1, -, h3, -⟩ := W
  cases h1.symm.trans A.1
  by_cases q : j = k
  · subst q; simp [Cell.setSlot, h3]
  · have q' : ¬ k = j := fun z => q z.symm
    simp only [Cell.setSlot, Array.getElem?_setIfInBounds, if_neg q, if_neg q']; exact r3 j hj
theorem own_updI {g fN : Nat → Int32} {x : Int32} {J k : Nat} (hk : k = J) (hf : fN = fun i => if i = J then x else g i) : ∀ j, j < n → (if j = k then Value.int x else Value.int (g j)) = Value.int (fN j) := by
  subst hk hf; intro j _; by_cases q : j = k <;> simp [q]
theorem own_updJ {g fN : Nat → Int64} {x : Int64} {J k : Nat} (hk : k = J) (hf : fN = fun i => if i = J then x else g i) : ∀ j, j < n → (if j = k then Value.long x else Value.long (g j)) = Value.long (fN j) := by
  subst hk hf; intro j _; by_cases q : j = k <;> simp [q]
theorem AF.ldI (X : Stand p l e R s m args below meth c T locs cells slots) (hx : p.tables.exec = Jvm.exec) (hZ : Z.Warmed39 s.vm) (eT : T.heap = h) {f : Nat → Int32} (A : AF Z h a .int n (fun j => .int (f j))) {j : Int32} (hj : own_in j n) {g : JFrame} (hg : g.method = m) {rest : List Value} (hs : g.stack = .int j :: .ref a :: rest) (hd : decode c.code g.pc = .ok (.iaload, 1)) (target : State)
    (k : Steps p.tables e below (T.setTop { g with pc := g.pc + 1, stack := .int (f j.toNatClampNeg) :: rest }) target) : Steps p.tables e below (T.setTop g) target := by
  obtain ⟨cl, A, r1, r2, r3⟩ := A
  exact X.iaload hx (j := j) (v := .int (f j.toNatClampNeg)) (by rw [eT]; exact A.1) (State.isArrayOf_alike hZ.alike A.2.1) A.2.2 (own_in_arr r1 hj) (r3 _ (own_in_nat hj)) hg hs hd _ k
theorem AF.ldJ (X : Stand p l e R s m args below meth c T locs cells slots) (hx : p.tables.exec = Jvm.exec) (hZ : Z.Warmed39 s.vm) (eT : T.heap = h) {f : Nat → Int64} (A : AF Z h a .long n (fun j => .long (f j))) {j : Int32} (hj : own_in j n) {g : JFrame} (hg : g.method = m) {rest : List Value} (hs : g.stack = .int j :: .ref a :: rest) (hd : decode c.code g.pc = .ok (.laload, 1)) (target : State)
    (k : Steps p.tables e below (T.setTop { g with pc := g.pc + 1, stack := .long (f j.toNatClampNeg) :: rest }) target) : Steps p.tables e below (T.setTop g) target := by
  obtain ⟨cl, A, r1, r2, r3⟩ := A
  exact X.laload hx (j := j) (v := .long (f j.toNatClampNeg)) (by rw [eT]; exact A.1) (State.isArrayOf_alike hZ.alike A.2.1) A.2.2 (own_in_arr r1 hj) (r3 _ (own_in_nat hj)) hg hs hd _ k
theorem AF.ldB (X : Stand p l e R s m args below meth c T locs cells slots) (hx : p.tables.exec = Jvm.exec) (hZ : Z.Warmed39 s.vm) (eT : T.heap = h) {f : Nat → Int32} (A : AF Z h a .byte n (fun j => .int (f j))) {j : Int32} (hj : own_in j n) {g : JFrame} (hg : g.method = m) {rest : List Value} (hs : g.stack = .int j :: .ref a :: rest) (hd : decode c.code g.pc = .ok (.baload, 1)) (target : State)
    (k : Steps p.tables e below (T.setTop { g with pc := g.pc + 1, stack := .int (f j.toNatClampNeg) :: rest }) target) : Steps p.tables e below (T.setTop g) target := by
  obtain ⟨cl, A, r1, r2, r3⟩ := A
  exact X.baloadBytes hx (j := j) (v := .int (f j.toNatClampNeg)) (by rw [eT]; exact A.1) (State.isArrayOf_alike hZ.alike A.2.1) A.2.2 (own_in_arr r1 hj) (r3 _ (own_in_nat hj)) hg hs hd _ k
theorem AF.len (X : Stand p l e R s m args below meth c T locs cells slots) (hx : p.tables.exec = Jvm.exec) (hZ : Z.Warmed39 s.vm) (eT : T.heap = h) (A : AF Z h a ty n f) {g : JFrame} (hg : g.method = m) {rest : List Value} (hs : g.stack = .ref a :: rest) (hd : decode c.code g.pc = .ok (.arraylength, 1)) (target : State)
    (k : Steps p.tables e below (T.setTop { g with pc := g.pc + 1, stack := .int (Int32.ofNat n) :: rest }) target) : Steps p.tables e below (T.setTop g) target := by
  obtain ⟨cl, A, r1, r2, r3⟩ := A
  subst r1
  exact X.arraylength hx (by rw [eT]; exact A.1) (State.isArrayOf_alike hZ.alike A.2.1) hg hs hd _ k
theorem AF.stI (X : Stand p l e R s m args below meth c T locs cells slots) (hx : p.tables.exec = Jvm.exec) (hZ : Z.Warmed39 s.vm) (eT : T.heap = h) (A : AF Z h a .int n f) {j x : Int32} (hj : own_in j n) {g : JFrame} (hg : g.method = m) {rest : List Value} (hs : g.stack = .int x :: .int j :: .ref a :: rest) (hd : decode c.code g.pc = .ok (.iastore, 1)) :
    ∃ T' h', Stand p l e R s m args below meth c T' (locs ++ [⟨a, j.toNatClampNeg⟩]) cells slots ∧ T'.heap = h' ∧ Wr h h' a j.toNatClampNeg (.int x) ∧ AF Z h' a .int n (fun i => if i = j.toNatClampNeg then .int x else f i) ∧ ∀ target, Steps p.tables e below (T'.setTop { g with pc := g.pc + 1, stack := rest }) target → Steps p.tables e below (T.setTop g) target := by
  have A0 := A
  obtain ⟨cl, A, r1, r2, r3⟩ := A
  obtain ⟨T', h', X', e', W, st⟩ := Jvm.RoadKit.stI X hx hZ eT A (j := j) (own_in_arr r1 hj) hg hs hd
  exact ⟨T', h', X', e', W, A0.set W, st⟩
theorem AF.stJ (X : Stand p l e R s m args below meth c T locs cells slots) (hx : p.tables.exec = Jvm.exec) (hZ : Z.Warmed39 s.vm) (eT : T.heap = h) (A : AF Z h a .long n f) {j : Int32} {x : Int64} (hj : own_in j n) {g : JFrame} (hg : g.method = m) {rest : List Value} (hs : g.stack = .long x :: .int j :: .ref a :: rest) (hd : decode c.code g.pc = .ok (.lastore, 1)) :
    ∃ T' h', Stand p l e R s m args below meth c T' (locs ++ [⟨a, j.toNatClampNeg⟩]) cells slots ∧ T'.heap = h' ∧ Wr h h' a j.toNatClampNeg (.long x) ∧ AF Z h' a .long n (fun i => if i = j.toNatClampNeg then .long x else f i) ∧ ∀ target, Steps p.tables e below (T'.setTop { g with pc := g.pc + 1, stack := rest }) target → Steps p.tables e below (T.setTop g) target := by
  have A0 := A
  obtain ⟨cl, A, r1, r2, r3⟩ := A
  obtain ⟨T', h', X', e', W, st⟩ := Jvm.RoadKit.stJ X hx hZ eT A (j := j) (own_in_arr r1 hj) hg hs hd
  exact ⟨T', h', X', e', W, A0.set W, st⟩
theorem AF.stB (X : Stand p l e R s m args below meth c T locs cells slots) (hx : p.tables.exec = Jvm.exec) (hZ : Z.Warmed39 s.vm) (eT : T.heap = h) (A : AF Z h a .byte n f) {j x : Int32} (hj : own_in j n) {g : JFrame} (hg : g.method = m) {rest : List Value} (hs : g.stack = .int x :: .int j :: .ref a :: rest) (hd : decode c.code g.pc = .ok (.bastore, 1)) :
    ∃ T' h', Stand p l e R s m args below meth c T' (locs ++ [⟨a, j.toNatClampNeg⟩]) cells slots ∧ T'.heap = h' ∧ Wr h h' a j.toNatClampNeg (.int x.toInt8.toInt32) ∧ AF Z h' a .byte n (fun i => if i = j.toNatClampNeg then .int x.toInt8.toInt32 else f i) ∧ ∀ target, Steps p.tables e below (T'.setTop { g with pc := g.pc + 1, stack := rest }) target → Steps p.tables e below (T.setTop g) target := by
  have A0 := A
  obtain ⟨cl, A, r1, r2, r3⟩ := A
  obtain ⟨T', h', X', e', W, st⟩ := Jvm.RoadKit.stB X hx hZ eT A (j := j) (own_in_arr r1 hj) hg hs hd
  exact ⟨T', h', X', e', W, A0.set W, st⟩
theorem own_cpyI {f g fN : Nat → Int32} {k : Nat} (hf : fN = fun j => if j < k then f j else g j) : ∀ j, j < n → (if j < k then Value.int (f j) else Value.int (g j)) = Value.int (fN j) := by
  subst hf; intro j _; by_cases q : j < k <;> simp [q]
theorem own_cpyJ {f g fN : Nat → Int64} {k : Nat} (hf : fN = fun j => if j < k then f j else g j) : ∀ j, j < n → (if j < k then Value.long (f j) else Value.long (g j)) = Value.long (fN j) := by
  subst hf; intro j _; by_cases q : j < k <;> simp [q]
theorem own_acW {own : String} {index : Nat} (h1 : (Jvm.Cond.methodLink own index Jvm.Stand.acN).before args s = true) (h2 : (Jvm.Cond.native Jvm.Stand.acN).before args s = true) (h3 : (Jvm.Cond.static Jvm.Stand.acN).before args s = true) (h4 : (Jvm.Cond.initialized "java/lang/System").before args s = true) : ∀ w ∈ Jvm.Free.XT.acW own index, w.before args s = true := by
  intro w hw
  change w ∈ [Jvm.Cond.methodLink own index Jvm.Stand.acN, Jvm.Cond.native Jvm.Stand.acN, Jvm.Cond.static Jvm.Stand.acN, Jvm.Cond.initialized "java/lang/System"] at hw
  simp only [List.mem_cons, List.not_mem_nil, or_false] at hw
  rcases hw with rfl | rfl | rfl | rfl
  · exact h1
  · exact h2
  · exact h3
  · exact h4
theorem own_isArr {c c' : Cell} (q : Z.isArrayOf c ty) (h1 : c'.cls = c.cls) (h2 : c'.vm = c.vm) : Z.isArrayOf c' ty := by
  obtain ⟨q1, k, q2, q3⟩ := q
  exact ⟨by rw [h2]; exact q1, k, by rw [h1]; exact q2, q3⟩
theorem AF.copy (X : Stand p l e R s m args below meth c T locs cells slots) (hx : p.tables.exec = Jvm.exec) (hZ : Z.Warmed39 s.vm) {own : String} {index : Nat} (hown : s.vm.findClass own = some m.cls) (hw : ∀ w ∈ Jvm.Free.XT.acW own index, w.before args s = true)
    (eT : T.heap = h) {k : Nat} {f' : Nat → Value} (A : AF Z h a ty n f) (B : AF Z h b ty k f') (hp : ty.isReference = false) {cnt : Nat} (hfit : ∀ j, j < cnt → fits ty (f j) = true) (h1 : cnt ≤ n) (h2 : cnt ≤ k) {jn : Int32} (hn : jn = Int32.ofNat cnt)
    {g : JFrame} (hg : g.method = m) (hsize : g.locals.size = c.maxLocals) {rest : List Value} (hs : g.stack = .int jn :: .int 0 :: .ref b :: .int 0 :: .ref a :: rest) (hd : decode c.code g.pc = .ok (.invokestatic index, 3))
    {W : Nat} (hW : 2 * g.monitorRoom + (rest.map fun v => v.category).sum ≤ W) (hfr : 1 ≤ R.frames) (hlo : W + 40 ≤ R.locals) :
    ∃ (T' : State) (h' : Heap) (L' : List Loc), Stand p l e R s m args below meth c T' (locs ++ L') cells slots ∧ T'.heap = h' ∧ (∀ y ∈ L', y.base = b) ∧ Keep h h' [b] ∧ AF Z h' b ty k (fun j => if j < cnt then f j else f' j) ∧
      ∀ target, Steps p.tables e below (T'.setTop { g with pc := g.pc + 3, stack := rest }) target → Steps p.tables e below (T.setTop g) target := by
  obtain ⟨ca, A, a1, a2, a3⟩ := A
  obtain ⟨cb, B, b1, b2, b3⟩ := B
  have tA : Jvm.Free.XT.Arr ty a ca T := ⟨by rw [eT]; exact A.1, State.isArrayOf_alike X.warmed.alike (State.isArrayOf_alike hZ.alike A.2.1), A.2.2, by omega⟩
  have tB : Jvm.Free.XT.Arr ty b cb T := ⟨by rw [eT]; exact B.1, State.isArrayOf_alike X.warmed.alike (State.isArrayOf_alike hZ.alike B.2.1), B.2.2, by omega⟩
  have ga : ∀ j, j < n → ca.slots.getD j .null = f j := fun j hj => by
    have q := a3 j hj
    rw [Array.getD_eq_getD_getElem?, q]; rfl
  obtain ⟨T', B', X', P, q1, q2, q3, q4, st⟩ := X.acopy hx (o := 0) (q := 0) (n := cnt) (jo := 0) (jq := 0) hown hw tA tB (by simp) rfl rfl hn (by omega) (by omega)
    (fun i hi => ⟨by rw [Nat.zero_add, ga i (by omega)]; exact hfit i hi, fun z => by rw [hp] at z; cases z⟩) hg hsize hs hd hW hfr hlo
  refine ⟨T', _, _, X', rfl, fun y hy => ?_, ⟨by rw [P.2.2, eT]; exact Nat.le_refl _, fun x cx hx' hn' => ?_, fun x cx hx' => ?_⟩, ⟨B', ⟨P.1, own_isArr B.2.1 q1 q2, by rw [q2]; exact B.2.2⟩, q3.trans b1, b2, fun j hj => ?_⟩, st⟩
  · simp only [copyLocs, List.mem_map] at hy
    obtain ⟨i, -, rfl⟩ := hy
    rfl
  · rw [P.2.1 x (fun z => hn' (by simp [z])), eT]; exact hx'
  · by_cases z : x = b
    · subst z
      cases hx'.symm.trans B.1
      exact ⟨B', P.1, q1, q2, q3⟩
    · exact ⟨cx, by rw [P.2.1 x z, eT]; exact hx', rfl, rfl, rfl⟩
  · show _ = some (if j < cnt then f j else f' j)
    rw [q4 j]
    by_cases z : j < cnt
    · rw [if_pos (by omega), if_pos z]
      have : 0 + (j - 0) = j := by omega
      rw [this, ga j (by omega)]
    · rw [if_neg (by omega), if_neg z]; exact b3 j hj
theorem own_nb (x : Int32) : nar .boolean x = x &&& 1 := rfl
theorem own_nar1 : nar .boolean 1 = 1 := rfl
theorem own_nar0 : nar .boolean 0 = 0 := rfl
theorem own_nbyte (x : Int32) : nar .byte x = x.toInt8.toInt32 := rfl
theorem own_nar_ite (q : Prop) [Decidable q] (x y : Int32) : nar .boolean (if q then x else y) = if q then nar .boolean x else nar .boolean y := by split <;> rfl
theorem own_pos_ne {x : Int64} (q : 0 < x) : x ≠ 0 := fun z => by subst z; exact absurd q (by decide)
theorem own_cat {w : Value} (q : w.isRef = true) : w.category = 1 := by cases w <;> first | rfl | (simp [Value.isRef] at q)
theorem own_fits_ref {ty : FieldType} {w : Value} (q : w.isRef = true) (ht : ty.isReference = true := by rfl) : fits ty w = true := by
  cases w <;> cases ty <;> first | rfl | (exact absurd q (by decide)) | (exact absurd ht (by decide)) | (cases q) | (cases ht)
/-- a static field that holds v, in a heap that keeps all that was old at the start -/
def SO (Z : State) (n0 : Nat) (h : Heap) (C n d : String) (v : Value) : Prop := Sta Z Z.heap C n d v ∧ Old Z n0 h
theorem SO.ext {n0 : Nat} {C nm d : String} (F : SO Z n0 h C nm d v) (E : Ext h h') : SO Z n0 h' C nm d v := ⟨F.1, F.2.ext E⟩
theorem SO.wr {n0 : Nat} {C nm d : String} {w : Value} (F : SO Z n0 h C nm d v) (W : Wr h h' a sl w) (q : n0 ≤ a) : SO Z n0 h' C nm d v := ⟨F.1, F.2.wr W q⟩
theorem SO.keep {n0 : Nat} {C nm d : String} (F : SO Z n0 h C nm d v) (K : Keep h h' ws) (q : ∀ x ∈ ws, n0 ≤ x) : SO Z n0 h' C nm d v := ⟨F.1, F.2.keep K q⟩
theorem SO.sta {n0 : Nat} {C nm d : String} (F : SO Z n0 h C nm d v) : Sta Z h C nm d v := F.1.ext F.2.2
theorem own_selp {y : MethodName} {n : Nat} (wi : (Jvm.Cond.instantiable y.cls n).before args s = true) (hpriv : s.PrivateAt y) (hinst : (Jvm.Cond.instanceMethod y).before args s = true) (hy : y.cls ≠ "java/lang/invoke/MethodHandle" ∧ y.cls ≠ "java/lang/invoke/VarHandle") : (Jvm.Cond.selects y.cls y y).before args s = true := by
  obtain ⟨c, k, h1, h2, -, h4, -⟩ := Cond.instantiable_spec wi
  exact Jvm.Stand.selects_self_of_private h1 h2 (by simp only [Bool.or_eq_false_iff] at h4; exact h4.1) hpriv hinst hy
end OwnKit

theorem pn_0 : plainName "com/example/commitlog/commitlog/codec/JsonWriterPutIntPinLaw" = true := by first | (simp [plainName, overriddenIn]; done) | decide +kernel
theorem d1_0 : decode prog_9_method_1_code 0 = .ok (.aload_n 0, 1) := by decide +kernel
theorem d1_1 : decode prog_9_method_1_code 1 = .ok (.invokespecial 3, 3) := by decide +kernel
theorem d1_4 : decode prog_9_method_1_code 4 = .ok (.aload_n 0, 1) := by decide +kernel
theorem d1_5 : decode prog_9_method_1_code 5 = .ok (.iload_n 1, 1) := by decide +kernel
theorem d1_6 : decode prog_9_method_1_code 6 = .ok (.newarray .byte, 2) := by decide +kernel
theorem d1_8 : decode prog_9_method_1_code 8 = .ok (.putfield 9, 3) := by decide +kernel
theorem d1_11 : decode prog_9_method_1_code 11 = .ok (.return_, 1) := by decide +kernel
theorem pn_1 : plainName "com/example/commitlog/commitlog/codec/JsonWriter" = true := by first | (simp [plainName, overriddenIn]; done) | decide +kernel
theorem d3_0 : decode prog_9_method_2_code 0 = .ok (.aload_n 0, 1) := by decide +kernel
theorem d3_1 : decode prog_9_method_2_code 1 = .ok (.bipush 123, 2) := by decide +kernel
theorem d3_3 : decode prog_9_method_2_code 3 = .ok (.invokevirtual 15, 3) := by decide +kernel
theorem d3_6 : decode prog_9_method_2_code 6 = .ok (.aload_n 0, 1) := by decide +kernel
theorem d3_7 : decode prog_9_method_2_code 7 = .ok (.iconst 0, 1) := by decide +kernel
theorem d3_8 : decode prog_9_method_2_code 8 = .ok (.putfield 19, 3) := by decide +kernel
theorem d3_11 : decode prog_9_method_2_code 11 = .ok (.aload_n 0, 1) := by decide +kernel
theorem d3_12 : decode prog_9_method_2_code 12 = .ok (.areturn, 1) := by decide +kernel
theorem pn_3 : plainName "com/example/commitlog/commitlog/codec/JsonWriter" = true := by first | (simp [plainName, overriddenIn]; done) | decide +kernel
theorem d4_0 : decode prog_9_method_18_code 0 = .ok (.aload_n 0, 1) := by decide +kernel
theorem d4_1 : decode prog_9_method_18_code 1 = .ok (.iconst 1, 1) := by decide +kernel
theorem d4_2 : decode prog_9_method_18_code 2 = .ok (.invokevirtual 27, 3) := by decide +kernel
theorem d4_5 : decode prog_9_method_18_code 5 = .ok (.aload_n 0, 1) := by decide +kernel
theorem d4_6 : decode prog_9_method_18_code 6 = .ok (.getfield 9, 3) := by decide +kernel
theorem d4_9 : decode prog_9_method_18_code 9 = .ok (.aload_n 0, 1) := by decide +kernel
theorem d4_10 : decode prog_9_method_18_code 10 = .ok (.dup, 1) := by decide +kernel
theorem d4_11 : decode prog_9_method_18_code 11 = .ok (.getfield 30, 3) := by decide +kernel
theorem d4_14 : decode prog_9_method_18_code 14 = .ok (.dup_x1, 1) := by decide +kernel
theorem d4_15 : decode prog_9_method_18_code 15 = .ok (.iconst 1, 1) := by decide +kernel
theorem d4_16 : decode prog_9_method_18_code 16 = .ok (.iadd, 1) := by decide +kernel
theorem d4_17 : decode prog_9_method_18_code 17 = .ok (.putfield 30, 3) := by decide +kernel
theorem d4_20 : decode prog_9_method_18_code 20 = .ok (.iload_n 1, 1) := by decide +kernel
theorem d4_21 : decode prog_9_method_18_code 21 = .ok (.i2b, 1) := by decide +kernel
theorem d4_22 : decode prog_9_method_18_code 22 = .ok (.bastore, 1) := by decide +kernel
theorem d4_23 : decode prog_9_method_18_code 23 = .ok (.return_, 1) := by decide +kernel
theorem pn_4 : plainName "com/example/commitlog/commitlog/codec/JsonWriter" = true := by first | (simp [plainName, overriddenIn]; done) | decide +kernel
theorem d5_0 : decode prog_9_method_19_code 0 = .ok (.aload_n 0, 1) := by decide +kernel
theorem d5_1 : decode prog_9_method_19_code 1 = .ok (.getfield 9, 3) := by decide +kernel
theorem d5_4 : decode prog_9_method_19_code 4 = .ok (.arraylength, 1) := by decide +kernel
theorem d5_5 : decode prog_9_method_19_code 5 = .ok (.aload_n 0, 1) := by decide +kernel
theorem d5_6 : decode prog_9_method_19_code 6 = .ok (.getfield 30, 3) := by decide +kernel
theorem d5_9 : decode prog_9_method_19_code 9 = .ok (.isub, 1) := by decide +kernel
theorem d5_10 : decode prog_9_method_19_code 10 = .ok (.iload_n 1, 1) := by decide +kernel
theorem d5_11 : decode prog_9_method_19_code 11 = .ok (.if_icmp .ge 42, 3) := by decide +kernel
theorem d5_14 : decode prog_9_method_19_code 14 = .ok (.aload_n 0, 1) := by decide +kernel
theorem d5_15 : decode prog_9_method_19_code 15 = .ok (.aload_n 0, 1) := by decide +kernel
theorem d5_16 : decode prog_9_method_19_code 16 = .ok (.getfield 9, 3) := by decide +kernel
theorem d5_19 : decode prog_9_method_19_code 19 = .ok (.ldc2_w 96, 3) := by decide +kernel
theorem d5_22 : decode prog_9_method_19_code 22 = .ok (.ldc2_w 98, 3) := by decide +kernel
theorem d5_25 : decode prog_9_method_19_code 25 = .ok (.aload_n 0, 1) := by decide +kernel
theorem d5_26 : decode prog_9_method_19_code 26 = .ok (.getfield 9, 3) := by decide +kernel
theorem d5_29 : decode prog_9_method_19_code 29 = .ok (.arraylength, 1) := by decide +kernel
theorem d5_30 : decode prog_9_method_19_code 30 = .ok (.i2l, 1) := by decide +kernel
theorem d5_31 : decode prog_9_method_19_code 31 = .ok (.lmul, 1) := by decide +kernel
theorem d5_32 : decode prog_9_method_19_code 32 = .ok (.aload_n 0, 1) := by decide +kernel
theorem d5_33 : decode prog_9_method_19_code 33 = .ok (.getfield 30, 3) := by decide +kernel
theorem d5_36 : decode prog_9_method_19_code 36 = .ok (.i2l, 1) := by decide +kernel
theorem d5_37 : decode prog_9_method_19_code 37 = .ok (.iload_n 1, 1) := by decide +kernel
theorem d5_38 : decode prog_9_method_19_code 38 = .ok (.i2l, 1) := by decide +kernel
theorem d5_39 : decode prog_9_method_19_code 39 = .ok (.ladd, 1) := by decide +kernel
theorem d5_40 : decode prog_9_method_19_code 40 = .ok (.invokestatic 100, 3) := by decide +kernel
theorem d5_43 : decode prog_9_method_19_code 43 = .ok (.invokestatic 106, 3) := by decide +kernel
theorem d5_46 : decode prog_9_method_19_code 46 = .ok (.l2i, 1) := by decide +kernel
theorem d5_47 : decode prog_9_method_19_code 47 = .ok (.invokestatic 51, 3) := by decide +kernel
theorem d5_50 : decode prog_9_method_19_code 50 = .ok (.putfield 9, 3) := by decide +kernel
theorem d5_53 : decode prog_9_method_19_code 53 = .ok (.return_, 1) := by decide +kernel
theorem pn_5 : plainName "com/example/commitlog/commitlog/codec/JsonWriter" = true := by first | (simp [plainName, overriddenIn]; done) | decide +kernel
theorem d6_0 : decode jdk_29_method_66_code 0 = .ok (.lload_n 0, 1) := by decide +kernel
theorem d6_1 : decode jdk_29_method_66_code 1 = .ok (.lload_n 2, 1) := by decide +kernel
theorem d6_2 : decode jdk_29_method_66_code 2 = .ok (.lcmp, 1) := by decide +kernel
theorem d6_3 : decode jdk_29_method_66_code 3 = .ok (.ifCond .lt 7, 3) := by decide +kernel
theorem d6_6 : decode jdk_29_method_66_code 6 = .ok (.lload_n 0, 1) := by decide +kernel
theorem d6_7 : decode jdk_29_method_66_code 7 = .ok (.goto 4, 3) := by decide +kernel
theorem d6_10 : decode jdk_29_method_66_code 10 = .ok (.lload_n 2, 1) := by decide +kernel
theorem d6_11 : decode jdk_29_method_66_code 11 = .ok (.lreturn, 1) := by decide +kernel
theorem d7_0 : decode jdk_29_method_70_code 0 = .ok (.lload_n 0, 1) := by decide +kernel
theorem d7_1 : decode jdk_29_method_70_code 1 = .ok (.lload_n 2, 1) := by decide +kernel
theorem d7_2 : decode jdk_29_method_70_code 2 = .ok (.lcmp, 1) := by decide +kernel
theorem d7_3 : decode jdk_29_method_70_code 3 = .ok (.ifCond .gt 7, 3) := by decide +kernel
theorem d7_6 : decode jdk_29_method_70_code 6 = .ok (.lload_n 0, 1) := by decide +kernel
theorem d7_7 : decode jdk_29_method_70_code 7 = .ok (.goto 4, 3) := by decide +kernel
theorem d7_10 : decode jdk_29_method_70_code 10 = .ok (.lload_n 2, 1) := by decide +kernel
theorem d7_11 : decode jdk_29_method_70_code 11 = .ok (.lreturn, 1) := by decide +kernel
theorem d8_0 : decode jdk_65_method_121_code 0 = .ok (.iload_n 1, 1) := by decide +kernel
theorem d8_1 : decode jdk_65_method_121_code 1 = .ok (.aload_n 0, 1) := by decide +kernel
theorem d8_2 : decode jdk_65_method_121_code 2 = .ok (.arraylength, 1) := by decide +kernel
theorem d8_3 : decode jdk_65_method_121_code 3 = .ok (.if_icmp .ne 11, 3) := by decide +kernel
theorem d8_14 : decode jdk_65_method_121_code 14 = .ok (.iload_n 1, 1) := by decide +kernel
theorem d8_15 : decode jdk_65_method_121_code 15 = .ok (.newarray .byte, 2) := by decide +kernel
theorem d8_17 : decode jdk_65_method_121_code 17 = .ok (.astore_n 2, 1) := by decide +kernel
theorem d8_18 : decode jdk_65_method_121_code 18 = .ok (.aload_n 0, 1) := by decide +kernel
theorem d8_19 : decode jdk_65_method_121_code 19 = .ok (.iconst 0, 1) := by decide +kernel
theorem d8_20 : decode jdk_65_method_121_code 20 = .ok (.aload_n 2, 1) := by decide +kernel
theorem d8_21 : decode jdk_65_method_121_code 21 = .ok (.iconst 0, 1) := by decide +kernel
theorem d8_22 : decode jdk_65_method_121_code 22 = .ok (.aload_n 0, 1) := by decide +kernel
theorem d8_23 : decode jdk_65_method_121_code 23 = .ok (.arraylength, 1) := by decide +kernel
theorem d8_24 : decode jdk_65_method_121_code 24 = .ok (.iload_n 1, 1) := by decide +kernel
theorem d8_25 : decode jdk_65_method_121_code 25 = .ok (.invokestatic 304, 3) := by decide +kernel
theorem d8_28 : decode jdk_65_method_121_code 28 = .ok (.invokestatic 150, 3) := by decide +kernel
theorem d8_31 : decode jdk_65_method_121_code 31 = .ok (.aload_n 2, 1) := by decide +kernel
theorem d8_32 : decode jdk_65_method_121_code 32 = .ok (.areturn, 1) := by decide +kernel
theorem pn_8 : plainName "java/util/Arrays" = true := by first | (simp [plainName, overriddenIn]; done) | decide +kernel
theorem d9_0 : decode jdk_29_method_69_code 0 = .ok (.iload_n 0, 1) := by decide +kernel
theorem d9_1 : decode jdk_29_method_69_code 1 = .ok (.iload_n 1, 1) := by decide +kernel
theorem d9_2 : decode jdk_29_method_69_code 2 = .ok (.if_icmp .gt 7, 3) := by decide +kernel
theorem d9_5 : decode jdk_29_method_69_code 5 = .ok (.iload_n 0, 1) := by decide +kernel
theorem d9_6 : decode jdk_29_method_69_code 6 = .ok (.goto 4, 3) := by decide +kernel
theorem d9_9 : decode jdk_29_method_69_code 9 = .ok (.iload_n 1, 1) := by decide +kernel
theorem d9_10 : decode jdk_29_method_69_code 10 = .ok (.ireturn, 1) := by decide +kernel
theorem d10_0 : decode prog_9_method_11_code 0 = .ok (.aload_n 0, 1) := by decide +kernel
theorem d10_1 : decode prog_9_method_11_code 1 = .ok (.iload_n 1, 1) := by decide +kernel
theorem d10_2 : decode prog_9_method_11_code 2 = .ok (.invokevirtual 27, 3) := by decide +kernel
theorem d10_5 : decode prog_9_method_11_code 5 = .ok (.aload_n 0, 1) := by decide +kernel
theorem d10_6 : decode prog_9_method_11_code 6 = .ok (.dup, 1) := by decide +kernel
theorem d10_7 : decode prog_9_method_11_code 7 = .ok (.getfield 30, 3) := by decide +kernel
theorem d10_10 : decode prog_9_method_11_code 10 = .ok (.iload_n 1, 1) := by decide +kernel
theorem d10_11 : decode prog_9_method_11_code 11 = .ok (.iadd, 1) := by decide +kernel
theorem d10_12 : decode prog_9_method_11_code 12 = .ok (.putfield 30, 3) := by decide +kernel
theorem d10_15 : decode prog_9_method_11_code 15 = .ok (.aload_n 0, 1) := by decide +kernel
theorem d10_16 : decode prog_9_method_11_code 16 = .ok (.areturn, 1) := by decide +kernel
theorem pn_10 : plainName "com/example/commitlog/commitlog/codec/JsonWriter" = true := by first | (simp [plainName, overriddenIn]; done) | decide +kernel
theorem d11_0 : decode prog_9_method_12_code 0 = .ok (.aload_n 0, 1) := by decide +kernel
theorem d11_1 : decode prog_9_method_12_code 1 = .ok (.getfield 9, 3) := by decide +kernel
theorem d11_4 : decode prog_9_method_12_code 4 = .ok (.iload_n 1, 1) := by decide +kernel
theorem d11_5 : decode prog_9_method_12_code 5 = .ok (.iload_n 2, 1) := by decide +kernel
theorem d11_6 : decode prog_9_method_12_code 6 = .ok (.bipush 24, 2) := by decide +kernel
theorem d11_8 : decode prog_9_method_12_code 8 = .ok (.iushr, 1) := by decide +kernel
theorem d11_9 : decode prog_9_method_12_code 9 = .ok (.i2b, 1) := by decide +kernel
theorem d11_10 : decode prog_9_method_12_code 10 = .ok (.bastore, 1) := by decide +kernel
theorem d11_11 : decode prog_9_method_12_code 11 = .ok (.aload_n 0, 1) := by decide +kernel
theorem d11_12 : decode prog_9_method_12_code 12 = .ok (.getfield 9, 3) := by decide +kernel
theorem d11_15 : decode prog_9_method_12_code 15 = .ok (.iload_n 1, 1) := by decide +kernel
theorem d11_16 : decode prog_9_method_12_code 16 = .ok (.iconst 1, 1) := by decide +kernel
theorem d11_17 : decode prog_9_method_12_code 17 = .ok (.iadd, 1) := by decide +kernel
theorem d11_18 : decode prog_9_method_12_code 18 = .ok (.iload_n 2, 1) := by decide +kernel
theorem d11_19 : decode prog_9_method_12_code 19 = .ok (.bipush 16, 2) := by decide +kernel
theorem d11_21 : decode prog_9_method_12_code 21 = .ok (.iushr, 1) := by decide +kernel
theorem d11_22 : decode prog_9_method_12_code 22 = .ok (.i2b, 1) := by decide +kernel
theorem d11_23 : decode prog_9_method_12_code 23 = .ok (.bastore, 1) := by decide +kernel
theorem d11_24 : decode prog_9_method_12_code 24 = .ok (.aload_n 0, 1) := by decide +kernel
theorem d11_25 : decode prog_9_method_12_code 25 = .ok (.getfield 9, 3) := by decide +kernel
theorem d11_28 : decode prog_9_method_12_code 28 = .ok (.iload_n 1, 1) := by decide +kernel
theorem d11_29 : decode prog_9_method_12_code 29 = .ok (.iconst 2, 1) := by decide +kernel
theorem d11_30 : decode prog_9_method_12_code 30 = .ok (.iadd, 1) := by decide +kernel
theorem d11_31 : decode prog_9_method_12_code 31 = .ok (.iload_n 2, 1) := by decide +kernel
theorem d11_32 : decode prog_9_method_12_code 32 = .ok (.bipush 8, 2) := by decide +kernel
theorem d11_34 : decode prog_9_method_12_code 34 = .ok (.iushr, 1) := by decide +kernel
theorem d11_35 : decode prog_9_method_12_code 35 = .ok (.i2b, 1) := by decide +kernel
theorem d11_36 : decode prog_9_method_12_code 36 = .ok (.bastore, 1) := by decide +kernel
theorem d11_37 : decode prog_9_method_12_code 37 = .ok (.aload_n 0, 1) := by decide +kernel
theorem d11_38 : decode prog_9_method_12_code 38 = .ok (.getfield 9, 3) := by decide +kernel
theorem d11_41 : decode prog_9_method_12_code 41 = .ok (.iload_n 1, 1) := by decide +kernel
theorem d11_42 : decode prog_9_method_12_code 42 = .ok (.iconst 3, 1) := by decide +kernel
theorem d11_43 : decode prog_9_method_12_code 43 = .ok (.iadd, 1) := by decide +kernel
theorem d11_44 : decode prog_9_method_12_code 44 = .ok (.iload_n 2, 1) := by decide +kernel
theorem d11_45 : decode prog_9_method_12_code 45 = .ok (.i2b, 1) := by decide +kernel
theorem d11_46 : decode prog_9_method_12_code 46 = .ok (.bastore, 1) := by decide +kernel
theorem d11_47 : decode prog_9_method_12_code 47 = .ok (.return_, 1) := by decide +kernel
theorem pn_11 : plainName "com/example/commitlog/commitlog/codec/JsonWriter" = true := by first | (simp [plainName, overriddenIn]; done) | decide +kernel
theorem d12_0 : decode prog_9_method_13_code 0 = .ok (.aload_n 0, 1) := by decide +kernel
theorem d12_1 : decode prog_9_method_13_code 1 = .ok (.getfield 9, 3) := by decide +kernel
theorem d12_4 : decode prog_9_method_13_code 4 = .ok (.areturn, 1) := by decide +kernel
theorem pn_12 : plainName "com/example/commitlog/commitlog/codec/JsonWriter" = true := by first | (simp [plainName, overriddenIn]; done) | decide +kernel
theorem d13_0 : decode prog_9_method_9_code 0 = .ok (.aload_n 0, 1) := by decide +kernel
theorem d13_1 : decode prog_9_method_9_code 1 = .ok (.getfield 30, 3) := by decide +kernel
theorem d13_4 : decode prog_9_method_9_code 4 = .ok (.ireturn, 1) := by decide +kernel
theorem pn_13 : plainName "com/example/commitlog/commitlog/codec/JsonWriter" = true := by first | (simp [plainName, overriddenIn]; done) | decide +kernel
theorem d14_0 : decode method_3_code 0 = .ok (.iload_n 1, 1) := by decide +kernel
theorem d14_1 : decode method_3_code 1 = .ok (.iload_n 3, 1) := by decide +kernel
theorem d14_2 : decode method_3_code 2 = .ok (.if_icmp .le 5, 3) := by decide +kernel
theorem d14_5 : decode method_3_code 5 = .ok (.iconst 1, 1) := by decide +kernel
theorem d14_6 : decode method_3_code 6 = .ok (.ireturn, 1) := by decide +kernel
theorem d14_7 : decode method_3_code 7 = .ok (.iload_n 1, 1) := by decide +kernel
theorem d14_8 : decode method_3_code 8 = .ok (.iload_n 2, 1) := by decide +kernel
theorem d14_9 : decode method_3_code 9 = .ok (.if_icmp .lt 12, 3) := by decide +kernel
theorem d14_12 : decode method_3_code 12 = .ok (.iload_n 1, 1) := by decide +kernel
theorem d14_13 : decode method_3_code 13 = .ok (.iload_n 2, 1) := by decide +kernel
theorem d14_14 : decode method_3_code 14 = .ok (.iconst 4, 1) := by decide +kernel
theorem d14_15 : decode method_3_code 15 = .ok (.iadd, 1) := by decide +kernel
theorem d14_16 : decode method_3_code 16 = .ok (.if_icmp .ge 5, 3) := by decide +kernel
theorem d14_19 : decode method_3_code 19 = .ok (.iconst 1, 1) := by decide +kernel
theorem d14_20 : decode method_3_code 20 = .ok (.ireturn, 1) := by decide +kernel
theorem d14_21 : decode method_3_code 21 = .ok (.iload_n 1, 1) := by decide +kernel
theorem d14_22 : decode method_3_code 22 = .ok (.ifCond .ne 8, 3) := by decide +kernel
theorem d14_25 : decode method_3_code 25 = .ok (.bipush 123, 2) := by decide +kernel
theorem d14_27 : decode method_3_code 27 = .ok (.goto 4, 3) := by decide +kernel
theorem d14_30 : decode method_3_code 30 = .ok (.iconst 0, 1) := by decide +kernel
theorem d14_31 : decode method_3_code 31 = .ok (.istore 4, 2) := by decide +kernel
theorem d14_33 : decode method_3_code 33 = .ok (.aload_n 0, 1) := by decide +kernel
theorem d14_34 : decode method_3_code 34 = .ok (.iload_n 1, 1) := by decide +kernel
theorem d14_35 : decode method_3_code 35 = .ok (.baload, 1) := by decide +kernel
theorem d14_36 : decode method_3_code 36 = .ok (.iload 4, 2) := by decide +kernel
theorem d14_38 : decode method_3_code 38 = .ok (.if_icmp .ne 7, 3) := by decide +kernel
theorem d14_41 : decode method_3_code 41 = .ok (.iconst 1, 1) := by decide +kernel
theorem d14_42 : decode method_3_code 42 = .ok (.goto 4, 3) := by decide +kernel
theorem d14_45 : decode method_3_code 45 = .ok (.iconst 0, 1) := by decide +kernel
theorem d14_46 : decode method_3_code 46 = .ok (.ireturn, 1) := by decide +kernel
theorem pn_14 : plainName "com/example/commitlog/commitlog/codec/JsonWriterPutIntPinLaw" = true := by first | (simp [plainName, overriddenIn]; done) | decide +kernel
theorem pd_5 : parseMethodDescriptor "(II)I" = some ⟨[.int, .int], some .int⟩ := by decide +kernel
theorem pd_3 : parseMethodDescriptor "(JJ)J" = some ⟨[.long, .long], some .long⟩ := by decide +kernel
theorem pd_4 : parseMethodDescriptor "([BI)[B" = some ⟨[(.array .byte), .int], some (.array .byte)⟩ := by decide +kernel
theorem pd_0 : parseMethodDescriptor "(I)V" = some ⟨[.int], none⟩ := by decide +kernel
theorem pd_2 : parseMethodDescriptor "()Lcom/example/commitlog/commitlog/codec/JsonWriter;" = some ⟨[], some (.object "com/example/commitlog/commitlog/codec/JsonWriter")⟩ := by decide +kernel
theorem pd_7 : parseMethodDescriptor "(I)Lcom/example/commitlog/commitlog/codec/JsonWriter;" = some ⟨[.int], some (.object "com/example/commitlog/commitlog/codec/JsonWriter")⟩ := by decide +kernel
theorem pd_8 : parseMethodDescriptor "(II)V" = some ⟨[.int, .int], none⟩ := by decide +kernel
theorem pd_9 : parseMethodDescriptor "()[B" = some ⟨[], some (.array .byte)⟩ := by decide +kernel
theorem pd_10 : parseMethodDescriptor "()I" = some ⟨[], some .int⟩ := by decide +kernel
theorem pd_11 : parseMethodDescriptor "([BIII)Z" = some ⟨[(.array .byte), .int, .int, .int], some .boolean⟩ := by decide +kernel

theorem ef_6 (m : MethodId) (q0 : Int64) (q1 : Int64) : entryFrame m #[(.long q0), (.long q1)] 4 = mkF m 0 #[.val (.long q0), .second, .val (.long q1), .second] [] := by first | (simp [entryFrame, mkF, argsToLocals, Value.category]; done) | rfl
def Q6 (Z : State) (q0 : Int64) (q1 : Int64) (h0 : Heap) (n0 : Nat) (v : Option Value) (h : Heap) (L : List Loc) : Prop := v = some (.long (if q0 < q1 then q1 else q0)) ∧ Fr n0 L ∧ h = h0
set_option maxRecDepth 65536 in
set_option maxHeartbeats 40000000 in
theorem rm6 (l : Launch) (Z : State) (A0 : Array Value) (hw : ∀ d ∈ tables_1, d.before A0 Z = true) (ws : List Jvm.Cond) (q0 : Int64) (q1 : Int64) (h0 : Heap) (n0 : Nat) (Z0 : n0 ≤ h0.size) :
    MetFree l (⟨"java/lang/Math", "max", "(JJ)J"⟩ : MethodName) (head1 (Jvm.Cond.code (⟨"java/lang/Math", "max", "(JJ)J"⟩ : MethodName) jdk_29_method_66_code 4 (some .long) :: ws) ({ frames := 0, cells := 0, slots := 0, locals := 0 } : Room)) (fun a U => a = #[(.long q0), (.long q1)] ∧ Z.Warmed39 U.vm ∧ U.heap = h0) (fun _ _ _ _ _ => True) (fun _ U o U' => ∃ v L, o = .returned v ∧ Q6 Z q0 q1 h0 n0 v U'.heap L ∧ FrameEnd U o U' L ({ frames := 0, cells := 0, slots := 0, locals := 0 } : Room).cells ({ frames := 0, cells := 0, slots := 0, locals := 0 } : Room).slots) := by
  refine MetFree.of_bodySF (Jvm.Free.JP.mathPlain rfl (by decide +kernel)) hisR ?_
  intro p e s m args below meth c s₁ Bd hml0 hP hK
  obtain ⟨rfl, hZ, hh⟩ := hP
  have hx := Bd.exec
  have hby := Bd.bytes
  have hml : c.maxLocals = 4 := hml0
  have hown : s.vm.findClass "java/lang/Math" = some m.cls := findClass_of_methodNamed Bd.named
  have hnm := (name_of_methodNamed Bd.named Bd.method).1
  have X0 : Stand p l e ({ frames := 0, cells := 0, slots := 0, locals := 0 } : Room) s m #[(.long q0), (.long q1)] below meth c s₁ [] 0 0 := Stand.of_body Bd
  have e0 : s₁.heap = h0 := by rw [← hh, Bd.state]; rfl
  have N0 := Fr.nil n0
  have pre0 : ∀ t, Steps p.tables e below (s₁.setTop (mkF m 0 #[.val (.long q0), .second, .val (.long q1), .second] [])) t → Steps p.tables e below (s₁.setTop (entryFrame m #[(.long q0), (.long q1)] 4)) t := fun t k => castTop (ef_6 m q0 q1) k
  obtain ⟨v2, hv2⟩ : ∃ z : Int64, z = if q0 < q1 then q1 else q0 := ⟨_, rfl⟩
  obtain ⟨fs, hr, hrun, hended, hW, hsame⟩ := X0.leave (v := some (.long v2)) (fun h => by rw [Bd.returns] at h; cases h)
  refine ⟨_, _, pre0 _ ?_, hrun, hended, _, _, rfl, ?_, ⟨_, rfl⟩, hW, hsame.mono (by decide) (by decide)⟩
  · show Steps p.tables e below (s₁.setTop (mkF m 0 #[.val (.long q0), .second, .val (.long q1), .second] [])) _
    refine XS.lloadN X0.here hx rfl (hb hby d6_0) rfl ?_
    show Steps p.tables e below (s₁.setTop (mkF m 1 #[.val (.long q0), .second, .val (.long q1), .second] [(.long q0)])) _
    refine XS.lloadN X0.here hx rfl (hb hby d6_1) rfl ?_
    show Steps p.tables e below (s₁.setTop (mkF m 2 #[.val (.long q0), .second, .val (.long q1), .second] [(.long q1), (.long q0)])) _
    refine XS.lcmp X0.here hx rfl (hb hby d6_2) rfl ?_
    show Steps p.tables e below (s₁.setTop (mkF m 3 #[.val (.long q0), .second, .val (.long q1), .second] [(.int (lcmpW q0 q1))])) _
    refine own_dia (F := (mkF m 11 #[.val (.long q0), .second, .val (.long q1), .second] [(.long v2)])) ?_ ?_
    · intro kt
      by_cases hc1 : q0 < q1
      · show Steps p.tables e below (s₁.setTop (mkF m 3 #[.val (.long q0), .second, .val (.long q1), .second] [(.int (lcmpW q0 q1))])) _
        refine XS.ifYes X0.here hx rfl (pc0 := 3) (pc' := 10) rfl (hb hby d6_3) rfl ((if0 _ _).trans (tlt ((lw_lt q0 q1).mpr hc1)).1) (by decide) (by decide) ?_
        show Steps p.tables e below (s₁.setTop (mkF m 10 #[.val (.long q0), .second, .val (.long q1), .second] [])) _
        refine XS.lloadN X0.here hx rfl (hb hby d6_10) rfl ?_
        exact castTop (by rw [hv2, if_pos hc1] <;> rfl) kt
      · show Steps p.tables e below (s₁.setTop (mkF m 3 #[.val (.long q0), .second, .val (.long q1), .second] [(.int (lcmpW q0 q1))])) _
        refine XS.ifNo X0.here hx rfl (hb hby d6_3) rfl ((if0 _ _).trans (flt (fun q => hc1 ((lw_lt q0 q1).mp q))).1) ?_
        show Steps p.tables e below (s₁.setTop (mkF m 6 #[.val (.long q0), .second, .val (.long q1), .second] [])) _
        refine XS.lloadN X0.here hx rfl (hb hby d6_6) rfl ?_
        show Steps p.tables e below (s₁.setTop (mkF m 7 #[.val (.long q0), .second, .val (.long q1), .second] [(.long q0)])) _
        refine XS.goto X0.here hx rfl (pc0 := 7) (pc' := 11) rfl (hb hby d6_7) (by decide) (by decide) ?_
        exact castTop (by rw [hv2, if_neg hc1] <;> rfl) kt
    show Steps p.tables e below (s₁.setTop (mkF m 11 #[.val (.long q0), .second, .val (.long q1), .second] [(.long v2)])) _
    exact retOut X0 hx Bd.returns rfl (Or.inr (Or.inl ⟨rfl, rfl, _, rfl⟩)) (hb hby d6_11) hr
  · show Q6 Z q0 q1 h0 n0 _ s₁.heap _
    subst hv2
    exact ⟨rfl, N0, e0⟩
theorem ef_7 (m : MethodId) (q0 : Int64) (q1 : Int64) : entryFrame m #[(.long q0), (.long q1)] 4 = mkF m 0 #[.val (.long q0), .second, .val (.long q1), .second] [] := by first | (simp [entryFrame, mkF, argsToLocals, Value.category]; done) | rfl
def Q7 (Z : State) (q0 : Int64) (q1 : Int64) (h0 : Heap) (n0 : Nat) (v : Option Value) (h : Heap) (L : List Loc) : Prop := v = some (.long (if q1 < q0 then q1 else q0)) ∧ Fr n0 L ∧ h = h0
set_option maxRecDepth 65536 in
set_option maxHeartbeats 40000000 in
theorem rm7 (l : Launch) (Z : State) (A0 : Array Value) (hw : ∀ d ∈ tables_1, d.before A0 Z = true) (ws : List Jvm.Cond) (q0 : Int64) (q1 : Int64) (h0 : Heap) (n0 : Nat) (Z0 : n0 ≤ h0.size) :
    MetFree l (⟨"java/lang/Math", "min", "(JJ)J"⟩ : MethodName) (head1 (Jvm.Cond.code (⟨"java/lang/Math", "min", "(JJ)J"⟩ : MethodName) jdk_29_method_70_code 4 (some .long) :: ws) ({ frames := 0, cells := 0, slots := 0, locals := 0 } : Room)) (fun a U => a = #[(.long q0), (.long q1)] ∧ Z.Warmed39 U.vm ∧ U.heap = h0) (fun _ _ _ _ _ => True) (fun _ U o U' => ∃ v L, o = .returned v ∧ Q7 Z q0 q1 h0 n0 v U'.heap L ∧ FrameEnd U o U' L ({ frames := 0, cells := 0, slots := 0, locals := 0 } : Room).cells ({ frames := 0, cells := 0, slots := 0, locals := 0 } : Room).slots) := by
  refine MetFree.of_bodySF (Jvm.Free.JP.mathPlain rfl (by decide +kernel)) hisR ?_
  intro p e s m args below meth c s₁ Bd hml0 hP hK
  obtain ⟨rfl, hZ, hh⟩ := hP
  have hx := Bd.exec
  have hby := Bd.bytes
  have hml : c.maxLocals = 4 := hml0
  have hown : s.vm.findClass "java/lang/Math" = some m.cls := findClass_of_methodNamed Bd.named
  have hnm := (name_of_methodNamed Bd.named Bd.method).1
  have X0 : Stand p l e ({ frames := 0, cells := 0, slots := 0, locals := 0 } : Room) s m #[(.long q0), (.long q1)] below meth c s₁ [] 0 0 := Stand.of_body Bd
  have e0 : s₁.heap = h0 := by rw [← hh, Bd.state]; rfl
  have N0 := Fr.nil n0
  have pre0 : ∀ t, Steps p.tables e below (s₁.setTop (mkF m 0 #[.val (.long q0), .second, .val (.long q1), .second] [])) t → Steps p.tables e below (s₁.setTop (entryFrame m #[(.long q0), (.long q1)] 4)) t := fun t k => castTop (ef_7 m q0 q1) k
  obtain ⟨v2, hv2⟩ : ∃ z : Int64, z = if q1 < q0 then q1 else q0 := ⟨_, rfl⟩
  obtain ⟨fs, hr, hrun, hended, hW, hsame⟩ := X0.leave (v := some (.long v2)) (fun h => by rw [Bd.returns] at h; cases h)
  refine ⟨_, _, pre0 _ ?_, hrun, hended, _, _, rfl, ?_, ⟨_, rfl⟩, hW, hsame.mono (by decide) (by decide)⟩
  · show Steps p.tables e below (s₁.setTop (mkF m 0 #[.val (.long q0), .second, .val (.long q1), .second] [])) _
    refine XS.lloadN X0.here hx rfl (hb hby d7_0) rfl ?_
    show Steps p.tables e below (s₁.setTop (mkF m 1 #[.val (.long q0), .second, .val (.long q1), .second] [(.long q0)])) _
    refine XS.lloadN X0.here hx rfl (hb hby d7_1) rfl ?_
    show Steps p.tables e below (s₁.setTop (mkF m 2 #[.val (.long q0), .second, .val (.long q1), .second] [(.long q1), (.long q0)])) _
    refine XS.lcmp X0.here hx rfl (hb hby d7_2) rfl ?_
    show Steps p.tables e below (s₁.setTop (mkF m 3 #[.val (.long q0), .second, .val (.long q1), .second] [(.int (lcmpW q0 q1))])) _
    refine own_dia (F := (mkF m 11 #[.val (.long q0), .second, .val (.long q1), .second] [(.long v2)])) ?_ ?_
    · intro kt
      by_cases hc1 : q1 < q0
      · show Steps p.tables e below (s₁.setTop (mkF m 3 #[.val (.long q0), .second, .val (.long q1), .second] [(.int (lcmpW q0 q1))])) _
        refine XS.ifYes X0.here hx rfl (pc0 := 3) (pc' := 10) rfl (hb hby d7_3) rfl ((if0 _ _).trans (tlt ((lw_gt q0 q1).mpr hc1)).2.2.1) (by decide) (by decide) ?_
        show Steps p.tables e below (s₁.setTop (mkF m 10 #[.val (.long q0), .second, .val (.long q1), .second] [])) _
        refine XS.lloadN X0.here hx rfl (hb hby d7_10) rfl ?_
        exact castTop (by rw [hv2, if_pos hc1] <;> rfl) kt
      · show Steps p.tables e below (s₁.setTop (mkF m 3 #[.val (.long q0), .second, .val (.long q1), .second] [(.int (lcmpW q0 q1))])) _
        refine XS.ifNo X0.here hx rfl (hb hby d7_3) rfl ((if0 _ _).trans (flt (fun q => hc1 ((lw_gt q0 q1).mp q))).2.2.1) ?_
        show Steps p.tables e below (s₁.setTop (mkF m 6 #[.val (.long q0), .second, .val (.long q1), .second] [])) _
        refine XS.lloadN X0.here hx rfl (hb hby d7_6) rfl ?_
        show Steps p.tables e below (s₁.setTop (mkF m 7 #[.val (.long q0), .second, .val (.long q1), .second] [(.long q0)])) _
        refine XS.goto X0.here hx rfl (pc0 := 7) (pc' := 11) rfl (hb hby d7_7) (by decide) (by decide) ?_
        exact castTop (by rw [hv2, if_neg hc1] <;> rfl) kt
    show Steps p.tables e below (s₁.setTop (mkF m 11 #[.val (.long q0), .second, .val (.long q1), .second] [(.long v2)])) _
    exact retOut X0 hx Bd.returns rfl (Or.inr (Or.inl ⟨rfl, rfl, _, rfl⟩)) (hb hby d7_11) hr
  · show Q7 Z q0 q1 h0 n0 _ s₁.heap _
    subst hv2
    exact ⟨rfl, N0, e0⟩
theorem ef_9 (m : MethodId) (p0 : Int32) (p1 : Int32) : entryFrame m #[(.int p0), (.int p1)] 2 = mkF m 0 #[.val (.int p0), .val (.int p1)] [] := by first | (simp [entryFrame, mkF, argsToLocals, Value.category]; done) | rfl
def Q9 (Z : State) (p0 : Int32) (p1 : Int32) (h0 : Heap) (n0 : Nat) (v : Option Value) (h : Heap) (L : List Loc) : Prop := v = some (.int (if p1 < p0 then p1 else p0)) ∧ Fr n0 L ∧ h = h0
set_option maxRecDepth 65536 in
set_option maxHeartbeats 40000000 in
theorem rm9 (l : Launch) (Z : State) (A0 : Array Value) (hw : ∀ d ∈ tables_1, d.before A0 Z = true) (ws : List Jvm.Cond) (p0 : Int32) (p1 : Int32) (h0 : Heap) (n0 : Nat) (Z0 : n0 ≤ h0.size) :
    MetFree l (⟨"java/lang/Math", "min", "(II)I"⟩ : MethodName) (head1 (Jvm.Cond.code (⟨"java/lang/Math", "min", "(II)I"⟩ : MethodName) jdk_29_method_69_code 2 (some .int) :: ws) ({ frames := 0, cells := 0, slots := 0, locals := 0 } : Room)) (fun a U => a = #[(.int p0), (.int p1)] ∧ Z.Warmed39 U.vm ∧ U.heap = h0) (fun _ _ _ _ _ => True) (fun _ U o U' => ∃ v L, o = .returned v ∧ Q9 Z p0 p1 h0 n0 v U'.heap L ∧ FrameEnd U o U' L ({ frames := 0, cells := 0, slots := 0, locals := 0 } : Room).cells ({ frames := 0, cells := 0, slots := 0, locals := 0 } : Room).slots) := by
  refine MetFree.of_bodySF (Jvm.Free.JP.mathPlain rfl (by decide +kernel)) hisR ?_
  intro p e s m args below meth c s₁ Bd hml0 hP hK
  obtain ⟨rfl, hZ, hh⟩ := hP
  have hx := Bd.exec
  have hby := Bd.bytes
  have hml : c.maxLocals = 2 := hml0
  have hown : s.vm.findClass "java/lang/Math" = some m.cls := findClass_of_methodNamed Bd.named
  have hnm := (name_of_methodNamed Bd.named Bd.method).1
  have X0 : Stand p l e ({ frames := 0, cells := 0, slots := 0, locals := 0 } : Room) s m #[(.int p0), (.int p1)] below meth c s₁ [] 0 0 := Stand.of_body Bd
  have e0 : s₁.heap = h0 := by rw [← hh, Bd.state]; rfl
  have N0 := Fr.nil n0
  have pre0 : ∀ t, Steps p.tables e below (s₁.setTop (mkF m 0 #[.val (.int p0), .val (.int p1)] [])) t → Steps p.tables e below (s₁.setTop (entryFrame m #[(.int p0), (.int p1)] 2)) t := fun t k => castTop (ef_9 m p0 p1) k
  obtain ⟨v2, hv2⟩ : ∃ z : Int32, z = if p1 < p0 then p1 else p0 := ⟨_, rfl⟩
  obtain ⟨fs, hr, hrun, hended, hW, hsame⟩ := X0.leave (v := some (.int v2)) (fun h => by rw [Bd.returns] at h; cases h)
  refine ⟨_, _, pre0 _ ?_, hrun, hended, _, _, rfl, ?_, ⟨_, rfl⟩, hW, hsame.mono (by decide) (by decide)⟩
  · show Steps p.tables e below (s₁.setTop (mkF m 0 #[.val (.int p0), .val (.int p1)] [])) _
    refine XS.iloadN X0.here hx rfl (hb hby d9_0) rfl ?_
    show Steps p.tables e below (s₁.setTop (mkF m 1 #[.val (.int p0), .val (.int p1)] [(.int p0)])) _
    refine XS.iloadN X0.here hx rfl (hb hby d9_1) rfl ?_
    show Steps p.tables e below (s₁.setTop (mkF m 2 #[.val (.int p0), .val (.int p1)] [(.int p1), (.int p0)])) _
    refine own_dia (F := (mkF m 10 #[.val (.int p0), .val (.int p1)] [(.int v2)])) ?_ ?_
    · intro kt
      by_cases hc1 : p1 < p0
      · show Steps p.tables e below (s₁.setTop (mkF m 2 #[.val (.int p0), .val (.int p1)] [(.int p1), (.int p0)])) _
        refine XS.icmpYes X0.here hx rfl (pc0 := 2) (pc' := 9) rfl (hb hby d9_2) rfl (tlt hc1).2.2.1 (by decide) (by decide) ?_
        show Steps p.tables e below (s₁.setTop (mkF m 9 #[.val (.int p0), .val (.int p1)] [])) _
        refine XS.iloadN X0.here hx rfl (hb hby d9_9) rfl ?_
        exact castTop (by rw [hv2, if_pos hc1] <;> rfl) kt
      · show Steps p.tables e below (s₁.setTop (mkF m 2 #[.val (.int p0), .val (.int p1)] [(.int p1), (.int p0)])) _
        refine XS.icmpNo X0.here hx rfl (hb hby d9_2) rfl (flt hc1).2.2.1 ?_
        show Steps p.tables e below (s₁.setTop (mkF m 5 #[.val (.int p0), .val (.int p1)] [])) _
        refine XS.iloadN X0.here hx rfl (hb hby d9_5) rfl ?_
        show Steps p.tables e below (s₁.setTop (mkF m 6 #[.val (.int p0), .val (.int p1)] [(.int p0)])) _
        refine XS.goto X0.here hx rfl (pc0 := 6) (pc' := 10) rfl (hb hby d9_6) (by decide) (by decide) ?_
        exact castTop (by rw [hv2, if_neg hc1] <;> rfl) kt
    show Steps p.tables e below (s₁.setTop (mkF m 10 #[.val (.int p0), .val (.int p1)] [(.int v2)])) _
    exact retOut X0 hx Bd.returns rfl (Or.inl ⟨rfl, Or.inl rfl, _, rfl⟩) (hb hby d9_10) hr
  · show Q9 Z p0 p1 h0 n0 _ s₁.heap _
    subst hv2
    exact ⟨rfl, N0, e0⟩

theorem own_le_len {n : Nat} {p : Int32} (hn : n < 2147483648) (hle : ¬ p < Int32.ofNat n) : n ≤ p.toNatClampNeg := by
  rw [Int32.lt_iff_toInt_lt, Int32.toInt_ofNat_of_lt hn] at hle
  have : p.toNatClampNeg = p.toInt.toNat := rfl
  omega

theorem ef_8 (m : MethodId) (a0 : Addr) (p1 : Int32) : entryFrame m #[(.ref a0), (.int p1)] 3 = mkF m 0 #[.val (.ref a0), .val (.int p1), .unset] [] := by first | (simp [entryFrame, mkF, argsToLocals, Value.category]; done) | rfl
def Q8 (Z : State) (a0 : Addr) (p1 : Int32) (n_a0 : Nat) (g_a0 : Nat → Int32) (h0 : Heap) (n0 : Nat) (v : Option Value) (h : Heap) (L : List Loc) : Prop := ∃ b1 : Addr, v = some (.ref b1) ∧ Fr n0 L ∧ Keep h0 h [] ∧ h0.size ≤ b1 ∧ AF Z h b1 .byte (p1).toNatClampNeg (fun j => .int ((fun j => if j < n_a0 then g_a0 j else (fun _ => (0 : Int32)) j) j))
set_option maxRecDepth 65536 in
set_option maxHeartbeats 40000000 in
theorem rm8 (l : Launch) (Z : State) (A0 : Array Value) (hw : ∀ d ∈ tables_1, d.before A0 Z = true) (ws : List Jvm.Cond) (a0 : Addr) (p1 : Int32) (n_a0 : Nat) (g_a0 : Nat → Int32) (h0 : Heap) (n0 : Nat) (Z0 : n0 ≤ h0.size) (A_a0 : AF Z h0 a0 .byte n_a0 (fun j => .int (g_a0 j))) (hc3 : ¬ (p1 = (Int32.ofNat n_a0))) (hneg : ¬ p1 < (0 : Int32)) (hcap : p1.toNatClampNeg ≤ 16) (hle : ¬ (p1 < (Int32.ofNat n_a0))) (hfit : ∀ j, j < n_a0 → fits .byte (.int (g_a0 j)) = true) :
    MetFree l (⟨"java/util/Arrays", "copyOf", "([BI)[B"⟩ : MethodName) (head1 (Jvm.Cond.code (⟨"java/util/Arrays", "copyOf", "([BI)[B"⟩ : MethodName) jdk_65_method_121_code 3 (some (.array .byte)) :: ws) ({ frames := 1, cells := 1, slots := 16, locals := 40 } : Room)) (fun a U => a = #[(.ref a0), (.int p1)] ∧ Z.Warmed39 U.vm ∧ U.heap = h0) (fun _ _ _ _ _ => True) (fun _ U o U' => ∃ v L, o = .returned v ∧ Q8 Z a0 p1 n_a0 g_a0 h0 n0 v U'.heap L ∧ FrameEnd U o U' L ({ frames := 1, cells := 1, slots := 16, locals := 40 } : Room).cells ({ frames := 1, cells := 1, slots := 16, locals := 40 } : Room).slots) := by
  refine MetFree.of_bodySF (plainFor_of_name pn_8) hisR ?_
  intro p e s m args below meth c s₁ Bd hml0 hP hK
  obtain ⟨rfl, hZ, hh⟩ := hP
  have hx := Bd.exec
  have hby := Bd.bytes
  have hml : c.maxLocals = 3 := hml0
  have hown : s.vm.findClass "java/util/Arrays" = some m.cls := findClass_of_methodNamed Bd.named
  have hnm := (name_of_methodNamed Bd.named Bd.method).1
  have X0 : Stand p l e ({ frames := 1, cells := 1, slots := 16, locals := 40 } : Room) s m #[(.ref a0), (.int p1)] below meth c s₁ [] 0 0 := Stand.of_body Bd
  have e0 : s₁.heap = h0 := by rw [← hh, Bd.state]; rfl
  have N0 := Fr.nil n0
  have pre0 : ∀ t, Steps p.tables e below (s₁.setTop (mkF m 0 #[.val (.ref a0), .val (.int p1), .unset] [])) t → Steps p.tables e below (s₁.setTop (entryFrame m #[(.ref a0), (.int p1)] 3)) t := fun t k => castTop (ef_8 m a0 p1) k
  obtain ⟨T1, h1, k1, X1, e1, E1, A1, st1⟩ := newP X0 hx hZ (hw _ (List.mem_of_getElem? (i := 10) rfl)) e0 (g := (mkF m 15 #[.val (.ref a0), .val (.int p1), .unset] [(.int p1)])) rfl (hb hby d8_15) rfl hneg (cap := 16) hcap (by decide) (by decide) (by decide)
  obtain ⟨b1, g1⟩ : ∃ z, z = h0.size := ⟨_, rfl⟩
  rw [← g1] at A1 st1
  have ne_a0_b1 : a0 ≠ b1 := Nat.ne_of_lt (Nat.lt_of_lt_of_le A_a0.lt (Nat.le_of_eq g1.symm))
  have nw_b1 : n0 ≤ b1 := Nat.le_trans (Nat.le_trans Z0 (Keep.refl h0 []).1) (Nat.le_of_eq g1.symm)
  have sz_b1 : h0.size ≤ b1 := Nat.le_trans (Keep.refl h0 []).1 (Nat.le_of_eq g1.symm)
  have K1 : Keep h0 h1 [] := (Keep.refl h0 []).ext E1
  have V1 : AF Z h1 b1 .byte (p1).toNatClampNeg (fun j => .int ((fun _ => (0 : Int32)) j)) := AF.new A1 hneg
  have G2 : AF Z h1 a0 .byte n_a0 (fun j => .int (g_a0 j)) := (A_a0.ext E1)
  obtain ⟨_, _, ⟨T3, L3, k3, n3⟩, -, X3, ⟨Lc3, hQ3, l3, y3, z3⟩, st3⟩ := Jvm.LawKit.callS X1 hx (y := (⟨"java/lang/Math", "min", "(II)I"⟩ : MethodName)) hown (mvT hZ (hw _ (List.mem_of_getElem? (i := 41) rfl))) (mvT hZ (hw _ (List.mem_of_getElem? (i := 42) rfl))) (mvT hZ (hw _ (List.mem_of_getElem? (i := 32) rfl))) (mvT hZ (hw _ (List.mem_of_getElem? (i := 43) rfl))) (by decide) (backOf (W := 4) (rm9 l Z A0 hw [] (Int32.ofNat n_a0) p1 h1 n0 (Nat.le_trans Z0 K1.1) ) hZ (hw _ (List.mem_of_getElem? (i := 43) rfl)) (hw _ (List.mem_of_getElem? (i := 32) rfl)) (by decide) (by decide)) (g := (mkF m 25 #[.val (.ref a0), .val (.int p1), .val (.ref b1)] [(.int p1), (.int (Int32.ofNat n_a0)), (.int (0 : Int32)), (.ref b1), (.int (0 : Int32)), (.ref a0)])) rfl (by rw [hml]; rfl) (argsL := [(.int (Int32.ofNat n_a0)), (.int p1)]) (rest := [(.int (0 : Int32)), (.ref b1), (.int (0 : Int32)), (.ref a0)]) (lenOf pd_5 rfl) rfl (by show 2 * 0 + _ ≤ _; exact Nat.le_of_eq rfl) (hb hby d8_25) (fun _ _ => ⟨rfl, e1, (by decide : 1 + 0 ≤ _), (by decide : 16 + 0 ≤ _)⟩)
  dsimp only [Pt.U, Pt.locs, Pt.cells, Pt.slots] at X3 l3 y3 z3 st3 hQ3
  subst l3 y3 z3
  obtain ⟨rfl, N3q, e3⟩ := hQ3
  have N3 := Fr.app N0 N3q
  obtain ⟨T4, h4, L4, X4, e4, M4, Kc4, A4, st4⟩ := AF.copy X3 hx hZ (index := 150) hown (own_acW (mvT hZ (hw _ (List.mem_of_getElem? (i := 44) rfl))) (mvT hZ (hw _ (List.mem_of_getElem? (i := 47) rfl))) (mvT hZ (hw _ (List.mem_of_getElem? (i := 45) rfl))) (mvT hZ (hw _ (List.mem_of_getElem? (i := 46) rfl)))) e3 G2 V1 rfl (cnt := n_a0) hfit (Nat.le_refl _) (own_le_len A_a0.small hle) (if_neg hle) (g := (mkF m 28 #[.val (.ref a0), .val (.int p1), .val (.ref b1)] [(.int (if p1 < (Int32.ofNat n_a0) then p1 else (Int32.ofNat n_a0))), (.int (0 : Int32)), (.ref b1), (.int (0 : Int32)), (.ref a0)])) rfl (by rw [hml]; rfl) (rest := []) rfl (hb hby d8_28) (W := 0) (by show 2 * 0 + _ ≤ _; exact Nat.le_of_eq rfl) (by decide) (by decide)
  have K4 : Keep h0 h4 [] := K1.trans Kc4 (allS (Or.inr sz_b1) all0)
  have N4 := Fr.app N3 (fun y hy => by rw [M4 y hy]; exact nw_b1 : Fr n0 L4)
  obtain ⟨f5, hf5⟩ : ∃ f : Nat → Int32, f = (fun j => if j < n_a0 then g_a0 j else (fun _ => (0 : Int32)) j) := ⟨_, rfl⟩
  have V4 : AF Z h4 b1 .byte (p1).toNatClampNeg (fun j => .int (f5 j)) := AF.cong A4 (own_cpyI hf5)
  obtain ⟨fs, hr, hrun, hended, hW, hsame⟩ := X4.leave (v := some (.ref b1)) (fun h => by rw [Bd.returns] at h; cases h)
  refine ⟨_, _, pre0 _ ?_, hrun, hended, _, _, rfl, ?_, ⟨_, rfl⟩, hW, hsame.mono (by decide) (by decide)⟩
  · show Steps p.tables e below (s₁.setTop (mkF m 0 #[.val (.ref a0), .val (.int p1), .unset] [])) _
    refine XS.iloadN X0.here hx rfl (hb hby d8_0) rfl ?_
    show Steps p.tables e below (s₁.setTop (mkF m 1 #[.val (.ref a0), .val (.int p1), .unset] [(.int p1)])) _
    refine XS.aloadN X0.here hx rfl (hb hby d8_1) rfl rfl ?_
    show Steps p.tables e below (s₁.setTop (mkF m 2 #[.val (.ref a0), .val (.int p1), .unset] [(.ref a0), (.int p1)])) _
    refine AF.len X0 hx hZ e0 A_a0 (g := (mkF m 2 #[.val (.ref a0), .val (.int p1), .unset] [(.ref a0), (.int p1)])) rfl rfl (hb hby d8_2) _ ?_
    show Steps p.tables e below (s₁.setTop (mkF m 3 #[.val (.ref a0), .val (.int p1), .unset] [(.int (Int32.ofNat n_a0)), (.int p1)])) _
    refine XS.icmpYes X0.here hx rfl (pc0 := 3) (pc' := 14) rfl (hb hby d8_3) rfl (feq hc3).2 (by decide) (by decide) ?_
    show Steps p.tables e below (s₁.setTop (mkF m 14 #[.val (.ref a0), .val (.int p1), .unset] [])) _
    refine XS.iloadN X0.here hx rfl (hb hby d8_14) rfl ?_
    show Steps p.tables e below (s₁.setTop (mkF m 15 #[.val (.ref a0), .val (.int p1), .unset] [(.int p1)])) _
    refine st1 _ ?_
    show Steps p.tables e below (T1.setTop (mkF m 17 #[.val (.ref a0), .val (.int p1), .unset] [(.ref b1)])) _
    refine XS.astoreN X1.here hx rfl (hb hby d8_17) rfl rfl (l' := #[.val (.ref a0), .val (.int p1), .val (.ref b1)]) rfl ?_
    show Steps p.tables e below (T1.setTop (mkF m 18 #[.val (.ref a0), .val (.int p1), .val (.ref b1)] [])) _
    refine XS.aloadN X1.here hx rfl (hb hby d8_18) rfl rfl ?_
    show Steps p.tables e below (T1.setTop (mkF m 19 #[.val (.ref a0), .val (.int p1), .val (.ref b1)] [(.ref a0)])) _
    refine XS.iconst X1.here hx rfl (hb hby d8_19) ?_
    show Steps p.tables e below (T1.setTop (mkF m 20 #[.val (.ref a0), .val (.int p1), .val (.ref b1)] [(.int (0 : Int32)), (.ref a0)])) _
    refine XS.aloadN X1.here hx rfl (hb hby d8_20) rfl rfl ?_
    show Steps p.tables e below (T1.setTop (mkF m 21 #[.val (.ref a0), .val (.int p1), .val (.ref b1)] [(.ref b1), (.int (0 : Int32)), (.ref a0)])) _
    refine XS.iconst X1.here hx rfl (hb hby d8_21) ?_
    show Steps p.tables e below (T1.setTop (mkF m 22 #[.val (.ref a0), .val (.int p1), .val (.ref b1)] [(.int (0 : Int32)), (.ref b1), (.int (0 : Int32)), (.ref a0)])) _
    refine XS.aloadN X1.here hx rfl (hb hby d8_22) rfl rfl ?_
    show Steps p.tables e below (T1.setTop (mkF m 23 #[.val (.ref a0), .val (.int p1), .val (.ref b1)] [(.ref a0), (.int (0 : Int32)), (.ref b1), (.int (0 : Int32)), (.ref a0)])) _
    refine AF.len X1 hx hZ e1 G2 (g := (mkF m 23 #[.val (.ref a0), .val (.int p1), .val (.ref b1)] [(.ref a0), (.int (0 : Int32)), (.ref b1), (.int (0 : Int32)), (.ref a0)])) rfl rfl (hb hby d8_23) _ ?_
    show Steps p.tables e below (T1.setTop (mkF m 24 #[.val (.ref a0), .val (.int p1), .val (.ref b1)] [(.int (Int32.ofNat n_a0)), (.int (0 : Int32)), (.ref b1), (.int (0 : Int32)), (.ref a0)])) _
    refine XS.iloadN X1.here hx rfl (hb hby d8_24) rfl ?_
    show Steps p.tables e below (T1.setTop (mkF m 25 #[.val (.ref a0), .val (.int p1), .val (.ref b1)] [(.int p1), (.int (Int32.ofNat n_a0)), (.int (0 : Int32)), (.ref b1), (.int (0 : Int32)), (.ref a0)])) _
    refine st3 _ ?_
    show Steps p.tables e below (T3.setTop (mkF m 28 #[.val (.ref a0), .val (.int p1), .val (.ref b1)] [(.int (if p1 < (Int32.ofNat n_a0) then p1 else (Int32.ofNat n_a0))), (.int (0 : Int32)), (.ref b1), (.int (0 : Int32)), (.ref a0)])) _
    refine st4 _ ?_
    show Steps p.tables e below (T4.setTop (mkF m 31 #[.val (.ref a0), .val (.int p1), .val (.ref b1)] [])) _
    refine XS.aloadN X4.here hx rfl (hb hby d8_31) rfl rfl ?_
    show Steps p.tables e below (T4.setTop (mkF m 32 #[.val (.ref a0), .val (.int p1), .val (.ref b1)] [(.ref b1)])) _
    exact retOut X4 hx Bd.returns rfl (Or.inr (Or.inr (Or.inr (Or.inr ⟨rfl, rfl, rfl⟩)))) (hb hby d8_32) hr
  · show Q8 Z a0 p1 n_a0 g_a0 h0 n0 _ T4.heap _
    rw [e4]
    subst hf5
    exact ⟨b1, rfl, N4, K4, sz_b1, V4⟩
def own_nl (n_w_bytes_a0 : Nat) (w_length_a0 p1 : Int32) : Int32 := ((if (if ((2 : Int64) * ((Int32.ofNat n_w_bytes_a0).toInt64)) < ((w_length_a0.toInt64) + (p1.toInt64)) then ((w_length_a0.toInt64) + (p1.toInt64)) else ((2 : Int64) * ((Int32.ofNat n_w_bytes_a0).toInt64))) < (2147483639 : Int64) then (if ((2 : Int64) * ((Int32.ofNat n_w_bytes_a0).toInt64)) < ((w_length_a0.toInt64) + (p1.toInt64)) then ((w_length_a0.toInt64) + (p1.toInt64)) else ((2 : Int64) * ((Int32.ofNat n_w_bytes_a0).toInt64))) else (2147483639 : Int64)).toInt32)

theorem own_nl_int (n : Nat) (len p : Int32) (hn : n ≤ 64) (h0 : 0 ≤ len.toInt) (h1 : len.toInt ≤ 64) (h2 : 0 ≤ p.toInt) (h3 : p.toInt ≤ 64) : (own_nl n len p).toInt = max (2 * (n : Int)) (len.toInt + p.toInt) := by
  unfold own_nl
  have kn : (Int32.ofNat n).toInt = n := Int32.toInt_ofNat_of_lt (by omega)
  have e1 : ((2 : Int64) * ((Int32.ofNat n).toInt64)).toInt = 2 * n := by
    have m := c_lmul 2 ((Int32.ofNat n).toInt64)
    have r := rng64 ((2 : Int64) * ((Int32.ofNat n).toInt64))
    have k2 : (2 : Int64).toInt = 2 := by decide
    rw [c_i2l, kn, k2] at m
    omega
  have e2 : ((len.toInt64) + (p.toInt64)).toInt = len.toInt + p.toInt := by
    have m := c_ladd len.toInt64 p.toInt64
    have r := rng64 ((len.toInt64) + (p.toInt64))
    rw [c_i2l, c_i2l] at m
    omega
  have kM : (2147483639 : Int64).toInt = 2147483639 := by decide
  generalize (2 : Int64) * ((Int32.ofNat n).toInt64) = x at *
  generalize (len.toInt64) + (p.toInt64) = y at *
  have e3 : (if x < y then y else x).toInt = max (2 * (n : Int)) (len.toInt + p.toInt) := by
    by_cases c : x < y
    · rw [if_pos c]; rw [Int64.lt_iff_toInt_lt] at c; omega
    · rw [if_neg c]; rw [Int64.lt_iff_toInt_lt] at c; omega
  generalize (if x < y then y else x) = z at *
  have c : z < (2147483639 : Int64) := by rw [Int64.lt_iff_toInt_lt, kM]; omega
  rw [if_pos c]
  have m := c_l2i z
  have r := rng32 z.toInt32
  omega

theorem ef_5g (m : MethodId) (a0 : Addr) (p1 : Int32) : entryFrame m #[(.ref a0), (.int p1)] 2 = mkF m 0 #[.val (.ref a0), .val (.int p1)] [] := by first | (simp [entryFrame, mkF, argsToLocals, Value.category]; done) | rfl
def Q5g (Z : State) (a0 : Addr) (p1 : Int32) (w_bytes_a0 : Addr) (w_length_a0 : Int32) (w_afterValue_a0 : Int32) (n_w_bytes_a0 : Nat) (g_w_bytes_a0 : Nat → Int32) (h0 : Heap) (n0 : Nat) (v : Option Value) (h : Heap) (L : List Loc) : Prop := ∃ b9_b1 : Addr, v = none ∧ Fr n0 L ∧ Keep h0 h [a0] ∧ h0.size ≤ b9_b1 ∧ Exa Z h a0 "com/example/commitlog/commitlog/codec/JsonWriter" ∧ Fld Z h a0 "com/example/commitlog/commitlog/codec/JsonWriter" "bytes" "[B" (.ref b9_b1) ∧ Fld Z h a0 "com/example/commitlog/commitlog/codec/JsonWriter" "length" "I" (.int w_length_a0) ∧ Fld Z h a0 "com/example/commitlog/commitlog/codec/JsonWriter" "afterValue" "Z" (.int w_afterValue_a0) ∧ AF Z h b9_b1 .byte ((own_nl n_w_bytes_a0 w_length_a0 p1)).toNatClampNeg (fun j => .int ((fun j => if j < n_w_bytes_a0 then g_w_bytes_a0 j else (fun _ => (0 : Int32)) j) j))
set_option maxRecDepth 65536 in
set_option maxHeartbeats 40000000 in
theorem rm5g (l : Launch) (Z : State) (A0 : Array Value) (hw : ∀ d ∈ tables_1, d.before A0 Z = true) (ws : List Jvm.Cond) (a0 : Addr) (p1 : Int32) (w_bytes_a0 : Addr) (w_length_a0 : Int32) (w_afterValue_a0 : Int32) (n_w_bytes_a0 : Nat) (g_w_bytes_a0 : Nat → Int32) (h0 : Heap) (n0 : Nat) (Z0 : n0 ≤ h0.size) (E_a0 : Exa Z h0 a0 "com/example/commitlog/commitlog/codec/JsonWriter") (F_bytes_a0 : Fld Z h0 a0 "com/example/commitlog/commitlog/codec/JsonWriter" "bytes" "[B" (.ref w_bytes_a0)) (F_length_a0 : Fld Z h0 a0 "com/example/commitlog/commitlog/codec/JsonWriter" "length" "I" (.int w_length_a0)) (F_afterValue_a0 : Fld Z h0 a0 "com/example/commitlog/commitlog/codec/JsonWriter" "afterValue" "Z" (.int w_afterValue_a0)) (A_w_bytes_a0 : AF Z h0 w_bytes_a0 .byte n_w_bytes_a0 (fun j => .int (g_w_bytes_a0 j))) (nw_a0 : n0 ≤ a0) (hc11 : ((Int32.ofNat n_w_bytes_a0) - w_length_a0) < p1) (hc3_47 : ¬ ((own_nl n_w_bytes_a0 w_length_a0 p1) = (Int32.ofNat n_w_bytes_a0))) (hneg_47 : ¬ (own_nl n_w_bytes_a0 w_length_a0 p1) < (0 : Int32)) (hcap_47 : (own_nl n_w_bytes_a0 w_length_a0 p1).toNatClampNeg ≤ 16) (hle_47 : ¬ ((own_nl n_w_bytes_a0 w_length_a0 p1) < (Int32.ofNat n_w_bytes_a0))) (hfit_47 : ∀ j, j < n_w_bytes_a0 → fits .byte (.int (g_w_bytes_a0 j)) = true) :
    MetFree l (⟨"com/example/commitlog/commitlog/codec/JsonWriter", "room", "(I)V"⟩ : MethodName) (head1 (Jvm.Cond.code (⟨"com/example/commitlog/commitlog/codec/JsonWriter", "room", "(I)V"⟩ : MethodName) prog_9_method_19_code 2 none :: ws) ({ frames := 2, cells := 1, slots := 16, locals := 55 } : Room)) (fun a U => a = #[(.ref a0), (.int p1)] ∧ Z.Warmed39 U.vm ∧ U.heap = h0) (fun _ _ _ _ _ => True) (fun _ U o U' => ∃ v L, o = .returned v ∧ Q5g Z a0 p1 w_bytes_a0 w_length_a0 w_afterValue_a0 n_w_bytes_a0 g_w_bytes_a0 h0 n0 v U'.heap L ∧ FrameEnd U o U' L ({ frames := 2, cells := 1, slots := 16, locals := 55 } : Room).cells ({ frames := 2, cells := 1, slots := 16, locals := 55 } : Room).slots) := by
  refine MetFree.of_bodySF (plainFor_of_name pn_5) hisR ?_
  intro p e s m args below meth c s₁ Bd hml0 hP hK
  obtain ⟨rfl, hZ, hh⟩ := hP
  have hx := Bd.exec
  have hby := Bd.bytes
  have hml : c.maxLocals = 2 := hml0
  have hown : s.vm.findClass "com/example/commitlog/commitlog/codec/JsonWriter" = some m.cls := findClass_of_methodNamed Bd.named
  have hnm := (name_of_methodNamed Bd.named Bd.method).1
  have X0 : Stand p l e ({ frames := 2, cells := 1, slots := 16, locals := 55 } : Room) s m #[(.ref a0), (.int p1)] below meth c s₁ [] 0 0 := Stand.of_body Bd
  have e0 : s₁.heap = h0 := by rw [← hh, Bd.state]; rfl
  have N0 := Fr.nil n0
  have pre0 : ∀ t, Steps p.tables e below (s₁.setTop (mkF m 0 #[.val (.ref a0), .val (.int p1)] [])) t → Steps p.tables e below (s₁.setTop (entryFrame m #[(.ref a0), (.int p1)] 2)) t := fun t k => castTop (ef_5g m a0 p1) k
  obtain ⟨T1, X1, e1, st1⟩ := getF X0 hx hZ hown (host := "") (Or.inl (hw _ (List.mem_of_getElem? (i := 11) rfl))) Via.refl e0 F_bytes_a0 (g := (mkF m 1 #[.val (.ref a0), .val (.int p1)] [(.ref a0)])) rfl rfl (hb hby d5_1)
  obtain ⟨T2, X2, e2, st2⟩ := getF X1 hx hZ hown (host := "") (Or.inl (hw _ (List.mem_of_getElem? (i := 26) rfl))) Via.refl e1 F_length_a0 (g := (mkF m 6 #[.val (.ref a0), .val (.int p1)] [(.ref a0), (.int (Int32.ofNat n_w_bytes_a0))])) rfl rfl (hb hby d5_6)
  obtain ⟨T3, X3, e3, st3⟩ := getF X2 hx hZ hown (host := "") (Or.inl (hw _ (List.mem_of_getElem? (i := 11) rfl))) Via.refl e2 F_bytes_a0 (g := (mkF m 16 #[.val (.ref a0), .val (.int p1)] [(.ref a0), (.ref a0)])) rfl rfl (hb hby d5_16)
  obtain ⟨T4, X4, e4, st4⟩ := getF X3 hx hZ hown (host := "") (Or.inl (hw _ (List.mem_of_getElem? (i := 11) rfl))) Via.refl e3 F_bytes_a0 (g := (mkF m 26 #[.val (.ref a0), .val (.int p1)] [(.ref a0), (.long (2 : Int64)), (.long (2147483639 : Int64)), (.ref w_bytes_a0), (.ref a0)])) rfl rfl (hb hby d5_26)
  obtain ⟨T5, X5, e5, st5⟩ := getF X4 hx hZ hown (host := "") (Or.inl (hw _ (List.mem_of_getElem? (i := 26) rfl))) Via.refl e4 F_length_a0 (g := (mkF m 33 #[.val (.ref a0), .val (.int p1)] [(.ref a0), (.long ((2 : Int64) * ((Int32.ofNat n_w_bytes_a0).toInt64))), (.long (2147483639 : Int64)), (.ref w_bytes_a0), (.ref a0)])) rfl rfl (hb hby d5_33)
  obtain ⟨_, _, ⟨T6, L6, k6, n6⟩, -, X6, ⟨Lc6, hQ6, l6, y6, z6⟩, st6⟩ := Jvm.LawKit.callS X5 hx (y := (⟨"java/lang/Math", "max", "(JJ)J"⟩ : MethodName)) hown (mvT hZ (hw _ (List.mem_of_getElem? (i := 30) rfl))) (mvT hZ (hw _ (List.mem_of_getElem? (i := 31) rfl))) (mvT hZ (hw _ (List.mem_of_getElem? (i := 32) rfl))) (mvT hZ (hw _ (List.mem_of_getElem? (i := 33) rfl))) (by decide) (backOf (W := 4) (rm6 l Z A0 hw [] ((2 : Int64) * ((Int32.ofNat n_w_bytes_a0).toInt64)) ((w_length_a0.toInt64) + (p1.toInt64)) h0 n0 (Nat.le_trans Z0 (Keep.refl h0 [a0]).1) ) hZ (hw _ (List.mem_of_getElem? (i := 33) rfl)) (hw _ (List.mem_of_getElem? (i := 32) rfl)) (by decide) (by decide)) (g := (mkF m 40 #[.val (.ref a0), .val (.int p1)] [(.long ((w_length_a0.toInt64) + (p1.toInt64))), (.long ((2 : Int64) * ((Int32.ofNat n_w_bytes_a0).toInt64))), (.long (2147483639 : Int64)), (.ref w_bytes_a0), (.ref a0)])) rfl (by rw [hml]; rfl) (argsL := [(.long ((2 : Int64) * ((Int32.ofNat n_w_bytes_a0).toInt64))), (.long ((w_length_a0.toInt64) + (p1.toInt64)))]) (rest := [(.long (2147483639 : Int64)), (.ref w_bytes_a0), (.ref a0)]) (lenOf pd_3 rfl) rfl (by show 2 * 0 + _ ≤ _; exact Nat.le_of_eq rfl) (hb hby d5_40) (fun _ _ => ⟨rfl, e5, (by decide : 0 + 0 ≤ _), (by decide : 0 + 0 ≤ _)⟩)
  dsimp only [Pt.U, Pt.locs, Pt.cells, Pt.slots] at X6 l6 y6 z6 st6 hQ6
  subst l6 y6 z6
  obtain ⟨rfl, N6q, e6⟩ := hQ6
  have N6 := Fr.app N0 N6q
  obtain ⟨_, _, ⟨T7, L7, k7, n7⟩, -, X7, ⟨Lc7, hQ7, l7, y7, z7⟩, st7⟩ := Jvm.LawKit.callS X6 hx (y := (⟨"java/lang/Math", "min", "(JJ)J"⟩ : MethodName)) hown (mvT hZ (hw _ (List.mem_of_getElem? (i := 34) rfl))) (mvT hZ (hw _ (List.mem_of_getElem? (i := 35) rfl))) (mvT hZ (hw _ (List.mem_of_getElem? (i := 32) rfl))) (mvT hZ (hw _ (List.mem_of_getElem? (i := 36) rfl))) (by decide) (backOf (W := 2) (rm7 l Z A0 hw [] (2147483639 : Int64) (if ((2 : Int64) * ((Int32.ofNat n_w_bytes_a0).toInt64)) < ((w_length_a0.toInt64) + (p1.toInt64)) then ((w_length_a0.toInt64) + (p1.toInt64)) else ((2 : Int64) * ((Int32.ofNat n_w_bytes_a0).toInt64))) h0 n0 (Nat.le_trans Z0 (Keep.refl h0 [a0]).1) ) hZ (hw _ (List.mem_of_getElem? (i := 36) rfl)) (hw _ (List.mem_of_getElem? (i := 32) rfl)) (by decide) (by decide)) (g := (mkF m 43 #[.val (.ref a0), .val (.int p1)] [(.long (if ((2 : Int64) * ((Int32.ofNat n_w_bytes_a0).toInt64)) < ((w_length_a0.toInt64) + (p1.toInt64)) then ((w_length_a0.toInt64) + (p1.toInt64)) else ((2 : Int64) * ((Int32.ofNat n_w_bytes_a0).toInt64)))), (.long (2147483639 : Int64)), (.ref w_bytes_a0), (.ref a0)])) rfl (by rw [hml]; rfl) (argsL := [(.long (2147483639 : Int64)), (.long (if ((2 : Int64) * ((Int32.ofNat n_w_bytes_a0).toInt64)) < ((w_length_a0.toInt64) + (p1.toInt64)) then ((w_length_a0.toInt64) + (p1.toInt64)) else ((2 : Int64) * ((Int32.ofNat n_w_bytes_a0).toInt64))))]) (rest := [(.ref w_bytes_a0), (.ref a0)]) (lenOf pd_3 rfl) rfl (by show 2 * 0 + _ ≤ _; exact Nat.le_of_eq rfl) (hb hby d5_43) (fun _ _ => ⟨rfl, e6, (by decide : 0 + 0 ≤ _), (by decide : 0 + 0 ≤ _)⟩)
  dsimp only [Pt.U, Pt.locs, Pt.cells, Pt.slots] at X7 l7 y7 z7 st7 hQ7
  subst l7 y7 z7
  obtain ⟨rfl, N7q, e7⟩ := hQ7
  have N7 := Fr.app N6 N7q
  have hq8 : ((if (if ((2 : Int64) * ((Int32.ofNat n_w_bytes_a0).toInt64)) < ((w_length_a0.toInt64) + (p1.toInt64)) then ((w_length_a0.toInt64) + (p1.toInt64)) else ((2 : Int64) * ((Int32.ofNat n_w_bytes_a0).toInt64))) < (2147483639 : Int64) then (if ((2 : Int64) * ((Int32.ofNat n_w_bytes_a0).toInt64)) < ((w_length_a0.toInt64) + (p1.toInt64)) then ((w_length_a0.toInt64) + (p1.toInt64)) else ((2 : Int64) * ((Int32.ofNat n_w_bytes_a0).toInt64))) else (2147483639 : Int64)).toInt32) = (own_nl n_w_bytes_a0 w_length_a0 p1) := rfl
  obtain ⟨_, _, ⟨T9, L9, k9, n9⟩, -, X9, ⟨Lc9, hQ9, l9, y9, z9⟩, st9⟩ := Jvm.LawKit.callS X7 hx (y := (⟨"java/util/Arrays", "copyOf", "([BI)[B"⟩ : MethodName)) hown (mvT hZ (hw _ (List.mem_of_getElem? (i := 37) rfl))) (mvT hZ (hw _ (List.mem_of_getElem? (i := 38) rfl))) (mvT hZ (hw _ (List.mem_of_getElem? (i := 39) rfl))) (mvT hZ (hw _ (List.mem_of_getElem? (i := 40) rfl))) (by decide) (backOf (W := 1) (rm8 l Z A0 hw [] w_bytes_a0 (own_nl n_w_bytes_a0 w_length_a0 p1) n_w_bytes_a0 g_w_bytes_a0 h0 n0 (Nat.le_trans Z0 (Keep.refl h0 [a0]).1) A_w_bytes_a0 hc3_47 hneg_47 hcap_47 hle_47 hfit_47) hZ (hw _ (List.mem_of_getElem? (i := 40) rfl)) (hw _ (List.mem_of_getElem? (i := 39) rfl)) (by decide) (by decide)) (g := (mkF m 47 #[.val (.ref a0), .val (.int p1)] [(.int (own_nl n_w_bytes_a0 w_length_a0 p1)), (.ref w_bytes_a0), (.ref a0)])) rfl (by rw [hml]; rfl) (argsL := [(.ref w_bytes_a0), (.int (own_nl n_w_bytes_a0 w_length_a0 p1))]) (rest := [(.ref a0)]) (lenOf pd_4 rfl) rfl (by show 2 * 0 + _ ≤ _; exact Nat.le_of_eq rfl) (hb hby d5_47) (fun _ _ => ⟨rfl, e7, (by decide : 0 + 1 ≤ _), (by decide : 0 + 16 ≤ _)⟩)
  dsimp only [Pt.U, Pt.locs, Pt.cells, Pt.slots] at X9 l9 y9 z9 st9 hQ9
  subst l9 y9 z9
  obtain ⟨b9_b1, rfl, N9q, Kc9, szb9_b1, P10⟩ := hQ9
  have ne_a0_b9_b1 : a0 ≠ b9_b1 := Nat.ne_of_lt (Nat.lt_of_lt_of_le E_a0.lt szb9_b1)
  have ne_w_bytes_a0_b9_b1 : w_bytes_a0 ≠ b9_b1 := Nat.ne_of_lt (Nat.lt_of_lt_of_le A_w_bytes_a0.lt szb9_b1)
  have nw_b9_b1 : n0 ≤ b9_b1 := Nat.le_trans (Nat.le_trans Z0 (Keep.refl h0 [a0]).1) szb9_b1
  have sq_b9_b1 : h0.size ≤ b9_b1 := Nat.le_trans (Keep.refl h0 [a0]).1 szb9_b1
  have K9 : Keep h0 T9.heap [a0] := (Keep.refl h0 [a0]).trans Kc9 all0
  have N9 := Fr.app N7 N9q
  have G11 : Exa Z T9.heap a0 "com/example/commitlog/commitlog/codec/JsonWriter" := (E_a0.keep Kc9)
  have G12 : Fld Z T9.heap a0 "com/example/commitlog/commitlog/codec/JsonWriter" "bytes" "[B" (.ref w_bytes_a0) := (F_bytes_a0.keep Kc9 nin0)
  obtain ⟨T13, h13, X13, e13, W13, st13⟩ := putF X9 hx hZ hown (host := "") (Or.inl (hw _ (List.mem_of_getElem? (i := 11) rfl))) Via.refl rfl G12 G11 (Or.inl (hw _ (List.mem_of_getElem? (i := 12) rfl))) (hw _ (List.mem_of_getElem? (i := 2) rfl)) (ty := (.array .byte)) (by decide) rfl rfl (g := (mkF m 50 #[.val (.ref a0), .val (.int p1)] [(.ref b9_b1), (.ref a0)])) rfl rfl (hb hby d5_50)
  have K13 : Keep h0 h13 [a0] := K9.wr W13 (Or.inl (by simp))
  have Fw13 : Fld Z h13 a0 "com/example/commitlog/commitlog/codec/JsonWriter" "bytes" "[B" (.ref b9_b1) := G12.same W13
  have N13 := Fr.snoc X13 N9 nw_a0
  obtain ⟨fs, hr, hrun, hended, hW, hsame⟩ := X13.leave (v := none) (fun _ => rfl)
  refine ⟨_, _, pre0 _ ?_, hrun, hended, _, _, rfl, ?_, ⟨_, rfl⟩, hW, hsame.mono (by decide) (by decide)⟩
  · show Steps p.tables e below (s₁.setTop (mkF m 0 #[.val (.ref a0), .val (.int p1)] [])) _
    refine XS.aloadN X0.here hx rfl (hb hby d5_0) rfl rfl ?_
    show Steps p.tables e below (s₁.setTop (mkF m 1 #[.val (.ref a0), .val (.int p1)] [(.ref a0)])) _
    refine st1 _ ?_
    show Steps p.tables e below (T1.setTop (mkF m 4 #[.val (.ref a0), .val (.int p1)] [(.ref w_bytes_a0)])) _
    refine AF.len X1 hx hZ e1 A_w_bytes_a0 (g := (mkF m 4 #[.val (.ref a0), .val (.int p1)] [(.ref w_bytes_a0)])) rfl rfl (hb hby d5_4) _ ?_
    show Steps p.tables e below (T1.setTop (mkF m 5 #[.val (.ref a0), .val (.int p1)] [(.int (Int32.ofNat n_w_bytes_a0))])) _
    refine XS.aloadN X1.here hx rfl (hb hby d5_5) rfl rfl ?_
    show Steps p.tables e below (T1.setTop (mkF m 6 #[.val (.ref a0), .val (.int p1)] [(.ref a0), (.int (Int32.ofNat n_w_bytes_a0))])) _
    refine st2 _ ?_
    show Steps p.tables e below (T2.setTop (mkF m 9 #[.val (.ref a0), .val (.int p1)] [(.int w_length_a0), (.int (Int32.ofNat n_w_bytes_a0))])) _
    refine XS.isub X2.here hx rfl (hb hby d5_9) rfl ?_
    show Steps p.tables e below (T2.setTop (mkF m 10 #[.val (.ref a0), .val (.int p1)] [(.int ((Int32.ofNat n_w_bytes_a0) - w_length_a0))])) _
    refine XS.iloadN X2.here hx rfl (hb hby d5_10) rfl ?_
    show Steps p.tables e below (T2.setTop (mkF m 11 #[.val (.ref a0), .val (.int p1)] [(.int p1), (.int ((Int32.ofNat n_w_bytes_a0) - w_length_a0))])) _
    refine XS.icmpNo X2.here hx rfl (hb hby d5_11) rfl (tlt hc11).2.1 ?_
    show Steps p.tables e below (T2.setTop (mkF m 14 #[.val (.ref a0), .val (.int p1)] [])) _
    refine XS.aloadN X2.here hx rfl (hb hby d5_14) rfl rfl ?_
    show Steps p.tables e below (T2.setTop (mkF m 15 #[.val (.ref a0), .val (.int p1)] [(.ref a0)])) _
    refine XS.aloadN X2.here hx rfl (hb hby d5_15) rfl rfl ?_
    show Steps p.tables e below (T2.setTop (mkF m 16 #[.val (.ref a0), .val (.int p1)] [(.ref a0), (.ref a0)])) _
    refine st3 _ ?_
    show Steps p.tables e below (T3.setTop (mkF m 19 #[.val (.ref a0), .val (.int p1)] [(.ref w_bytes_a0), (.ref a0)])) _
    refine X3.ldc2Long hx hown (mvT hZ (hw _ (List.mem_of_getElem? (i := 28) rfl))) (g := (mkF m 19 #[.val (.ref a0), .val (.int p1)] [(.ref w_bytes_a0), (.ref a0)])) rfl (hb hby d5_19) _ ?_
    show Steps p.tables e below (T3.setTop (mkF m 22 #[.val (.ref a0), .val (.int p1)] [(.long (2147483639 : Int64)), (.ref w_bytes_a0), (.ref a0)])) _
    refine X3.ldc2Long hx hown (mvT hZ (hw _ (List.mem_of_getElem? (i := 29) rfl))) (g := (mkF m 22 #[.val (.ref a0), .val (.int p1)] [(.long (2147483639 : Int64)), (.ref w_bytes_a0), (.ref a0)])) rfl (hb hby d5_22) _ ?_
    show Steps p.tables e below (T3.setTop (mkF m 25 #[.val (.ref a0), .val (.int p1)] [(.long (2 : Int64)), (.long (2147483639 : Int64)), (.ref w_bytes_a0), (.ref a0)])) _
    refine XS.aloadN X3.here hx rfl (hb hby d5_25) rfl rfl ?_
    show Steps p.tables e below (T3.setTop (mkF m 26 #[.val (.ref a0), .val (.int p1)] [(.ref a0), (.long (2 : Int64)), (.long (2147483639 : Int64)), (.ref w_bytes_a0), (.ref a0)])) _
    refine st4 _ ?_
    show Steps p.tables e below (T4.setTop (mkF m 29 #[.val (.ref a0), .val (.int p1)] [(.ref w_bytes_a0), (.long (2 : Int64)), (.long (2147483639 : Int64)), (.ref w_bytes_a0), (.ref a0)])) _
    refine AF.len X4 hx hZ e4 A_w_bytes_a0 (g := (mkF m 29 #[.val (.ref a0), .val (.int p1)] [(.ref w_bytes_a0), (.long (2 : Int64)), (.long (2147483639 : Int64)), (.ref w_bytes_a0), (.ref a0)])) rfl rfl (hb hby d5_29) _ ?_
    show Steps p.tables e below (T4.setTop (mkF m 30 #[.val (.ref a0), .val (.int p1)] [(.int (Int32.ofNat n_w_bytes_a0)), (.long (2 : Int64)), (.long (2147483639 : Int64)), (.ref w_bytes_a0), (.ref a0)])) _
    refine XS.i2l X4.here hx rfl (hb hby d5_30) rfl ?_
    show Steps p.tables e below (T4.setTop (mkF m 31 #[.val (.ref a0), .val (.int p1)] [(.long ((Int32.ofNat n_w_bytes_a0).toInt64)), (.long (2 : Int64)), (.long (2147483639 : Int64)), (.ref w_bytes_a0), (.ref a0)])) _
    refine XS.lmul X4.here hx rfl (hb hby d5_31) rfl ?_
    show Steps p.tables e below (T4.setTop (mkF m 32 #[.val (.ref a0), .val (.int p1)] [(.long ((2 : Int64) * ((Int32.ofNat n_w_bytes_a0).toInt64))), (.long (2147483639 : Int64)), (.ref w_bytes_a0), (.ref a0)])) _
    refine XS.aloadN X4.here hx rfl (hb hby d5_32) rfl rfl ?_
    show Steps p.tables e below (T4.setTop (mkF m 33 #[.val (.ref a0), .val (.int p1)] [(.ref a0), (.long ((2 : Int64) * ((Int32.ofNat n_w_bytes_a0).toInt64))), (.long (2147483639 : Int64)), (.ref w_bytes_a0), (.ref a0)])) _
    refine st5 _ ?_
    show Steps p.tables e below (T5.setTop (mkF m 36 #[.val (.ref a0), .val (.int p1)] [(.int w_length_a0), (.long ((2 : Int64) * ((Int32.ofNat n_w_bytes_a0).toInt64))), (.long (2147483639 : Int64)), (.ref w_bytes_a0), (.ref a0)])) _
    refine XS.i2l X5.here hx rfl (hb hby d5_36) rfl ?_
    show Steps p.tables e below (T5.setTop (mkF m 37 #[.val (.ref a0), .val (.int p1)] [(.long (w_length_a0.toInt64)), (.long ((2 : Int64) * ((Int32.ofNat n_w_bytes_a0).toInt64))), (.long (2147483639 : Int64)), (.ref w_bytes_a0), (.ref a0)])) _
    refine XS.iloadN X5.here hx rfl (hb hby d5_37) rfl ?_
    show Steps p.tables e below (T5.setTop (mkF m 38 #[.val (.ref a0), .val (.int p1)] [(.int p1), (.long (w_length_a0.toInt64)), (.long ((2 : Int64) * ((Int32.ofNat n_w_bytes_a0).toInt64))), (.long (2147483639 : Int64)), (.ref w_bytes_a0), (.ref a0)])) _
    refine XS.i2l X5.here hx rfl (hb hby d5_38) rfl ?_
    show Steps p.tables e below (T5.setTop (mkF m 39 #[.val (.ref a0), .val (.int p1)] [(.long (p1.toInt64)), (.long (w_length_a0.toInt64)), (.long ((2 : Int64) * ((Int32.ofNat n_w_bytes_a0).toInt64))), (.long (2147483639 : Int64)), (.ref w_bytes_a0), (.ref a0)])) _
    refine XS.ladd X5.here hx rfl (hb hby d5_39) rfl ?_
    show Steps p.tables e below (T5.setTop (mkF m 40 #[.val (.ref a0), .val (.int p1)] [(.long ((w_length_a0.toInt64) + (p1.toInt64))), (.long ((2 : Int64) * ((Int32.ofNat n_w_bytes_a0).toInt64))), (.long (2147483639 : Int64)), (.ref w_bytes_a0), (.ref a0)])) _
    refine st6 _ ?_
    show Steps p.tables e below (T6.setTop (mkF m 43 #[.val (.ref a0), .val (.int p1)] [(.long (if ((2 : Int64) * ((Int32.ofNat n_w_bytes_a0).toInt64)) < ((w_length_a0.toInt64) + (p1.toInt64)) then ((w_length_a0.toInt64) + (p1.toInt64)) else ((2 : Int64) * ((Int32.ofNat n_w_bytes_a0).toInt64)))), (.long (2147483639 : Int64)), (.ref w_bytes_a0), (.ref a0)])) _
    refine st7 _ ?_
    show Steps p.tables e below (T7.setTop (mkF m 46 #[.val (.ref a0), .val (.int p1)] [(.long (if (if ((2 : Int64) * ((Int32.ofNat n_w_bytes_a0).toInt64)) < ((w_length_a0.toInt64) + (p1.toInt64)) then ((w_length_a0.toInt64) + (p1.toInt64)) else ((2 : Int64) * ((Int32.ofNat n_w_bytes_a0).toInt64))) < (2147483639 : Int64) then (if ((2 : Int64) * ((Int32.ofNat n_w_bytes_a0).toInt64)) < ((w_length_a0.toInt64) + (p1.toInt64)) then ((w_length_a0.toInt64) + (p1.toInt64)) else ((2 : Int64) * ((Int32.ofNat n_w_bytes_a0).toInt64))) else (2147483639 : Int64))), (.ref w_bytes_a0), (.ref a0)])) _
    refine XS.l2i X7.here hx rfl (hb hby d5_46) rfl ?_
    show Steps p.tables e below (T7.setTop (mkF m 47 #[.val (.ref a0), .val (.int p1)] [(.int ((if (if ((2 : Int64) * ((Int32.ofNat n_w_bytes_a0).toInt64)) < ((w_length_a0.toInt64) + (p1.toInt64)) then ((w_length_a0.toInt64) + (p1.toInt64)) else ((2 : Int64) * ((Int32.ofNat n_w_bytes_a0).toInt64))) < (2147483639 : Int64) then (if ((2 : Int64) * ((Int32.ofNat n_w_bytes_a0).toInt64)) < ((w_length_a0.toInt64) + (p1.toInt64)) then ((w_length_a0.toInt64) + (p1.toInt64)) else ((2 : Int64) * ((Int32.ofNat n_w_bytes_a0).toInt64))) else (2147483639 : Int64)).toInt32)), (.ref w_bytes_a0), (.ref a0)])) _
    refine castTop (g' := (mkF m 47 #[.val (.ref a0), .val (.int p1)] [(.int (own_nl n_w_bytes_a0 w_length_a0 p1)), (.ref w_bytes_a0), (.ref a0)])) (by rw [hq8] <;> rfl) ?_
    show Steps p.tables e below (T7.setTop (mkF m 47 #[.val (.ref a0), .val (.int p1)] [(.int (own_nl n_w_bytes_a0 w_length_a0 p1)), (.ref w_bytes_a0), (.ref a0)])) _
    refine st9 _ ?_
    show Steps p.tables e below (T9.setTop (mkF m 50 #[.val (.ref a0), .val (.int p1)] [(.ref b9_b1), (.ref a0)])) _
    refine st13 _ ?_
    show Steps p.tables e below (T13.setTop (mkF m 53 #[.val (.ref a0), .val (.int p1)] [])) _
    exact X13.returnOut hx Bd.returns (hb hby d5_53) hr
  have G14 : Exa Z h13 a0 "com/example/commitlog/commitlog/codec/JsonWriter" := (G11.wr W13)
  have G15 : Fld Z h13 a0 "com/example/commitlog/commitlog/codec/JsonWriter" "length" "I" (.int w_length_a0) := ((F_length_a0.keep Kc9 nin0).other W13 (Or.inr (slot_ne (Or.inl (hw _ (List.mem_of_getElem? (i := 27) rfl))) (Or.inl (hw _ (List.mem_of_getElem? (i := 12) rfl))) (by decide) (t := .int) (t' := (.array .byte)) (by decide) (by decide))))
  have G16 : Fld Z h13 a0 "com/example/commitlog/commitlog/codec/JsonWriter" "afterValue" "Z" (.int w_afterValue_a0) := ((F_afterValue_a0.keep Kc9 nin0).other W13 (Or.inr (slot_ne (Or.inl (hw _ (List.mem_of_getElem? (i := 49) rfl))) (Or.inl (hw _ (List.mem_of_getElem? (i := 12) rfl))) (by decide) (t := .boolean) (t' := (.array .byte)) (by decide) (by decide))))
  have G17 : AF Z h13 b9_b1 .byte ((own_nl n_w_bytes_a0 w_length_a0 p1)).toNatClampNeg (fun j => .int ((fun j => if j < n_w_bytes_a0 then g_w_bytes_a0 j else (fun _ => (0 : Int32)) j) j)) := (P10.other W13 (Ne.symm ne_a0_b9_b1))
  · show Q5g Z a0 p1 w_bytes_a0 w_length_a0 w_afterValue_a0 n_w_bytes_a0 g_w_bytes_a0 h0 n0 _ T13.heap _
    rw [e13]
    exact ⟨b9_b1, rfl, N13, K13, sq_b9_b1, G14, Fw13, G15, G16, G17⟩
theorem ef_5k (m : MethodId) (a0 : Addr) (p1 : Int32) : entryFrame m #[(.ref a0), (.int p1)] 2 = mkF m 0 #[.val (.ref a0), .val (.int p1)] [] := by first | (simp [entryFrame, mkF, argsToLocals, Value.category]; done) | rfl
def Q5k (Z : State) (a0 : Addr) (p1 : Int32) (w_bytes_a0 : Addr) (w_length_a0 : Int32) (w_afterValue_a0 : Int32) (n_w_bytes_a0 : Nat) (g_w_bytes_a0 : Nat → Int32) (h0 : Heap) (n0 : Nat) (v : Option Value) (h : Heap) (L : List Loc) : Prop := v = none ∧ Fr n0 L ∧ h = h0
set_option maxRecDepth 65536 in
set_option maxHeartbeats 40000000 in
theorem rm5k (l : Launch) (Z : State) (A0 : Array Value) (hw : ∀ d ∈ tables_1, d.before A0 Z = true) (ws : List Jvm.Cond) (a0 : Addr) (p1 : Int32) (w_bytes_a0 : Addr) (w_length_a0 : Int32) (w_afterValue_a0 : Int32) (n_w_bytes_a0 : Nat) (g_w_bytes_a0 : Nat → Int32) (h0 : Heap) (n0 : Nat) (Z0 : n0 ≤ h0.size) (E_a0 : Exa Z h0 a0 "com/example/commitlog/commitlog/codec/JsonWriter") (F_bytes_a0 : Fld Z h0 a0 "com/example/commitlog/commitlog/codec/JsonWriter" "bytes" "[B" (.ref w_bytes_a0)) (F_length_a0 : Fld Z h0 a0 "com/example/commitlog/commitlog/codec/JsonWriter" "length" "I" (.int w_length_a0)) (F_afterValue_a0 : Fld Z h0 a0 "com/example/commitlog/commitlog/codec/JsonWriter" "afterValue" "Z" (.int w_afterValue_a0)) (A_w_bytes_a0 : AF Z h0 w_bytes_a0 .byte n_w_bytes_a0 (fun j => .int (g_w_bytes_a0 j))) (hc11 : ¬ (((Int32.ofNat n_w_bytes_a0) - w_length_a0) < p1)) :
    MetFree l (⟨"com/example/commitlog/commitlog/codec/JsonWriter", "room", "(I)V"⟩ : MethodName) (head1 (Jvm.Cond.code (⟨"com/example/commitlog/commitlog/codec/JsonWriter", "room", "(I)V"⟩ : MethodName) prog_9_method_19_code 2 none :: ws) ({ frames := 0, cells := 0, slots := 0, locals := 0 } : Room)) (fun a U => a = #[(.ref a0), (.int p1)] ∧ Z.Warmed39 U.vm ∧ U.heap = h0) (fun _ _ _ _ _ => True) (fun _ U o U' => ∃ v L, o = .returned v ∧ Q5k Z a0 p1 w_bytes_a0 w_length_a0 w_afterValue_a0 n_w_bytes_a0 g_w_bytes_a0 h0 n0 v U'.heap L ∧ FrameEnd U o U' L ({ frames := 0, cells := 0, slots := 0, locals := 0 } : Room).cells ({ frames := 0, cells := 0, slots := 0, locals := 0 } : Room).slots) := by
  refine MetFree.of_bodySF (plainFor_of_name pn_5) hisR ?_
  intro p e s m args below meth c s₁ Bd hml0 hP hK
  obtain ⟨rfl, hZ, hh⟩ := hP
  have hx := Bd.exec
  have hby := Bd.bytes
  have hml : c.maxLocals = 2 := hml0
  have hown : s.vm.findClass "com/example/commitlog/commitlog/codec/JsonWriter" = some m.cls := findClass_of_methodNamed Bd.named
  have hnm := (name_of_methodNamed Bd.named Bd.method).1
  have X0 : Stand p l e ({ frames := 0, cells := 0, slots := 0, locals := 0 } : Room) s m #[(.ref a0), (.int p1)] below meth c s₁ [] 0 0 := Stand.of_body Bd
  have e0 : s₁.heap = h0 := by rw [← hh, Bd.state]; rfl
  have N0 := Fr.nil n0
  have pre0 : ∀ t, Steps p.tables e below (s₁.setTop (mkF m 0 #[.val (.ref a0), .val (.int p1)] [])) t → Steps p.tables e below (s₁.setTop (entryFrame m #[(.ref a0), (.int p1)] 2)) t := fun t k => castTop (ef_5k m a0 p1) k
  obtain ⟨T1, X1, e1, st1⟩ := getF X0 hx hZ hown (host := "") (Or.inl (hw _ (List.mem_of_getElem? (i := 11) rfl))) Via.refl e0 F_bytes_a0 (g := (mkF m 1 #[.val (.ref a0), .val (.int p1)] [(.ref a0)])) rfl rfl (hb hby d5_1)
  obtain ⟨T2, X2, e2, st2⟩ := getF X1 hx hZ hown (host := "") (Or.inl (hw _ (List.mem_of_getElem? (i := 26) rfl))) Via.refl e1 F_length_a0 (g := (mkF m 6 #[.val (.ref a0), .val (.int p1)] [(.ref a0), (.int (Int32.ofNat n_w_bytes_a0))])) rfl rfl (hb hby d5_6)
  obtain ⟨fs, hr, hrun, hended, hW, hsame⟩ := X2.leave (v := none) (fun _ => rfl)
  refine ⟨_, _, pre0 _ ?_, hrun, hended, _, _, rfl, ?_, ⟨_, rfl⟩, hW, hsame.mono (by decide) (by decide)⟩
  · show Steps p.tables e below (s₁.setTop (mkF m 0 #[.val (.ref a0), .val (.int p1)] [])) _
    refine XS.aloadN X0.here hx rfl (hb hby d5_0) rfl rfl ?_
    show Steps p.tables e below (s₁.setTop (mkF m 1 #[.val (.ref a0), .val (.int p1)] [(.ref a0)])) _
    refine st1 _ ?_
    show Steps p.tables e below (T1.setTop (mkF m 4 #[.val (.ref a0), .val (.int p1)] [(.ref w_bytes_a0)])) _
    refine AF.len X1 hx hZ e1 A_w_bytes_a0 (g := (mkF m 4 #[.val (.ref a0), .val (.int p1)] [(.ref w_bytes_a0)])) rfl rfl (hb hby d5_4) _ ?_
    show Steps p.tables e below (T1.setTop (mkF m 5 #[.val (.ref a0), .val (.int p1)] [(.int (Int32.ofNat n_w_bytes_a0))])) _
    refine XS.aloadN X1.here hx rfl (hb hby d5_5) rfl rfl ?_
    show Steps p.tables e below (T1.setTop (mkF m 6 #[.val (.ref a0), .val (.int p1)] [(.ref a0), (.int (Int32.ofNat n_w_bytes_a0))])) _
    refine st2 _ ?_
    show Steps p.tables e below (T2.setTop (mkF m 9 #[.val (.ref a0), .val (.int p1)] [(.int w_length_a0), (.int (Int32.ofNat n_w_bytes_a0))])) _
    refine XS.isub X2.here hx rfl (hb hby d5_9) rfl ?_
    show Steps p.tables e below (T2.setTop (mkF m 10 #[.val (.ref a0), .val (.int p1)] [(.int ((Int32.ofNat n_w_bytes_a0) - w_length_a0))])) _
    refine XS.iloadN X2.here hx rfl (hb hby d5_10) rfl ?_
    show Steps p.tables e below (T2.setTop (mkF m 11 #[.val (.ref a0), .val (.int p1)] [(.int p1), (.int ((Int32.ofNat n_w_bytes_a0) - w_length_a0))])) _
    refine XS.icmpYes X2.here hx rfl (pc0 := 11) (pc' := 53) rfl (hb hby d5_11) rfl (flt hc11).2.1 (by decide) (by decide) ?_
    show Steps p.tables e below (T2.setTop (mkF m 53 #[.val (.ref a0), .val (.int p1)] [])) _
    exact X2.returnOut hx Bd.returns (hb hby d5_53) hr
  · show Q5k Z a0 p1 w_bytes_a0 w_length_a0 w_afterValue_a0 n_w_bytes_a0 g_w_bytes_a0 h0 n0 _ T2.heap _
    exact ⟨rfl, N0, e2⟩
theorem ef_4g (m : MethodId) (a0 : Addr) (p1 : Int32) : entryFrame m #[(.ref a0), (.int p1)] 2 = mkF m 0 #[.val (.ref a0), .val (.int p1)] [] := by first | (simp [entryFrame, mkF, argsToLocals, Value.category]; done) | rfl
def Q4g (Z : State) (a0 : Addr) (p1 : Int32) (w_bytes_a0 : Addr) (w_length_a0 : Int32) (w_afterValue_a0 : Int32) (n_w_bytes_a0 : Nat) (g_w_bytes_a0 : Nat → Int32) (h0 : Heap) (n0 : Nat) (v : Option Value) (h : Heap) (L : List Loc) : Prop := ∃ b1_b9_b1 : Addr, v = none ∧ Fr n0 L ∧ Keep h0 h [a0] ∧ h0.size ≤ b1_b9_b1 ∧ Exa Z h a0 "com/example/commitlog/commitlog/codec/JsonWriter" ∧ Fld Z h a0 "com/example/commitlog/commitlog/codec/JsonWriter" "bytes" "[B" (.ref b1_b9_b1) ∧ Fld Z h a0 "com/example/commitlog/commitlog/codec/JsonWriter" "length" "I" (.int (w_length_a0 + (1 : Int32))) ∧ Fld Z h a0 "com/example/commitlog/commitlog/codec/JsonWriter" "afterValue" "Z" (.int w_afterValue_a0) ∧ AF Z h b1_b9_b1 .byte ((own_nl n_w_bytes_a0 w_length_a0 (1 : Int32))).toNatClampNeg (fun j => .int ((fun i => if i = (w_length_a0).toNatClampNeg then ((p1.toInt8.toInt32).toInt8.toInt32) else (fun j => if j < n_w_bytes_a0 then g_w_bytes_a0 j else (fun _ => (0 : Int32)) j) i) j))
set_option maxRecDepth 65536 in
set_option maxHeartbeats 40000000 in
theorem rm4g (l : Launch) (Z : State) (A0 : Array Value) (hw : ∀ d ∈ tables_1, d.before A0 Z = true) (ws : List Jvm.Cond) (a0 : Addr) (p1 : Int32) (w_bytes_a0 : Addr) (w_length_a0 : Int32) (w_afterValue_a0 : Int32) (n_w_bytes_a0 : Nat) (g_w_bytes_a0 : Nat → Int32) (h0 : Heap) (n0 : Nat) (Z0 : n0 ≤ h0.size) (E_a0 : Exa Z h0 a0 "com/example/commitlog/commitlog/codec/JsonWriter") (F_bytes_a0 : Fld Z h0 a0 "com/example/commitlog/commitlog/codec/JsonWriter" "bytes" "[B" (.ref w_bytes_a0)) (F_length_a0 : Fld Z h0 a0 "com/example/commitlog/commitlog/codec/JsonWriter" "length" "I" (.int w_length_a0)) (F_afterValue_a0 : Fld Z h0 a0 "com/example/commitlog/commitlog/codec/JsonWriter" "afterValue" "Z" (.int w_afterValue_a0)) (A_w_bytes_a0 : AF Z h0 w_bytes_a0 .byte n_w_bytes_a0 (fun j => .int (g_w_bytes_a0 j))) (nw_a0 : n0 ≤ a0) (hc11_2 : ((Int32.ofNat n_w_bytes_a0) - w_length_a0) < (1 : Int32)) (hc3_47_2 : ¬ ((own_nl n_w_bytes_a0 w_length_a0 (1 : Int32)) = (Int32.ofNat n_w_bytes_a0))) (hneg_47_2 : ¬ (own_nl n_w_bytes_a0 w_length_a0 (1 : Int32)) < (0 : Int32)) (hcap_47_2 : (own_nl n_w_bytes_a0 w_length_a0 (1 : Int32)).toNatClampNeg ≤ 16) (hle_47_2 : ¬ ((own_nl n_w_bytes_a0 w_length_a0 (1 : Int32)) < (Int32.ofNat n_w_bytes_a0))) (hfit_47_2 : ∀ j, j < n_w_bytes_a0 → fits .byte (.int (g_w_bytes_a0 j)) = true) (hin22 : own_in w_length_a0 ((own_nl n_w_bytes_a0 w_length_a0 (1 : Int32))).toNatClampNeg) :
    MetFree l (⟨"com/example/commitlog/commitlog/codec/JsonWriter", "put", "(I)V"⟩ : MethodName) (head1 (Jvm.Cond.code (⟨"com/example/commitlog/commitlog/codec/JsonWriter", "put", "(I)V"⟩ : MethodName) prog_9_method_18_code 2 none :: ws) ({ frames := 3, cells := 1, slots := 16, locals := 68 } : Room)) (fun a U => a = #[(.ref a0), (.int p1)] ∧ Z.Warmed39 U.vm ∧ U.heap = h0) (fun _ _ _ _ _ => True) (fun _ U o U' => ∃ v L, o = .returned v ∧ Q4g Z a0 p1 w_bytes_a0 w_length_a0 w_afterValue_a0 n_w_bytes_a0 g_w_bytes_a0 h0 n0 v U'.heap L ∧ FrameEnd U o U' L ({ frames := 3, cells := 1, slots := 16, locals := 68 } : Room).cells ({ frames := 3, cells := 1, slots := 16, locals := 68 } : Room).slots) := by
  refine MetFree.of_bodySF (plainFor_of_name pn_4) hisR ?_
  intro p e s m args below meth c s₁ Bd hml0 hP hK
  obtain ⟨rfl, hZ, hh⟩ := hP
  have hx := Bd.exec
  have hby := Bd.bytes
  have hml : c.maxLocals = 2 := hml0
  have hown : s.vm.findClass "com/example/commitlog/commitlog/codec/JsonWriter" = some m.cls := findClass_of_methodNamed Bd.named
  have hnm := (name_of_methodNamed Bd.named Bd.method).1
  have X0 : Stand p l e ({ frames := 3, cells := 1, slots := 16, locals := 68 } : Room) s m #[(.ref a0), (.int p1)] below meth c s₁ [] 0 0 := Stand.of_body Bd
  have e0 : s₁.heap = h0 := by rw [← hh, Bd.state]; rfl
  have N0 := Fr.nil n0
  have pre0 : ∀ t, Steps p.tables e below (s₁.setTop (mkF m 0 #[.val (.ref a0), .val (.int p1)] [])) t → Steps p.tables e below (s₁.setTop (entryFrame m #[(.ref a0), (.int p1)] 2)) t := fun t k => castTop (ef_4g m a0 p1) k
  obtain ⟨cq1, q1, q1'⟩ := E_a0.cell
  obtain ⟨_, _, ⟨T1, L1, k1, n1⟩, -, X1, ⟨Lc1, hQ1, l1, y1, z1⟩, st1⟩ := X0.privateBack hx (y := (⟨"com/example/commitlog/commitlog/codec/JsonWriter", "room", "(I)V"⟩ : MethodName)) hown (mvT hZ (hw _ (List.mem_of_getElem? (i := 22) rfl))) (mvT hZ (hw _ (List.mem_of_getElem? (i := 23) rfl))) (own_selp (mvT hZ (hw _ (List.mem_of_getElem? (i := 2) rfl))) (Cond.privateMethod_at (mvP hZ (hw _ (List.mem_of_getElem? (i := 24) rfl)) (args := #[]))) (mvT hZ (hw _ (List.mem_of_getElem? (i := 23) rfl))) (by decide)) (Cond.privateMethod_at (mvP hZ (hw _ (List.mem_of_getElem? (i := 24) rfl)) (args := #[]))) (mvT hZ (hw _ (List.mem_of_getElem? (i := 25) rfl))) (by decide) (backOf (W := 0) (rm5g l Z A0 hw [] a0 (1 : Int32) w_bytes_a0 w_length_a0 w_afterValue_a0 n_w_bytes_a0 g_w_bytes_a0 h0 n0 (Nat.le_trans Z0 (Keep.refl h0 [a0]).1) E_a0 F_bytes_a0 F_length_a0 F_afterValue_a0 A_w_bytes_a0 nw_a0 hc11_2 hc3_47_2 hneg_47_2 hcap_47_2 hle_47_2 hfit_47_2) hZ (hw _ (List.mem_of_getElem? (i := 25) rfl)) (hw _ (List.mem_of_getElem? (i := 3) rfl)) (by decide) (by decide)) (g := (mkF m 2 #[.val (.ref a0), .val (.int p1)] [(.int (1 : Int32)), (.ref a0)])) rfl (by rw [hml]; rfl) (Steps.refl _) (a := a0) (by rw [e0]; exact q1) q1' (argsL := [(.int (1 : Int32))]) (rest := []) (lenOf pd_0 rfl) rfl (by show 2 * 0 + _ ≤ _; exact Nat.le_of_eq rfl) (hb hby d4_2) (fun _ _ => ⟨rfl, e0, (by decide : 0 + 1 ≤ _), (by decide : 0 + 16 ≤ _)⟩)
  dsimp only [Pt.U, Pt.locs, Pt.cells, Pt.slots] at X1 l1 y1 z1 st1 hQ1
  subst l1 y1 z1
  obtain ⟨b1_b9_b1, rfl, N1q, Kc1, szb1_b9_b1, P2, P3, P4, P5, P6⟩ := hQ1
  have ne_a0_b1_b9_b1 : a0 ≠ b1_b9_b1 := Nat.ne_of_lt (Nat.lt_of_lt_of_le E_a0.lt szb1_b9_b1)
  have ne_w_bytes_a0_b1_b9_b1 : w_bytes_a0 ≠ b1_b9_b1 := Nat.ne_of_lt (Nat.lt_of_lt_of_le A_w_bytes_a0.lt szb1_b9_b1)
  have nw_b1_b9_b1 : n0 ≤ b1_b9_b1 := Nat.le_trans (Nat.le_trans Z0 (Keep.refl h0 [a0]).1) szb1_b9_b1
  have sq_b1_b9_b1 : h0.size ≤ b1_b9_b1 := Nat.le_trans (Keep.refl h0 [a0]).1 szb1_b9_b1
  have K1 : Keep h0 T1.heap [a0] := (Keep.refl h0 [a0]).trans Kc1 (allS (Or.inl (by simp)) all0)
  have N1 := Fr.app N0 N1q
  obtain ⟨T7, X7, e7, st7⟩ := getF X1 hx hZ hown (host := "") (Or.inl (hw _ (List.mem_of_getElem? (i := 11) rfl))) Via.refl rfl P3 (g := (mkF m 6 #[.val (.ref a0), .val (.int p1)] [(.ref a0)])) rfl rfl (hb hby d4_6)
  obtain ⟨T8, X8, e8, st8⟩ := getF X7 hx hZ hown (host := "") (Or.inl (hw _ (List.mem_of_getElem? (i := 26) rfl))) Via.refl e7 P4 (g := (mkF m 11 #[.val (.ref a0), .val (.int p1)] [(.ref a0), (.ref a0), (.ref b1_b9_b1)])) rfl rfl (hb hby d4_11)
  obtain ⟨T9, h9, X9, e9, W9, st9⟩ := putF X8 hx hZ hown (host := "") (Or.inl (hw _ (List.mem_of_getElem? (i := 26) rfl))) Via.refl e8 P4 P2 (Or.inl (hw _ (List.mem_of_getElem? (i := 27) rfl))) (hw _ (List.mem_of_getElem? (i := 2) rfl)) (ty := .int) (by decide) rfl rfl (g := (mkF m 17 #[.val (.ref a0), .val (.int p1)] [(.int (w_length_a0 + (1 : Int32))), (.ref a0), (.int w_length_a0), (.ref b1_b9_b1)])) rfl rfl (hb hby d4_17)
  have K9 : Keep h0 h9 [a0] := K1.wr W9 (Or.inl (by simp))
  have Fw9 : Fld Z h9 a0 "com/example/commitlog/commitlog/codec/JsonWriter" "length" "I" (.int (w_length_a0 + (1 : Int32))) := P4.same W9
  have N9 := Fr.snoc X9 N1 nw_a0
  have G10 : AF Z h9 b1_b9_b1 .byte ((own_nl n_w_bytes_a0 w_length_a0 (1 : Int32))).toNatClampNeg (fun j => .int ((fun j => if j < n_w_bytes_a0 then g_w_bytes_a0 j else (fun _ => (0 : Int32)) j) j)) := (P6.other W9 (Ne.symm ne_a0_b1_b9_b1))
  obtain ⟨T11, h11, X11, e11, W11, A11, st11⟩ := AF.stB X9 hx hZ e9 G10 hin22 (g := (mkF m 22 #[.val (.ref a0), .val (.int p1)] [(.int (p1.toInt8.toInt32)), (.int w_length_a0), (.ref b1_b9_b1)])) rfl rfl (hb hby d4_22)
  have K11 : Keep h0 h11 [a0] := K9.wr W11 (Or.inr sq_b1_b9_b1)
  obtain ⟨f12, hf12⟩ : ∃ f : Nat → Int32, f = (fun i => if i = (w_length_a0).toNatClampNeg then ((p1.toInt8.toInt32).toInt8.toInt32) else (fun j => if j < n_w_bytes_a0 then g_w_bytes_a0 j else (fun _ => (0 : Int32)) j) i) := ⟨_, rfl⟩
  have V11 : AF Z h11 b1_b9_b1 .byte ((own_nl n_w_bytes_a0 w_length_a0 (1 : Int32))).toNatClampNeg (fun j => .int (f12 j)) := AF.cong A11 (own_updI rfl hf12)
  have N11 := Fr.snoc X11 N9 nw_b1_b9_b1
  obtain ⟨fs, hr, hrun, hended, hW, hsame⟩ := X11.leave (v := none) (fun _ => rfl)
  refine ⟨_, _, pre0 _ ?_, hrun, hended, _, _, rfl, ?_, ⟨_, rfl⟩, hW, hsame.mono (by decide) (by decide)⟩
  · show Steps p.tables e below (s₁.setTop (mkF m 0 #[.val (.ref a0), .val (.int p1)] [])) _
    refine XS.aloadN X0.here hx rfl (hb hby d4_0) rfl rfl ?_
    show Steps p.tables e below (s₁.setTop (mkF m 1 #[.val (.ref a0), .val (.int p1)] [(.ref a0)])) _
    refine XS.iconst X0.here hx rfl (hb hby d4_1) ?_
    show Steps p.tables e below (s₁.setTop (mkF m 2 #[.val (.ref a0), .val (.int p1)] [(.int (1 : Int32)), (.ref a0)])) _
    refine st1.trans ?_
    show Steps p.tables e below (T1.setTop (mkF m 5 #[.val (.ref a0), .val (.int p1)] [])) _
    refine XS.aloadN X1.here hx rfl (hb hby d4_5) rfl rfl ?_
    show Steps p.tables e below (T1.setTop (mkF m 6 #[.val (.ref a0), .val (.int p1)] [(.ref a0)])) _
    refine st7 _ ?_
    show Steps p.tables e below (T7.setTop (mkF m 9 #[.val (.ref a0), .val (.int p1)] [(.ref b1_b9_b1)])) _
    refine XS.aloadN X7.here hx rfl (hb hby d4_9) rfl rfl ?_
    show Steps p.tables e below (T7.setTop (mkF m 10 #[.val (.ref a0), .val (.int p1)] [(.ref a0), (.ref b1_b9_b1)])) _
    refine XS.dup X7.here hx rfl (hb hby d4_10) rfl rfl ?_
    show Steps p.tables e below (T7.setTop (mkF m 11 #[.val (.ref a0), .val (.int p1)] [(.ref a0), (.ref a0), (.ref b1_b9_b1)])) _
    refine st8 _ ?_
    show Steps p.tables e below (T8.setTop (mkF m 14 #[.val (.ref a0), .val (.int p1)] [(.int w_length_a0), (.ref a0), (.ref b1_b9_b1)])) _
    refine XS.dupX1 X8.here hx rfl (hb hby d4_14) rfl rfl rfl ?_
    show Steps p.tables e below (T8.setTop (mkF m 15 #[.val (.ref a0), .val (.int p1)] [(.int w_length_a0), (.ref a0), (.int w_length_a0), (.ref b1_b9_b1)])) _
    refine XS.iconst X8.here hx rfl (hb hby d4_15) ?_
    show Steps p.tables e below (T8.setTop (mkF m 16 #[.val (.ref a0), .val (.int p1)] [(.int (1 : Int32)), (.int w_length_a0), (.ref a0), (.int w_length_a0), (.ref b1_b9_b1)])) _
    refine XS.iadd X8.here hx rfl (hb hby d4_16) rfl ?_
    show Steps p.tables e below (T8.setTop (mkF m 17 #[.val (.ref a0), .val (.int p1)] [(.int (w_length_a0 + (1 : Int32))), (.ref a0), (.int w_length_a0), (.ref b1_b9_b1)])) _
    refine st9 _ ?_
    show Steps p.tables e below (T9.setTop (mkF m 20 #[.val (.ref a0), .val (.int p1)] [(.int w_length_a0), (.ref b1_b9_b1)])) _
    refine XS.iloadN X9.here hx rfl (hb hby d4_20) rfl ?_
    show Steps p.tables e below (T9.setTop (mkF m 21 #[.val (.ref a0), .val (.int p1)] [(.int p1), (.int w_length_a0), (.ref b1_b9_b1)])) _
    refine XS.i2b X9.here hx rfl (hb hby d4_21) rfl ?_
    show Steps p.tables e below (T9.setTop (mkF m 22 #[.val (.ref a0), .val (.int p1)] [(.int (p1.toInt8.toInt32)), (.int w_length_a0), (.ref b1_b9_b1)])) _
    refine st11 _ ?_
    show Steps p.tables e below (T11.setTop (mkF m 23 #[.val (.ref a0), .val (.int p1)] [])) _
    exact X11.returnOut hx Bd.returns (hb hby d4_23) hr
  have G13 : Exa Z h11 a0 "com/example/commitlog/commitlog/codec/JsonWriter" := ((P2.wr W9).wr W11)
  have G14 : Fld Z h11 a0 "com/example/commitlog/commitlog/codec/JsonWriter" "bytes" "[B" (.ref b1_b9_b1) := ((P3.other W9 (Or.inr (slot_ne (Or.inl (hw _ (List.mem_of_getElem? (i := 12) rfl))) (Or.inl (hw _ (List.mem_of_getElem? (i := 27) rfl))) (by decide) (t := (.array .byte)) (t' := .int) (by decide) (by decide)))).other W11 (Or.inl ne_a0_b1_b9_b1))
  have G15 : Fld Z h11 a0 "com/example/commitlog/commitlog/codec/JsonWriter" "length" "I" (.int (w_length_a0 + (1 : Int32))) := (Fw9.other W11 (Or.inl ne_a0_b1_b9_b1))
  have G16 : Fld Z h11 a0 "com/example/commitlog/commitlog/codec/JsonWriter" "afterValue" "Z" (.int w_afterValue_a0) := ((P5.other W9 (Or.inr (slot_ne (Or.inl (hw _ (List.mem_of_getElem? (i := 49) rfl))) (Or.inl (hw _ (List.mem_of_getElem? (i := 27) rfl))) (by decide) (t := .boolean) (t' := .int) (by decide) (by decide)))).other W11 (Or.inl ne_a0_b1_b9_b1))
  · show Q4g Z a0 p1 w_bytes_a0 w_length_a0 w_afterValue_a0 n_w_bytes_a0 g_w_bytes_a0 h0 n0 _ T11.heap _
    rw [e11]
    subst hf12
    exact ⟨b1_b9_b1, rfl, N11, K11, sq_b1_b9_b1, G13, G14, G15, G16, V11⟩
theorem ef_4k (m : MethodId) (a0 : Addr) (p1 : Int32) : entryFrame m #[(.ref a0), (.int p1)] 2 = mkF m 0 #[.val (.ref a0), .val (.int p1)] [] := by first | (simp [entryFrame, mkF, argsToLocals, Value.category]; done) | rfl
def Q4k (Z : State) (a0 : Addr) (p1 : Int32) (w_bytes_a0 : Addr) (w_length_a0 : Int32) (w_afterValue_a0 : Int32) (n_w_bytes_a0 : Nat) (g_w_bytes_a0 : Nat → Int32) (h0 : Heap) (n0 : Nat) (v : Option Value) (h : Heap) (L : List Loc) : Prop := v = none ∧ Fr n0 L ∧ Keep h0 h [a0, w_bytes_a0] ∧ Exa Z h a0 "com/example/commitlog/commitlog/codec/JsonWriter" ∧ Fld Z h a0 "com/example/commitlog/commitlog/codec/JsonWriter" "bytes" "[B" (.ref w_bytes_a0) ∧ Fld Z h a0 "com/example/commitlog/commitlog/codec/JsonWriter" "length" "I" (.int (w_length_a0 + (1 : Int32))) ∧ Fld Z h a0 "com/example/commitlog/commitlog/codec/JsonWriter" "afterValue" "Z" (.int w_afterValue_a0) ∧ AF Z h w_bytes_a0 .byte n_w_bytes_a0 (fun j => .int ((fun i => if i = (w_length_a0).toNatClampNeg then ((p1.toInt8.toInt32).toInt8.toInt32) else g_w_bytes_a0 i) j))
set_option maxRecDepth 65536 in
set_option maxHeartbeats 40000000 in
theorem rm4k (l : Launch) (Z : State) (A0 : Array Value) (hw : ∀ d ∈ tables_1, d.before A0 Z = true) (ws : List Jvm.Cond) (a0 : Addr) (p1 : Int32) (w_bytes_a0 : Addr) (w_length_a0 : Int32) (w_afterValue_a0 : Int32) (n_w_bytes_a0 : Nat) (g_w_bytes_a0 : Nat → Int32) (h0 : Heap) (n0 : Nat) (Z0 : n0 ≤ h0.size) (E_a0 : Exa Z h0 a0 "com/example/commitlog/commitlog/codec/JsonWriter") (F_bytes_a0 : Fld Z h0 a0 "com/example/commitlog/commitlog/codec/JsonWriter" "bytes" "[B" (.ref w_bytes_a0)) (F_length_a0 : Fld Z h0 a0 "com/example/commitlog/commitlog/codec/JsonWriter" "length" "I" (.int w_length_a0)) (F_afterValue_a0 : Fld Z h0 a0 "com/example/commitlog/commitlog/codec/JsonWriter" "afterValue" "Z" (.int w_afterValue_a0)) (A_w_bytes_a0 : AF Z h0 w_bytes_a0 .byte n_w_bytes_a0 (fun j => .int (g_w_bytes_a0 j))) (nw_a0 : n0 ≤ a0) (ne_a0_w_bytes_a0 : a0 ≠ w_bytes_a0) (nw_w_bytes_a0 : n0 ≤ w_bytes_a0) (hc11_2 : ¬ (((Int32.ofNat n_w_bytes_a0) - w_length_a0) < (1 : Int32))) (hin22 : own_in w_length_a0 n_w_bytes_a0) :
    MetFree l (⟨"com/example/commitlog/commitlog/codec/JsonWriter", "put", "(I)V"⟩ : MethodName) (head1 (Jvm.Cond.code (⟨"com/example/commitlog/commitlog/codec/JsonWriter", "put", "(I)V"⟩ : MethodName) prog_9_method_18_code 2 none :: ws) ({ frames := 1, cells := 0, slots := 0, locals := 13 } : Room)) (fun a U => a = #[(.ref a0), (.int p1)] ∧ Z.Warmed39 U.vm ∧ U.heap = h0) (fun _ _ _ _ _ => True) (fun _ U o U' => ∃ v L, o = .returned v ∧ Q4k Z a0 p1 w_bytes_a0 w_length_a0 w_afterValue_a0 n_w_bytes_a0 g_w_bytes_a0 h0 n0 v U'.heap L ∧ FrameEnd U o U' L ({ frames := 1, cells := 0, slots := 0, locals := 13 } : Room).cells ({ frames := 1, cells := 0, slots := 0, locals := 13 } : Room).slots) := by
  refine MetFree.of_bodySF (plainFor_of_name pn_4) hisR ?_
  intro p e s m args below meth c s₁ Bd hml0 hP hK
  obtain ⟨rfl, hZ, hh⟩ := hP
  have hx := Bd.exec
  have hby := Bd.bytes
  have hml : c.maxLocals = 2 := hml0
  have hown : s.vm.findClass "com/example/commitlog/commitlog/codec/JsonWriter" = some m.cls := findClass_of_methodNamed Bd.named
  have hnm := (name_of_methodNamed Bd.named Bd.method).1
  have X0 : Stand p l e ({ frames := 1, cells := 0, slots := 0, locals := 13 } : Room) s m #[(.ref a0), (.int p1)] below meth c s₁ [] 0 0 := Stand.of_body Bd
  have e0 : s₁.heap = h0 := by rw [← hh, Bd.state]; rfl
  have N0 := Fr.nil n0
  have pre0 : ∀ t, Steps p.tables e below (s₁.setTop (mkF m 0 #[.val (.ref a0), .val (.int p1)] [])) t → Steps p.tables e below (s₁.setTop (entryFrame m #[(.ref a0), (.int p1)] 2)) t := fun t k => castTop (ef_4k m a0 p1) k
  obtain ⟨cq1, q1, q1'⟩ := E_a0.cell
  obtain ⟨_, _, ⟨T1, L1, k1, n1⟩, -, X1, ⟨Lc1, hQ1, l1, y1, z1⟩, st1⟩ := X0.privateBack hx (y := (⟨"com/example/commitlog/commitlog/codec/JsonWriter", "room", "(I)V"⟩ : MethodName)) hown (mvT hZ (hw _ (List.mem_of_getElem? (i := 22) rfl))) (mvT hZ (hw _ (List.mem_of_getElem? (i := 23) rfl))) (own_selp (mvT hZ (hw _ (List.mem_of_getElem? (i := 2) rfl))) (Cond.privateMethod_at (mvP hZ (hw _ (List.mem_of_getElem? (i := 24) rfl)) (args := #[]))) (mvT hZ (hw _ (List.mem_of_getElem? (i := 23) rfl))) (by decide)) (Cond.privateMethod_at (mvP hZ (hw _ (List.mem_of_getElem? (i := 24) rfl)) (args := #[]))) (mvT hZ (hw _ (List.mem_of_getElem? (i := 25) rfl))) (by decide) (backOf (W := 0) (rm5k l Z A0 hw [] a0 (1 : Int32) w_bytes_a0 w_length_a0 w_afterValue_a0 n_w_bytes_a0 g_w_bytes_a0 h0 n0 (Nat.le_trans Z0 (Keep.refl h0 [a0, w_bytes_a0]).1) E_a0 F_bytes_a0 F_length_a0 F_afterValue_a0 A_w_bytes_a0 hc11_2) hZ (hw _ (List.mem_of_getElem? (i := 25) rfl)) (hw _ (List.mem_of_getElem? (i := 3) rfl)) (by decide) (by decide)) (g := (mkF m 2 #[.val (.ref a0), .val (.int p1)] [(.int (1 : Int32)), (.ref a0)])) rfl (by rw [hml]; rfl) (Steps.refl _) (a := a0) (by rw [e0]; exact q1) q1' (argsL := [(.int (1 : Int32))]) (rest := []) (lenOf pd_0 rfl) rfl (by show 2 * 0 + _ ≤ _; exact Nat.le_of_eq rfl) (hb hby d4_2) (fun _ _ => ⟨rfl, e0, (by decide : 0 + 0 ≤ _), (by decide : 0 + 0 ≤ _)⟩)
  dsimp only [Pt.U, Pt.locs, Pt.cells, Pt.slots] at X1 l1 y1 z1 st1 hQ1
  subst l1 y1 z1
  obtain ⟨rfl, N1q, e1⟩ := hQ1
  have N1 := Fr.app N0 N1q
  obtain ⟨T2, X2, e2, st2⟩ := getF X1 hx hZ hown (host := "") (Or.inl (hw _ (List.mem_of_getElem? (i := 11) rfl))) Via.refl e1 F_bytes_a0 (g := (mkF m 6 #[.val (.ref a0), .val (.int p1)] [(.ref a0)])) rfl rfl (hb hby d4_6)
  obtain ⟨T3, X3, e3, st3⟩ := getF X2 hx hZ hown (host := "") (Or.inl (hw _ (List.mem_of_getElem? (i := 26) rfl))) Via.refl e2 F_length_a0 (g := (mkF m 11 #[.val (.ref a0), .val (.int p1)] [(.ref a0), (.ref a0), (.ref w_bytes_a0)])) rfl rfl (hb hby d4_11)
  obtain ⟨T4, h4, X4, e4, W4, st4⟩ := putF X3 hx hZ hown (host := "") (Or.inl (hw _ (List.mem_of_getElem? (i := 26) rfl))) Via.refl e3 F_length_a0 E_a0 (Or.inl (hw _ (List.mem_of_getElem? (i := 27) rfl))) (hw _ (List.mem_of_getElem? (i := 2) rfl)) (ty := .int) (by decide) rfl rfl (g := (mkF m 17 #[.val (.ref a0), .val (.int p1)] [(.int (w_length_a0 + (1 : Int32))), (.ref a0), (.int w_length_a0), (.ref w_bytes_a0)])) rfl rfl (hb hby d4_17)
  have K4 : Keep h0 h4 [a0, w_bytes_a0] := (Keep.refl h0 [a0, w_bytes_a0]).wr W4 (Or.inl (by simp))
  have Fw4 : Fld Z h4 a0 "com/example/commitlog/commitlog/codec/JsonWriter" "length" "I" (.int (w_length_a0 + (1 : Int32))) := F_length_a0.same W4
  have N4 := Fr.snoc X4 N1 nw_a0
  have G5 : AF Z h4 w_bytes_a0 .byte n_w_bytes_a0 (fun j => .int (g_w_bytes_a0 j)) := (A_w_bytes_a0.other W4 (Ne.symm ne_a0_w_bytes_a0))
  obtain ⟨T6, h6, X6, e6, W6, A6, st6⟩ := AF.stB X4 hx hZ e4 G5 hin22 (g := (mkF m 22 #[.val (.ref a0), .val (.int p1)] [(.int (p1.toInt8.toInt32)), (.int w_length_a0), (.ref w_bytes_a0)])) rfl rfl (hb hby d4_22)
  have K6 : Keep h0 h6 [a0, w_bytes_a0] := K4.wr W6 (Or.inl (by simp))
  obtain ⟨f7, hf7⟩ : ∃ f : Nat → Int32, f = (fun i => if i = (w_length_a0).toNatClampNeg then ((p1.toInt8.toInt32).toInt8.toInt32) else g_w_bytes_a0 i) := ⟨_, rfl⟩
  have V6 : AF Z h6 w_bytes_a0 .byte n_w_bytes_a0 (fun j => .int (f7 j)) := AF.cong A6 (own_updI rfl hf7)
  have N6 := Fr.snoc X6 N4 nw_w_bytes_a0
  obtain ⟨fs, hr, hrun, hended, hW, hsame⟩ := X6.leave (v := none) (fun _ => rfl)
  refine ⟨_, _, pre0 _ ?_, hrun, hended, _, _, rfl, ?_, ⟨_, rfl⟩, hW, hsame.mono (by decide) (by decide)⟩
  · show Steps p.tables e below (s₁.setTop (mkF m 0 #[.val (.ref a0), .val (.int p1)] [])) _
    refine XS.aloadN X0.here hx rfl (hb hby d4_0) rfl rfl ?_
    show Steps p.tables e below (s₁.setTop (mkF m 1 #[.val (.ref a0), .val (.int p1)] [(.ref a0)])) _
    refine XS.iconst X0.here hx rfl (hb hby d4_1) ?_
    show Steps p.tables e below (s₁.setTop (mkF m 2 #[.val (.ref a0), .val (.int p1)] [(.int (1 : Int32)), (.ref a0)])) _
    refine st1.trans ?_
    show Steps p.tables e below (T1.setTop (mkF m 5 #[.val (.ref a0), .val (.int p1)] [])) _
    refine XS.aloadN X1.here hx rfl (hb hby d4_5) rfl rfl ?_
    show Steps p.tables e below (T1.setTop (mkF m 6 #[.val (.ref a0), .val (.int p1)] [(.ref a0)])) _
    refine st2 _ ?_
    show Steps p.tables e below (T2.setTop (mkF m 9 #[.val (.ref a0), .val (.int p1)] [(.ref w_bytes_a0)])) _
    refine XS.aloadN X2.here hx rfl (hb hby d4_9) rfl rfl ?_
    show Steps p.tables e below (T2.setTop (mkF m 10 #[.val (.ref a0), .val (.int p1)] [(.ref a0), (.ref w_bytes_a0)])) _
    refine XS.dup X2.here hx rfl (hb hby d4_10) rfl rfl ?_
    show Steps p.tables e below (T2.setTop (mkF m 11 #[.val (.ref a0), .val (.int p1)] [(.ref a0), (.ref a0), (.ref w_bytes_a0)])) _
    refine st3 _ ?_
    show Steps p.tables e below (T3.setTop (mkF m 14 #[.val (.ref a0), .val (.int p1)] [(.int w_length_a0), (.ref a0), (.ref w_bytes_a0)])) _
    refine XS.dupX1 X3.here hx rfl (hb hby d4_14) rfl rfl rfl ?_
    show Steps p.tables e below (T3.setTop (mkF m 15 #[.val (.ref a0), .val (.int p1)] [(.int w_length_a0), (.ref a0), (.int w_length_a0), (.ref w_bytes_a0)])) _
    refine XS.iconst X3.here hx rfl (hb hby d4_15) ?_
    show Steps p.tables e below (T3.setTop (mkF m 16 #[.val (.ref a0), .val (.int p1)] [(.int (1 : Int32)), (.int w_length_a0), (.ref a0), (.int w_length_a0), (.ref w_bytes_a0)])) _
    refine XS.iadd X3.here hx rfl (hb hby d4_16) rfl ?_
    show Steps p.tables e below (T3.setTop (mkF m 17 #[.val (.ref a0), .val (.int p1)] [(.int (w_length_a0 + (1 : Int32))), (.ref a0), (.int w_length_a0), (.ref w_bytes_a0)])) _
    refine st4 _ ?_
    show Steps p.tables e below (T4.setTop (mkF m 20 #[.val (.ref a0), .val (.int p1)] [(.int w_length_a0), (.ref w_bytes_a0)])) _
    refine XS.iloadN X4.here hx rfl (hb hby d4_20) rfl ?_
    show Steps p.tables e below (T4.setTop (mkF m 21 #[.val (.ref a0), .val (.int p1)] [(.int p1), (.int w_length_a0), (.ref w_bytes_a0)])) _
    refine XS.i2b X4.here hx rfl (hb hby d4_21) rfl ?_
    show Steps p.tables e below (T4.setTop (mkF m 22 #[.val (.ref a0), .val (.int p1)] [(.int (p1.toInt8.toInt32)), (.int w_length_a0), (.ref w_bytes_a0)])) _
    refine st6 _ ?_
    show Steps p.tables e below (T6.setTop (mkF m 23 #[.val (.ref a0), .val (.int p1)] [])) _
    exact X6.returnOut hx Bd.returns (hb hby d4_23) hr
  have G8 : Exa Z h6 a0 "com/example/commitlog/commitlog/codec/JsonWriter" := ((E_a0.wr W4).wr W6)
  have G9 : Fld Z h6 a0 "com/example/commitlog/commitlog/codec/JsonWriter" "bytes" "[B" (.ref w_bytes_a0) := ((F_bytes_a0.other W4 (Or.inr (slot_ne (Or.inl (hw _ (List.mem_of_getElem? (i := 12) rfl))) (Or.inl (hw _ (List.mem_of_getElem? (i := 27) rfl))) (by decide) (t := (.array .byte)) (t' := .int) (by decide) (by decide)))).other W6 (Or.inl ne_a0_w_bytes_a0))
  have G10 : Fld Z h6 a0 "com/example/commitlog/commitlog/codec/JsonWriter" "length" "I" (.int (w_length_a0 + (1 : Int32))) := (Fw4.other W6 (Or.inl ne_a0_w_bytes_a0))
  have G11 : Fld Z h6 a0 "com/example/commitlog/commitlog/codec/JsonWriter" "afterValue" "Z" (.int w_afterValue_a0) := ((F_afterValue_a0.other W4 (Or.inr (slot_ne (Or.inl (hw _ (List.mem_of_getElem? (i := 49) rfl))) (Or.inl (hw _ (List.mem_of_getElem? (i := 27) rfl))) (by decide) (t := .boolean) (t' := .int) (by decide) (by decide)))).other W6 (Or.inl ne_a0_w_bytes_a0))
  · show Q4k Z a0 p1 w_bytes_a0 w_length_a0 w_afterValue_a0 n_w_bytes_a0 g_w_bytes_a0 h0 n0 _ T6.heap _
    rw [e6]
    subst hf7
    exact ⟨rfl, N6, K6, G8, G9, G10, G11, V6⟩
theorem ef_1 (m : MethodId) (a0 : Addr) (p1 : Int32) : entryFrame m #[(.ref a0), (.int p1)] 2 = mkF m 0 #[.val (.ref a0), .val (.int p1)] [] := by first | (simp [entryFrame, mkF, argsToLocals, Value.category]; done) | rfl
def Q1 (Z : State) (a0 : Addr) (p1 : Int32) (w_bytes_a0 : Value) (w_length_a0 : Int32) (w_afterValue_a0 : Int32) (h0 : Heap) (n0 : Nat) (v : Option Value) (h : Heap) (L : List Loc) : Prop := ∃ b2 : Addr, v = none ∧ Fr n0 L ∧ Keep h0 h [a0] ∧ h0.size ≤ b2 ∧ Exa Z h a0 "com/example/commitlog/commitlog/codec/JsonWriter" ∧ Fld Z h a0 "com/example/commitlog/commitlog/codec/JsonWriter" "bytes" "[B" (.ref b2) ∧ Fld Z h a0 "com/example/commitlog/commitlog/codec/JsonWriter" "length" "I" (.int w_length_a0) ∧ Fld Z h a0 "com/example/commitlog/commitlog/codec/JsonWriter" "afterValue" "Z" (.int w_afterValue_a0) ∧ AF Z h b2 .byte (p1).toNatClampNeg (fun j => .int ((fun _ => (0 : Int32)) j))
set_option maxRecDepth 65536 in
set_option maxHeartbeats 40000000 in
theorem rm1 (l : Launch) (Z : State) (A0 : Array Value) (hw : ∀ d ∈ tables_1, d.before A0 Z = true) (ws : List Jvm.Cond) (a0 : Addr) (p1 : Int32) (w_bytes_a0 : Value) (w_length_a0 : Int32) (w_afterValue_a0 : Int32) (h0 : Heap) (n0 : Nat) (Z0 : n0 ≤ h0.size) (E_a0 : Exa Z h0 a0 "com/example/commitlog/commitlog/codec/JsonWriter") (F_bytes_a0 : Fld Z h0 a0 "com/example/commitlog/commitlog/codec/JsonWriter" "bytes" "[B" w_bytes_a0) (F_length_a0 : Fld Z h0 a0 "com/example/commitlog/commitlog/codec/JsonWriter" "length" "I" (.int w_length_a0)) (F_afterValue_a0 : Fld Z h0 a0 "com/example/commitlog/commitlog/codec/JsonWriter" "afterValue" "Z" (.int w_afterValue_a0)) (nw_a0 : n0 ≤ a0) (hneg : ¬ p1 < (0 : Int32)) (hcap : p1.toNatClampNeg ≤ 8) :
    MetFree l (⟨"com/example/commitlog/commitlog/codec/JsonWriter", "<init>", "(I)V"⟩ : MethodName) (head1 (Jvm.Cond.code (⟨"com/example/commitlog/commitlog/codec/JsonWriter", "<init>", "(I)V"⟩ : MethodName) prog_9_method_1_code 2 none :: ws) ({ frames := 1, cells := 1, slots := 8, locals := 12 } : Room)) (fun a U => a = #[(.ref a0), (.int p1)] ∧ Z.Warmed39 U.vm ∧ U.heap = h0) (fun _ _ _ _ _ => True) (fun _ U o U' => ∃ v L, o = .returned v ∧ Q1 Z a0 p1 w_bytes_a0 w_length_a0 w_afterValue_a0 h0 n0 v U'.heap L ∧ FrameEnd U o U' L ({ frames := 1, cells := 1, slots := 8, locals := 12 } : Room).cells ({ frames := 1, cells := 1, slots := 8, locals := 12 } : Room).slots) := by
  refine MetFree.of_bodySF (plainFor_of_name pn_1) hisR ?_
  intro p e s m args below meth c s₁ Bd hml0 hP hK
  obtain ⟨rfl, hZ, hh⟩ := hP
  have hx := Bd.exec
  have hby := Bd.bytes
  have hml : c.maxLocals = 2 := hml0
  have hown : s.vm.findClass "com/example/commitlog/commitlog/codec/JsonWriter" = some m.cls := findClass_of_methodNamed Bd.named
  have hnm := (name_of_methodNamed Bd.named Bd.method).1
  have X0 : Stand p l e ({ frames := 1, cells := 1, slots := 8, locals := 12 } : Room) s m #[(.ref a0), (.int p1)] below meth c s₁ [] 0 0 := Stand.of_body Bd
  have e0 : s₁.heap = h0 := by rw [← hh, Bd.state]; rfl
  have N0 := Fr.nil n0
  have pre0 : ∀ t, Steps p.tables e below (s₁.setTop (mkF m 0 #[.val (.ref a0), .val (.int p1)] [])) t → Steps p.tables e below (s₁.setTop (entryFrame m #[(.ref a0), (.int p1)] 2)) t := fun t k => castTop (ef_1 m a0 p1) k
  obtain ⟨T1, X1, e1, st1⟩ := initO X0 hx hZ hown (hw _ (List.mem_of_getElem? (i := 7) rfl)) (hw _ (List.mem_of_getElem? (i := 8) rfl)) (hw _ (List.mem_of_getElem? (i := 9) rfl)) e0 (g := (mkF m 1 #[.val (.ref a0), .val (.int p1)] [(.ref a0)])) rfl (by rw [hml]; rfl) rfl (hb hby d1_1) (by decide) (W := 0) (by show 2 * 0 + _ ≤ _; exact Nat.le_of_eq rfl) (by decide)
  obtain ⟨T2, h2, k2, X2, e2, E2, A2, st2⟩ := newP X1 hx hZ (hw _ (List.mem_of_getElem? (i := 10) rfl)) e1 (g := (mkF m 6 #[.val (.ref a0), .val (.int p1)] [(.int p1), (.ref a0)])) rfl (hb hby d1_6) rfl hneg (cap := 8) hcap (by decide) (by decide) (by decide)
  obtain ⟨b2, g2⟩ : ∃ z, z = h0.size := ⟨_, rfl⟩
  rw [← g2] at A2 st2
  have ne_a0_b2 : a0 ≠ b2 := Nat.ne_of_lt (Nat.lt_of_lt_of_le E_a0.lt (Nat.le_of_eq g2.symm))
  have nw_b2 : n0 ≤ b2 := Nat.le_trans (Nat.le_trans Z0 (Keep.refl h0 [a0]).1) (Nat.le_of_eq g2.symm)
  have sz_b2 : h0.size ≤ b2 := Nat.le_trans (Keep.refl h0 [a0]).1 (Nat.le_of_eq g2.symm)
  have K2 : Keep h0 h2 [a0] := (Keep.refl h0 [a0]).ext E2
  have V2 : AF Z h2 b2 .byte (p1).toNatClampNeg (fun j => .int ((fun _ => (0 : Int32)) j)) := AF.new A2 hneg
  have G3 : Exa Z h2 a0 "com/example/commitlog/commitlog/codec/JsonWriter" := (E_a0.ext E2)
  have G4 : Fld Z h2 a0 "com/example/commitlog/commitlog/codec/JsonWriter" "bytes" "[B" w_bytes_a0 := (F_bytes_a0.ext E2)
  obtain ⟨T5, h5, X5, e5, W5, st5⟩ := putF X2 hx hZ hown (host := "") (Or.inl (hw _ (List.mem_of_getElem? (i := 11) rfl))) Via.refl e2 G4 G3 (Or.inl (hw _ (List.mem_of_getElem? (i := 12) rfl))) (hw _ (List.mem_of_getElem? (i := 2) rfl)) (ty := (.array .byte)) (by decide) rfl rfl (g := (mkF m 8 #[.val (.ref a0), .val (.int p1)] [(.ref b2), (.ref a0)])) rfl rfl (hb hby d1_8)
  have K5 : Keep h0 h5 [a0] := K2.wr W5 (Or.inl (by simp))
  have Fw5 : Fld Z h5 a0 "com/example/commitlog/commitlog/codec/JsonWriter" "bytes" "[B" (.ref b2) := G4.same W5
  have N5 := Fr.snoc X5 N0 nw_a0
  obtain ⟨fs, hr, hrun, hended, hW, hsame⟩ := X5.leave (v := none) (fun _ => rfl)
  refine ⟨_, _, pre0 _ ?_, hrun, hended, _, _, rfl, ?_, ⟨_, rfl⟩, hW, hsame.mono (by decide) (by decide)⟩
  · show Steps p.tables e below (s₁.setTop (mkF m 0 #[.val (.ref a0), .val (.int p1)] [])) _
    refine XS.aloadN X0.here hx rfl (hb hby d1_0) rfl rfl ?_
    show Steps p.tables e below (s₁.setTop (mkF m 1 #[.val (.ref a0), .val (.int p1)] [(.ref a0)])) _
    refine st1 _ ?_
    show Steps p.tables e below (T1.setTop (mkF m 4 #[.val (.ref a0), .val (.int p1)] [])) _
    refine XS.aloadN X1.here hx rfl (hb hby d1_4) rfl rfl ?_
    show Steps p.tables e below (T1.setTop (mkF m 5 #[.val (.ref a0), .val (.int p1)] [(.ref a0)])) _
    refine XS.iloadN X1.here hx rfl (hb hby d1_5) rfl ?_
    show Steps p.tables e below (T1.setTop (mkF m 6 #[.val (.ref a0), .val (.int p1)] [(.int p1), (.ref a0)])) _
    refine st2 _ ?_
    show Steps p.tables e below (T2.setTop (mkF m 8 #[.val (.ref a0), .val (.int p1)] [(.ref b2), (.ref a0)])) _
    refine st5 _ ?_
    show Steps p.tables e below (T5.setTop (mkF m 11 #[.val (.ref a0), .val (.int p1)] [])) _
    exact X5.returnOut hx Bd.returns (hb hby d1_11) hr
  have G6 : Exa Z h5 a0 "com/example/commitlog/commitlog/codec/JsonWriter" := (G3.wr W5)
  have G7 : Fld Z h5 a0 "com/example/commitlog/commitlog/codec/JsonWriter" "length" "I" (.int w_length_a0) := ((F_length_a0.ext E2).other W5 (Or.inr (slot_ne (Or.inl (hw _ (List.mem_of_getElem? (i := 27) rfl))) (Or.inl (hw _ (List.mem_of_getElem? (i := 12) rfl))) (by decide) (t := .int) (t' := (.array .byte)) (by decide) (by decide))))
  have G8 : Fld Z h5 a0 "com/example/commitlog/commitlog/codec/JsonWriter" "afterValue" "Z" (.int w_afterValue_a0) := ((F_afterValue_a0.ext E2).other W5 (Or.inr (slot_ne (Or.inl (hw _ (List.mem_of_getElem? (i := 49) rfl))) (Or.inl (hw _ (List.mem_of_getElem? (i := 12) rfl))) (by decide) (t := .boolean) (t' := (.array .byte)) (by decide) (by decide))))
  have G9 : AF Z h5 b2 .byte (p1).toNatClampNeg (fun j => .int ((fun _ => (0 : Int32)) j)) := (V2.other W5 (Ne.symm ne_a0_b2))
  · show Q1 Z a0 p1 w_bytes_a0 w_length_a0 w_afterValue_a0 h0 n0 _ T5.heap _
    rw [e5]
    exact ⟨b2, rfl, N5, K5, sz_b2, G6, Fw5, G7, G8, G9⟩
theorem ef_3g (m : MethodId) (a0 : Addr) : entryFrame m #[(.ref a0)] 1 = mkF m 0 #[.val (.ref a0)] [] := by first | (simp [entryFrame, mkF, argsToLocals, Value.category]; done) | rfl
def Q3g (Z : State) (a0 : Addr) (w_bytes_a0 : Addr) (w_length_a0 : Int32) (w_afterValue_a0 : Int32) (n_w_bytes_a0 : Nat) (g_w_bytes_a0 : Nat → Int32) (h0 : Heap) (n0 : Nat) (v : Option Value) (h : Heap) (L : List Loc) : Prop := ∃ b1_b1_b9_b1 : Addr, v = some (.ref a0) ∧ Fr n0 L ∧ Keep h0 h [a0] ∧ h0.size ≤ b1_b1_b9_b1 ∧ Exa Z h a0 "com/example/commitlog/commitlog/codec/JsonWriter" ∧ Fld Z h a0 "com/example/commitlog/commitlog/codec/JsonWriter" "bytes" "[B" (.ref b1_b1_b9_b1) ∧ Fld Z h a0 "com/example/commitlog/commitlog/codec/JsonWriter" "length" "I" (.int (w_length_a0 + (1 : Int32))) ∧ Fld Z h a0 "com/example/commitlog/commitlog/codec/JsonWriter" "afterValue" "Z" (.int (0 : Int32)) ∧ AF Z h b1_b1_b9_b1 .byte ((own_nl n_w_bytes_a0 w_length_a0 (1 : Int32))).toNatClampNeg (fun j => .int ((fun i => if i = (w_length_a0).toNatClampNeg then (((123 : Int32).toInt8.toInt32).toInt8.toInt32) else (fun j => if j < n_w_bytes_a0 then g_w_bytes_a0 j else (fun _ => (0 : Int32)) j) i) j))
set_option maxRecDepth 65536 in
set_option maxHeartbeats 40000000 in
theorem rm3g (l : Launch) (Z : State) (A0 : Array Value) (hw : ∀ d ∈ tables_1, d.before A0 Z = true) (ws : List Jvm.Cond) (a0 : Addr) (w_bytes_a0 : Addr) (w_length_a0 : Int32) (w_afterValue_a0 : Int32) (n_w_bytes_a0 : Nat) (g_w_bytes_a0 : Nat → Int32) (h0 : Heap) (n0 : Nat) (Z0 : n0 ≤ h0.size) (E_a0 : Exa Z h0 a0 "com/example/commitlog/commitlog/codec/JsonWriter") (F_bytes_a0 : Fld Z h0 a0 "com/example/commitlog/commitlog/codec/JsonWriter" "bytes" "[B" (.ref w_bytes_a0)) (F_length_a0 : Fld Z h0 a0 "com/example/commitlog/commitlog/codec/JsonWriter" "length" "I" (.int w_length_a0)) (F_afterValue_a0 : Fld Z h0 a0 "com/example/commitlog/commitlog/codec/JsonWriter" "afterValue" "Z" (.int w_afterValue_a0)) (A_w_bytes_a0 : AF Z h0 w_bytes_a0 .byte n_w_bytes_a0 (fun j => .int (g_w_bytes_a0 j))) (nw_a0 : n0 ≤ a0) (hc11_2_3 : ((Int32.ofNat n_w_bytes_a0) - w_length_a0) < (1 : Int32)) (hc3_47_2_3 : ¬ ((own_nl n_w_bytes_a0 w_length_a0 (1 : Int32)) = (Int32.ofNat n_w_bytes_a0))) (hneg_47_2_3 : ¬ (own_nl n_w_bytes_a0 w_length_a0 (1 : Int32)) < (0 : Int32)) (hcap_47_2_3 : (own_nl n_w_bytes_a0 w_length_a0 (1 : Int32)).toNatClampNeg ≤ 16) (hle_47_2_3 : ¬ ((own_nl n_w_bytes_a0 w_length_a0 (1 : Int32)) < (Int32.ofNat n_w_bytes_a0))) (hfit_47_2_3 : ∀ j, j < n_w_bytes_a0 → fits .byte (.int (g_w_bytes_a0 j)) = true) (hin22_3 : own_in w_length_a0 ((own_nl n_w_bytes_a0 w_length_a0 (1 : Int32))).toNatClampNeg) :
    MetFree l (⟨"com/example/commitlog/commitlog/codec/JsonWriter", "startObject", "()Lcom/example/commitlog/commitlog/codec/JsonWriter;"⟩ : MethodName) (head1 (Jvm.Cond.code (⟨"com/example/commitlog/commitlog/codec/JsonWriter", "startObject", "()Lcom/example/commitlog/commitlog/codec/JsonWriter;"⟩ : MethodName) prog_9_method_2_code 1 (some (.object "com/example/commitlog/commitlog/codec/JsonWriter")) :: ws) ({ frames := 4, cells := 1, slots := 16, locals := 81 } : Room)) (fun a U => a = #[(.ref a0)] ∧ Z.Warmed39 U.vm ∧ U.heap = h0) (fun _ _ _ _ _ => True) (fun _ U o U' => ∃ v L, o = .returned v ∧ Q3g Z a0 w_bytes_a0 w_length_a0 w_afterValue_a0 n_w_bytes_a0 g_w_bytes_a0 h0 n0 v U'.heap L ∧ FrameEnd U o U' L ({ frames := 4, cells := 1, slots := 16, locals := 81 } : Room).cells ({ frames := 4, cells := 1, slots := 16, locals := 81 } : Room).slots) := by
  refine MetFree.of_bodySF (plainFor_of_name pn_3) hisR ?_
  intro p e s m args below meth c s₁ Bd hml0 hP hK
  obtain ⟨rfl, hZ, hh⟩ := hP
  have hx := Bd.exec
  have hby := Bd.bytes
  have hml : c.maxLocals = 1 := hml0
  have hown : s.vm.findClass "com/example/commitlog/commitlog/codec/JsonWriter" = some m.cls := findClass_of_methodNamed Bd.named
  have hnm := (name_of_methodNamed Bd.named Bd.method).1
  have X0 : Stand p l e ({ frames := 4, cells := 1, slots := 16, locals := 81 } : Room) s m #[(.ref a0)] below meth c s₁ [] 0 0 := Stand.of_body Bd
  have e0 : s₁.heap = h0 := by rw [← hh, Bd.state]; rfl
  have N0 := Fr.nil n0
  have pre0 : ∀ t, Steps p.tables e below (s₁.setTop (mkF m 0 #[.val (.ref a0)] [])) t → Steps p.tables e below (s₁.setTop (entryFrame m #[(.ref a0)] 1)) t := fun t k => castTop (ef_3g m a0) k
  obtain ⟨cq1, q1, q1'⟩ := E_a0.cell
  obtain ⟨_, _, ⟨T1, L1, k1, n1⟩, -, X1, ⟨Lc1, hQ1, l1, y1, z1⟩, st1⟩ := X0.privateBack hx (y := (⟨"com/example/commitlog/commitlog/codec/JsonWriter", "put", "(I)V"⟩ : MethodName)) hown (mvT hZ (hw _ (List.mem_of_getElem? (i := 18) rfl))) (mvT hZ (hw _ (List.mem_of_getElem? (i := 19) rfl))) (own_selp (mvT hZ (hw _ (List.mem_of_getElem? (i := 2) rfl))) (Cond.privateMethod_at (mvP hZ (hw _ (List.mem_of_getElem? (i := 20) rfl)) (args := #[]))) (mvT hZ (hw _ (List.mem_of_getElem? (i := 19) rfl))) (by decide)) (Cond.privateMethod_at (mvP hZ (hw _ (List.mem_of_getElem? (i := 20) rfl)) (args := #[]))) (mvT hZ (hw _ (List.mem_of_getElem? (i := 21) rfl))) (by decide) (backOf (W := 0) (rm4g l Z A0 hw [] a0 (123 : Int32) w_bytes_a0 w_length_a0 w_afterValue_a0 n_w_bytes_a0 g_w_bytes_a0 h0 n0 (Nat.le_trans Z0 (Keep.refl h0 [a0]).1) E_a0 F_bytes_a0 F_length_a0 F_afterValue_a0 A_w_bytes_a0 nw_a0 hc11_2_3 hc3_47_2_3 hneg_47_2_3 hcap_47_2_3 hle_47_2_3 hfit_47_2_3 hin22_3) hZ (hw _ (List.mem_of_getElem? (i := 21) rfl)) (hw _ (List.mem_of_getElem? (i := 3) rfl)) (by decide) (by decide)) (g := (mkF m 3 #[.val (.ref a0)] [(.int (123 : Int32)), (.ref a0)])) rfl (by rw [hml]; rfl) (Steps.refl _) (a := a0) (by rw [e0]; exact q1) q1' (argsL := [(.int (123 : Int32))]) (rest := []) (lenOf pd_0 rfl) rfl (by show 2 * 0 + _ ≤ _; exact Nat.le_of_eq rfl) (hb hby d3_3) (fun _ _ => ⟨rfl, e0, (by decide : 0 + 1 ≤ _), (by decide : 0 + 16 ≤ _)⟩)
  dsimp only [Pt.U, Pt.locs, Pt.cells, Pt.slots] at X1 l1 y1 z1 st1 hQ1
  subst l1 y1 z1
  obtain ⟨b1_b1_b9_b1, rfl, N1q, Kc1, szb1_b1_b9_b1, P2, P3, P4, P5, P6⟩ := hQ1
  have ne_a0_b1_b1_b9_b1 : a0 ≠ b1_b1_b9_b1 := Nat.ne_of_lt (Nat.lt_of_lt_of_le E_a0.lt szb1_b1_b9_b1)
  have ne_w_bytes_a0_b1_b1_b9_b1 : w_bytes_a0 ≠ b1_b1_b9_b1 := Nat.ne_of_lt (Nat.lt_of_lt_of_le A_w_bytes_a0.lt szb1_b1_b9_b1)
  have nw_b1_b1_b9_b1 : n0 ≤ b1_b1_b9_b1 := Nat.le_trans (Nat.le_trans Z0 (Keep.refl h0 [a0]).1) szb1_b1_b9_b1
  have sq_b1_b1_b9_b1 : h0.size ≤ b1_b1_b9_b1 := Nat.le_trans (Keep.refl h0 [a0]).1 szb1_b1_b9_b1
  have K1 : Keep h0 T1.heap [a0] := (Keep.refl h0 [a0]).trans Kc1 (allS (Or.inl (by simp)) all0)
  have N1 := Fr.app N0 N1q
  obtain ⟨T7, h7, X7, e7, W7, st7⟩ := putFN X1 hx hZ hown (hw _ (List.mem_of_getElem? (i := 48) rfl)) Via.refl rfl P5 P2 (Or.inl (hw _ (List.mem_of_getElem? (i := 49) rfl))) (hw _ (List.mem_of_getElem? (i := 2) rfl)) (ty := .boolean) (v' := .int (0 : Int32)) (by decide) rfl rfl (g := (mkF m 8 #[.val (.ref a0)] [(.int (0 : Int32)), (.ref a0)])) rfl rfl (hb hby d3_8)
  have K7 : Keep h0 h7 [a0] := K1.wr W7 (Or.inl (by simp))
  have Fw7 : Fld Z h7 a0 "com/example/commitlog/commitlog/codec/JsonWriter" "afterValue" "Z" (.int (0 : Int32)) := P5.same W7
  have N7 := Fr.snoc X7 N1 nw_a0
  obtain ⟨fs, hr, hrun, hended, hW, hsame⟩ := X7.leave (v := some (.ref a0)) (fun h => by rw [Bd.returns] at h; cases h)
  refine ⟨_, _, pre0 _ ?_, hrun, hended, _, _, rfl, ?_, ⟨_, rfl⟩, hW, hsame.mono (by decide) (by decide)⟩
  · show Steps p.tables e below (s₁.setTop (mkF m 0 #[.val (.ref a0)] [])) _
    refine XS.aloadN X0.here hx rfl (hb hby d3_0) rfl rfl ?_
    show Steps p.tables e below (s₁.setTop (mkF m 1 #[.val (.ref a0)] [(.ref a0)])) _
    refine XS.bipush X0.here hx rfl (hb hby d3_1) ?_
    show Steps p.tables e below (s₁.setTop (mkF m 3 #[.val (.ref a0)] [(.int (123 : Int32)), (.ref a0)])) _
    refine st1.trans ?_
    show Steps p.tables e below (T1.setTop (mkF m 6 #[.val (.ref a0)] [])) _
    refine XS.aloadN X1.here hx rfl (hb hby d3_6) rfl rfl ?_
    show Steps p.tables e below (T1.setTop (mkF m 7 #[.val (.ref a0)] [(.ref a0)])) _
    refine XS.iconst X1.here hx rfl (hb hby d3_7) ?_
    show Steps p.tables e below (T1.setTop (mkF m 8 #[.val (.ref a0)] [(.int (0 : Int32)), (.ref a0)])) _
    refine st7 _ ?_
    show Steps p.tables e below (T7.setTop (mkF m 11 #[.val (.ref a0)] [])) _
    refine XS.aloadN X7.here hx rfl (hb hby d3_11) rfl rfl ?_
    show Steps p.tables e below (T7.setTop (mkF m 12 #[.val (.ref a0)] [(.ref a0)])) _
    exact retOut X7 hx Bd.returns rfl (Or.inr (Or.inr (Or.inr (Or.inr ⟨rfl, rfl, rfl⟩)))) (hb hby d3_12) hr
  have G8 : Exa Z h7 a0 "com/example/commitlog/commitlog/codec/JsonWriter" := (P2.wr W7)
  have G9 : Fld Z h7 a0 "com/example/commitlog/commitlog/codec/JsonWriter" "bytes" "[B" (.ref b1_b1_b9_b1) := (P3.other W7 (Or.inr (slot_ne (Or.inl (hw _ (List.mem_of_getElem? (i := 12) rfl))) (Or.inl (hw _ (List.mem_of_getElem? (i := 49) rfl))) (by decide) (t := (.array .byte)) (t' := .boolean) (by decide) (by decide))))
  have G10 : Fld Z h7 a0 "com/example/commitlog/commitlog/codec/JsonWriter" "length" "I" (.int (w_length_a0 + (1 : Int32))) := (P4.other W7 (Or.inr (slot_ne (Or.inl (hw _ (List.mem_of_getElem? (i := 27) rfl))) (Or.inl (hw _ (List.mem_of_getElem? (i := 49) rfl))) (by decide) (t := .int) (t' := .boolean) (by decide) (by decide))))
  have G11 : AF Z h7 b1_b1_b9_b1 .byte ((own_nl n_w_bytes_a0 w_length_a0 (1 : Int32))).toNatClampNeg (fun j => .int ((fun i => if i = (w_length_a0).toNatClampNeg then (((123 : Int32).toInt8.toInt32).toInt8.toInt32) else (fun j => if j < n_w_bytes_a0 then g_w_bytes_a0 j else (fun _ => (0 : Int32)) j) i) j)) := (P6.other W7 (Ne.symm ne_a0_b1_b1_b9_b1))
  · show Q3g Z a0 w_bytes_a0 w_length_a0 w_afterValue_a0 n_w_bytes_a0 g_w_bytes_a0 h0 n0 _ T7.heap _
    rw [e7]
    exact ⟨b1_b1_b9_b1, rfl, N7, K7, sq_b1_b1_b9_b1, G8, G9, G10, Fw7, G11⟩
theorem ef_3k (m : MethodId) (a0 : Addr) : entryFrame m #[(.ref a0)] 1 = mkF m 0 #[.val (.ref a0)] [] := by first | (simp [entryFrame, mkF, argsToLocals, Value.category]; done) | rfl
def Q3k (Z : State) (a0 : Addr) (w_bytes_a0 : Addr) (w_length_a0 : Int32) (w_afterValue_a0 : Int32) (n_w_bytes_a0 : Nat) (g_w_bytes_a0 : Nat → Int32) (h0 : Heap) (n0 : Nat) (v : Option Value) (h : Heap) (L : List Loc) : Prop := v = some (.ref a0) ∧ Fr n0 L ∧ Keep h0 h [w_bytes_a0, a0] ∧ Exa Z h a0 "com/example/commitlog/commitlog/codec/JsonWriter" ∧ Fld Z h a0 "com/example/commitlog/commitlog/codec/JsonWriter" "bytes" "[B" (.ref w_bytes_a0) ∧ Fld Z h a0 "com/example/commitlog/commitlog/codec/JsonWriter" "length" "I" (.int (w_length_a0 + (1 : Int32))) ∧ Fld Z h a0 "com/example/commitlog/commitlog/codec/JsonWriter" "afterValue" "Z" (.int (0 : Int32)) ∧ AF Z h w_bytes_a0 .byte n_w_bytes_a0 (fun j => .int ((fun i => if i = (w_length_a0).toNatClampNeg then (((123 : Int32).toInt8.toInt32).toInt8.toInt32) else g_w_bytes_a0 i) j))
set_option maxRecDepth 65536 in
set_option maxHeartbeats 40000000 in
theorem rm3k (l : Launch) (Z : State) (A0 : Array Value) (hw : ∀ d ∈ tables_1, d.before A0 Z = true) (ws : List Jvm.Cond) (a0 : Addr) (w_bytes_a0 : Addr) (w_length_a0 : Int32) (w_afterValue_a0 : Int32) (n_w_bytes_a0 : Nat) (g_w_bytes_a0 : Nat → Int32) (h0 : Heap) (n0 : Nat) (Z0 : n0 ≤ h0.size) (E_a0 : Exa Z h0 a0 "com/example/commitlog/commitlog/codec/JsonWriter") (F_bytes_a0 : Fld Z h0 a0 "com/example/commitlog/commitlog/codec/JsonWriter" "bytes" "[B" (.ref w_bytes_a0)) (F_length_a0 : Fld Z h0 a0 "com/example/commitlog/commitlog/codec/JsonWriter" "length" "I" (.int w_length_a0)) (F_afterValue_a0 : Fld Z h0 a0 "com/example/commitlog/commitlog/codec/JsonWriter" "afterValue" "Z" (.int w_afterValue_a0)) (A_w_bytes_a0 : AF Z h0 w_bytes_a0 .byte n_w_bytes_a0 (fun j => .int (g_w_bytes_a0 j))) (nw_a0 : n0 ≤ a0) (ne_a0_w_bytes_a0 : a0 ≠ w_bytes_a0) (nw_w_bytes_a0 : n0 ≤ w_bytes_a0) (hc11_2_3 : ¬ (((Int32.ofNat n_w_bytes_a0) - w_length_a0) < (1 : Int32))) (hin22_3 : own_in w_length_a0 n_w_bytes_a0) :
    MetFree l (⟨"com/example/commitlog/commitlog/codec/JsonWriter", "startObject", "()Lcom/example/commitlog/commitlog/codec/JsonWriter;"⟩ : MethodName) (head1 (Jvm.Cond.code (⟨"com/example/commitlog/commitlog/codec/JsonWriter", "startObject", "()Lcom/example/commitlog/commitlog/codec/JsonWriter;"⟩ : MethodName) prog_9_method_2_code 1 (some (.object "com/example/commitlog/commitlog/codec/JsonWriter")) :: ws) ({ frames := 2, cells := 0, slots := 0, locals := 26 } : Room)) (fun a U => a = #[(.ref a0)] ∧ Z.Warmed39 U.vm ∧ U.heap = h0) (fun _ _ _ _ _ => True) (fun _ U o U' => ∃ v L, o = .returned v ∧ Q3k Z a0 w_bytes_a0 w_length_a0 w_afterValue_a0 n_w_bytes_a0 g_w_bytes_a0 h0 n0 v U'.heap L ∧ FrameEnd U o U' L ({ frames := 2, cells := 0, slots := 0, locals := 26 } : Room).cells ({ frames := 2, cells := 0, slots := 0, locals := 26 } : Room).slots) := by
  refine MetFree.of_bodySF (plainFor_of_name pn_3) hisR ?_
  intro p e s m args below meth c s₁ Bd hml0 hP hK
  obtain ⟨rfl, hZ, hh⟩ := hP
  have hx := Bd.exec
  have hby := Bd.bytes
  have hml : c.maxLocals = 1 := hml0
  have hown : s.vm.findClass "com/example/commitlog/commitlog/codec/JsonWriter" = some m.cls := findClass_of_methodNamed Bd.named
  have hnm := (name_of_methodNamed Bd.named Bd.method).1
  have X0 : Stand p l e ({ frames := 2, cells := 0, slots := 0, locals := 26 } : Room) s m #[(.ref a0)] below meth c s₁ [] 0 0 := Stand.of_body Bd
  have e0 : s₁.heap = h0 := by rw [← hh, Bd.state]; rfl
  have N0 := Fr.nil n0
  have pre0 : ∀ t, Steps p.tables e below (s₁.setTop (mkF m 0 #[.val (.ref a0)] [])) t → Steps p.tables e below (s₁.setTop (entryFrame m #[(.ref a0)] 1)) t := fun t k => castTop (ef_3k m a0) k
  obtain ⟨cq1, q1, q1'⟩ := E_a0.cell
  obtain ⟨_, _, ⟨T1, L1, k1, n1⟩, -, X1, ⟨Lc1, hQ1, l1, y1, z1⟩, st1⟩ := X0.privateBack hx (y := (⟨"com/example/commitlog/commitlog/codec/JsonWriter", "put", "(I)V"⟩ : MethodName)) hown (mvT hZ (hw _ (List.mem_of_getElem? (i := 18) rfl))) (mvT hZ (hw _ (List.mem_of_getElem? (i := 19) rfl))) (own_selp (mvT hZ (hw _ (List.mem_of_getElem? (i := 2) rfl))) (Cond.privateMethod_at (mvP hZ (hw _ (List.mem_of_getElem? (i := 20) rfl)) (args := #[]))) (mvT hZ (hw _ (List.mem_of_getElem? (i := 19) rfl))) (by decide)) (Cond.privateMethod_at (mvP hZ (hw _ (List.mem_of_getElem? (i := 20) rfl)) (args := #[]))) (mvT hZ (hw _ (List.mem_of_getElem? (i := 21) rfl))) (by decide) (backOf (W := 0) (rm4k l Z A0 hw [] a0 (123 : Int32) w_bytes_a0 w_length_a0 w_afterValue_a0 n_w_bytes_a0 g_w_bytes_a0 h0 n0 (Nat.le_trans Z0 (Keep.refl h0 [w_bytes_a0, a0]).1) E_a0 F_bytes_a0 F_length_a0 F_afterValue_a0 A_w_bytes_a0 nw_a0 ne_a0_w_bytes_a0 nw_w_bytes_a0 hc11_2_3 hin22_3) hZ (hw _ (List.mem_of_getElem? (i := 21) rfl)) (hw _ (List.mem_of_getElem? (i := 3) rfl)) (by decide) (by decide)) (g := (mkF m 3 #[.val (.ref a0)] [(.int (123 : Int32)), (.ref a0)])) rfl (by rw [hml]; rfl) (Steps.refl _) (a := a0) (by rw [e0]; exact q1) q1' (argsL := [(.int (123 : Int32))]) (rest := []) (lenOf pd_0 rfl) rfl (by show 2 * 0 + _ ≤ _; exact Nat.le_of_eq rfl) (hb hby d3_3) (fun _ _ => ⟨rfl, e0, (by decide : 0 + 0 ≤ _), (by decide : 0 + 0 ≤ _)⟩)
  dsimp only [Pt.U, Pt.locs, Pt.cells, Pt.slots] at X1 l1 y1 z1 st1 hQ1
  subst l1 y1 z1
  obtain ⟨rfl, N1q, Kc1, P2, P3, P4, P5, P6⟩ := hQ1
  have K1 : Keep h0 T1.heap [w_bytes_a0, a0] := (Keep.refl h0 [w_bytes_a0, a0]).trans Kc1 (allS (Or.inl (by simp)) (allS (Or.inl (by simp)) all0))
  have N1 := Fr.app N0 N1q
  obtain ⟨T7, h7, X7, e7, W7, st7⟩ := putFN X1 hx hZ hown (hw _ (List.mem_of_getElem? (i := 48) rfl)) Via.refl rfl P5 P2 (Or.inl (hw _ (List.mem_of_getElem? (i := 49) rfl))) (hw _ (List.mem_of_getElem? (i := 2) rfl)) (ty := .boolean) (v' := .int (0 : Int32)) (by decide) rfl rfl (g := (mkF m 8 #[.val (.ref a0)] [(.int (0 : Int32)), (.ref a0)])) rfl rfl (hb hby d3_8)
  have K7 : Keep h0 h7 [w_bytes_a0, a0] := K1.wr W7 (Or.inl (by simp))
  have Fw7 : Fld Z h7 a0 "com/example/commitlog/commitlog/codec/JsonWriter" "afterValue" "Z" (.int (0 : Int32)) := P5.same W7
  have N7 := Fr.snoc X7 N1 nw_a0
  obtain ⟨fs, hr, hrun, hended, hW, hsame⟩ := X7.leave (v := some (.ref a0)) (fun h => by rw [Bd.returns] at h; cases h)
  refine ⟨_, _, pre0 _ ?_, hrun, hended, _, _, rfl, ?_, ⟨_, rfl⟩, hW, hsame.mono (by decide) (by decide)⟩
  · show Steps p.tables e below (s₁.setTop (mkF m 0 #[.val (.ref a0)] [])) _
    refine XS.aloadN X0.here hx rfl (hb hby d3_0) rfl rfl ?_
    show Steps p.tables e below (s₁.setTop (mkF m 1 #[.val (.ref a0)] [(.ref a0)])) _
    refine XS.bipush X0.here hx rfl (hb hby d3_1) ?_
    show Steps p.tables e below (s₁.setTop (mkF m 3 #[.val (.ref a0)] [(.int (123 : Int32)), (.ref a0)])) _
    refine st1.trans ?_
    show Steps p.tables e below (T1.setTop (mkF m 6 #[.val (.ref a0)] [])) _
    refine XS.aloadN X1.here hx rfl (hb hby d3_6) rfl rfl ?_
    show Steps p.tables e below (T1.setTop (mkF m 7 #[.val (.ref a0)] [(.ref a0)])) _
    refine XS.iconst X1.here hx rfl (hb hby d3_7) ?_
    show Steps p.tables e below (T1.setTop (mkF m 8 #[.val (.ref a0)] [(.int (0 : Int32)), (.ref a0)])) _
    refine st7 _ ?_
    show Steps p.tables e below (T7.setTop (mkF m 11 #[.val (.ref a0)] [])) _
    refine XS.aloadN X7.here hx rfl (hb hby d3_11) rfl rfl ?_
    show Steps p.tables e below (T7.setTop (mkF m 12 #[.val (.ref a0)] [(.ref a0)])) _
    exact retOut X7 hx Bd.returns rfl (Or.inr (Or.inr (Or.inr (Or.inr ⟨rfl, rfl, rfl⟩)))) (hb hby d3_12) hr
  have G8 : Exa Z h7 a0 "com/example/commitlog/commitlog/codec/JsonWriter" := (P2.wr W7)
  have G9 : Fld Z h7 a0 "com/example/commitlog/commitlog/codec/JsonWriter" "bytes" "[B" (.ref w_bytes_a0) := (P3.other W7 (Or.inr (slot_ne (Or.inl (hw _ (List.mem_of_getElem? (i := 12) rfl))) (Or.inl (hw _ (List.mem_of_getElem? (i := 49) rfl))) (by decide) (t := (.array .byte)) (t' := .boolean) (by decide) (by decide))))
  have G10 : Fld Z h7 a0 "com/example/commitlog/commitlog/codec/JsonWriter" "length" "I" (.int (w_length_a0 + (1 : Int32))) := (P4.other W7 (Or.inr (slot_ne (Or.inl (hw _ (List.mem_of_getElem? (i := 27) rfl))) (Or.inl (hw _ (List.mem_of_getElem? (i := 49) rfl))) (by decide) (t := .int) (t' := .boolean) (by decide) (by decide))))
  have G11 : AF Z h7 w_bytes_a0 .byte n_w_bytes_a0 (fun j => .int ((fun i => if i = (w_length_a0).toNatClampNeg then (((123 : Int32).toInt8.toInt32).toInt8.toInt32) else g_w_bytes_a0 i) j)) := (P6.other W7 (Ne.symm ne_a0_w_bytes_a0))
  · show Q3k Z a0 w_bytes_a0 w_length_a0 w_afterValue_a0 n_w_bytes_a0 g_w_bytes_a0 h0 n0 _ T7.heap _
    rw [e7]
    exact ⟨rfl, N7, K7, G8, G9, G10, Fw7, G11⟩
theorem ef_10g (m : MethodId) (a0 : Addr) (p1 : Int32) : entryFrame m #[(.ref a0), (.int p1)] 2 = mkF m 0 #[.val (.ref a0), .val (.int p1)] [] := by first | (simp [entryFrame, mkF, argsToLocals, Value.category]; done) | rfl
def Q10g (Z : State) (a0 : Addr) (p1 : Int32) (w_bytes_a0 : Addr) (w_length_a0 : Int32) (w_afterValue_a0 : Int32) (n_w_bytes_a0 : Nat) (g_w_bytes_a0 : Nat → Int32) (h0 : Heap) (n0 : Nat) (v : Option Value) (h : Heap) (L : List Loc) : Prop := ∃ b1_b9_b1 : Addr, v = some (.ref a0) ∧ Fr n0 L ∧ Keep h0 h [a0] ∧ h0.size ≤ b1_b9_b1 ∧ Exa Z h a0 "com/example/commitlog/commitlog/codec/JsonWriter" ∧ Fld Z h a0 "com/example/commitlog/commitlog/codec/JsonWriter" "bytes" "[B" (.ref b1_b9_b1) ∧ Fld Z h a0 "com/example/commitlog/commitlog/codec/JsonWriter" "length" "I" (.int (w_length_a0 + p1)) ∧ Fld Z h a0 "com/example/commitlog/commitlog/codec/JsonWriter" "afterValue" "Z" (.int w_afterValue_a0) ∧ AF Z h b1_b9_b1 .byte ((own_nl n_w_bytes_a0 w_length_a0 p1)).toNatClampNeg (fun j => .int ((fun j => if j < n_w_bytes_a0 then g_w_bytes_a0 j else (fun _ => (0 : Int32)) j) j))
set_option maxRecDepth 65536 in
set_option maxHeartbeats 40000000 in
theorem rm10g (l : Launch) (Z : State) (A0 : Array Value) (hw : ∀ d ∈ tables_1, d.before A0 Z = true) (ws : List Jvm.Cond) (a0 : Addr) (p1 : Int32) (w_bytes_a0 : Addr) (w_length_a0 : Int32) (w_afterValue_a0 : Int32) (n_w_bytes_a0 : Nat) (g_w_bytes_a0 : Nat → Int32) (h0 : Heap) (n0 : Nat) (Z0 : n0 ≤ h0.size) (E_a0 : Exa Z h0 a0 "com/example/commitlog/commitlog/codec/JsonWriter") (F_bytes_a0 : Fld Z h0 a0 "com/example/commitlog/commitlog/codec/JsonWriter" "bytes" "[B" (.ref w_bytes_a0)) (F_length_a0 : Fld Z h0 a0 "com/example/commitlog/commitlog/codec/JsonWriter" "length" "I" (.int w_length_a0)) (F_afterValue_a0 : Fld Z h0 a0 "com/example/commitlog/commitlog/codec/JsonWriter" "afterValue" "Z" (.int w_afterValue_a0)) (A_w_bytes_a0 : AF Z h0 w_bytes_a0 .byte n_w_bytes_a0 (fun j => .int (g_w_bytes_a0 j))) (nw_a0 : n0 ≤ a0) (hc11_2 : ((Int32.ofNat n_w_bytes_a0) - w_length_a0) < p1) (hc3_47_2 : ¬ ((own_nl n_w_bytes_a0 w_length_a0 p1) = (Int32.ofNat n_w_bytes_a0))) (hneg_47_2 : ¬ (own_nl n_w_bytes_a0 w_length_a0 p1) < (0 : Int32)) (hcap_47_2 : (own_nl n_w_bytes_a0 w_length_a0 p1).toNatClampNeg ≤ 16) (hle_47_2 : ¬ ((own_nl n_w_bytes_a0 w_length_a0 p1) < (Int32.ofNat n_w_bytes_a0))) (hfit_47_2 : ∀ j, j < n_w_bytes_a0 → fits .byte (.int (g_w_bytes_a0 j)) = true) :
    MetFree l (⟨"com/example/commitlog/commitlog/codec/JsonWriter", "skip", "(I)Lcom/example/commitlog/commitlog/codec/JsonWriter;"⟩ : MethodName) (head1 (Jvm.Cond.code (⟨"com/example/commitlog/commitlog/codec/JsonWriter", "skip", "(I)Lcom/example/commitlog/commitlog/codec/JsonWriter;"⟩ : MethodName) prog_9_method_11_code 2 (some (.object "com/example/commitlog/commitlog/codec/JsonWriter")) :: ws) ({ frames := 3, cells := 1, slots := 16, locals := 68 } : Room)) (fun a U => a = #[(.ref a0), (.int p1)] ∧ Z.Warmed39 U.vm ∧ U.heap = h0) (fun _ _ _ _ _ => True) (fun _ U o U' => ∃ v L, o = .returned v ∧ Q10g Z a0 p1 w_bytes_a0 w_length_a0 w_afterValue_a0 n_w_bytes_a0 g_w_bytes_a0 h0 n0 v U'.heap L ∧ FrameEnd U o U' L ({ frames := 3, cells := 1, slots := 16, locals := 68 } : Room).cells ({ frames := 3, cells := 1, slots := 16, locals := 68 } : Room).slots) := by
  refine MetFree.of_bodySF (plainFor_of_name pn_10) hisR ?_
  intro p e s m args below meth c s₁ Bd hml0 hP hK
  obtain ⟨rfl, hZ, hh⟩ := hP
  have hx := Bd.exec
  have hby := Bd.bytes
  have hml : c.maxLocals = 2 := hml0
  have hown : s.vm.findClass "com/example/commitlog/commitlog/codec/JsonWriter" = some m.cls := findClass_of_methodNamed Bd.named
  have hnm := (name_of_methodNamed Bd.named Bd.method).1
  have X0 : Stand p l e ({ frames := 3, cells := 1, slots := 16, locals := 68 } : Room) s m #[(.ref a0), (.int p1)] below meth c s₁ [] 0 0 := Stand.of_body Bd
  have e0 : s₁.heap = h0 := by rw [← hh, Bd.state]; rfl
  have N0 := Fr.nil n0
  have pre0 : ∀ t, Steps p.tables e below (s₁.setTop (mkF m 0 #[.val (.ref a0), .val (.int p1)] [])) t → Steps p.tables e below (s₁.setTop (entryFrame m #[(.ref a0), (.int p1)] 2)) t := fun t k => castTop (ef_10g m a0 p1) k
  obtain ⟨cq1, q1, q1'⟩ := E_a0.cell
  obtain ⟨_, _, ⟨T1, L1, k1, n1⟩, -, X1, ⟨Lc1, hQ1, l1, y1, z1⟩, st1⟩ := X0.privateBack hx (y := (⟨"com/example/commitlog/commitlog/codec/JsonWriter", "room", "(I)V"⟩ : MethodName)) hown (mvT hZ (hw _ (List.mem_of_getElem? (i := 22) rfl))) (mvT hZ (hw _ (List.mem_of_getElem? (i := 23) rfl))) (own_selp (mvT hZ (hw _ (List.mem_of_getElem? (i := 2) rfl))) (Cond.privateMethod_at (mvP hZ (hw _ (List.mem_of_getElem? (i := 24) rfl)) (args := #[]))) (mvT hZ (hw _ (List.mem_of_getElem? (i := 23) rfl))) (by decide)) (Cond.privateMethod_at (mvP hZ (hw _ (List.mem_of_getElem? (i := 24) rfl)) (args := #[]))) (mvT hZ (hw _ (List.mem_of_getElem? (i := 25) rfl))) (by decide) (backOf (W := 0) (rm5g l Z A0 hw [] a0 p1 w_bytes_a0 w_length_a0 w_afterValue_a0 n_w_bytes_a0 g_w_bytes_a0 h0 n0 (Nat.le_trans Z0 (Keep.refl h0 [a0]).1) E_a0 F_bytes_a0 F_length_a0 F_afterValue_a0 A_w_bytes_a0 nw_a0 hc11_2 hc3_47_2 hneg_47_2 hcap_47_2 hle_47_2 hfit_47_2) hZ (hw _ (List.mem_of_getElem? (i := 25) rfl)) (hw _ (List.mem_of_getElem? (i := 3) rfl)) (by decide) (by decide)) (g := (mkF m 2 #[.val (.ref a0), .val (.int p1)] [(.int p1), (.ref a0)])) rfl (by rw [hml]; rfl) (Steps.refl _) (a := a0) (by rw [e0]; exact q1) q1' (argsL := [(.int p1)]) (rest := []) (lenOf pd_0 rfl) rfl (by show 2 * 0 + _ ≤ _; exact Nat.le_of_eq rfl) (hb hby d10_2) (fun _ _ => ⟨rfl, e0, (by decide : 0 + 1 ≤ _), (by decide : 0 + 16 ≤ _)⟩)
  dsimp only [Pt.U, Pt.locs, Pt.cells, Pt.slots] at X1 l1 y1 z1 st1 hQ1
  subst l1 y1 z1
  obtain ⟨b1_b9_b1, rfl, N1q, Kc1, szb1_b9_b1, P2, P3, P4, P5, P6⟩ := hQ1
  have ne_a0_b1_b9_b1 : a0 ≠ b1_b9_b1 := Nat.ne_of_lt (Nat.lt_of_lt_of_le E_a0.lt szb1_b9_b1)
  have ne_w_bytes_a0_b1_b9_b1 : w_bytes_a0 ≠ b1_b9_b1 := Nat.ne_of_lt (Nat.lt_of_lt_of_le A_w_bytes_a0.lt szb1_b9_b1)
  have nw_b1_b9_b1 : n0 ≤ b1_b9_b1 := Nat.le_trans (Nat.le_trans Z0 (Keep.refl h0 [a0]).1) szb1_b9_b1
  have sq_b1_b9_b1 : h0.size ≤ b1_b9_b1 := Nat.le_trans (Keep.refl h0 [a0]).1 szb1_b9_b1
  have K1 : Keep h0 T1.heap [a0] := (Keep.refl h0 [a0]).trans Kc1 (allS (Or.inl (by simp)) all0)
  have N1 := Fr.app N0 N1q
  obtain ⟨T7, X7, e7, st7⟩ := getF X1 hx hZ hown (host := "") (Or.inl (hw _ (List.mem_of_getElem? (i := 26) rfl))) Via.refl rfl P4 (g := (mkF m 7 #[.val (.ref a0), .val (.int p1)] [(.ref a0), (.ref a0)])) rfl rfl (hb hby d10_7)
  obtain ⟨T8, h8, X8, e8, W8, st8⟩ := putF X7 hx hZ hown (host := "") (Or.inl (hw _ (List.mem_of_getElem? (i := 26) rfl))) Via.refl e7 P4 P2 (Or.inl (hw _ (List.mem_of_getElem? (i := 27) rfl))) (hw _ (List.mem_of_getElem? (i := 2) rfl)) (ty := .int) (by decide) rfl rfl (g := (mkF m 12 #[.val (.ref a0), .val (.int p1)] [(.int (w_length_a0 + p1)), (.ref a0)])) rfl rfl (hb hby d10_12)
  have K8 : Keep h0 h8 [a0] := K1.wr W8 (Or.inl (by simp))
  have Fw8 : Fld Z h8 a0 "com/example/commitlog/commitlog/codec/JsonWriter" "length" "I" (.int (w_length_a0 + p1)) := P4.same W8
  have N8 := Fr.snoc X8 N1 nw_a0
  obtain ⟨fs, hr, hrun, hended, hW, hsame⟩ := X8.leave (v := some (.ref a0)) (fun h => by rw [Bd.returns] at h; cases h)
  refine ⟨_, _, pre0 _ ?_, hrun, hended, _, _, rfl, ?_, ⟨_, rfl⟩, hW, hsame.mono (by decide) (by decide)⟩
  · show Steps p.tables e below (s₁.setTop (mkF m 0 #[.val (.ref a0), .val (.int p1)] [])) _
    refine XS.aloadN X0.here hx rfl (hb hby d10_0) rfl rfl ?_
    show Steps p.tables e below (s₁.setTop (mkF m 1 #[.val (.ref a0), .val (.int p1)] [(.ref a0)])) _
    refine XS.iloadN X0.here hx rfl (hb hby d10_1) rfl ?_
    show Steps p.tables e below (s₁.setTop (mkF m 2 #[.val (.ref a0), .val (.int p1)] [(.int p1), (.ref a0)])) _
    refine st1.trans ?_
    show Steps p.tables e below (T1.setTop (mkF m 5 #[.val (.ref a0), .val (.int p1)] [])) _
    refine XS.aloadN X1.here hx rfl (hb hby d10_5) rfl rfl ?_
    show Steps p.tables e below (T1.setTop (mkF m 6 #[.val (.ref a0), .val (.int p1)] [(.ref a0)])) _
    refine XS.dup X1.here hx rfl (hb hby d10_6) rfl rfl ?_
    show Steps p.tables e below (T1.setTop (mkF m 7 #[.val (.ref a0), .val (.int p1)] [(.ref a0), (.ref a0)])) _
    refine st7 _ ?_
    show Steps p.tables e below (T7.setTop (mkF m 10 #[.val (.ref a0), .val (.int p1)] [(.int w_length_a0), (.ref a0)])) _
    refine XS.iloadN X7.here hx rfl (hb hby d10_10) rfl ?_
    show Steps p.tables e below (T7.setTop (mkF m 11 #[.val (.ref a0), .val (.int p1)] [(.int p1), (.int w_length_a0), (.ref a0)])) _
    refine XS.iadd X7.here hx rfl (hb hby d10_11) rfl ?_
    show Steps p.tables e below (T7.setTop (mkF m 12 #[.val (.ref a0), .val (.int p1)] [(.int (w_length_a0 + p1)), (.ref a0)])) _
    refine st8 _ ?_
    show Steps p.tables e below (T8.setTop (mkF m 15 #[.val (.ref a0), .val (.int p1)] [])) _
    refine XS.aloadN X8.here hx rfl (hb hby d10_15) rfl rfl ?_
    show Steps p.tables e below (T8.setTop (mkF m 16 #[.val (.ref a0), .val (.int p1)] [(.ref a0)])) _
    exact retOut X8 hx Bd.returns rfl (Or.inr (Or.inr (Or.inr (Or.inr ⟨rfl, rfl, rfl⟩)))) (hb hby d10_16) hr
  have G9 : Exa Z h8 a0 "com/example/commitlog/commitlog/codec/JsonWriter" := (P2.wr W8)
  have G10 : Fld Z h8 a0 "com/example/commitlog/commitlog/codec/JsonWriter" "bytes" "[B" (.ref b1_b9_b1) := (P3.other W8 (Or.inr (slot_ne (Or.inl (hw _ (List.mem_of_getElem? (i := 12) rfl))) (Or.inl (hw _ (List.mem_of_getElem? (i := 27) rfl))) (by decide) (t := (.array .byte)) (t' := .int) (by decide) (by decide))))
  have G11 : Fld Z h8 a0 "com/example/commitlog/commitlog/codec/JsonWriter" "afterValue" "Z" (.int w_afterValue_a0) := (P5.other W8 (Or.inr (slot_ne (Or.inl (hw _ (List.mem_of_getElem? (i := 49) rfl))) (Or.inl (hw _ (List.mem_of_getElem? (i := 27) rfl))) (by decide) (t := .boolean) (t' := .int) (by decide) (by decide))))
  have G12 : AF Z h8 b1_b9_b1 .byte ((own_nl n_w_bytes_a0 w_length_a0 p1)).toNatClampNeg (fun j => .int ((fun j => if j < n_w_bytes_a0 then g_w_bytes_a0 j else (fun _ => (0 : Int32)) j) j)) := (P6.other W8 (Ne.symm ne_a0_b1_b9_b1))
  · show Q10g Z a0 p1 w_bytes_a0 w_length_a0 w_afterValue_a0 n_w_bytes_a0 g_w_bytes_a0 h0 n0 _ T8.heap _
    rw [e8]
    exact ⟨b1_b9_b1, rfl, N8, K8, sq_b1_b9_b1, G9, G10, Fw8, G11, G12⟩
theorem ef_10k (m : MethodId) (a0 : Addr) (p1 : Int32) : entryFrame m #[(.ref a0), (.int p1)] 2 = mkF m 0 #[.val (.ref a0), .val (.int p1)] [] := by first | (simp [entryFrame, mkF, argsToLocals, Value.category]; done) | rfl
def Q10k (Z : State) (a0 : Addr) (p1 : Int32) (w_bytes_a0 : Addr) (w_length_a0 : Int32) (w_afterValue_a0 : Int32) (n_w_bytes_a0 : Nat) (g_w_bytes_a0 : Nat → Int32) (h0 : Heap) (n0 : Nat) (v : Option Value) (h : Heap) (L : List Loc) : Prop := v = some (.ref a0) ∧ Fr n0 L ∧ Keep h0 h [a0] ∧ Exa Z h a0 "com/example/commitlog/commitlog/codec/JsonWriter" ∧ Fld Z h a0 "com/example/commitlog/commitlog/codec/JsonWriter" "bytes" "[B" (.ref w_bytes_a0) ∧ Fld Z h a0 "com/example/commitlog/commitlog/codec/JsonWriter" "length" "I" (.int (w_length_a0 + p1)) ∧ Fld Z h a0 "com/example/commitlog/commitlog/codec/JsonWriter" "afterValue" "Z" (.int w_afterValue_a0)
set_option maxRecDepth 65536 in
set_option maxHeartbeats 40000000 in
theorem rm10k (l : Launch) (Z : State) (A0 : Array Value) (hw : ∀ d ∈ tables_1, d.before A0 Z = true) (ws : List Jvm.Cond) (a0 : Addr) (p1 : Int32) (w_bytes_a0 : Addr) (w_length_a0 : Int32) (w_afterValue_a0 : Int32) (n_w_bytes_a0 : Nat) (g_w_bytes_a0 : Nat → Int32) (h0 : Heap) (n0 : Nat) (Z0 : n0 ≤ h0.size) (E_a0 : Exa Z h0 a0 "com/example/commitlog/commitlog/codec/JsonWriter") (F_bytes_a0 : Fld Z h0 a0 "com/example/commitlog/commitlog/codec/JsonWriter" "bytes" "[B" (.ref w_bytes_a0)) (F_length_a0 : Fld Z h0 a0 "com/example/commitlog/commitlog/codec/JsonWriter" "length" "I" (.int w_length_a0)) (F_afterValue_a0 : Fld Z h0 a0 "com/example/commitlog/commitlog/codec/JsonWriter" "afterValue" "Z" (.int w_afterValue_a0)) (A_w_bytes_a0 : AF Z h0 w_bytes_a0 .byte n_w_bytes_a0 (fun j => .int (g_w_bytes_a0 j))) (nw_a0 : n0 ≤ a0) (hc11_2 : ¬ (((Int32.ofNat n_w_bytes_a0) - w_length_a0) < p1)) :
    MetFree l (⟨"com/example/commitlog/commitlog/codec/JsonWriter", "skip", "(I)Lcom/example/commitlog/commitlog/codec/JsonWriter;"⟩ : MethodName) (head1 (Jvm.Cond.code (⟨"com/example/commitlog/commitlog/codec/JsonWriter", "skip", "(I)Lcom/example/commitlog/commitlog/codec/JsonWriter;"⟩ : MethodName) prog_9_method_11_code 2 (some (.object "com/example/commitlog/commitlog/codec/JsonWriter")) :: ws) ({ frames := 1, cells := 0, slots := 0, locals := 13 } : Room)) (fun a U => a = #[(.ref a0), (.int p1)] ∧ Z.Warmed39 U.vm ∧ U.heap = h0) (fun _ _ _ _ _ => True) (fun _ U o U' => ∃ v L, o = .returned v ∧ Q10k Z a0 p1 w_bytes_a0 w_length_a0 w_afterValue_a0 n_w_bytes_a0 g_w_bytes_a0 h0 n0 v U'.heap L ∧ FrameEnd U o U' L ({ frames := 1, cells := 0, slots := 0, locals := 13 } : Room).cells ({ frames := 1, cells := 0, slots := 0, locals := 13 } : Room).slots) := by
  refine MetFree.of_bodySF (plainFor_of_name pn_10) hisR ?_
  intro p e s m args below meth c s₁ Bd hml0 hP hK
  obtain ⟨rfl, hZ, hh⟩ := hP
  have hx := Bd.exec
  have hby := Bd.bytes
  have hml : c.maxLocals = 2 := hml0
  have hown : s.vm.findClass "com/example/commitlog/commitlog/codec/JsonWriter" = some m.cls := findClass_of_methodNamed Bd.named
  have hnm := (name_of_methodNamed Bd.named Bd.method).1
  have X0 : Stand p l e ({ frames := 1, cells := 0, slots := 0, locals := 13 } : Room) s m #[(.ref a0), (.int p1)] below meth c s₁ [] 0 0 := Stand.of_body Bd
  have e0 : s₁.heap = h0 := by rw [← hh, Bd.state]; rfl
  have N0 := Fr.nil n0
  have pre0 : ∀ t, Steps p.tables e below (s₁.setTop (mkF m 0 #[.val (.ref a0), .val (.int p1)] [])) t → Steps p.tables e below (s₁.setTop (entryFrame m #[(.ref a0), (.int p1)] 2)) t := fun t k => castTop (ef_10k m a0 p1) k
  obtain ⟨cq1, q1, q1'⟩ := E_a0.cell
  obtain ⟨_, _, ⟨T1, L1, k1, n1⟩, -, X1, ⟨Lc1, hQ1, l1, y1, z1⟩, st1⟩ := X0.privateBack hx (y := (⟨"com/example/commitlog/commitlog/codec/JsonWriter", "room", "(I)V"⟩ : MethodName)) hown (mvT hZ (hw _ (List.mem_of_getElem? (i := 22) rfl))) (mvT hZ (hw _ (List.mem_of_getElem? (i := 23) rfl))) (own_selp (mvT hZ (hw _ (List.mem_of_getElem? (i := 2) rfl))) (Cond.privateMethod_at (mvP hZ (hw _ (List.mem_of_getElem? (i := 24) rfl)) (args := #[]))) (mvT hZ (hw _ (List.mem_of_getElem? (i := 23) rfl))) (by decide)) (Cond.privateMethod_at (mvP hZ (hw _ (List.mem_of_getElem? (i := 24) rfl)) (args := #[]))) (mvT hZ (hw _ (List.mem_of_getElem? (i := 25) rfl))) (by decide) (backOf (W := 0) (rm5k l Z A0 hw [] a0 p1 w_bytes_a0 w_length_a0 w_afterValue_a0 n_w_bytes_a0 g_w_bytes_a0 h0 n0 (Nat.le_trans Z0 (Keep.refl h0 [a0]).1) E_a0 F_bytes_a0 F_length_a0 F_afterValue_a0 A_w_bytes_a0 hc11_2) hZ (hw _ (List.mem_of_getElem? (i := 25) rfl)) (hw _ (List.mem_of_getElem? (i := 3) rfl)) (by decide) (by decide)) (g := (mkF m 2 #[.val (.ref a0), .val (.int p1)] [(.int p1), (.ref a0)])) rfl (by rw [hml]; rfl) (Steps.refl _) (a := a0) (by rw [e0]; exact q1) q1' (argsL := [(.int p1)]) (rest := []) (lenOf pd_0 rfl) rfl (by show 2 * 0 + _ ≤ _; exact Nat.le_of_eq rfl) (hb hby d10_2) (fun _ _ => ⟨rfl, e0, (by decide : 0 + 0 ≤ _), (by decide : 0 + 0 ≤ _)⟩)
  dsimp only [Pt.U, Pt.locs, Pt.cells, Pt.slots] at X1 l1 y1 z1 st1 hQ1
  subst l1 y1 z1
  obtain ⟨rfl, N1q, e1⟩ := hQ1
  have N1 := Fr.app N0 N1q
  obtain ⟨T2, X2, e2, st2⟩ := getF X1 hx hZ hown (host := "") (Or.inl (hw _ (List.mem_of_getElem? (i := 26) rfl))) Via.refl e1 F_length_a0 (g := (mkF m 7 #[.val (.ref a0), .val (.int p1)] [(.ref a0), (.ref a0)])) rfl rfl (hb hby d10_7)
  obtain ⟨T3, h3, X3, e3, W3, st3⟩ := putF X2 hx hZ hown (host := "") (Or.inl (hw _ (List.mem_of_getElem? (i := 26) rfl))) Via.refl e2 F_length_a0 E_a0 (Or.inl (hw _ (List.mem_of_getElem? (i := 27) rfl))) (hw _ (List.mem_of_getElem? (i := 2) rfl)) (ty := .int) (by decide) rfl rfl (g := (mkF m 12 #[.val (.ref a0), .val (.int p1)] [(.int (w_length_a0 + p1)), (.ref a0)])) rfl rfl (hb hby d10_12)
  have K3 : Keep h0 h3 [a0] := (Keep.refl h0 [a0]).wr W3 (Or.inl (by simp))
  have Fw3 : Fld Z h3 a0 "com/example/commitlog/commitlog/codec/JsonWriter" "length" "I" (.int (w_length_a0 + p1)) := F_length_a0.same W3
  have N3 := Fr.snoc X3 N1 nw_a0
  obtain ⟨fs, hr, hrun, hended, hW, hsame⟩ := X3.leave (v := some (.ref a0)) (fun h => by rw [Bd.returns] at h; cases h)
  refine ⟨_, _, pre0 _ ?_, hrun, hended, _, _, rfl, ?_, ⟨_, rfl⟩, hW, hsame.mono (by decide) (by decide)⟩
  · show Steps p.tables e below (s₁.setTop (mkF m 0 #[.val (.ref a0), .val (.int p1)] [])) _
    refine XS.aloadN X0.here hx rfl (hb hby d10_0) rfl rfl ?_
    show Steps p.tables e below (s₁.setTop (mkF m 1 #[.val (.ref a0), .val (.int p1)] [(.ref a0)])) _
    refine XS.iloadN X0.here hx rfl (hb hby d10_1) rfl ?_
    show Steps p.tables e below (s₁.setTop (mkF m 2 #[.val (.ref a0), .val (.int p1)] [(.int p1), (.ref a0)])) _
    refine st1.trans ?_
    show Steps p.tables e below (T1.setTop (mkF m 5 #[.val (.ref a0), .val (.int p1)] [])) _
    refine XS.aloadN X1.here hx rfl (hb hby d10_5) rfl rfl ?_
    show Steps p.tables e below (T1.setTop (mkF m 6 #[.val (.ref a0), .val (.int p1)] [(.ref a0)])) _
    refine XS.dup X1.here hx rfl (hb hby d10_6) rfl rfl ?_
    show Steps p.tables e below (T1.setTop (mkF m 7 #[.val (.ref a0), .val (.int p1)] [(.ref a0), (.ref a0)])) _
    refine st2 _ ?_
    show Steps p.tables e below (T2.setTop (mkF m 10 #[.val (.ref a0), .val (.int p1)] [(.int w_length_a0), (.ref a0)])) _
    refine XS.iloadN X2.here hx rfl (hb hby d10_10) rfl ?_
    show Steps p.tables e below (T2.setTop (mkF m 11 #[.val (.ref a0), .val (.int p1)] [(.int p1), (.int w_length_a0), (.ref a0)])) _
    refine XS.iadd X2.here hx rfl (hb hby d10_11) rfl ?_
    show Steps p.tables e below (T2.setTop (mkF m 12 #[.val (.ref a0), .val (.int p1)] [(.int (w_length_a0 + p1)), (.ref a0)])) _
    refine st3 _ ?_
    show Steps p.tables e below (T3.setTop (mkF m 15 #[.val (.ref a0), .val (.int p1)] [])) _
    refine XS.aloadN X3.here hx rfl (hb hby d10_15) rfl rfl ?_
    show Steps p.tables e below (T3.setTop (mkF m 16 #[.val (.ref a0), .val (.int p1)] [(.ref a0)])) _
    exact retOut X3 hx Bd.returns rfl (Or.inr (Or.inr (Or.inr (Or.inr ⟨rfl, rfl, rfl⟩)))) (hb hby d10_16) hr
  have G4 : Exa Z h3 a0 "com/example/commitlog/commitlog/codec/JsonWriter" := (E_a0.wr W3)
  have G5 : Fld Z h3 a0 "com/example/commitlog/commitlog/codec/JsonWriter" "bytes" "[B" (.ref w_bytes_a0) := (F_bytes_a0.other W3 (Or.inr (slot_ne (Or.inl (hw _ (List.mem_of_getElem? (i := 12) rfl))) (Or.inl (hw _ (List.mem_of_getElem? (i := 27) rfl))) (by decide) (t := (.array .byte)) (t' := .int) (by decide) (by decide))))
  have G6 : Fld Z h3 a0 "com/example/commitlog/commitlog/codec/JsonWriter" "afterValue" "Z" (.int w_afterValue_a0) := (F_afterValue_a0.other W3 (Or.inr (slot_ne (Or.inl (hw _ (List.mem_of_getElem? (i := 49) rfl))) (Or.inl (hw _ (List.mem_of_getElem? (i := 27) rfl))) (by decide) (t := .boolean) (t' := .int) (by decide) (by decide))))
  · show Q10k Z a0 p1 w_bytes_a0 w_length_a0 w_afterValue_a0 n_w_bytes_a0 g_w_bytes_a0 h0 n0 _ T3.heap _
    rw [e3]
    exact ⟨rfl, N3, K3, G4, G5, Fw3, G6⟩
theorem ef_11 (m : MethodId) (a0 : Addr) (p1 : Int32) (p2 : Int32) : entryFrame m #[(.ref a0), (.int p1), (.int p2)] 3 = mkF m 0 #[.val (.ref a0), .val (.int p1), .val (.int p2)] [] := by first | (simp [entryFrame, mkF, argsToLocals, Value.category]; done) | rfl
def Q11 (Z : State) (a0 : Addr) (p1 : Int32) (p2 : Int32) (w_bytes_a0 : Addr) (w_length_a0 : Int32) (w_afterValue_a0 : Int32) (n_w_bytes_a0 : Nat) (g_w_bytes_a0 : Nat → Int32) (h0 : Heap) (n0 : Nat) (v : Option Value) (h : Heap) (L : List Loc) : Prop := v = none ∧ Fr n0 L ∧ Keep h0 h [w_bytes_a0] ∧ AF Z h w_bytes_a0 .byte n_w_bytes_a0 (fun j => .int ((fun i => if i = ((p1 + (3 : Int32))).toNatClampNeg then ((p2.toInt8.toInt32).toInt8.toInt32) else (fun i => if i = ((p1 + (2 : Int32))).toNatClampNeg then ((((p2.toUInt32 >>> ((8 : Int32) &&& 31).toUInt32).toInt32).toInt8.toInt32).toInt8.toInt32) else (fun i => if i = ((p1 + (1 : Int32))).toNatClampNeg then ((((p2.toUInt32 >>> ((16 : Int32) &&& 31).toUInt32).toInt32).toInt8.toInt32).toInt8.toInt32) else (fun i => if i = (p1).toNatClampNeg then ((((p2.toUInt32 >>> ((24 : Int32) &&& 31).toUInt32).toInt32).toInt8.toInt32).toInt8.toInt32) else g_w_bytes_a0 i) i) i) i) j))
set_option maxRecDepth 65536 in
set_option maxHeartbeats 40000000 in
theorem rm11 (l : Launch) (Z : State) (A0 : Array Value) (hw : ∀ d ∈ tables_1, d.before A0 Z = true) (ws : List Jvm.Cond) (a0 : Addr) (p1 : Int32) (p2 : Int32) (w_bytes_a0 : Addr) (w_length_a0 : Int32) (w_afterValue_a0 : Int32) (n_w_bytes_a0 : Nat) (g_w_bytes_a0 : Nat → Int32) (h0 : Heap) (n0 : Nat) (Z0 : n0 ≤ h0.size) (E_a0 : Exa Z h0 a0 "com/example/commitlog/commitlog/codec/JsonWriter") (F_bytes_a0 : Fld Z h0 a0 "com/example/commitlog/commitlog/codec/JsonWriter" "bytes" "[B" (.ref w_bytes_a0)) (F_length_a0 : Fld Z h0 a0 "com/example/commitlog/commitlog/codec/JsonWriter" "length" "I" (.int w_length_a0)) (F_afterValue_a0 : Fld Z h0 a0 "com/example/commitlog/commitlog/codec/JsonWriter" "afterValue" "Z" (.int w_afterValue_a0)) (A_w_bytes_a0 : AF Z h0 w_bytes_a0 .byte n_w_bytes_a0 (fun j => .int (g_w_bytes_a0 j))) (nw_w_bytes_a0 : n0 ≤ w_bytes_a0) (ne_a0_w_bytes_a0 : a0 ≠ w_bytes_a0) (hin10 : own_in p1 n_w_bytes_a0) (hin23 : own_in (p1 + (1 : Int32)) n_w_bytes_a0) (hin36 : own_in (p1 + (2 : Int32)) n_w_bytes_a0) (hin46 : own_in (p1 + (3 : Int32)) n_w_bytes_a0) :
    MetFree l (⟨"com/example/commitlog/commitlog/codec/JsonWriter", "putInt", "(II)V"⟩ : MethodName) (head1 (Jvm.Cond.code (⟨"com/example/commitlog/commitlog/codec/JsonWriter", "putInt", "(II)V"⟩ : MethodName) prog_9_method_12_code 3 none :: ws) ({ frames := 0, cells := 0, slots := 0, locals := 0 } : Room)) (fun a U => a = #[(.ref a0), (.int p1), (.int p2)] ∧ Z.Warmed39 U.vm ∧ U.heap = h0) (fun _ _ _ _ _ => True) (fun _ U o U' => ∃ v L, o = .returned v ∧ Q11 Z a0 p1 p2 w_bytes_a0 w_length_a0 w_afterValue_a0 n_w_bytes_a0 g_w_bytes_a0 h0 n0 v U'.heap L ∧ FrameEnd U o U' L ({ frames := 0, cells := 0, slots := 0, locals := 0 } : Room).cells ({ frames := 0, cells := 0, slots := 0, locals := 0 } : Room).slots) := by
  refine MetFree.of_bodySF (plainFor_of_name pn_11) hisR ?_
  intro p e s m args below meth c s₁ Bd hml0 hP hK
  obtain ⟨rfl, hZ, hh⟩ := hP
  have hx := Bd.exec
  have hby := Bd.bytes
  have hml : c.maxLocals = 3 := hml0
  have hown : s.vm.findClass "com/example/commitlog/commitlog/codec/JsonWriter" = some m.cls := findClass_of_methodNamed Bd.named
  have hnm := (name_of_methodNamed Bd.named Bd.method).1
  have X0 : Stand p l e ({ frames := 0, cells := 0, slots := 0, locals := 0 } : Room) s m #[(.ref a0), (.int p1), (.int p2)] below meth c s₁ [] 0 0 := Stand.of_body Bd
  have e0 : s₁.heap = h0 := by rw [← hh, Bd.state]; rfl
  have N0 := Fr.nil n0
  have pre0 : ∀ t, Steps p.tables e below (s₁.setTop (mkF m 0 #[.val (.ref a0), .val (.int p1), .val (.int p2)] [])) t → Steps p.tables e below (s₁.setTop (entryFrame m #[(.ref a0), (.int p1), (.int p2)] 3)) t := fun t k => castTop (ef_11 m a0 p1 p2) k
  obtain ⟨T1, X1, e1, st1⟩ := getF X0 hx hZ hown (host := "") (Or.inl (hw _ (List.mem_of_getElem? (i := 11) rfl))) Via.refl e0 F_bytes_a0 (g := (mkF m 1 #[.val (.ref a0), .val (.int p1), .val (.int p2)] [(.ref a0)])) rfl rfl (hb hby d11_1)
  obtain ⟨v2, hv2⟩ : ∃ z : Int32, z = (((p2.toUInt32 >>> ((24 : Int32) &&& 31).toUInt32).toInt32).toInt8.toInt32) := ⟨_, rfl⟩
  obtain ⟨T3, h3, X3, e3, W3, A3, st3⟩ := AF.stB X1 hx hZ e1 A_w_bytes_a0 hin10 (g := (mkF m 10 #[.val (.ref a0), .val (.int p1), .val (.int p2)] [(.int v2), (.int p1), (.ref w_bytes_a0)])) rfl rfl (hb hby d11_10)
  have K3 : Keep h0 h3 [w_bytes_a0] := (Keep.refl h0 [w_bytes_a0]).wr W3 (Or.inl (by simp))
  obtain ⟨f4, hf4⟩ : ∃ f : Nat → Int32, f = (fun i => if i = (p1).toNatClampNeg then (v2.toInt8.toInt32) else g_w_bytes_a0 i) := ⟨_, rfl⟩
  have V3 : AF Z h3 w_bytes_a0 .byte n_w_bytes_a0 (fun j => .int (f4 j)) := AF.cong A3 (own_updI rfl hf4)
  have N3 := Fr.snoc X3 N0 nw_w_bytes_a0
  have G5 : Fld Z h3 a0 "com/example/commitlog/commitlog/codec/JsonWriter" "bytes" "[B" (.ref w_bytes_a0) := (F_bytes_a0.other W3 (Or.inl ne_a0_w_bytes_a0))
  obtain ⟨T6, X6, e6, st6⟩ := getF X3 hx hZ hown (host := "") (Or.inl (hw _ (List.mem_of_getElem? (i := 11) rfl))) Via.refl e3 G5 (g := (mkF m 12 #[.val (.ref a0), .val (.int p1), .val (.int p2)] [(.ref a0)])) rfl rfl (hb hby d11_12)
  obtain ⟨v7, hv7⟩ : ∃ z : Int32, z = (((p2.toUInt32 >>> ((16 : Int32) &&& 31).toUInt32).toInt32).toInt8.toInt32) := ⟨_, rfl⟩
  obtain ⟨T8, h8, X8, e8, W8, A8, st8⟩ := AF.stB X6 hx hZ e6 V3 hin23 (g := (mkF m 23 #[.val (.ref a0), .val (.int p1), .val (.int p2)] [(.int v7), (.int (p1 + (1 : Int32))), (.ref w_bytes_a0)])) rfl rfl (hb hby d11_23)
  have K8 : Keep h0 h8 [w_bytes_a0] := K3.wr W8 (Or.inl (by simp))
  obtain ⟨f9, hf9⟩ : ∃ f : Nat → Int32, f = (fun i => if i = ((p1 + (1 : Int32))).toNatClampNeg then (v7.toInt8.toInt32) else f4 i) := ⟨_, rfl⟩
  have V8 : AF Z h8 w_bytes_a0 .byte n_w_bytes_a0 (fun j => .int (f9 j)) := AF.cong A8 (own_updI rfl hf9)
  have N8 := Fr.snoc X8 N3 nw_w_bytes_a0
  have G10 : Fld Z h8 a0 "com/example/commitlog/commitlog/codec/JsonWriter" "bytes" "[B" (.ref w_bytes_a0) := (G5.other W8 (Or.inl ne_a0_w_bytes_a0))
  obtain ⟨T11, X11, e11, st11⟩ := getF X8 hx hZ hown (host := "") (Or.inl (hw _ (List.mem_of_getElem? (i := 11) rfl))) Via.refl e8 G10 (g := (mkF m 25 #[.val (.ref a0), .val (.int p1), .val (.int p2)] [(.ref a0)])) rfl rfl (hb hby d11_25)
  obtain ⟨v12, hv12⟩ : ∃ z : Int32, z = (((p2.toUInt32 >>> ((8 : Int32) &&& 31).toUInt32).toInt32).toInt8.toInt32) := ⟨_, rfl⟩
  obtain ⟨T13, h13, X13, e13, W13, A13, st13⟩ := AF.stB X11 hx hZ e11 V8 hin36 (g := (mkF m 36 #[.val (.ref a0), .val (.int p1), .val (.int p2)] [(.int v12), (.int (p1 + (2 : Int32))), (.ref w_bytes_a0)])) rfl rfl (hb hby d11_36)
  have K13 : Keep h0 h13 [w_bytes_a0] := K8.wr W13 (Or.inl (by simp))
  obtain ⟨f14, hf14⟩ : ∃ f : Nat → Int32, f = (fun i => if i = ((p1 + (2 : Int32))).toNatClampNeg then (v12.toInt8.toInt32) else f9 i) := ⟨_, rfl⟩
  have V13 : AF Z h13 w_bytes_a0 .byte n_w_bytes_a0 (fun j => .int (f14 j)) := AF.cong A13 (own_updI rfl hf14)
  have N13 := Fr.snoc X13 N8 nw_w_bytes_a0
  have G15 : Fld Z h13 a0 "com/example/commitlog/commitlog/codec/JsonWriter" "bytes" "[B" (.ref w_bytes_a0) := (G10.other W13 (Or.inl ne_a0_w_bytes_a0))
  obtain ⟨T16, X16, e16, st16⟩ := getF X13 hx hZ hown (host := "") (Or.inl (hw _ (List.mem_of_getElem? (i := 11) rfl))) Via.refl e13 G15 (g := (mkF m 38 #[.val (.ref a0), .val (.int p1), .val (.int p2)] [(.ref a0)])) rfl rfl (hb hby d11_38)
  obtain ⟨T17, h17, X17, e17, W17, A17, st17⟩ := AF.stB X16 hx hZ e16 V13 hin46 (g := (mkF m 46 #[.val (.ref a0), .val (.int p1), .val (.int p2)] [(.int (p2.toInt8.toInt32)), (.int (p1 + (3 : Int32))), (.ref w_bytes_a0)])) rfl rfl (hb hby d11_46)
  have K17 : Keep h0 h17 [w_bytes_a0] := K13.wr W17 (Or.inl (by simp))
  obtain ⟨f18, hf18⟩ : ∃ f : Nat → Int32, f = (fun i => if i = ((p1 + (3 : Int32))).toNatClampNeg then ((p2.toInt8.toInt32).toInt8.toInt32) else f14 i) := ⟨_, rfl⟩
  have V17 : AF Z h17 w_bytes_a0 .byte n_w_bytes_a0 (fun j => .int (f18 j)) := AF.cong A17 (own_updI rfl hf18)
  have N17 := Fr.snoc X17 N13 nw_w_bytes_a0
  obtain ⟨fs, hr, hrun, hended, hW, hsame⟩ := X17.leave (v := none) (fun _ => rfl)
  refine ⟨_, _, pre0 _ ?_, hrun, hended, _, _, rfl, ?_, ⟨_, rfl⟩, hW, hsame.mono (by decide) (by decide)⟩
  · show Steps p.tables e below (s₁.setTop (mkF m 0 #[.val (.ref a0), .val (.int p1), .val (.int p2)] [])) _
    refine XS.aloadN X0.here hx rfl (hb hby d11_0) rfl rfl ?_
    show Steps p.tables e below (s₁.setTop (mkF m 1 #[.val (.ref a0), .val (.int p1), .val (.int p2)] [(.ref a0)])) _
    refine st1 _ ?_
    show Steps p.tables e below (T1.setTop (mkF m 4 #[.val (.ref a0), .val (.int p1), .val (.int p2)] [(.ref w_bytes_a0)])) _
    refine XS.iloadN X1.here hx rfl (hb hby d11_4) rfl ?_
    show Steps p.tables e below (T1.setTop (mkF m 5 #[.val (.ref a0), .val (.int p1), .val (.int p2)] [(.int p1), (.ref w_bytes_a0)])) _
    refine XS.iloadN X1.here hx rfl (hb hby d11_5) rfl ?_
    show Steps p.tables e below (T1.setTop (mkF m 6 #[.val (.ref a0), .val (.int p1), .val (.int p2)] [(.int p2), (.int p1), (.ref w_bytes_a0)])) _
    refine XS.bipush X1.here hx rfl (hb hby d11_6) ?_
    show Steps p.tables e below (T1.setTop (mkF m 8 #[.val (.ref a0), .val (.int p1), .val (.int p2)] [(.int (24 : Int32)), (.int p2), (.int p1), (.ref w_bytes_a0)])) _
    refine XS.iushr X1.here hx rfl (hb hby d11_8) rfl ?_
    show Steps p.tables e below (T1.setTop (mkF m 9 #[.val (.ref a0), .val (.int p1), .val (.int p2)] [(.int ((p2.toUInt32 >>> ((24 : Int32) &&& 31).toUInt32).toInt32)), (.int p1), (.ref w_bytes_a0)])) _
    refine XS.i2b X1.here hx rfl (hb hby d11_9) rfl ?_
    show Steps p.tables e below (T1.setTop (mkF m 10 #[.val (.ref a0), .val (.int p1), .val (.int p2)] [(.int (((p2.toUInt32 >>> ((24 : Int32) &&& 31).toUInt32).toInt32).toInt8.toInt32)), (.int p1), (.ref w_bytes_a0)])) _
    refine castTop (g' := (mkF m 10 #[.val (.ref a0), .val (.int p1), .val (.int p2)] [(.int v2), (.int p1), (.ref w_bytes_a0)])) (by rw [hv2] <;> rfl) ?_
    show Steps p.tables e below (T1.setTop (mkF m 10 #[.val (.ref a0), .val (.int p1), .val (.int p2)] [(.int v2), (.int p1), (.ref w_bytes_a0)])) _
    refine st3 _ ?_
    show Steps p.tables e below (T3.setTop (mkF m 11 #[.val (.ref a0), .val (.int p1), .val (.int p2)] [])) _
    refine XS.aloadN X3.here hx rfl (hb hby d11_11) rfl rfl ?_
    show Steps p.tables e below (T3.setTop (mkF m 12 #[.val (.ref a0), .val (.int p1), .val (.int p2)] [(.ref a0)])) _
    refine st6 _ ?_
    show Steps p.tables e below (T6.setTop (mkF m 15 #[.val (.ref a0), .val (.int p1), .val (.int p2)] [(.ref w_bytes_a0)])) _
    refine XS.iloadN X6.here hx rfl (hb hby d11_15) rfl ?_
    show Steps p.tables e below (T6.setTop (mkF m 16 #[.val (.ref a0), .val (.int p1), .val (.int p2)] [(.int p1), (.ref w_bytes_a0)])) _
    refine XS.iconst X6.here hx rfl (hb hby d11_16) ?_
    show Steps p.tables e below (T6.setTop (mkF m 17 #[.val (.ref a0), .val (.int p1), .val (.int p2)] [(.int (1 : Int32)), (.int p1), (.ref w_bytes_a0)])) _
    refine XS.iadd X6.here hx rfl (hb hby d11_17) rfl ?_
    show Steps p.tables e below (T6.setTop (mkF m 18 #[.val (.ref a0), .val (.int p1), .val (.int p2)] [(.int (p1 + (1 : Int32))), (.ref w_bytes_a0)])) _
    refine XS.iloadN X6.here hx rfl (hb hby d11_18) rfl ?_
    show Steps p.tables e below (T6.setTop (mkF m 19 #[.val (.ref a0), .val (.int p1), .val (.int p2)] [(.int p2), (.int (p1 + (1 : Int32))), (.ref w_bytes_a0)])) _
    refine XS.bipush X6.here hx rfl (hb hby d11_19) ?_
    show Steps p.tables e below (T6.setTop (mkF m 21 #[.val (.ref a0), .val (.int p1), .val (.int p2)] [(.int (16 : Int32)), (.int p2), (.int (p1 + (1 : Int32))), (.ref w_bytes_a0)])) _
    refine XS.iushr X6.here hx rfl (hb hby d11_21) rfl ?_
    show Steps p.tables e below (T6.setTop (mkF m 22 #[.val (.ref a0), .val (.int p1), .val (.int p2)] [(.int ((p2.toUInt32 >>> ((16 : Int32) &&& 31).toUInt32).toInt32)), (.int (p1 + (1 : Int32))), (.ref w_bytes_a0)])) _
    refine XS.i2b X6.here hx rfl (hb hby d11_22) rfl ?_
    show Steps p.tables e below (T6.setTop (mkF m 23 #[.val (.ref a0), .val (.int p1), .val (.int p2)] [(.int (((p2.toUInt32 >>> ((16 : Int32) &&& 31).toUInt32).toInt32).toInt8.toInt32)), (.int (p1 + (1 : Int32))), (.ref w_bytes_a0)])) _
    refine castTop (g' := (mkF m 23 #[.val (.ref a0), .val (.int p1), .val (.int p2)] [(.int v7), (.int (p1 + (1 : Int32))), (.ref w_bytes_a0)])) (by rw [hv7] <;> rfl) ?_
    show Steps p.tables e below (T6.setTop (mkF m 23 #[.val (.ref a0), .val (.int p1), .val (.int p2)] [(.int v7), (.int (p1 + (1 : Int32))), (.ref w_bytes_a0)])) _
    refine st8 _ ?_
    show Steps p.tables e below (T8.setTop (mkF m 24 #[.val (.ref a0), .val (.int p1), .val (.int p2)] [])) _
    refine XS.aloadN X8.here hx rfl (hb hby d11_24) rfl rfl ?_
    show Steps p.tables e below (T8.setTop (mkF m 25 #[.val (.ref a0), .val (.int p1), .val (.int p2)] [(.ref a0)])) _
    refine st11 _ ?_
    show Steps p.tables e below (T11.setTop (mkF m 28 #[.val (.ref a0), .val (.int p1), .val (.int p2)] [(.ref w_bytes_a0)])) _
    refine XS.iloadN X11.here hx rfl (hb hby d11_28) rfl ?_
    show Steps p.tables e below (T11.setTop (mkF m 29 #[.val (.ref a0), .val (.int p1), .val (.int p2)] [(.int p1), (.ref w_bytes_a0)])) _
    refine XS.iconst X11.here hx rfl (hb hby d11_29) ?_
    show Steps p.tables e below (T11.setTop (mkF m 30 #[.val (.ref a0), .val (.int p1), .val (.int p2)] [(.int (2 : Int32)), (.int p1), (.ref w_bytes_a0)])) _
    refine XS.iadd X11.here hx rfl (hb hby d11_30) rfl ?_
    show Steps p.tables e below (T11.setTop (mkF m 31 #[.val (.ref a0), .val (.int p1), .val (.int p2)] [(.int (p1 + (2 : Int32))), (.ref w_bytes_a0)])) _
    refine XS.iloadN X11.here hx rfl (hb hby d11_31) rfl ?_
    show Steps p.tables e below (T11.setTop (mkF m 32 #[.val (.ref a0), .val (.int p1), .val (.int p2)] [(.int p2), (.int (p1 + (2 : Int32))), (.ref w_bytes_a0)])) _
    refine XS.bipush X11.here hx rfl (hb hby d11_32) ?_
    show Steps p.tables e below (T11.setTop (mkF m 34 #[.val (.ref a0), .val (.int p1), .val (.int p2)] [(.int (8 : Int32)), (.int p2), (.int (p1 + (2 : Int32))), (.ref w_bytes_a0)])) _
    refine XS.iushr X11.here hx rfl (hb hby d11_34) rfl ?_
    show Steps p.tables e below (T11.setTop (mkF m 35 #[.val (.ref a0), .val (.int p1), .val (.int p2)] [(.int ((p2.toUInt32 >>> ((8 : Int32) &&& 31).toUInt32).toInt32)), (.int (p1 + (2 : Int32))), (.ref w_bytes_a0)])) _
    refine XS.i2b X11.here hx rfl (hb hby d11_35) rfl ?_
    show Steps p.tables e below (T11.setTop (mkF m 36 #[.val (.ref a0), .val (.int p1), .val (.int p2)] [(.int (((p2.toUInt32 >>> ((8 : Int32) &&& 31).toUInt32).toInt32).toInt8.toInt32)), (.int (p1 + (2 : Int32))), (.ref w_bytes_a0)])) _
    refine castTop (g' := (mkF m 36 #[.val (.ref a0), .val (.int p1), .val (.int p2)] [(.int v12), (.int (p1 + (2 : Int32))), (.ref w_bytes_a0)])) (by rw [hv12] <;> rfl) ?_
    show Steps p.tables e below (T11.setTop (mkF m 36 #[.val (.ref a0), .val (.int p1), .val (.int p2)] [(.int v12), (.int (p1 + (2 : Int32))), (.ref w_bytes_a0)])) _
    refine st13 _ ?_
    show Steps p.tables e below (T13.setTop (mkF m 37 #[.val (.ref a0), .val (.int p1), .val (.int p2)] [])) _
    refine XS.aloadN X13.here hx rfl (hb hby d11_37) rfl rfl ?_
    show Steps p.tables e below (T13.setTop (mkF m 38 #[.val (.ref a0), .val (.int p1), .val (.int p2)] [(.ref a0)])) _
    refine st16 _ ?_
    show Steps p.tables e below (T16.setTop (mkF m 41 #[.val (.ref a0), .val (.int p1), .val (.int p2)] [(.ref w_bytes_a0)])) _
    refine XS.iloadN X16.here hx rfl (hb hby d11_41) rfl ?_
    show Steps p.tables e below (T16.setTop (mkF m 42 #[.val (.ref a0), .val (.int p1), .val (.int p2)] [(.int p1), (.ref w_bytes_a0)])) _
    refine XS.iconst X16.here hx rfl (hb hby d11_42) ?_
    show Steps p.tables e below (T16.setTop (mkF m 43 #[.val (.ref a0), .val (.int p1), .val (.int p2)] [(.int (3 : Int32)), (.int p1), (.ref w_bytes_a0)])) _
    refine XS.iadd X16.here hx rfl (hb hby d11_43) rfl ?_
    show Steps p.tables e below (T16.setTop (mkF m 44 #[.val (.ref a0), .val (.int p1), .val (.int p2)] [(.int (p1 + (3 : Int32))), (.ref w_bytes_a0)])) _
    refine XS.iloadN X16.here hx rfl (hb hby d11_44) rfl ?_
    show Steps p.tables e below (T16.setTop (mkF m 45 #[.val (.ref a0), .val (.int p1), .val (.int p2)] [(.int p2), (.int (p1 + (3 : Int32))), (.ref w_bytes_a0)])) _
    refine XS.i2b X16.here hx rfl (hb hby d11_45) rfl ?_
    show Steps p.tables e below (T16.setTop (mkF m 46 #[.val (.ref a0), .val (.int p1), .val (.int p2)] [(.int (p2.toInt8.toInt32)), (.int (p1 + (3 : Int32))), (.ref w_bytes_a0)])) _
    refine st17 _ ?_
    show Steps p.tables e below (T17.setTop (mkF m 47 #[.val (.ref a0), .val (.int p1), .val (.int p2)] [])) _
    exact X17.returnOut hx Bd.returns (hb hby d11_47) hr
  · show Q11 Z a0 p1 p2 w_bytes_a0 w_length_a0 w_afterValue_a0 n_w_bytes_a0 g_w_bytes_a0 h0 n0 _ T17.heap _
    rw [e17]
    subst hv2 hf4 hv7 hf9 hv12 hf14 hf18
    exact ⟨rfl, N17, K17, V17⟩
theorem ef_12 (m : MethodId) (a0 : Addr) : entryFrame m #[(.ref a0)] 1 = mkF m 0 #[.val (.ref a0)] [] := by first | (simp [entryFrame, mkF, argsToLocals, Value.category]; done) | rfl
def Q12 (Z : State) (a0 : Addr) (w_bytes_a0 : Addr) (w_length_a0 : Int32) (w_afterValue_a0 : Int32) (h0 : Heap) (n0 : Nat) (v : Option Value) (h : Heap) (L : List Loc) : Prop := v = some (.ref w_bytes_a0) ∧ Fr n0 L ∧ h = h0
set_option maxRecDepth 65536 in
set_option maxHeartbeats 40000000 in
theorem rm12 (l : Launch) (Z : State) (A0 : Array Value) (hw : ∀ d ∈ tables_1, d.before A0 Z = true) (ws : List Jvm.Cond) (a0 : Addr) (w_bytes_a0 : Addr) (w_length_a0 : Int32) (w_afterValue_a0 : Int32) (h0 : Heap) (n0 : Nat) (Z0 : n0 ≤ h0.size) (E_a0 : Exa Z h0 a0 "com/example/commitlog/commitlog/codec/JsonWriter") (F_bytes_a0 : Fld Z h0 a0 "com/example/commitlog/commitlog/codec/JsonWriter" "bytes" "[B" (.ref w_bytes_a0)) (F_length_a0 : Fld Z h0 a0 "com/example/commitlog/commitlog/codec/JsonWriter" "length" "I" (.int w_length_a0)) (F_afterValue_a0 : Fld Z h0 a0 "com/example/commitlog/commitlog/codec/JsonWriter" "afterValue" "Z" (.int w_afterValue_a0)) :
    MetFree l (⟨"com/example/commitlog/commitlog/codec/JsonWriter", "bytes", "()[B"⟩ : MethodName) (head1 (Jvm.Cond.code (⟨"com/example/commitlog/commitlog/codec/JsonWriter", "bytes", "()[B"⟩ : MethodName) prog_9_method_13_code 1 (some (.array .byte)) :: ws) ({ frames := 0, cells := 0, slots := 0, locals := 0 } : Room)) (fun a U => a = #[(.ref a0)] ∧ Z.Warmed39 U.vm ∧ U.heap = h0) (fun _ _ _ _ _ => True) (fun _ U o U' => ∃ v L, o = .returned v ∧ Q12 Z a0 w_bytes_a0 w_length_a0 w_afterValue_a0 h0 n0 v U'.heap L ∧ FrameEnd U o U' L ({ frames := 0, cells := 0, slots := 0, locals := 0 } : Room).cells ({ frames := 0, cells := 0, slots := 0, locals := 0 } : Room).slots) := by
  refine MetFree.of_bodySF (plainFor_of_name pn_12) hisR ?_
  intro p e s m args below meth c s₁ Bd hml0 hP hK
  obtain ⟨rfl, hZ, hh⟩ := hP
  have hx := Bd.exec
  have hby := Bd.bytes
  have hml : c.maxLocals = 1 := hml0
  have hown : s.vm.findClass "com/example/commitlog/commitlog/codec/JsonWriter" = some m.cls := findClass_of_methodNamed Bd.named
  have hnm := (name_of_methodNamed Bd.named Bd.method).1
  have X0 : Stand p l e ({ frames := 0, cells := 0, slots := 0, locals := 0 } : Room) s m #[(.ref a0)] below meth c s₁ [] 0 0 := Stand.of_body Bd
  have e0 : s₁.heap = h0 := by rw [← hh, Bd.state]; rfl
  have N0 := Fr.nil n0
  have pre0 : ∀ t, Steps p.tables e below (s₁.setTop (mkF m 0 #[.val (.ref a0)] [])) t → Steps p.tables e below (s₁.setTop (entryFrame m #[(.ref a0)] 1)) t := fun t k => castTop (ef_12 m a0) k
  obtain ⟨T1, X1, e1, st1⟩ := getF X0 hx hZ hown (host := "") (Or.inl (hw _ (List.mem_of_getElem? (i := 11) rfl))) Via.refl e0 F_bytes_a0 (g := (mkF m 1 #[.val (.ref a0)] [(.ref a0)])) rfl rfl (hb hby d12_1)
  obtain ⟨fs, hr, hrun, hended, hW, hsame⟩ := X1.leave (v := some (.ref w_bytes_a0)) (fun h => by rw [Bd.returns] at h; cases h)
  refine ⟨_, _, pre0 _ ?_, hrun, hended, _, _, rfl, ?_, ⟨_, rfl⟩, hW, hsame.mono (by decide) (by decide)⟩
  · show Steps p.tables e below (s₁.setTop (mkF m 0 #[.val (.ref a0)] [])) _
    refine XS.aloadN X0.here hx rfl (hb hby d12_0) rfl rfl ?_
    show Steps p.tables e below (s₁.setTop (mkF m 1 #[.val (.ref a0)] [(.ref a0)])) _
    refine st1 _ ?_
    show Steps p.tables e below (T1.setTop (mkF m 4 #[.val (.ref a0)] [(.ref w_bytes_a0)])) _
    exact retOut X1 hx Bd.returns rfl (Or.inr (Or.inr (Or.inr (Or.inr ⟨rfl, rfl, rfl⟩)))) (hb hby d12_4) hr
  · show Q12 Z a0 w_bytes_a0 w_length_a0 w_afterValue_a0 h0 n0 _ T1.heap _
    exact ⟨rfl, N0, e1⟩
theorem ef_13 (m : MethodId) (a0 : Addr) : entryFrame m #[(.ref a0)] 1 = mkF m 0 #[.val (.ref a0)] [] := by first | (simp [entryFrame, mkF, argsToLocals, Value.category]; done) | rfl
def Q13 (Z : State) (a0 : Addr) (w_bytes_a0 : Value) (w_length_a0 : Int32) (w_afterValue_a0 : Int32) (h0 : Heap) (n0 : Nat) (v : Option Value) (h : Heap) (L : List Loc) : Prop := v = some (.int w_length_a0) ∧ Fr n0 L ∧ h = h0
set_option maxRecDepth 65536 in
set_option maxHeartbeats 40000000 in
theorem rm13 (l : Launch) (Z : State) (A0 : Array Value) (hw : ∀ d ∈ tables_1, d.before A0 Z = true) (ws : List Jvm.Cond) (a0 : Addr) (w_bytes_a0 : Value) (w_length_a0 : Int32) (w_afterValue_a0 : Int32) (h0 : Heap) (n0 : Nat) (Z0 : n0 ≤ h0.size) (E_a0 : Exa Z h0 a0 "com/example/commitlog/commitlog/codec/JsonWriter") (F_bytes_a0 : Fld Z h0 a0 "com/example/commitlog/commitlog/codec/JsonWriter" "bytes" "[B" w_bytes_a0) (F_length_a0 : Fld Z h0 a0 "com/example/commitlog/commitlog/codec/JsonWriter" "length" "I" (.int w_length_a0)) (F_afterValue_a0 : Fld Z h0 a0 "com/example/commitlog/commitlog/codec/JsonWriter" "afterValue" "Z" (.int w_afterValue_a0)) :
    MetFree l (⟨"com/example/commitlog/commitlog/codec/JsonWriter", "length", "()I"⟩ : MethodName) (head1 (Jvm.Cond.code (⟨"com/example/commitlog/commitlog/codec/JsonWriter", "length", "()I"⟩ : MethodName) prog_9_method_9_code 1 (some .int) :: ws) ({ frames := 0, cells := 0, slots := 0, locals := 0 } : Room)) (fun a U => a = #[(.ref a0)] ∧ Z.Warmed39 U.vm ∧ U.heap = h0) (fun _ _ _ _ _ => True) (fun _ U o U' => ∃ v L, o = .returned v ∧ Q13 Z a0 w_bytes_a0 w_length_a0 w_afterValue_a0 h0 n0 v U'.heap L ∧ FrameEnd U o U' L ({ frames := 0, cells := 0, slots := 0, locals := 0 } : Room).cells ({ frames := 0, cells := 0, slots := 0, locals := 0 } : Room).slots) := by
  refine MetFree.of_bodySF (plainFor_of_name pn_13) hisR ?_
  intro p e s m args below meth c s₁ Bd hml0 hP hK
  obtain ⟨rfl, hZ, hh⟩ := hP
  have hx := Bd.exec
  have hby := Bd.bytes
  have hml : c.maxLocals = 1 := hml0
  have hown : s.vm.findClass "com/example/commitlog/commitlog/codec/JsonWriter" = some m.cls := findClass_of_methodNamed Bd.named
  have hnm := (name_of_methodNamed Bd.named Bd.method).1
  have X0 : Stand p l e ({ frames := 0, cells := 0, slots := 0, locals := 0 } : Room) s m #[(.ref a0)] below meth c s₁ [] 0 0 := Stand.of_body Bd
  have e0 : s₁.heap = h0 := by rw [← hh, Bd.state]; rfl
  have N0 := Fr.nil n0
  have pre0 : ∀ t, Steps p.tables e below (s₁.setTop (mkF m 0 #[.val (.ref a0)] [])) t → Steps p.tables e below (s₁.setTop (entryFrame m #[(.ref a0)] 1)) t := fun t k => castTop (ef_13 m a0) k
  obtain ⟨T1, X1, e1, st1⟩ := getF X0 hx hZ hown (host := "") (Or.inl (hw _ (List.mem_of_getElem? (i := 26) rfl))) Via.refl e0 F_length_a0 (g := (mkF m 1 #[.val (.ref a0)] [(.ref a0)])) rfl rfl (hb hby d13_1)
  obtain ⟨fs, hr, hrun, hended, hW, hsame⟩ := X1.leave (v := some (.int w_length_a0)) (fun h => by rw [Bd.returns] at h; cases h)
  refine ⟨_, _, pre0 _ ?_, hrun, hended, _, _, rfl, ?_, ⟨_, rfl⟩, hW, hsame.mono (by decide) (by decide)⟩
  · show Steps p.tables e below (s₁.setTop (mkF m 0 #[.val (.ref a0)] [])) _
    refine XS.aloadN X0.here hx rfl (hb hby d13_0) rfl rfl ?_
    show Steps p.tables e below (s₁.setTop (mkF m 1 #[.val (.ref a0)] [(.ref a0)])) _
    refine st1 _ ?_
    show Steps p.tables e below (T1.setTop (mkF m 4 #[.val (.ref a0)] [(.int w_length_a0)])) _
    exact retOut X1 hx Bd.returns rfl (Or.inl ⟨rfl, Or.inl rfl, _, rfl⟩) (hb hby d13_4) hr
  · show Q13 Z a0 w_bytes_a0 w_length_a0 w_afterValue_a0 h0 n0 _ T1.heap _
    exact ⟨rfl, N0, e1⟩

theorem own_unt {p1 p3 : Int32} {n : Nat} (hi0 : 0 ≤ p1.toInt) (hlen : p3.toInt < n) (h : ¬ (p3 < p1)) : own_in p1 n := by
  rw [Int32.lt_iff_toInt_lt] at h
  exact ⟨hi0, by omega⟩

theorem ef_14 (m : MethodId) (a0 : Addr) (p1 : Int32) (p2 : Int32) (p3 : Int32) : entryFrame m #[(.ref a0), (.int p1), (.int p2), (.int p3)] 5 = mkF m 0 #[.val (.ref a0), .val (.int p1), .val (.int p2), .val (.int p3), .unset] [] := by first | (simp [entryFrame, mkF, argsToLocals, Value.category]; done) | rfl
def own_un (p1 : Int32) (p2 : Int32) (p3 : Int32) (g_a0 : Nat → Int32) : Int32 := (if p3 < p1 then (1 : Int32) else (if p1 < p2 then (nar .boolean (if (g_a0 (p1).toNatClampNeg) = (if p1 = (0 : Int32) then (123 : Int32) else (0 : Int32)) then (1 : Int32) else (0 : Int32))) else (if p1 < (p2 + (4 : Int32)) then (1 : Int32) else (nar .boolean (if (g_a0 (p1).toNatClampNeg) = (if p1 = (0 : Int32) then (123 : Int32) else (0 : Int32)) then (1 : Int32) else (0 : Int32))))))
def Q14 (Z : State) (a0 : Addr) (p1 : Int32) (p2 : Int32) (p3 : Int32) (n_a0 : Nat) (g_a0 : Nat → Int32) (h0 : Heap) (n0 : Nat) (v : Option Value) (h : Heap) (L : List Loc) : Prop := v = some (.int (own_un p1 p2 p3 g_a0)) ∧ Fr n0 L ∧ h = h0
set_option maxRecDepth 65536 in
set_option maxHeartbeats 40000000 in
theorem rm14 (l : Launch) (Z : State) (A0 : Array Value) (hw : ∀ d ∈ tables_1, d.before A0 Z = true) (ws : List Jvm.Cond) (a0 : Addr) (p1 : Int32) (p2 : Int32) (p3 : Int32) (n_a0 : Nat) (g_a0 : Nat → Int32) (h0 : Heap) (n0 : Nat) (Z0 : n0 ≤ h0.size) (A_a0 : AF Z h0 a0 .byte n_a0 (fun j => .int (g_a0 j))) (hi0 : 0 ≤ p1.toInt) (hlen : p3.toInt < n_a0) :
    MetFree l (⟨"com/example/commitlog/commitlog/codec/JsonWriterPutIntPinLaw", "untouched", "([BIII)Z"⟩ : MethodName) (head1 (Jvm.Cond.code (⟨"com/example/commitlog/commitlog/codec/JsonWriterPutIntPinLaw", "untouched", "([BIII)Z"⟩ : MethodName) method_3_code 5 (some .boolean) :: ws) ({ frames := 0, cells := 0, slots := 0, locals := 0 } : Room)) (fun a U => a = #[(.ref a0), (.int p1), (.int p2), (.int p3)] ∧ Z.Warmed39 U.vm ∧ U.heap = h0) (fun _ _ _ _ _ => True) (fun _ U o U' => ∃ v L, o = .returned v ∧ Q14 Z a0 p1 p2 p3 n_a0 g_a0 h0 n0 v U'.heap L ∧ FrameEnd U o U' L ({ frames := 0, cells := 0, slots := 0, locals := 0 } : Room).cells ({ frames := 0, cells := 0, slots := 0, locals := 0 } : Room).slots) := by
  refine MetFree.of_bodySF (plainFor_of_name pn_14) hisR ?_
  intro p e s m args below meth c s₁ Bd hml0 hP hK
  obtain ⟨rfl, hZ, hh⟩ := hP
  have hx := Bd.exec
  have hby := Bd.bytes
  have hml : c.maxLocals = 5 := hml0
  have hown : s.vm.findClass "com/example/commitlog/commitlog/codec/JsonWriterPutIntPinLaw" = some m.cls := findClass_of_methodNamed Bd.named
  have hnm := (name_of_methodNamed Bd.named Bd.method).1
  have X0 : Stand p l e ({ frames := 0, cells := 0, slots := 0, locals := 0 } : Room) s m #[(.ref a0), (.int p1), (.int p2), (.int p3)] below meth c s₁ [] 0 0 := Stand.of_body Bd
  have e0 : s₁.heap = h0 := by rw [← hh, Bd.state]; rfl
  have N0 := Fr.nil n0
  have pre0 : ∀ t, Steps p.tables e below (s₁.setTop (mkF m 0 #[.val (.ref a0), .val (.int p1), .val (.int p2), .val (.int p3), .unset] [])) t → Steps p.tables e below (s₁.setTop (entryFrame m #[(.ref a0), (.int p1), (.int p2), (.int p3)] 5)) t := fun t k => castTop (ef_14 m a0 p1 p2 p3) k
  obtain ⟨v4, hv4⟩ : ∃ z : Int32, z = if p1 = (0 : Int32) then (123 : Int32) else (0 : Int32) := ⟨_, rfl⟩
  obtain ⟨v6, hv6⟩ : ∃ z : Int32, z = if (g_a0 (p1).toNatClampNeg) = v4 then (1 : Int32) else (0 : Int32) := ⟨_, rfl⟩
  obtain ⟨v9, hv9⟩ : ∃ z : Int32, z = if p1 = (0 : Int32) then (123 : Int32) else (0 : Int32) := ⟨_, rfl⟩
  obtain ⟨v11, hv11⟩ : ∃ z : Int32, z = if (g_a0 (p1).toNatClampNeg) = v9 then (1 : Int32) else (0 : Int32) := ⟨_, rfl⟩
  obtain ⟨r12, hr12⟩ : ∃ z : Int32, z = if p1 < (p2 + (4 : Int32)) then (1 : Int32) else (nar .boolean v11) := ⟨_, rfl⟩
  obtain ⟨r13, hr13⟩ : ∃ z : Int32, z = if p1 < p2 then (nar .boolean v6) else r12 := ⟨_, rfl⟩
  obtain ⟨r14, hr14⟩ : ∃ z : Int32, z = if p3 < p1 then (1 : Int32) else r13 := ⟨_, rfl⟩
  obtain ⟨fs, hr, hrun, hended, hW, hsame⟩ := X0.leave (v := some (.int r14)) (fun h => by rw [Bd.returns] at h; cases h)
  refine ⟨_, _, pre0 _ ?_, hrun, hended, _, _, rfl, ?_, ⟨_, rfl⟩, hW, hsame.mono (by decide) (by decide)⟩
  · show Steps p.tables e below (s₁.setTop (mkF m 0 #[.val (.ref a0), .val (.int p1), .val (.int p2), .val (.int p3), .unset] [])) _
    refine XS.iloadN X0.here hx rfl (hb hby d14_0) rfl ?_
    show Steps p.tables e below (s₁.setTop (mkF m 1 #[.val (.ref a0), .val (.int p1), .val (.int p2), .val (.int p3), .unset] [(.int p1)])) _
    refine XS.iloadN X0.here hx rfl (hb hby d14_1) rfl ?_
    by_cases hc1 : p3 < p1
    · show Steps p.tables e below (s₁.setTop (mkF m 2 #[.val (.ref a0), .val (.int p1), .val (.int p2), .val (.int p3), .unset] [(.int p3), (.int p1)])) _
      refine XS.icmpNo X0.here hx rfl (hb hby d14_2) rfl (tlt hc1).2.2.2 ?_
      show Steps p.tables e below (s₁.setTop (mkF m 5 #[.val (.ref a0), .val (.int p1), .val (.int p2), .val (.int p3), .unset] [])) _
      refine XS.iconst X0.here hx rfl (hb hby d14_5) ?_
      rw [hr14, if_pos hc1] at hr
      show Steps p.tables e below (s₁.setTop (mkF m 6 #[.val (.ref a0), .val (.int p1), .val (.int p2), .val (.int p3), .unset] [(.int (1 : Int32))])) _
      exact retN X0 hx (t := .boolean) Bd.returns (by simp) (hb hby d14_6) hr
    · show Steps p.tables e below (s₁.setTop (mkF m 2 #[.val (.ref a0), .val (.int p1), .val (.int p2), .val (.int p3), .unset] [(.int p3), (.int p1)])) _
      refine XS.icmpYes X0.here hx rfl (pc0 := 2) (pc' := 7) rfl (hb hby d14_2) rfl (flt hc1).2.2.2 (by decide) (by decide) ?_
      show Steps p.tables e below (s₁.setTop (mkF m 7 #[.val (.ref a0), .val (.int p1), .val (.int p2), .val (.int p3), .unset] [])) _
      refine XS.iloadN X0.here hx rfl (hb hby d14_7) rfl ?_
      show Steps p.tables e below (s₁.setTop (mkF m 8 #[.val (.ref a0), .val (.int p1), .val (.int p2), .val (.int p3), .unset] [(.int p1)])) _
      refine XS.iloadN X0.here hx rfl (hb hby d14_8) rfl ?_
      by_cases hc2 : p1 < p2
      · show Steps p.tables e below (s₁.setTop (mkF m 9 #[.val (.ref a0), .val (.int p1), .val (.int p2), .val (.int p3), .unset] [(.int p2), (.int p1)])) _
        refine XS.icmpYes X0.here hx rfl (pc0 := 9) (pc' := 21) rfl (hb hby d14_9) rfl (tlt hc2).1 (by decide) (by decide) ?_
        show Steps p.tables e below (s₁.setTop (mkF m 21 #[.val (.ref a0), .val (.int p1), .val (.int p2), .val (.int p3), .unset] [])) _
        refine XS.iloadN X0.here hx rfl (hb hby d14_21) rfl ?_
        show Steps p.tables e below (s₁.setTop (mkF m 22 #[.val (.ref a0), .val (.int p1), .val (.int p2), .val (.int p3), .unset] [(.int p1)])) _
        refine own_dia (F := (mkF m 31 #[.val (.ref a0), .val (.int p1), .val (.int p2), .val (.int p3), .unset] [(.int v4)])) ?_ ?_
        · intro kt
          by_cases hc3 : p1 = (0 : Int32)
          · show Steps p.tables e below (s₁.setTop (mkF m 22 #[.val (.ref a0), .val (.int p1), .val (.int p2), .val (.int p3), .unset] [(.int p1)])) _
            refine XS.ifNo X0.here hx rfl (hb hby d14_22) rfl ((if0 _ _).trans (teq hc3).2) ?_
            show Steps p.tables e below (s₁.setTop (mkF m 25 #[.val (.ref a0), .val (.int p1), .val (.int p2), .val (.int p3), .unset] [])) _
            refine XS.bipush X0.here hx rfl (hb hby d14_25) ?_
            show Steps p.tables e below (s₁.setTop (mkF m 27 #[.val (.ref a0), .val (.int p1), .val (.int p2), .val (.int p3), .unset] [(.int (123 : Int32))])) _
            refine XS.goto X0.here hx rfl (pc0 := 27) (pc' := 31) rfl (hb hby d14_27) (by decide) (by decide) ?_
            exact castTop (by rw [hv4, if_pos hc3] <;> rfl) kt
          · show Steps p.tables e below (s₁.setTop (mkF m 22 #[.val (.ref a0), .val (.int p1), .val (.int p2), .val (.int p3), .unset] [(.int p1)])) _
            refine XS.ifYes X0.here hx rfl (pc0 := 22) (pc' := 30) rfl (hb hby d14_22) rfl ((if0 _ _).trans (feq hc3).2) (by decide) (by decide) ?_
            show Steps p.tables e below (s₁.setTop (mkF m 30 #[.val (.ref a0), .val (.int p1), .val (.int p2), .val (.int p3), .unset] [])) _
            refine XS.iconst X0.here hx rfl (hb hby d14_30) ?_
            exact castTop (by rw [hv4, if_neg hc3] <;> rfl) kt
        show Steps p.tables e below (s₁.setTop (mkF m 31 #[.val (.ref a0), .val (.int p1), .val (.int p2), .val (.int p3), .unset] [(.int v4)])) _
        refine XS.istore X0.here hx rfl (hb hby d14_31) rfl (l' := #[.val (.ref a0), .val (.int p1), .val (.int p2), .val (.int p3), .val (.int v4)]) rfl ?_
        show Steps p.tables e below (s₁.setTop (mkF m 33 #[.val (.ref a0), .val (.int p1), .val (.int p2), .val (.int p3), .val (.int v4)] [])) _
        refine XS.aloadN X0.here hx rfl (hb hby d14_33) rfl rfl ?_
        show Steps p.tables e below (s₁.setTop (mkF m 34 #[.val (.ref a0), .val (.int p1), .val (.int p2), .val (.int p3), .val (.int v4)] [(.ref a0)])) _
        refine XS.iloadN X0.here hx rfl (hb hby d14_34) rfl ?_
        show Steps p.tables e below (s₁.setTop (mkF m 35 #[.val (.ref a0), .val (.int p1), .val (.int p2), .val (.int p3), .val (.int v4)] [(.int p1), (.ref a0)])) _
        refine AF.ldB X0 hx hZ e0 A_a0 (show own_in p1 n_a0 from own_unt hi0 hlen hc1) (g := (mkF m 35 #[.val (.ref a0), .val (.int p1), .val (.int p2), .val (.int p3), .val (.int v4)] [(.int p1), (.ref a0)])) rfl rfl (hb hby d14_35) _ ?_
        show Steps p.tables e below (s₁.setTop (mkF m 36 #[.val (.ref a0), .val (.int p1), .val (.int p2), .val (.int p3), .val (.int v4)] [(.int (g_a0 (p1).toNatClampNeg))])) _
        refine XS.iload X0.here hx rfl (hb hby d14_36) rfl ?_
        show Steps p.tables e below (s₁.setTop (mkF m 38 #[.val (.ref a0), .val (.int p1), .val (.int p2), .val (.int p3), .val (.int v4)] [(.int v4), (.int (g_a0 (p1).toNatClampNeg))])) _
        refine own_dia (F := (mkF m 46 #[.val (.ref a0), .val (.int p1), .val (.int p2), .val (.int p3), .val (.int v4)] [(.int v6)])) ?_ ?_
        · intro kt
          by_cases hc5 : (g_a0 (p1).toNatClampNeg) = v4
          · show Steps p.tables e below (s₁.setTop (mkF m 38 #[.val (.ref a0), .val (.int p1), .val (.int p2), .val (.int p3), .val (.int v4)] [(.int v4), (.int (g_a0 (p1).toNatClampNeg))])) _
            refine XS.icmpNo X0.here hx rfl (hb hby d14_38) rfl (teq hc5).2 ?_
            show Steps p.tables e below (s₁.setTop (mkF m 41 #[.val (.ref a0), .val (.int p1), .val (.int p2), .val (.int p3), .val (.int v4)] [])) _
            refine XS.iconst X0.here hx rfl (hb hby d14_41) ?_
            show Steps p.tables e below (s₁.setTop (mkF m 42 #[.val (.ref a0), .val (.int p1), .val (.int p2), .val (.int p3), .val (.int v4)] [(.int (1 : Int32))])) _
            refine XS.goto X0.here hx rfl (pc0 := 42) (pc' := 46) rfl (hb hby d14_42) (by decide) (by decide) ?_
            exact castTop (by rw [hv6, if_pos hc5] <;> rfl) kt
          · show Steps p.tables e below (s₁.setTop (mkF m 38 #[.val (.ref a0), .val (.int p1), .val (.int p2), .val (.int p3), .val (.int v4)] [(.int v4), (.int (g_a0 (p1).toNatClampNeg))])) _
            refine XS.icmpYes X0.here hx rfl (pc0 := 38) (pc' := 45) rfl (hb hby d14_38) rfl (feq hc5).2 (by decide) (by decide) ?_
            show Steps p.tables e below (s₁.setTop (mkF m 45 #[.val (.ref a0), .val (.int p1), .val (.int p2), .val (.int p3), .val (.int v4)] [])) _
            refine XS.iconst X0.here hx rfl (hb hby d14_45) ?_
            exact castTop (by rw [hv6, if_neg hc5] <;> rfl) kt
        rw [hr14, if_neg hc1, hr13, if_pos hc2] at hr
        show Steps p.tables e below (s₁.setTop (mkF m 46 #[.val (.ref a0), .val (.int p1), .val (.int p2), .val (.int p3), .val (.int v4)] [(.int v6)])) _
        exact retN X0 hx (t := .boolean) Bd.returns (by simp) (hb hby d14_46) hr
      · show Steps p.tables e below (s₁.setTop (mkF m 9 #[.val (.ref a0), .val (.int p1), .val (.int p2), .val (.int p3), .unset] [(.int p2), (.int p1)])) _
        refine XS.icmpNo X0.here hx rfl (hb hby d14_9) rfl (flt hc2).1 ?_
        show Steps p.tables e below (s₁.setTop (mkF m 12 #[.val (.ref a0), .val (.int p1), .val (.int p2), .val (.int p3), .unset] [])) _
        refine XS.iloadN X0.here hx rfl (hb hby d14_12) rfl ?_
        show Steps p.tables e below (s₁.setTop (mkF m 13 #[.val (.ref a0), .val (.int p1), .val (.int p2), .val (.int p3), .unset] [(.int p1)])) _
        refine XS.iloadN X0.here hx rfl (hb hby d14_13) rfl ?_
        show Steps p.tables e below (s₁.setTop (mkF m 14 #[.val (.ref a0), .val (.int p1), .val (.int p2), .val (.int p3), .unset] [(.int p2), (.int p1)])) _
        refine XS.iconst X0.here hx rfl (hb hby d14_14) ?_
        show Steps p.tables e below (s₁.setTop (mkF m 15 #[.val (.ref a0), .val (.int p1), .val (.int p2), .val (.int p3), .unset] [(.int (4 : Int32)), (.int p2), (.int p1)])) _
        refine XS.iadd X0.here hx rfl (hb hby d14_15) rfl ?_
        by_cases hc7 : p1 < (p2 + (4 : Int32))
        · show Steps p.tables e below (s₁.setTop (mkF m 16 #[.val (.ref a0), .val (.int p1), .val (.int p2), .val (.int p3), .unset] [(.int (p2 + (4 : Int32))), (.int p1)])) _
          refine XS.icmpNo X0.here hx rfl (hb hby d14_16) rfl (tlt hc7).2.1 ?_
          show Steps p.tables e below (s₁.setTop (mkF m 19 #[.val (.ref a0), .val (.int p1), .val (.int p2), .val (.int p3), .unset] [])) _
          refine XS.iconst X0.here hx rfl (hb hby d14_19) ?_
          rw [hr14, if_neg hc1, hr13, if_neg hc2, hr12, if_pos hc7] at hr
          show Steps p.tables e below (s₁.setTop (mkF m 20 #[.val (.ref a0), .val (.int p1), .val (.int p2), .val (.int p3), .unset] [(.int (1 : Int32))])) _
          exact retN X0 hx (t := .boolean) Bd.returns (by simp) (hb hby d14_20) hr
        · show Steps p.tables e below (s₁.setTop (mkF m 16 #[.val (.ref a0), .val (.int p1), .val (.int p2), .val (.int p3), .unset] [(.int (p2 + (4 : Int32))), (.int p1)])) _
          refine XS.icmpYes X0.here hx rfl (pc0 := 16) (pc' := 21) rfl (hb hby d14_16) rfl (flt hc7).2.1 (by decide) (by decide) ?_
          show Steps p.tables e below (s₁.setTop (mkF m 21 #[.val (.ref a0), .val (.int p1), .val (.int p2), .val (.int p3), .unset] [])) _
          refine XS.iloadN X0.here hx rfl (hb hby d14_21) rfl ?_
          show Steps p.tables e below (s₁.setTop (mkF m 22 #[.val (.ref a0), .val (.int p1), .val (.int p2), .val (.int p3), .unset] [(.int p1)])) _
          refine own_dia (F := (mkF m 31 #[.val (.ref a0), .val (.int p1), .val (.int p2), .val (.int p3), .unset] [(.int v9)])) ?_ ?_
          · intro kt
            by_cases hc8 : p1 = (0 : Int32)
            · show Steps p.tables e below (s₁.setTop (mkF m 22 #[.val (.ref a0), .val (.int p1), .val (.int p2), .val (.int p3), .unset] [(.int p1)])) _
              refine XS.ifNo X0.here hx rfl (hb hby d14_22) rfl ((if0 _ _).trans (teq hc8).2) ?_
              show Steps p.tables e below (s₁.setTop (mkF m 25 #[.val (.ref a0), .val (.int p1), .val (.int p2), .val (.int p3), .unset] [])) _
              refine XS.bipush X0.here hx rfl (hb hby d14_25) ?_
              show Steps p.tables e below (s₁.setTop (mkF m 27 #[.val (.ref a0), .val (.int p1), .val (.int p2), .val (.int p3), .unset] [(.int (123 : Int32))])) _
              refine XS.goto X0.here hx rfl (pc0 := 27) (pc' := 31) rfl (hb hby d14_27) (by decide) (by decide) ?_
              exact castTop (by rw [hv9, if_pos hc8] <;> rfl) kt
            · show Steps p.tables e below (s₁.setTop (mkF m 22 #[.val (.ref a0), .val (.int p1), .val (.int p2), .val (.int p3), .unset] [(.int p1)])) _
              refine XS.ifYes X0.here hx rfl (pc0 := 22) (pc' := 30) rfl (hb hby d14_22) rfl ((if0 _ _).trans (feq hc8).2) (by decide) (by decide) ?_
              show Steps p.tables e below (s₁.setTop (mkF m 30 #[.val (.ref a0), .val (.int p1), .val (.int p2), .val (.int p3), .unset] [])) _
              refine XS.iconst X0.here hx rfl (hb hby d14_30) ?_
              exact castTop (by rw [hv9, if_neg hc8] <;> rfl) kt
          show Steps p.tables e below (s₁.setTop (mkF m 31 #[.val (.ref a0), .val (.int p1), .val (.int p2), .val (.int p3), .unset] [(.int v9)])) _
          refine XS.istore X0.here hx rfl (hb hby d14_31) rfl (l' := #[.val (.ref a0), .val (.int p1), .val (.int p2), .val (.int p3), .val (.int v9)]) rfl ?_
          show Steps p.tables e below (s₁.setTop (mkF m 33 #[.val (.ref a0), .val (.int p1), .val (.int p2), .val (.int p3), .val (.int v9)] [])) _
          refine XS.aloadN X0.here hx rfl (hb hby d14_33) rfl rfl ?_
          show Steps p.tables e below (s₁.setTop (mkF m 34 #[.val (.ref a0), .val (.int p1), .val (.int p2), .val (.int p3), .val (.int v9)] [(.ref a0)])) _
          refine XS.iloadN X0.here hx rfl (hb hby d14_34) rfl ?_
          show Steps p.tables e below (s₁.setTop (mkF m 35 #[.val (.ref a0), .val (.int p1), .val (.int p2), .val (.int p3), .val (.int v9)] [(.int p1), (.ref a0)])) _
          refine AF.ldB X0 hx hZ e0 A_a0 (show own_in p1 n_a0 from own_unt hi0 hlen hc1) (g := (mkF m 35 #[.val (.ref a0), .val (.int p1), .val (.int p2), .val (.int p3), .val (.int v9)] [(.int p1), (.ref a0)])) rfl rfl (hb hby d14_35) _ ?_
          show Steps p.tables e below (s₁.setTop (mkF m 36 #[.val (.ref a0), .val (.int p1), .val (.int p2), .val (.int p3), .val (.int v9)] [(.int (g_a0 (p1).toNatClampNeg))])) _
          refine XS.iload X0.here hx rfl (hb hby d14_36) rfl ?_
          show Steps p.tables e below (s₁.setTop (mkF m 38 #[.val (.ref a0), .val (.int p1), .val (.int p2), .val (.int p3), .val (.int v9)] [(.int v9), (.int (g_a0 (p1).toNatClampNeg))])) _
          refine own_dia (F := (mkF m 46 #[.val (.ref a0), .val (.int p1), .val (.int p2), .val (.int p3), .val (.int v9)] [(.int v11)])) ?_ ?_
          · intro kt
            by_cases hc10 : (g_a0 (p1).toNatClampNeg) = v9
            · show Steps p.tables e below (s₁.setTop (mkF m 38 #[.val (.ref a0), .val (.int p1), .val (.int p2), .val (.int p3), .val (.int v9)] [(.int v9), (.int (g_a0 (p1).toNatClampNeg))])) _
              refine XS.icmpNo X0.here hx rfl (hb hby d14_38) rfl (teq hc10).2 ?_
              show Steps p.tables e below (s₁.setTop (mkF m 41 #[.val (.ref a0), .val (.int p1), .val (.int p2), .val (.int p3), .val (.int v9)] [])) _
              refine XS.iconst X0.here hx rfl (hb hby d14_41) ?_
              show Steps p.tables e below (s₁.setTop (mkF m 42 #[.val (.ref a0), .val (.int p1), .val (.int p2), .val (.int p3), .val (.int v9)] [(.int (1 : Int32))])) _
              refine XS.goto X0.here hx rfl (pc0 := 42) (pc' := 46) rfl (hb hby d14_42) (by decide) (by decide) ?_
              exact castTop (by rw [hv11, if_pos hc10] <;> rfl) kt
            · show Steps p.tables e below (s₁.setTop (mkF m 38 #[.val (.ref a0), .val (.int p1), .val (.int p2), .val (.int p3), .val (.int v9)] [(.int v9), (.int (g_a0 (p1).toNatClampNeg))])) _
              refine XS.icmpYes X0.here hx rfl (pc0 := 38) (pc' := 45) rfl (hb hby d14_38) rfl (feq hc10).2 (by decide) (by decide) ?_
              show Steps p.tables e below (s₁.setTop (mkF m 45 #[.val (.ref a0), .val (.int p1), .val (.int p2), .val (.int p3), .val (.int v9)] [])) _
              refine XS.iconst X0.here hx rfl (hb hby d14_45) ?_
              exact castTop (by rw [hv11, if_neg hc10] <;> rfl) kt
          rw [hr14, if_neg hc1, hr13, if_neg hc2, hr12, if_neg hc7] at hr
          show Steps p.tables e below (s₁.setTop (mkF m 46 #[.val (.ref a0), .val (.int p1), .val (.int p2), .val (.int p3), .val (.int v9)] [(.int v11)])) _
          exact retN X0 hx (t := .boolean) Bd.returns (by simp) (hb hby d14_46) hr
  · show Q14 Z a0 p1 p2 p3 n_a0 g_a0 h0 n0 _ s₁.heap _
    subst hv4 hv6 hv9 hv11 hr12 hr13 hr14
    exact ⟨rfl, N0, e0⟩

theorem own_V1 (p v : Int32) (hv : v = ((4 : Int32) + (p &&& (3 : Int32)))) : 4 ≤ v.toInt ∧ v.toInt ≤ 7 := by
  have m := c_mask p 3 2 (by decide) (by decide)
  have a := c_iadd 4 (p &&& (3 : Int32))
  have r := rng32 ((4 : Int32) + (p &&& (3 : Int32)))
  have k : (4 : Int32).toInt = 4 := by decide
  rw [k] at a
  rw [hv]
  omega
theorem own_n2 (v : Int32) (h : 4 ≤ v.toInt ∧ v.toInt ≤ 7) : (v - (2 : Int32)).toInt = v.toInt - 2 := by
  have a := c_isub v 2
  have r := rng32 (v - (2 : Int32))
  have k : (2 : Int32).toInt = 2 := by decide
  rw [k] at a
  omega
theorem own_V3 (p v w : Int32) (h : 4 ≤ v.toInt ∧ v.toInt ≤ 7) (hw : w = ((p &&& (2147483647 : Int32)) % (v - (2 : Int32)))) : 0 ≤ w.toInt ∧ w.toInt + 2 < v.toInt := by
  have m := c_mask p 2147483647 31 (by decide) (by decide)
  have n := own_n2 v h
  obtain ⟨a, b, -⟩ := (c_iremV (p &&& (2147483647 : Int32)) (v - (2 : Int32))).1 (by omega) (by omega)
  rw [hw]
  omega
theorem own_pl (v : Int32) (k : Int32) (j : Int) (hk : k.toInt = j) (h0 : 0 ≤ v.toInt) (h1 : v.toInt ≤ 100) (j0 : 0 ≤ j) (j1 : j ≤ 100) : (v + k).toInt = v.toInt + j := by
  have a := c_iadd v k
  have r := rng32 (v + k)
  omega
theorem own_in0 {v1 v3 : Int32} {N : Nat} (V1 : 4 ≤ v1.toInt ∧ v1.toInt ≤ 7) (V3 : 0 ≤ v3.toInt ∧ v3.toInt + 2 < v1.toInt) (L : v1.toInt + 1 ≤ N) : own_in v3 N := ⟨by omega, by omega⟩
theorem own_inK {v1 v3 : Int32} {N : Nat} (V1 : 4 ≤ v1.toInt ∧ v1.toInt ≤ 7) (V3 : 0 ≤ v3.toInt ∧ v3.toInt + 2 < v1.toInt) (L : v1.toInt + 1 ≤ N) (k : Int32) (hk : 0 ≤ k.toInt ∧ k.toInt ≤ 3) : own_in (v3 + k) N := by
  have a := own_pl v3 k k.toInt rfl V3.1 (by omega) hk.1 (by omega)
  exact ⟨by omega, by omega⟩
theorem own_nlf (n : Nat) (len p : Int32) (hn : n ≤ 8) (h0 : 0 ≤ len.toInt) (h1 : len.toInt ≤ n) (h2 : 0 ≤ p.toInt) (h3 : p.toInt ≤ 8) (hc : ((Int32.ofNat n) - len) < p) :
    ¬ ((own_nl n len p) = (Int32.ofNat n)) ∧ ¬ (own_nl n len p) < (0 : Int32) ∧ (own_nl n len p).toNatClampNeg ≤ 16 ∧ ¬ ((own_nl n len p) < (Int32.ofNat n)) ∧ (((own_nl n len p).toNatClampNeg : Nat) : Int) = max (2 * (n : Int)) (len.toInt + p.toInt) := by
  have e := own_nl_int n len p (by omega) h0 (by omega) h2 (by omega)
  have kn : (Int32.ofNat n).toInt = n := Int32.toInt_ofNat_of_lt (by omega)
  have s := c_isub (Int32.ofNat n) len
  have r := rng32 ((Int32.ofNat n) - len)
  rw [kn] at s
  rw [Int32.lt_iff_toInt_lt] at hc
  have k0 : (0 : Int32).toInt = 0 := by decide
  have cl : (own_nl n len p).toNatClampNeg = (own_nl n len p).toInt.toNat := rfl
  refine ⟨fun q => ?_, ?_, ?_, ?_, ?_⟩
  · have q' := congrArg Int32.toInt q
    rw [kn] at q'
    omega
  · rw [Int32.lt_iff_toInt_lt, k0]; omega
  · omega
  · rw [Int32.lt_iff_toInt_lt, kn]; omega
  · omega
theorem own_rc (n : Nat) (len p : Int32) (hn : n ≤ 8) (h0 : 0 ≤ len.toInt) (h1 : len.toInt ≤ n) : ((Int32.ofNat n) - len) < p ↔ (n : Int) - len.toInt < p.toInt := by
  have kn : (Int32.ofNat n).toInt = n := Int32.toInt_ofNat_of_lt (by omega)
  have s := c_isub (Int32.ofNat n) len
  have r := rng32 ((Int32.ofNat n) - len)
  rw [kn] at s
  rw [Int32.lt_iff_toInt_lt]
  omega
theorem own_one : ((0 : Int32) + (1 : Int32)).toInt = 1 := by decide
theorem own_c7 (p v : Int32) (hv : v = (p &&& (7 : Int32))) : 0 ≤ v.toInt ∧ v.toInt ≤ 7 ∧ ((v.toNatClampNeg : Nat) : Int) = v.toInt := by
  have m := c_mask p 7 3 (by decide) (by decide)
  rw [← hv] at m
  have : v.toNatClampNeg = v.toInt.toNat := rfl
  omega
theorem own_c1 (v : Int32) (h : 0 ≤ v.toInt) (hk : ¬ (v = (0 : Int32))) : 1 ≤ v.toInt := by
  have k0 : (0 : Int32).toInt = 0 := by decide
  have : ¬ v.toInt = 0 := fun q => hk (Int32.toInt_inj.mp (q.trans k0.symm))
  omega
theorem own_f123 : (((123 : Int32).toInt8.toInt32).toInt8.toInt32) = 123 := by decide
theorem own_by (x : Int32) : ((x.toInt8.toInt32).toInt8.toInt32).toInt % 256 = x.toInt % 256 := by
  have a := c_i2b x
  have b := c_i2b (x.toInt8.toInt32)
  omega
theorem own_by1 (x : Int32) : ((x.toInt8.toInt32).toInt8.toInt32 &&& (255 : Int32)).toInt = x.toInt % 256 := by
  have a := c_mask ((x.toInt8.toInt32).toInt8.toInt32) 255 8 (by decide) (by decide)
  have b := own_by x
  omega
theorem own_idx (v3 : Int32) (h0 : 0 ≤ v3.toInt) (h1 : v3.toInt ≤ 10) : (v3).toNatClampNeg = v3.toInt.toNat ∧ ((v3 + (1 : Int32))).toNatClampNeg = v3.toInt.toNat + 1 ∧ ((v3 + (2 : Int32))).toNatClampNeg = v3.toInt.toNat + 2 ∧ ((v3 + (3 : Int32))).toNatClampNeg = v3.toInt.toNat + 3 := by
  have a1 := own_pl v3 1 1 (by decide) h0 (by omega) (by omega) (by omega)
  have a2 := own_pl v3 2 2 (by decide) h0 (by omega) (by omega) (by omega)
  have a3 := own_pl v3 3 3 (by decide) h0 (by omega) (by omega) (by omega)
  refine ⟨rfl, ?_, ?_, ?_⟩
  · show (v3 + (1 : Int32)).toInt.toNat = _; omega
  · show (v3 + (2 : Int32)).toInt.toNat = _; omega
  · show (v3 + (3 : Int32)).toInt.toNat = _; omega
theorem own_put (v3 p3 : Int32) (G F : Nat → Int32) (h0 : 0 ≤ v3.toInt) (h1 : v3.toInt ≤ 10) (hF : F = (fun i => if i = ((v3 + (3 : Int32))).toNatClampNeg then ((p3.toInt8.toInt32).toInt8.toInt32) else (fun i => if i = ((v3 + (2 : Int32))).toNatClampNeg then ((((p3.toUInt32 >>> ((8 : Int32) &&& 31).toUInt32).toInt32).toInt8.toInt32).toInt8.toInt32) else (fun i => if i = ((v3 + (1 : Int32))).toNatClampNeg then ((((p3.toUInt32 >>> ((16 : Int32) &&& 31).toUInt32).toInt32).toInt8.toInt32).toInt8.toInt32) else (fun i => if i = (v3).toNatClampNeg then ((((p3.toUInt32 >>> ((24 : Int32) &&& 31).toUInt32).toInt32).toInt8.toInt32).toInt8.toInt32) else G i) i) i) i)) :
    F v3.toInt.toNat = ((((p3.toUInt32 >>> ((24 : Int32) &&& 31).toUInt32).toInt32).toInt8.toInt32).toInt8.toInt32) ∧ F (v3.toInt.toNat + 1) = ((((p3.toUInt32 >>> ((16 : Int32) &&& 31).toUInt32).toInt32).toInt8.toInt32).toInt8.toInt32) ∧ F (v3.toInt.toNat + 2) = ((((p3.toUInt32 >>> ((8 : Int32) &&& 31).toUInt32).toInt32).toInt8.toInt32).toInt8.toInt32) ∧ F (v3.toInt.toNat + 3) = ((p3.toInt8.toInt32).toInt8.toInt32) ∧ ∀ j, (j < v3.toInt.toNat ∨ v3.toInt.toNat + 4 ≤ j) → F j = G j := by
  obtain ⟨i0, i1, i2, i3⟩ := own_idx v3 h0 h1
  rw [i0, i1, i2, i3] at hF
  subst hF
  refine ⟨?_, ?_, ?_, ?_, fun j hj => ?_⟩
  · simp
  · simp
  · simp
  · simp
  · simp only
    rw [if_neg (by omega), if_neg (by omega), if_neg (by omega), if_neg (by omega)]
theorem own_back4 (p a b c d : Int32) (ha : a.toInt = (p.toInt % 4294967296) / 16777216 % 256) (hb : b.toInt = (p.toInt % 4294967296) / 65536 % 256) (hc : c.toInt = (p.toInt % 4294967296) / 256 % 256) (hd : d.toInt = p.toInt % 256) :
    (((a <<< ((24 : Int32) &&& 31)) ||| (b <<< ((16 : Int32) &&& 31))) ||| (c <<< ((8 : Int32) &&& 31))) ||| d = p := by
  have s1 := c_ishl a 24 24 (by decide)
  have s2 := c_ishl b 16 16 (by decide)
  have s3 := c_ishl c 8 8 (by decide)
  have r1 := rng32 (a <<< ((24 : Int32) &&& 31))
  have r2 := rng32 (b <<< ((16 : Int32) &&& 31))
  have r3 := rng32 (c <<< ((8 : Int32) &&& 31))
  have t2 : (b <<< ((16 : Int32) &&& 31)).toInt = b.toInt * 65536 := by omega
  have t3 : (c <<< ((8 : Int32) &&& 31)).toInt = c.toInt * 256 := by omega
  generalize (a <<< ((24 : Int32) &&& 31)) = A at *
  generalize (b <<< ((16 : Int32) &&& 31)) = B at *
  generalize (c <<< ((8 : Int32) &&& 31)) = E at *
  have o1 := c_or A B 24 (by decide) 16777216 rfl (by omega) (by omega) (by omega)
  have q1 := rng32 (A ||| B)
  have o2 := c_or (A ||| B) E 16 (by decide) 65536 rfl (by omega) (by omega) (by omega)
  have q2 := rng32 ((A ||| B) ||| E)
  have o3 := c_or ((A ||| B) ||| E) d 8 (by decide) 256 rfl (by omega) (by omega) (by omega)
  have q3 := rng32 (((A ||| B) ||| E) ||| d)
  have rp := rng32 p
  apply Int32.toInt_inj.mp
  omega
theorem own_sh (p : Int32) (q : Int32) (k : Nat) (hk : q.toBitVec.toNat % 32 = k) (h0 : 0 < k) (m : Int) (hm : m = (2 ^ k : Nat)) : (((((p.toUInt32 >>> (q &&& 31).toUInt32).toInt32).toInt8.toInt32).toInt8.toInt32) &&& (255 : Int32)).toInt = (p.toInt % 4294967296) / m % 256 := by
  rw [own_by1, c_iushr p q k hk h0, hm]
theorem own_bk (v3 p3 w : Int32) (G F : Nat → Int32) (h0 : 0 ≤ v3.toInt) (h1 : v3.toInt ≤ 10) (hF : F = (fun i => if i = ((v3 + (3 : Int32))).toNatClampNeg then ((p3.toInt8.toInt32).toInt8.toInt32) else (fun i => if i = ((v3 + (2 : Int32))).toNatClampNeg then ((((p3.toUInt32 >>> ((8 : Int32) &&& 31).toUInt32).toInt32).toInt8.toInt32).toInt8.toInt32) else (fun i => if i = ((v3 + (1 : Int32))).toNatClampNeg then ((((p3.toUInt32 >>> ((16 : Int32) &&& 31).toUInt32).toInt32).toInt8.toInt32).toInt8.toInt32) else (fun i => if i = (v3).toNatClampNeg then ((((p3.toUInt32 >>> ((24 : Int32) &&& 31).toUInt32).toInt32).toInt8.toInt32).toInt8.toInt32) else G i) i) i) i))
    (hw : w = ((((((F (v3).toNatClampNeg) &&& (255 : Int32)) <<< ((24 : Int32) &&& 31)) ||| (((F ((v3 + (1 : Int32))).toNatClampNeg) &&& (255 : Int32)) <<< ((16 : Int32) &&& 31))) ||| (((F ((v3 + (2 : Int32))).toNatClampNeg) &&& (255 : Int32)) <<< ((8 : Int32) &&& 31))) ||| ((F ((v3 + (3 : Int32))).toNatClampNeg) &&& (255 : Int32)))) : w = p3 := by
  obtain ⟨i0, i1, i2, i3⟩ := own_idx v3 h0 h1
  obtain ⟨f0, f1, f2, f3, -⟩ := own_put v3 p3 G F h0 h1 hF
  rw [i0, i1, i2, i3, f0, f1, f2, f3] at hw
  rw [hw]
  exact own_back4 p3 _ _ _ _ (own_sh p3 24 24 (by decide) (by decide) _ rfl) (own_sh p3 16 16 (by decide) (by decide) _ rfl) (own_sh p3 8 8 (by decide) (by decide) _ rfl) (own_by1 p3)
theorem own_unF (k : Nat) (hk : k < 8) (v1 v3 p3 : Int32) (G F : Nat → Int32) (h0 : 0 ≤ v3.toInt) (h1 : v3.toInt ≤ 10) (CON : ∀ j, G j = if j = 0 then (123 : Int32) else (0 : Int32)) (hF : F = (fun i => if i = ((v3 + (3 : Int32))).toNatClampNeg then ((p3.toInt8.toInt32).toInt8.toInt32) else (fun i => if i = ((v3 + (2 : Int32))).toNatClampNeg then ((((p3.toUInt32 >>> ((8 : Int32) &&& 31).toUInt32).toInt32).toInt8.toInt32).toInt8.toInt32) else (fun i => if i = ((v3 + (1 : Int32))).toNatClampNeg then ((((p3.toUInt32 >>> ((16 : Int32) &&& 31).toUInt32).toInt32).toInt8.toInt32).toInt8.toInt32) else (fun i => if i = (v3).toNatClampNeg then ((((p3.toUInt32 >>> ((24 : Int32) &&& 31).toUInt32).toInt32).toInt8.toInt32).toInt8.toInt32) else G i) i) i) i)) : ¬ ((own_un (Int32.ofNat k) v3 v1 F) = (0 : Int32)) := by
  obtain ⟨-, -, -, -, fo⟩ := own_put v3 p3 G F h0 h1 hF
  have kk : (Int32.ofNat k).toInt = k := Int32.toInt_ofNat_of_lt (by omega)
  have kc : (Int32.ofNat k).toNatClampNeg = k := by show (Int32.ofNat k).toInt.toNat = k; omega
  have k0 : (Int32.ofNat k = (0 : Int32)) ↔ k = 0 := by
    constructor
    · intro q
      have q' := congrArg Int32.toInt q
      rw [kk] at q'
      have z : (0 : Int32).toInt = 0 := by decide
      omega
    · intro q; subst q; rfl
  have a4 := own_pl v3 4 4 (by decide) h0 (by omega) (by omega) (by omega)
  unfold own_un
  rw [kc]
  by_cases c1 : v1 < Int32.ofNat k
  · rw [if_pos c1]; decide
  · rw [if_neg c1]
    by_cases c2 : Int32.ofNat k < v3
    · rw [if_pos c2]
      rw [Int32.lt_iff_toInt_lt, kk] at c2
      rw [fo k (by omega), CON]
      by_cases z : k = 0
      · rw [if_pos z, if_pos (k0.mpr z), if_pos rfl, own_nar1]; decide
      · rw [if_neg z, if_neg (fun q => z (k0.mp q)), if_pos rfl, own_nar1]; decide
    · rw [if_neg c2]
      rw [Int32.lt_iff_toInt_lt, kk] at c2
      by_cases c3 : Int32.ofNat k < (v3 + (4 : Int32))
      · rw [if_pos c3]; decide
      · rw [if_neg c3]
        rw [Int32.lt_iff_toInt_lt, kk, a4] at c3
        rw [fo k (by omega), CON]
        by_cases z : k = 0
        · rw [if_pos z, if_pos (k0.mpr z), if_pos rfl, own_nar1]; decide
        · rw [if_neg z, if_neg (fun q => z (k0.mp q)), if_pos rfl, own_nar1]; decide
theorem own_fit1 (f : Nat → Int32) (h : ∀ j, f j = if j = 0 then (123 : Int32) else (0 : Int32)) (n : Nat) : ∀ j, j < n → fits .byte (.int (f j)) = true := by
  intro j _
  rw [h]
  split <;> rfl

theorem own_nz21 (p1 : Int32) (v1 : Int32) (hv1 : v1 = ((4 : Int32) + (p1 &&& (3 : Int32)))) : (v1 - (2 : Int32)) ≠ (0 : Int32) := by
  have V := own_V1 _ v1 hv1
  have n := own_n2 v1 V
  intro q
  rw [q] at n
  have k0 : (0 : Int32).toInt = 0 := by decide
  omega
theorem own_hin22_3_37_A  : own_in (0 : Int32) ((own_nl ((0 : Int32)).toNatClampNeg (0 : Int32) (1 : Int32))).toNatClampNeg := by
  have e1 := (own_nlf ((0 : Int32)).toNatClampNeg (0 : Int32) (1 : Int32) (by decide) (by decide) (by decide) (by decide) (by decide) (by decide)).2.2.2.2
  have k0 : (0 : Int32).toInt = 0 := by decide
  have k1 : (1 : Int32).toInt = 1 := by decide
  exact ⟨by omega, by omega⟩
theorem own_hc11_2_45_A (p1 : Int32) (v1 : Int32) (z30 : Nat) (hv1 : v1 = ((4 : Int32) + (p1 &&& (3 : Int32)))) (hz30 : z30 = ((own_nl ((0 : Int32)).toNatClampNeg (0 : Int32) (1 : Int32))).toNatClampNeg) (V1 : 4 ≤ v1.toInt ∧ v1.toInt ≤ 7) : ((Int32.ofNat z30) - ((0 : Int32) + (1 : Int32))) < v1 := by
  have e1 := (own_nlf ((0 : Int32)).toNatClampNeg (0 : Int32) (1 : Int32) (by decide) (by decide) (by decide) (by decide) (by decide) (by decide)).2.2.2.2
  have k0 : (0 : Int32).toInt = 0 := by decide
  have k1 : (1 : Int32).toInt = 1 := by decide
  have z0 : (((0 : Int32)).toNatClampNeg : Int) = 0 := by decide
  have o := own_one
  rw [← hz30] at e1
  exact (own_rc _ _ _ (by omega) (by omega) (by omega)).mpr (by omega)
theorem own_hc3_47_2_45_A (p1 : Int32) (v1 : Int32) (z30 : Nat) (hv1 : v1 = ((4 : Int32) + (p1 &&& (3 : Int32)))) (hz30 : z30 = ((own_nl ((0 : Int32)).toNatClampNeg (0 : Int32) (1 : Int32))).toNatClampNeg) (V1 : 4 ≤ v1.toInt ∧ v1.toInt ≤ 7) : ¬ ((own_nl z30 ((0 : Int32) + (1 : Int32)) v1) = (Int32.ofNat z30)) := by
  have e1 := (own_nlf ((0 : Int32)).toNatClampNeg (0 : Int32) (1 : Int32) (by decide) (by decide) (by decide) (by decide) (by decide) (by decide)).2.2.2.2
  have k0 : (0 : Int32).toInt = 0 := by decide
  have k1 : (1 : Int32).toInt = 1 := by decide
  have z0 : (((0 : Int32)).toNatClampNeg : Int) = 0 := by decide
  have o := own_one
  rw [← hz30] at e1
  exact (own_nlf z30 ((0 : Int32) + (1 : Int32)) v1 (by omega) (by omega) (by omega) (by omega) (by omega) ((own_rc _ _ _ (by omega) (by omega) (by omega)).mpr (by omega))).1
theorem own_hneg_47_2_45_A (p1 : Int32) (v1 : Int32) (z30 : Nat) (hv1 : v1 = ((4 : Int32) + (p1 &&& (3 : Int32)))) (hz30 : z30 = ((own_nl ((0 : Int32)).toNatClampNeg (0 : Int32) (1 : Int32))).toNatClampNeg) (V1 : 4 ≤ v1.toInt ∧ v1.toInt ≤ 7) : ¬ (own_nl z30 ((0 : Int32) + (1 : Int32)) v1) < (0 : Int32) := by
  have e1 := (own_nlf ((0 : Int32)).toNatClampNeg (0 : Int32) (1 : Int32) (by decide) (by decide) (by decide) (by decide) (by decide) (by decide)).2.2.2.2
  have k0 : (0 : Int32).toInt = 0 := by decide
  have k1 : (1 : Int32).toInt = 1 := by decide
  have z0 : (((0 : Int32)).toNatClampNeg : Int) = 0 := by decide
  have o := own_one
  rw [← hz30] at e1
  exact (own_nlf z30 ((0 : Int32) + (1 : Int32)) v1 (by omega) (by omega) (by omega) (by omega) (by omega) ((own_rc _ _ _ (by omega) (by omega) (by omega)).mpr (by omega))).2.1
theorem own_hcap_47_2_45_A (p1 : Int32) (v1 : Int32) (z30 : Nat) (hv1 : v1 = ((4 : Int32) + (p1 &&& (3 : Int32)))) (hz30 : z30 = ((own_nl ((0 : Int32)).toNatClampNeg (0 : Int32) (1 : Int32))).toNatClampNeg) (V1 : 4 ≤ v1.toInt ∧ v1.toInt ≤ 7) : (own_nl z30 ((0 : Int32) + (1 : Int32)) v1).toNatClampNeg ≤ 16 := by
  have e1 := (own_nlf ((0 : Int32)).toNatClampNeg (0 : Int32) (1 : Int32) (by decide) (by decide) (by decide) (by decide) (by decide) (by decide)).2.2.2.2
  have k0 : (0 : Int32).toInt = 0 := by decide
  have k1 : (1 : Int32).toInt = 1 := by decide
  have z0 : (((0 : Int32)).toNatClampNeg : Int) = 0 := by decide
  have o := own_one
  rw [← hz30] at e1
  exact (own_nlf z30 ((0 : Int32) + (1 : Int32)) v1 (by omega) (by omega) (by omega) (by omega) (by omega) ((own_rc _ _ _ (by omega) (by omega) (by omega)).mpr (by omega))).2.2.1
theorem own_hle_47_2_45_A (p1 : Int32) (v1 : Int32) (z30 : Nat) (hv1 : v1 = ((4 : Int32) + (p1 &&& (3 : Int32)))) (hz30 : z30 = ((own_nl ((0 : Int32)).toNatClampNeg (0 : Int32) (1 : Int32))).toNatClampNeg) (V1 : 4 ≤ v1.toInt ∧ v1.toInt ≤ 7) : ¬ ((own_nl z30 ((0 : Int32) + (1 : Int32)) v1) < (Int32.ofNat z30)) := by
  have e1 := (own_nlf ((0 : Int32)).toNatClampNeg (0 : Int32) (1 : Int32) (by decide) (by decide) (by decide) (by decide) (by decide) (by decide)).2.2.2.2
  have k0 : (0 : Int32).toInt = 0 := by decide
  have k1 : (1 : Int32).toInt = 1 := by decide
  have z0 : (((0 : Int32)).toNatClampNeg : Int) = 0 := by decide
  have o := own_one
  rw [← hz30] at e1
  exact (own_nlf z30 ((0 : Int32) + (1 : Int32)) v1 (by omega) (by omega) (by omega) (by omega) (by omega) ((own_rc _ _ _ (by omega) (by omega) (by omega)).mpr (by omega))).2.2.2.1
theorem own_hfit_47_2_45_A  (f28 : Nat → Int32) (z30 : Nat) (hf28 : f28 = (fun i => if i = ((0 : Int32)).toNatClampNeg then (((123 : Int32).toInt8.toInt32).toInt8.toInt32) else (fun j => if j < ((0 : Int32)).toNatClampNeg then (fun _ => (0 : Int32)) j else (fun _ => (0 : Int32)) j) i)) (hz30 : z30 = ((own_nl ((0 : Int32)).toNatClampNeg (0 : Int32) (1 : Int32))).toNatClampNeg) : ∀ j, j < z30 → fits .byte (.int (f28 j)) = true := by
  refine own_fit1 f28 (fun j => ?_) _
  have y0 : ((0 : Int32)).toNatClampNeg = 0 := by decide
  by_cases q : j = 0
  · subst q
    simp [hf28, y0, own_f123]
  · simp [q, hf28, y0]
theorem own_LEN_A (p1 : Int32) (v1 : Int32) (z30 : Nat) (z46 : Nat) (hv1 : v1 = ((4 : Int32) + (p1 &&& (3 : Int32)))) (hz30 : z30 = ((own_nl ((0 : Int32)).toNatClampNeg (0 : Int32) (1 : Int32))).toNatClampNeg) (hz46 : z46 = ((own_nl z30 ((0 : Int32) + (1 : Int32)) v1)).toNatClampNeg) (V1 : 4 ≤ v1.toInt ∧ v1.toInt ≤ 7) : v1.toInt + 1 ≤ z46 := by
  have e1 := (own_nlf ((0 : Int32)).toNatClampNeg (0 : Int32) (1 : Int32) (by decide) (by decide) (by decide) (by decide) (by decide) (by decide)).2.2.2.2
  have k0 : (0 : Int32).toInt = 0 := by decide
  have k1 : (1 : Int32).toInt = 1 := by decide
  have z0 : (((0 : Int32)).toNatClampNeg : Int) = 0 := by decide
  have o := own_one
  rw [← hz30] at e1
  have e2 := (own_nlf z30 ((0 : Int32) + (1 : Int32)) v1 (by omega) (by omega) (by omega) (by omega) (by omega) ((own_rc _ _ _ (by omega) (by omega) (by omega)).mpr (by omega))).2.2.2.2
  rw [← hz46] at e2
  omega
theorem own_CON_A  (f28 : Nat → Int32) (z30 : Nat) (f44 : Nat → Int32) (hf28 : f28 = (fun i => if i = ((0 : Int32)).toNatClampNeg then (((123 : Int32).toInt8.toInt32).toInt8.toInt32) else (fun j => if j < ((0 : Int32)).toNatClampNeg then (fun _ => (0 : Int32)) j else (fun _ => (0 : Int32)) j) i)) (hz30 : z30 = ((own_nl ((0 : Int32)).toNatClampNeg (0 : Int32) (1 : Int32))).toNatClampNeg) (hf44 : f44 = (fun j => if j < z30 then f28 j else (fun _ => (0 : Int32)) j)) : ∀ j, f44 j = if j = 0 then (123 : Int32) else (0 : Int32) := by
  have e1 := (own_nlf ((0 : Int32)).toNatClampNeg (0 : Int32) (1 : Int32) (by decide) (by decide) (by decide) (by decide) (by decide) (by decide)).2.2.2.2
  have k0 : (0 : Int32).toInt = 0 := by decide
  have k1 : (1 : Int32).toInt = 1 := by decide
  have z0 : (((0 : Int32)).toNatClampNeg : Int) = 0 := by decide
  rw [← hz30] at e1
  have L0 : 0 < z30 := by omega
  have y0 : ((0 : Int32)).toNatClampNeg = 0 := by decide
  intro j
  rw [hf44]
  by_cases q : j = 0
  · subst q
    simp [L0, hf28, y0, own_f123]
  · simp [q, hf28, y0]
theorem own_hc3_47_2_45_Bg (p0 : Int32) (p1 : Int32) (v1 : Int32) (v4 : Int32) (hv1 : v1 = ((4 : Int32) + (p1 &&& (3 : Int32)))) (hv4 : v4 = (p0 &&& (7 : Int32))) (V4 : 0 ≤ v4.toInt ∧ v4.toInt ≤ 7 ∧ ((v4.toNatClampNeg : Nat) : Int) = v4.toInt) (V4' : 1 ≤ v4.toInt) (hs : ((Int32.ofNat (v4).toNatClampNeg) - ((0 : Int32) + (1 : Int32))) < v1) (V1 : 4 ≤ v1.toInt ∧ v1.toInt ≤ 7) : ¬ ((own_nl (v4).toNatClampNeg ((0 : Int32) + (1 : Int32)) v1) = (Int32.ofNat (v4).toNatClampNeg)) := by
  have o := own_one
  exact (own_nlf (v4).toNatClampNeg ((0 : Int32) + (1 : Int32)) v1 (by omega) (by omega) (by omega) (by omega) (by omega) hs).1
theorem own_hneg_47_2_45_Bg (p0 : Int32) (p1 : Int32) (v1 : Int32) (v4 : Int32) (hv1 : v1 = ((4 : Int32) + (p1 &&& (3 : Int32)))) (hv4 : v4 = (p0 &&& (7 : Int32))) (V4 : 0 ≤ v4.toInt ∧ v4.toInt ≤ 7 ∧ ((v4.toNatClampNeg : Nat) : Int) = v4.toInt) (V4' : 1 ≤ v4.toInt) (hs : ((Int32.ofNat (v4).toNatClampNeg) - ((0 : Int32) + (1 : Int32))) < v1) (V1 : 4 ≤ v1.toInt ∧ v1.toInt ≤ 7) : ¬ (own_nl (v4).toNatClampNeg ((0 : Int32) + (1 : Int32)) v1) < (0 : Int32) := by
  have o := own_one
  exact (own_nlf (v4).toNatClampNeg ((0 : Int32) + (1 : Int32)) v1 (by omega) (by omega) (by omega) (by omega) (by omega) hs).2.1
theorem own_hcap_47_2_45_Bg (p0 : Int32) (p1 : Int32) (v1 : Int32) (v4 : Int32) (hv1 : v1 = ((4 : Int32) + (p1 &&& (3 : Int32)))) (hv4 : v4 = (p0 &&& (7 : Int32))) (V4 : 0 ≤ v4.toInt ∧ v4.toInt ≤ 7 ∧ ((v4.toNatClampNeg : Nat) : Int) = v4.toInt) (V4' : 1 ≤ v4.toInt) (hs : ((Int32.ofNat (v4).toNatClampNeg) - ((0 : Int32) + (1 : Int32))) < v1) (V1 : 4 ≤ v1.toInt ∧ v1.toInt ≤ 7) : (own_nl (v4).toNatClampNeg ((0 : Int32) + (1 : Int32)) v1).toNatClampNeg ≤ 16 := by
  have o := own_one
  exact (own_nlf (v4).toNatClampNeg ((0 : Int32) + (1 : Int32)) v1 (by omega) (by omega) (by omega) (by omega) (by omega) hs).2.2.1
theorem own_hle_47_2_45_Bg (p0 : Int32) (p1 : Int32) (v1 : Int32) (v4 : Int32) (hv1 : v1 = ((4 : Int32) + (p1 &&& (3 : Int32)))) (hv4 : v4 = (p0 &&& (7 : Int32))) (V4 : 0 ≤ v4.toInt ∧ v4.toInt ≤ 7 ∧ ((v4.toNatClampNeg : Nat) : Int) = v4.toInt) (V4' : 1 ≤ v4.toInt) (hs : ((Int32.ofNat (v4).toNatClampNeg) - ((0 : Int32) + (1 : Int32))) < v1) (V1 : 4 ≤ v1.toInt ∧ v1.toInt ≤ 7) : ¬ ((own_nl (v4).toNatClampNeg ((0 : Int32) + (1 : Int32)) v1) < (Int32.ofNat (v4).toNatClampNeg)) := by
  have o := own_one
  exact (own_nlf (v4).toNatClampNeg ((0 : Int32) + (1 : Int32)) v1 (by omega) (by omega) (by omega) (by omega) (by omega) hs).2.2.2.1
theorem own_hfit_47_2_45_Bg (p0 : Int32) (p1 : Int32) (v1 : Int32) (v4 : Int32) (f117 : Nat → Int32) (hv1 : v1 = ((4 : Int32) + (p1 &&& (3 : Int32)))) (hv4 : v4 = (p0 &&& (7 : Int32))) (hf117 : f117 = (fun i => if i = ((0 : Int32)).toNatClampNeg then (((123 : Int32).toInt8.toInt32).toInt8.toInt32) else (fun _ => (0 : Int32)) i)) (V4 : 0 ≤ v4.toInt ∧ v4.toInt ≤ 7 ∧ ((v4.toNatClampNeg : Nat) : Int) = v4.toInt) (V4' : 1 ≤ v4.toInt) (hs : ((Int32.ofNat (v4).toNatClampNeg) - ((0 : Int32) + (1 : Int32))) < v1) : ∀ j, j < (v4).toNatClampNeg → fits .byte (.int (f117 j)) = true := by
  refine own_fit1 f117 (fun j => ?_) _
  have y0 : ((0 : Int32)).toNatClampNeg = 0 := by decide
  by_cases q : j = 0
  · subst q
    simp [hf117, y0, own_f123]
  · simp [q, hf117, y0]
theorem own_LEN_Bg (p0 : Int32) (p1 : Int32) (v1 : Int32) (v4 : Int32) (z134 : Nat) (hv1 : v1 = ((4 : Int32) + (p1 &&& (3 : Int32)))) (hv4 : v4 = (p0 &&& (7 : Int32))) (hz134 : z134 = ((own_nl (v4).toNatClampNeg ((0 : Int32) + (1 : Int32)) v1)).toNatClampNeg) (V4 : 0 ≤ v4.toInt ∧ v4.toInt ≤ 7 ∧ ((v4.toNatClampNeg : Nat) : Int) = v4.toInt) (V4' : 1 ≤ v4.toInt) (hs : ((Int32.ofNat (v4).toNatClampNeg) - ((0 : Int32) + (1 : Int32))) < v1) (V1 : 4 ≤ v1.toInt ∧ v1.toInt ≤ 7) : v1.toInt + 1 ≤ z134 := by
  have o := own_one
  have e2 := (own_nlf (v4).toNatClampNeg ((0 : Int32) + (1 : Int32)) v1 (by omega) (by omega) (by omega) (by omega) (by omega) hs).2.2.2.2
  rw [← hz134] at e2
  omega
theorem own_CON_Bg (p0 : Int32) (p1 : Int32) (v1 : Int32) (v4 : Int32) (f117 : Nat → Int32) (f132 : Nat → Int32) (hv1 : v1 = ((4 : Int32) + (p1 &&& (3 : Int32)))) (hv4 : v4 = (p0 &&& (7 : Int32))) (hf117 : f117 = (fun i => if i = ((0 : Int32)).toNatClampNeg then (((123 : Int32).toInt8.toInt32).toInt8.toInt32) else (fun _ => (0 : Int32)) i)) (hf132 : f132 = (fun j => if j < (v4).toNatClampNeg then f117 j else (fun _ => (0 : Int32)) j)) (V4 : 0 ≤ v4.toInt ∧ v4.toInt ≤ 7 ∧ ((v4.toNatClampNeg : Nat) : Int) = v4.toInt) (V4' : 1 ≤ v4.toInt) (hs : ((Int32.ofNat (v4).toNatClampNeg) - ((0 : Int32) + (1 : Int32))) < v1) : ∀ j, f132 j = if j = 0 then (123 : Int32) else (0 : Int32) := by
  have L0 : 0 < (v4).toNatClampNeg := by omega
  have y0 : ((0 : Int32)).toNatClampNeg = 0 := by decide
  intro j
  rw [hf132]
  by_cases q : j = 0
  · subst q
    simp [L0, hf117, y0, own_f123]
  · simp [q, hf117, y0]
theorem own_LEN_Bk (p0 : Int32) (p1 : Int32) (v1 : Int32) (v4 : Int32) (hv1 : v1 = ((4 : Int32) + (p1 &&& (3 : Int32)))) (hv4 : v4 = (p0 &&& (7 : Int32))) (V4 : 0 ≤ v4.toInt ∧ v4.toInt ≤ 7 ∧ ((v4.toNatClampNeg : Nat) : Int) = v4.toInt) (V4' : 1 ≤ v4.toInt) (hs : ¬ (((Int32.ofNat (v4).toNatClampNeg) - ((0 : Int32) + (1 : Int32))) < v1)) (V1 : 4 ≤ v1.toInt ∧ v1.toInt ≤ 7) : v1.toInt + 1 ≤ (v4).toNatClampNeg := by
  have o := own_one
  rw [own_rc _ _ _ (by omega) (by omega) (by omega)] at hs
  omega
theorem own_CON_Bk (p0 : Int32) (p1 : Int32) (v1 : Int32) (v4 : Int32) (f117 : Nat → Int32) (hv1 : v1 = ((4 : Int32) + (p1 &&& (3 : Int32)))) (hv4 : v4 = (p0 &&& (7 : Int32))) (hf117 : f117 = (fun i => if i = ((0 : Int32)).toNatClampNeg then (((123 : Int32).toInt8.toInt32).toInt8.toInt32) else (fun _ => (0 : Int32)) i)) (V4 : 0 ≤ v4.toInt ∧ v4.toInt ≤ 7 ∧ ((v4.toNatClampNeg : Nat) : Int) = v4.toInt) (V4' : 1 ≤ v4.toInt) (hs : ¬ (((Int32.ofNat (v4).toNatClampNeg) - ((0 : Int32) + (1 : Int32))) < v1)) : ∀ j, f117 j = if j = 0 then (123 : Int32) else (0 : Int32) := by
  have y0 : ((0 : Int32)).toNatClampNeg = 0 := by decide
  intro j
  by_cases q : j = 0
  · subst q
    simp [hf117, y0, own_f123]
  · simp [q, hf117, y0]
theorem ef_0 (m : MethodId) (p0 : Int32) (p1 : Int32) (p2 : Int32) (p3 : Int32) : entryFrame m #[(.int p0), (.int p1), (.int p2), (.int p3)] maxLocals = mkF m 0 #[.val (.int p0), .val (.int p1), .val (.int p2), .val (.int p3), .unset, .unset, .unset, .unset, .unset, .unset] [] := by first | (simp [entryFrame, mkF, argsToLocals, Value.category, maxLocals]; done) | rfl
def Q0 (h0 : Heap) (n0 : Nat) (v : Option Value) (h : Heap) (L : List Loc) : Prop := v = some (.int 1) ∧ Fr n0 L
set_option maxRecDepth 65536 in
set_option maxHeartbeats 40000000 in
theorem rm0 (l : Launch) (Z : State) (A0 : Array Value) (hw : ∀ d ∈ tables_1, d.before A0 Z = true) (ws : List Jvm.Cond) (p0 : Int32) (p1 : Int32) (p2 : Int32) (p3 : Int32) (h0 : Heap) (n0 : Nat) (Z0 : n0 ≤ h0.size) :
    MetFree l x (head1 (Jvm.Cond.code x code maxLocals ret :: ws) room_1) (fun a U => a = #[(.int p0), (.int p1), (.int p2), (.int p3)] ∧ Z.Warmed39 U.vm ∧ U.heap = h0) (fun _ _ _ _ _ => True) (fun _ U o U' => ∃ v L, o = .returned v ∧ Q0 h0 n0 v U'.heap L ∧ FrameEnd U o U' L 4 43) := by
  refine MetFree.of_bodySF (plainFor_of_name pn_0) hisR ?_
  intro p e s m args below meth c s₁ Bd hml0 hP hK
  obtain ⟨rfl, hZ, hh⟩ := hP
  have hx := Bd.exec
  have hby := Bd.bytes
  have hml : c.maxLocals = 10 := hml0
  have hown : s.vm.findClass "com/example/commitlog/commitlog/codec/JsonWriterPutIntPinLaw" = some m.cls := findClass_of_methodNamed Bd.named
  have hnm := (name_of_methodNamed Bd.named Bd.method).1
  have X0 : Stand p l e room_1 s m #[(.int p0), (.int p1), (.int p2), (.int p3)] below meth c s₁ [] 0 0 := Stand.of_body Bd
  have e0 : s₁.heap = h0 := by rw [← hh, Bd.state]; rfl
  have N0 := Fr.nil n0
  have pre0 : ∀ t, Steps p.tables e below (s₁.setTop (mkF m 0 #[.val (.int p0), .val (.int p1), .val (.int p2), .val (.int p3), .unset, .unset, .unset, .unset, .unset, .unset] [])) t → Steps p.tables e below (s₁.setTop (entryFrame m #[(.int p0), (.int p1), (.int p2), (.int p3)] maxLocals)) t := fun t k => castTop (ef_0 m p0 p1 p2 p3) k
  obtain ⟨v1, hv1⟩ : ∃ z : Int32, z = ((4 : Int32) + (p1 &&& (3 : Int32))) := ⟨_, rfl⟩
  have hz2 : (v1 - (2 : Int32)) ≠ (0 : Int32) := (own_nz21 p1 v1 hv1)
  obtain ⟨v3, hv3⟩ : ∃ z : Int32, z = ((p2 &&& (2147483647 : Int32)) % (v1 - (2 : Int32))) := ⟨_, rfl⟩
  obtain ⟨v4, hv4⟩ : ∃ z : Int32, z = (p0 &&& (7 : Int32)) := ⟨_, rfl⟩
  have V1 := own_V1 _ v1 hv1
  have V3 := own_V3 _ v1 v3 V1 hv3
  have ck5 : ∀ t, Steps p.tables e below (s₁.setTop (mkF m 24 #[.val (.int p0), .val (.int p1), .val (.int p2), .val (.int p3), .val (.int v4), .val (.int v1), .val (.int v3), .unset, .unset, .unset] [])) t → Steps p.tables e below (s₁.setTop (mkF m 0 #[.val (.int p0), .val (.int p1), .val (.int p2), .val (.int p3), .unset, .unset, .unset, .unset, .unset, .unset] [])) t := by
    intro t kt
    show Steps p.tables e below (s₁.setTop (mkF m 0 #[.val (.int p0), .val (.int p1), .val (.int p2), .val (.int p3), .unset, .unset, .unset, .unset, .unset, .unset] [])) _
    refine XS.iloadN X0.here hx rfl (hb hby at_0) rfl ?_
    show Steps p.tables e below (s₁.setTop (mkF m 1 #[.val (.int p0), .val (.int p1), .val (.int p2), .val (.int p3), .unset, .unset, .unset, .unset, .unset, .unset] [(.int p0)])) _
    refine XS.bipush X0.here hx rfl (hb hby at_1) ?_
    show Steps p.tables e below (s₁.setTop (mkF m 3 #[.val (.int p0), .val (.int p1), .val (.int p2), .val (.int p3), .unset, .unset, .unset, .unset, .unset, .unset] [(.int (7 : Int32)), (.int p0)])) _
    refine XS.iand X0.here hx rfl (hb hby at_3) rfl ?_
    show Steps p.tables e below (s₁.setTop (mkF m 4 #[.val (.int p0), .val (.int p1), .val (.int p2), .val (.int p3), .unset, .unset, .unset, .unset, .unset, .unset] [(.int (p0 &&& (7 : Int32)))])) _
    refine XS.istore X0.here hx rfl (hb hby at_4) rfl (l' := #[.val (.int p0), .val (.int p1), .val (.int p2), .val (.int p3), .val (.int (p0 &&& (7 : Int32))), .unset, .unset, .unset, .unset, .unset]) rfl ?_
    show Steps p.tables e below (s₁.setTop (mkF m 6 #[.val (.int p0), .val (.int p1), .val (.int p2), .val (.int p3), .val (.int (p0 &&& (7 : Int32))), .unset, .unset, .unset, .unset, .unset] [])) _
    refine XS.iconst X0.here hx rfl (hb hby at_6) ?_
    show Steps p.tables e below (s₁.setTop (mkF m 7 #[.val (.int p0), .val (.int p1), .val (.int p2), .val (.int p3), .val (.int (p0 &&& (7 : Int32))), .unset, .unset, .unset, .unset, .unset] [(.int (4 : Int32))])) _
    refine XS.iloadN X0.here hx rfl (hb hby at_7) rfl ?_
    show Steps p.tables e below (s₁.setTop (mkF m 8 #[.val (.int p0), .val (.int p1), .val (.int p2), .val (.int p3), .val (.int (p0 &&& (7 : Int32))), .unset, .unset, .unset, .unset, .unset] [(.int p1), (.int (4 : Int32))])) _
    refine XS.iconst X0.here hx rfl (hb hby at_8) ?_
    show Steps p.tables e below (s₁.setTop (mkF m 9 #[.val (.int p0), .val (.int p1), .val (.int p2), .val (.int p3), .val (.int (p0 &&& (7 : Int32))), .unset, .unset, .unset, .unset, .unset] [(.int (3 : Int32)), (.int p1), (.int (4 : Int32))])) _
    refine XS.iand X0.here hx rfl (hb hby at_9) rfl ?_
    show Steps p.tables e below (s₁.setTop (mkF m 10 #[.val (.int p0), .val (.int p1), .val (.int p2), .val (.int p3), .val (.int (p0 &&& (7 : Int32))), .unset, .unset, .unset, .unset, .unset] [(.int (p1 &&& (3 : Int32))), (.int (4 : Int32))])) _
    refine XS.iadd X0.here hx rfl (hb hby at_10) rfl ?_
    show Steps p.tables e below (s₁.setTop (mkF m 11 #[.val (.int p0), .val (.int p1), .val (.int p2), .val (.int p3), .val (.int (p0 &&& (7 : Int32))), .unset, .unset, .unset, .unset, .unset] [(.int ((4 : Int32) + (p1 &&& (3 : Int32))))])) _
    refine castTop (g' := (mkF m 11 #[.val (.int p0), .val (.int p1), .val (.int p2), .val (.int p3), .val (.int (p0 &&& (7 : Int32))), .unset, .unset, .unset, .unset, .unset] [(.int v1)])) (by rw [hv1] <;> rfl) ?_
    show Steps p.tables e below (s₁.setTop (mkF m 11 #[.val (.int p0), .val (.int p1), .val (.int p2), .val (.int p3), .val (.int (p0 &&& (7 : Int32))), .unset, .unset, .unset, .unset, .unset] [(.int v1)])) _
    refine XS.istore X0.here hx rfl (hb hby at_11) rfl (l' := #[.val (.int p0), .val (.int p1), .val (.int p2), .val (.int p3), .val (.int (p0 &&& (7 : Int32))), .val (.int v1), .unset, .unset, .unset, .unset]) rfl ?_
    show Steps p.tables e below (s₁.setTop (mkF m 13 #[.val (.int p0), .val (.int p1), .val (.int p2), .val (.int p3), .val (.int (p0 &&& (7 : Int32))), .val (.int v1), .unset, .unset, .unset, .unset] [])) _
    refine XS.iloadN X0.here hx rfl (hb hby at_13) rfl ?_
    show Steps p.tables e below (s₁.setTop (mkF m 14 #[.val (.int p0), .val (.int p1), .val (.int p2), .val (.int p3), .val (.int (p0 &&& (7 : Int32))), .val (.int v1), .unset, .unset, .unset, .unset] [(.int p2)])) _
    refine X0.ldcInt hx hown (mvT hZ (hw _ (List.mem_of_getElem? (i := 0) rfl))) (g := (mkF m 14 #[.val (.int p0), .val (.int p1), .val (.int p2), .val (.int p3), .val (.int (p0 &&& (7 : Int32))), .val (.int v1), .unset, .unset, .unset, .unset] [(.int p2)])) rfl (hb hby at_14) _ ?_
    show Steps p.tables e below (s₁.setTop (mkF m 16 #[.val (.int p0), .val (.int p1), .val (.int p2), .val (.int p3), .val (.int (p0 &&& (7 : Int32))), .val (.int v1), .unset, .unset, .unset, .unset] [(.int (2147483647 : Int32)), (.int p2)])) _
    refine XS.iand X0.here hx rfl (hb hby at_16) rfl ?_
    show Steps p.tables e below (s₁.setTop (mkF m 17 #[.val (.int p0), .val (.int p1), .val (.int p2), .val (.int p3), .val (.int (p0 &&& (7 : Int32))), .val (.int v1), .unset, .unset, .unset, .unset] [(.int (p2 &&& (2147483647 : Int32)))])) _
    refine XS.iload X0.here hx rfl (hb hby at_17) rfl ?_
    show Steps p.tables e below (s₁.setTop (mkF m 19 #[.val (.int p0), .val (.int p1), .val (.int p2), .val (.int p3), .val (.int (p0 &&& (7 : Int32))), .val (.int v1), .unset, .unset, .unset, .unset] [(.int v1), (.int (p2 &&& (2147483647 : Int32)))])) _
    refine XS.iconst X0.here hx rfl (hb hby at_19) ?_
    show Steps p.tables e below (s₁.setTop (mkF m 20 #[.val (.int p0), .val (.int p1), .val (.int p2), .val (.int p3), .val (.int (p0 &&& (7 : Int32))), .val (.int v1), .unset, .unset, .unset, .unset] [(.int (2 : Int32)), (.int v1), (.int (p2 &&& (2147483647 : Int32)))])) _
    refine XS.isub X0.here hx rfl (hb hby at_20) rfl ?_
    show Steps p.tables e below (s₁.setTop (mkF m 21 #[.val (.int p0), .val (.int p1), .val (.int p2), .val (.int p3), .val (.int (p0 &&& (7 : Int32))), .val (.int v1), .unset, .unset, .unset, .unset] [(.int (v1 - (2 : Int32))), (.int (p2 &&& (2147483647 : Int32)))])) _
    refine iremM X0 hx rfl (hb hby at_21) rfl hz2 ?_
    show Steps p.tables e below (s₁.setTop (mkF m 22 #[.val (.int p0), .val (.int p1), .val (.int p2), .val (.int p3), .val (.int (p0 &&& (7 : Int32))), .val (.int v1), .unset, .unset, .unset, .unset] [(.int ((p2 &&& (2147483647 : Int32)) % (v1 - (2 : Int32))))])) _
    refine castTop (g' := (mkF m 22 #[.val (.int p0), .val (.int p1), .val (.int p2), .val (.int p3), .val (.int (p0 &&& (7 : Int32))), .val (.int v1), .unset, .unset, .unset, .unset] [(.int v3)])) (by rw [hv3] <;> rfl) ?_
    show Steps p.tables e below (s₁.setTop (mkF m 22 #[.val (.int p0), .val (.int p1), .val (.int p2), .val (.int p3), .val (.int (p0 &&& (7 : Int32))), .val (.int v1), .unset, .unset, .unset, .unset] [(.int v3)])) _
    refine XS.istore X0.here hx rfl (hb hby at_22) rfl (l' := #[.val (.int p0), .val (.int p1), .val (.int p2), .val (.int p3), .val (.int (p0 &&& (7 : Int32))), .val (.int v1), .val (.int v3), .unset, .unset, .unset]) rfl ?_
    show Steps p.tables e below (s₁.setTop (mkF m 24 #[.val (.int p0), .val (.int p1), .val (.int p2), .val (.int p3), .val (.int (p0 &&& (7 : Int32))), .val (.int v1), .val (.int v3), .unset, .unset, .unset] [])) _
    refine castTop (g' := (mkF m 24 #[.val (.int p0), .val (.int p1), .val (.int p2), .val (.int p3), .val (.int v4), .val (.int v1), .val (.int v3), .unset, .unset, .unset] [])) (by rw [hv4] <;> rfl) ?_
    exact kt
  rcases Classical.em (v4 = (0 : Int32)) with hk | hk
  · subst hk
    obtain ⟨T6, h6, X6, e6, E6, A6, D6, -, st6⟩ := newO X0 hx hZ hown (hw _ (List.mem_of_getElem? (i := 1) rfl)) (hw _ (List.mem_of_getElem? (i := 2) rfl)) (hw _ (List.mem_of_getElem? (i := 3) rfl)) e0 (g := (mkF m 24 #[.val (.int p0), .val (.int p1), .val (.int p2), .val (.int p3), .val (.int (0 : Int32)), .val (.int v1), .val (.int v3), .unset, .unset, .unset] [])) rfl (hb hby at_24) (by decide) (by decide)
    obtain ⟨b6, g6⟩ : ∃ z, z = h0.size := ⟨_, rfl⟩
    rw [← g6] at A6 D6 st6
    have nw_b6 : n0 ≤ b6 := Nat.le_trans (Nat.le_trans Z0 (Keep.refl h0 []).1) (Nat.le_of_eq g6.symm)
    have sz_b6 : h0.size ≤ b6 := Nat.le_trans (Keep.refl h0 []).1 (Nat.le_of_eq g6.symm)
    have K6 : Keep h0 h6 [] := (Keep.refl h0 []).ext E6
    have F_bytes_b6 : Fld Z h6 b6 "com/example/commitlog/commitlog/codec/JsonWriter" "bytes" "[B" .null := D6 (Or.inl (hw _ (List.mem_of_getElem? (i := 12) rfl))) (ty := (.array .byte)) (by decide)
    have F_length_b6 : Fld Z h6 b6 "com/example/commitlog/commitlog/codec/JsonWriter" "length" "I" (.int (0 : Int32)) := D6 (Or.inl (hw _ (List.mem_of_getElem? (i := 27) rfl))) (ty := .int) (by decide)
    have F_afterValue_b6 : Fld Z h6 b6 "com/example/commitlog/commitlog/codec/JsonWriter" "afterValue" "Z" (.int (0 : Int32)) := D6 (Or.inl (hw _ (List.mem_of_getElem? (i := 49) rfl))) (ty := .boolean) (by decide)
    have hp7 : ¬ (0 : Int32) < (0 : Int32) := (by decide)
    have hp8 : (0 : Int32).toNatClampNeg ≤ 8 := (by decide)
    obtain ⟨_, _, ⟨T9, L9, k9, n9⟩, -, X9, ⟨Lc9, hQ9, l9, y9, z9⟩, st9⟩ := X6.specialBack hx (y := (⟨"com/example/commitlog/commitlog/codec/JsonWriter", "<init>", "(I)V"⟩ : MethodName)) rfl hown (mvT hZ (hw _ (List.mem_of_getElem? (i := 4) rfl))) (mvT hZ (hw _ (List.mem_of_getElem? (i := 5) rfl))) (mvT hZ (hw _ (List.mem_of_getElem? (i := 6) rfl))) (by decide) (backOf (W := 1) (rm1 l Z A0 hw [] b6 (0 : Int32) .null (0 : Int32) (0 : Int32) h6 n0 (Nat.le_trans Z0 K6.1) A6 F_bytes_b6 F_length_b6 F_afterValue_b6 nw_b6 hp7 hp8) hZ (hw _ (List.mem_of_getElem? (i := 6) rfl)) (hw _ (List.mem_of_getElem? (i := 3) rfl)) (by decide) (by decide)) (g := (mkF m 30 #[.val (.int p0), .val (.int p1), .val (.int p2), .val (.int p3), .val (.int (0 : Int32)), .val (.int v1), .val (.int v3), .unset, .unset, .unset] [(.int (0 : Int32)), (.ref b6), (.ref b6)])) rfl (by rw [hml]; rfl) (Steps.refl _) (a := b6) (argsL := [(.int (0 : Int32))]) (rest := [(.ref b6)]) (lenOf pd_0 rfl) rfl (by show 2 * 0 + _ ≤ _; exact Nat.le_of_eq rfl) (hb hby at_30) (fun _ _ => ⟨rfl, e6, (by decide : 1 + 1 ≤ _), (by decide : 3 + 8 ≤ _)⟩)
    dsimp only [Pt.U, Pt.locs, Pt.cells, Pt.slots] at X9 l9 y9 z9 st9 hQ9
    subst l9 y9 z9
    obtain ⟨b9_b2, rfl, N9q, Kc9, szb9_b2, P10, P11, P12, P13, P14⟩ := hQ9
    have ne_b6_b9_b2 : b6 ≠ b9_b2 := Nat.ne_of_lt (Nat.lt_of_lt_of_le A6.lt szb9_b2)
    have nw_b9_b2 : n0 ≤ b9_b2 := Nat.le_trans (Nat.le_trans Z0 K6.1) szb9_b2
    have sq_b9_b2 : h0.size ≤ b9_b2 := Nat.le_trans K6.1 szb9_b2
    have K9 : Keep h0 T9.heap [] := K6.trans Kc9 (allS (Or.inr sz_b6) all0)
    have N9 := Fr.app N0 N9q
    have hp15 : ((Int32.ofNat ((0 : Int32)).toNatClampNeg) - (0 : Int32)) < (1 : Int32) := (by decide)
    have hp16 : ¬ ((own_nl ((0 : Int32)).toNatClampNeg (0 : Int32) (1 : Int32)) = (Int32.ofNat ((0 : Int32)).toNatClampNeg)) := (own_nlf ((0 : Int32)).toNatClampNeg (0 : Int32) (1 : Int32) (by decide) (by decide) (by decide) (by decide) (by decide) (by decide)).1
    have hp17 : ¬ (own_nl ((0 : Int32)).toNatClampNeg (0 : Int32) (1 : Int32)) < (0 : Int32) := (own_nlf ((0 : Int32)).toNatClampNeg (0 : Int32) (1 : Int32) (by decide) (by decide) (by decide) (by decide) (by decide) (by decide)).2.1
    have hp18 : (own_nl ((0 : Int32)).toNatClampNeg (0 : Int32) (1 : Int32)).toNatClampNeg ≤ 16 := (own_nlf ((0 : Int32)).toNatClampNeg (0 : Int32) (1 : Int32) (by decide) (by decide) (by decide) (by decide) (by decide) (by decide)).2.2.1
    have hp19 : ¬ ((own_nl ((0 : Int32)).toNatClampNeg (0 : Int32) (1 : Int32)) < (Int32.ofNat ((0 : Int32)).toNatClampNeg)) := (own_nlf ((0 : Int32)).toNatClampNeg (0 : Int32) (1 : Int32) (by decide) (by decide) (by decide) (by decide) (by decide) (by decide)).2.2.2.1
    have hp20 : ∀ j, j < ((0 : Int32)).toNatClampNeg → fits .byte (.int ((fun _ => (0 : Int32)) j)) = true := (fun j hj => absurd hj (by have z : ((0 : Int32)).toNatClampNeg = 0 := (by decide); omega))
    have hp21 : own_in (0 : Int32) ((own_nl ((0 : Int32)).toNatClampNeg (0 : Int32) (1 : Int32))).toNatClampNeg := (own_hin22_3_37_A)
    obtain ⟨cq22, kq22, q22a, q22b, q22c⟩ := isOf hZ rfl P10
    obtain ⟨_, _, ⟨T22, L22, k22, n22⟩, -, X22, ⟨Lc22, hQ22, l22, y22, z22⟩, st22⟩ := X9.virtualBack hx (y := (⟨"com/example/commitlog/commitlog/codec/JsonWriter", "startObject", "()Lcom/example/commitlog/commitlog/codec/JsonWriter;"⟩ : MethodName)) (z := (⟨"com/example/commitlog/commitlog/codec/JsonWriter", "startObject", "()Lcom/example/commitlog/commitlog/codec/JsonWriter;"⟩ : MethodName)) hown (mvT hZ (hw _ (List.mem_of_getElem? (i := 13) rfl))) (mvT hZ (hw _ (List.mem_of_getElem? (i := 14) rfl))) (notFace_of_selects (args := #[]) (mvT hZ (hw _ (List.mem_of_getElem? (i := 16) rfl)))) (mvT hZ (hw _ (List.mem_of_getElem? (i := 16) rfl))) (mvT hZ (hw _ (List.mem_of_getElem? (i := 15) rfl))) (by decide) (backOf (W := 0) (rm3g l Z A0 hw [] b6 b9_b2 (0 : Int32) (0 : Int32) (((0 : Int32)).toNatClampNeg) (fun _ => (0 : Int32)) T9.heap n0 (Nat.le_trans Z0 K9.1) P10 P11 P12 P13 P14 nw_b6 hp15 hp16 hp17 hp18 hp19 hp20 hp21) hZ (hw _ (List.mem_of_getElem? (i := 17) rfl)) (hw _ (List.mem_of_getElem? (i := 3) rfl)) (by decide) (by decide)) q22a q22c (g := (mkF m 37 #[.val (.int p0), .val (.int p1), .val (.int p2), .val (.int p3), .val (.int (0 : Int32)), .val (.int v1), .val (.int v3), .val (.ref b6), .unset, .unset] [(.ref b6)])) rfl (by rw [hml]; rfl) (Steps.refl _) (argsL := []) (rest := []) (lenOf pd_2 rfl) rfl (by show 2 * 0 + _ ≤ _; exact Nat.le_of_eq rfl) (hb hby at_37) (fun _ _ => ⟨rfl, rfl, (by decide : 2 + 1 ≤ _), (by decide : 11 + 16 ≤ _)⟩)
    dsimp only [Pt.U, Pt.locs, Pt.cells, Pt.slots] at X22 l22 y22 z22 st22 hQ22
    subst l22 y22 z22
    obtain ⟨b22_b1_b1_b9_b1, rfl, N22q, Kc22, szb22_b1_b1_b9_b1, P23, P24, P25, P26, P27⟩ := hQ22
    have ne_b6_b22_b1_b1_b9_b1 : b6 ≠ b22_b1_b1_b9_b1 := Nat.ne_of_lt (Nat.lt_of_lt_of_le P10.lt szb22_b1_b1_b9_b1)
    have ne_b9_b2_b22_b1_b1_b9_b1 : b9_b2 ≠ b22_b1_b1_b9_b1 := Nat.ne_of_lt (Nat.lt_of_lt_of_le P14.lt szb22_b1_b1_b9_b1)
    have nw_b22_b1_b1_b9_b1 : n0 ≤ b22_b1_b1_b9_b1 := Nat.le_trans (Nat.le_trans Z0 K9.1) szb22_b1_b1_b9_b1
    have sq_b22_b1_b1_b9_b1 : h0.size ≤ b22_b1_b1_b9_b1 := Nat.le_trans K9.1 szb22_b1_b1_b9_b1
    have K22 : Keep h0 T22.heap [] := K9.trans Kc22 (allS (Or.inr sz_b6) all0)
    obtain ⟨f28, hf28⟩ : ∃ f : Nat → Int32, f = (fun i => if i = ((0 : Int32)).toNatClampNeg then (((123 : Int32).toInt8.toInt32).toInt8.toInt32) else (fun j => if j < ((0 : Int32)).toNatClampNeg then (fun _ => (0 : Int32)) j else (fun _ => (0 : Int32)) j) i) := ⟨_, rfl⟩
    obtain ⟨z30, hz30⟩ : ∃ z : Nat, z = ((own_nl ((0 : Int32)).toNatClampNeg (0 : Int32) (1 : Int32))).toNatClampNeg := ⟨_, rfl⟩
    have P29 : AF Z T22.heap b22_b1_b1_b9_b1 .byte z30 (fun j => .int (f28 j)) := by rw [hf28, hz30]; exact P27
    have N22 := Fr.app N9 N22q
    have hp31 : ((Int32.ofNat z30) - ((0 : Int32) + (1 : Int32))) < v1 := (own_hc11_2_45_A p1 v1 z30 hv1 hz30 V1)
    have hp32 : ¬ ((own_nl z30 ((0 : Int32) + (1 : Int32)) v1) = (Int32.ofNat z30)) := (own_hc3_47_2_45_A p1 v1 z30 hv1 hz30 V1)
    have hp33 : ¬ (own_nl z30 ((0 : Int32) + (1 : Int32)) v1) < (0 : Int32) := (own_hneg_47_2_45_A p1 v1 z30 hv1 hz30 V1)
    have hp34 : (own_nl z30 ((0 : Int32) + (1 : Int32)) v1).toNatClampNeg ≤ 16 := (own_hcap_47_2_45_A p1 v1 z30 hv1 hz30 V1)
    have hp35 : ¬ ((own_nl z30 ((0 : Int32) + (1 : Int32)) v1) < (Int32.ofNat z30)) := (own_hle_47_2_45_A p1 v1 z30 hv1 hz30 V1)
    have hp36 : ∀ j, j < z30 → fits .byte (.int (f28 j)) = true := (own_hfit_47_2_45_A f28 z30 hf28 hz30)
    obtain ⟨cq37, kq37, q37a, q37b, q37c⟩ := isOf hZ rfl P23
    obtain ⟨_, _, ⟨T37, L37, k37, n37⟩, -, X37, ⟨Lc37, hQ37, l37, y37, z37⟩, st37⟩ := X22.virtualBack hx (y := (⟨"com/example/commitlog/commitlog/codec/JsonWriter", "skip", "(I)Lcom/example/commitlog/commitlog/codec/JsonWriter;"⟩ : MethodName)) (z := (⟨"com/example/commitlog/commitlog/codec/JsonWriter", "skip", "(I)Lcom/example/commitlog/commitlog/codec/JsonWriter;"⟩ : MethodName)) hown (mvT hZ (hw _ (List.mem_of_getElem? (i := 50) rfl))) (mvT hZ (hw _ (List.mem_of_getElem? (i := 51) rfl))) (notFace_of_selects (args := #[]) (mvT hZ (hw _ (List.mem_of_getElem? (i := 53) rfl)))) (mvT hZ (hw _ (List.mem_of_getElem? (i := 53) rfl))) (mvT hZ (hw _ (List.mem_of_getElem? (i := 52) rfl))) (by decide) (backOf (W := 0) (rm10g l Z A0 hw [] b6 v1 b22_b1_b1_b9_b1 ((0 : Int32) + (1 : Int32)) (0 : Int32) z30 f28 T22.heap n0 (Nat.le_trans Z0 K22.1) P23 P24 P25 P26 P29 nw_b6 hp31 hp32 hp33 hp34 hp35 hp36) hZ (hw _ (List.mem_of_getElem? (i := 54) rfl)) (hw _ (List.mem_of_getElem? (i := 3) rfl)) (by decide) (by decide)) q37a q37c (g := (mkF m 45 #[.val (.int p0), .val (.int p1), .val (.int p2), .val (.int p3), .val (.int (0 : Int32)), .val (.int v1), .val (.int v3), .val (.ref b6), .unset, .unset] [(.int v1), (.ref b6)])) rfl (by rw [hml]; rfl) (Steps.refl _) (argsL := [(.int v1)]) (rest := []) (lenOf pd_7 rfl) rfl (by show 2 * 0 + _ ≤ _; exact Nat.le_of_eq rfl) (hb hby at_45) (fun _ _ => ⟨rfl, rfl, (by decide : 3 + 1 ≤ _), (by decide : 27 + 16 ≤ _)⟩)
    dsimp only [Pt.U, Pt.locs, Pt.cells, Pt.slots] at X37 l37 y37 z37 st37 hQ37
    subst l37 y37 z37
    have G43 : AF Z T22.heap b9_b2 .byte ((0 : Int32)).toNatClampNeg (fun j => .int ((fun _ => (0 : Int32)) j)) := (P14.keep Kc22 (ninS (Ne.symm ne_b6_b9_b2) nin0))
    obtain ⟨b37_b1_b9_b1, rfl, N37q, Kc37, szb37_b1_b9_b1, P38, P39, P40, P41, P42⟩ := hQ37
    have ne_b6_b37_b1_b9_b1 : b6 ≠ b37_b1_b9_b1 := Nat.ne_of_lt (Nat.lt_of_lt_of_le P23.lt szb37_b1_b9_b1)
    have ne_b9_b2_b37_b1_b9_b1 : b9_b2 ≠ b37_b1_b9_b1 := Nat.ne_of_lt (Nat.lt_of_lt_of_le G43.lt szb37_b1_b9_b1)
    have ne_b22_b1_b1_b9_b1_b37_b1_b9_b1 : b22_b1_b1_b9_b1 ≠ b37_b1_b9_b1 := Nat.ne_of_lt (Nat.lt_of_lt_of_le P29.lt szb37_b1_b9_b1)
    have nw_b37_b1_b9_b1 : n0 ≤ b37_b1_b9_b1 := Nat.le_trans (Nat.le_trans Z0 K22.1) szb37_b1_b9_b1
    have sq_b37_b1_b9_b1 : h0.size ≤ b37_b1_b9_b1 := Nat.le_trans K22.1 szb37_b1_b9_b1
    have K37 : Keep h0 T37.heap [] := K22.trans Kc37 (allS (Or.inr sz_b6) all0)
    obtain ⟨f44, hf44⟩ : ∃ f : Nat → Int32, f = (fun j => if j < z30 then f28 j else (fun _ => (0 : Int32)) j) := ⟨_, rfl⟩
    obtain ⟨z46, hz46⟩ : ∃ z : Nat, z = ((own_nl z30 ((0 : Int32) + (1 : Int32)) v1)).toNatClampNeg := ⟨_, rfl⟩
    have P45 : AF Z T37.heap b37_b1_b9_b1 .byte z46 (fun j => .int (f44 j)) := by rw [hf44, hz46]; exact P42
    have N37 := Fr.app N22 N37q
    have LEN := (own_LEN_A p1 v1 z30 z46 hv1 hz30 hz46 V1)
    have CON := (own_CON_A f28 z30 f44 hf28 hz30 hf44)
    have hp47 : own_in v3 z46 := own_in0 V1 V3 LEN
    have hp48 : own_in (v3 + (1 : Int32)) z46 := own_inK V1 V3 LEN 1 (by decide)
    have hp49 : own_in (v3 + (2 : Int32)) z46 := own_inK V1 V3 LEN 2 (by decide)
    have hp50 : own_in (v3 + (3 : Int32)) z46 := own_inK V1 V3 LEN 3 (by decide)
    obtain ⟨cq51, kq51, q51a, q51b, q51c⟩ := isOf hZ rfl P38
    obtain ⟨_, _, ⟨T51, L51, k51, n51⟩, -, X51, ⟨Lc51, hQ51, l51, y51, z51⟩, st51⟩ := X37.virtualBack hx (y := (⟨"com/example/commitlog/commitlog/codec/JsonWriter", "putInt", "(II)V"⟩ : MethodName)) (z := (⟨"com/example/commitlog/commitlog/codec/JsonWriter", "putInt", "(II)V"⟩ : MethodName)) hown (mvT hZ (hw _ (List.mem_of_getElem? (i := 55) rfl))) (mvT hZ (hw _ (List.mem_of_getElem? (i := 56) rfl))) (notFace_of_selects (args := #[]) (mvT hZ (hw _ (List.mem_of_getElem? (i := 58) rfl)))) (mvT hZ (hw _ (List.mem_of_getElem? (i := 58) rfl))) (mvT hZ (hw _ (List.mem_of_getElem? (i := 57) rfl))) (by decide) (backOf (W := 0) (rm11 l Z A0 hw [] b6 v3 p3 b37_b1_b9_b1 (((0 : Int32) + (1 : Int32)) + v1) (0 : Int32) z46 f44 T37.heap n0 (Nat.le_trans Z0 K37.1) P38 P39 P40 P41 P45 nw_b37_b1_b9_b1 ne_b6_b37_b1_b9_b1 hp47 hp48 hp49 hp50) hZ (hw _ (List.mem_of_getElem? (i := 59) rfl)) (hw _ (List.mem_of_getElem? (i := 3) rfl)) (by decide) (by decide)) q51a q51c (g := (mkF m 54 #[.val (.int p0), .val (.int p1), .val (.int p2), .val (.int p3), .val (.int (0 : Int32)), .val (.int v1), .val (.int v3), .val (.ref b6), .unset, .unset] [(.int p3), (.int v3), (.ref b6)])) rfl (by rw [hml]; rfl) (Steps.refl _) (argsL := [(.int v3), (.int p3)]) (rest := []) (lenOf pd_8 rfl) rfl (by show 2 * 0 + _ ≤ _; exact Nat.le_of_eq rfl) (hb hby at_54) (fun _ _ => ⟨rfl, rfl, (by decide : 4 + 0 ≤ _), (by decide : 43 + 0 ≤ _)⟩)
    dsimp only [Pt.U, Pt.locs, Pt.cells, Pt.slots] at X51 l51 y51 z51 st51 hQ51
    subst l51 y51 z51
    obtain ⟨rfl, N51q, Kc51, P52⟩ := hQ51
    have K51 : Keep h0 T51.heap [] := K37.trans Kc51 (allS (Or.inr sq_b37_b1_b9_b1) all0)
    obtain ⟨f53, hf53⟩ : ∃ f : Nat → Int32, f = (fun i => if i = ((v3 + (3 : Int32))).toNatClampNeg then ((p3.toInt8.toInt32).toInt8.toInt32) else (fun i => if i = ((v3 + (2 : Int32))).toNatClampNeg then ((((p3.toUInt32 >>> ((8 : Int32) &&& 31).toUInt32).toInt32).toInt8.toInt32).toInt8.toInt32) else (fun i => if i = ((v3 + (1 : Int32))).toNatClampNeg then ((((p3.toUInt32 >>> ((16 : Int32) &&& 31).toUInt32).toInt32).toInt8.toInt32).toInt8.toInt32) else (fun i => if i = (v3).toNatClampNeg then ((((p3.toUInt32 >>> ((24 : Int32) &&& 31).toUInt32).toInt32).toInt8.toInt32).toInt8.toInt32) else f44 i) i) i) i) := ⟨_, rfl⟩
    have P54 : AF Z T51.heap b37_b1_b9_b1 .byte z46 (fun j => .int (f53 j)) := by rw [hf53]; exact P52
    have N51 := Fr.app N37 N51q
    have G55 : Exa Z T51.heap b6 "com/example/commitlog/commitlog/codec/JsonWriter" := (P38.keep Kc51)
    have G56 : Fld Z T51.heap b6 "com/example/commitlog/commitlog/codec/JsonWriter" "bytes" "[B" (.ref b37_b1_b9_b1) := (P39.keep Kc51 (ninS ne_b6_b37_b1_b9_b1 nin0))
    have G57 : Fld Z T51.heap b6 "com/example/commitlog/commitlog/codec/JsonWriter" "length" "I" (.int (((0 : Int32) + (1 : Int32)) + v1)) := (P40.keep Kc51 (ninS ne_b6_b37_b1_b9_b1 nin0))
    have G58 : Fld Z T51.heap b6 "com/example/commitlog/commitlog/codec/JsonWriter" "afterValue" "Z" (.int (0 : Int32)) := (P41.keep Kc51 (ninS ne_b6_b37_b1_b9_b1 nin0))
    obtain ⟨cq59, kq59, q59a, q59b, q59c⟩ := isOf hZ rfl G55
    obtain ⟨_, _, ⟨T59, L59, k59, n59⟩, -, X59, ⟨Lc59, hQ59, l59, y59, z59⟩, st59⟩ := X51.virtualBack hx (y := (⟨"com/example/commitlog/commitlog/codec/JsonWriter", "bytes", "()[B"⟩ : MethodName)) (z := (⟨"com/example/commitlog/commitlog/codec/JsonWriter", "bytes", "()[B"⟩ : MethodName)) hown (mvT hZ (hw _ (List.mem_of_getElem? (i := 60) rfl))) (mvT hZ (hw _ (List.mem_of_getElem? (i := 61) rfl))) (notFace_of_selects (args := #[]) (mvT hZ (hw _ (List.mem_of_getElem? (i := 63) rfl)))) (mvT hZ (hw _ (List.mem_of_getElem? (i := 63) rfl))) (mvT hZ (hw _ (List.mem_of_getElem? (i := 62) rfl))) (by decide) (backOf (W := 0) (rm12 l Z A0 hw [] b6 b37_b1_b9_b1 (((0 : Int32) + (1 : Int32)) + v1) (0 : Int32) T51.heap n0 (Nat.le_trans Z0 K51.1) G55 G56 G57 G58) hZ (hw _ (List.mem_of_getElem? (i := 64) rfl)) (hw _ (List.mem_of_getElem? (i := 3) rfl)) (by decide) (by decide)) q59a q59c (g := (mkF m 59 #[.val (.int p0), .val (.int p1), .val (.int p2), .val (.int p3), .val (.int (0 : Int32)), .val (.int v1), .val (.int v3), .val (.ref b6), .unset, .unset] [(.ref b6)])) rfl (by rw [hml]; rfl) (Steps.refl _) (argsL := []) (rest := []) (lenOf pd_9 rfl) rfl (by show 2 * 0 + _ ≤ _; exact Nat.le_of_eq rfl) (hb hby at_59) (fun _ _ => ⟨rfl, rfl, (by decide : 4 + 0 ≤ _), (by decide : 43 + 0 ≤ _)⟩)
    dsimp only [Pt.U, Pt.locs, Pt.cells, Pt.slots] at X59 l59 y59 z59 st59 hQ59
    subst l59 y59 z59
    obtain ⟨rfl, N59q, e59⟩ := hQ59
    have N59 := Fr.app N51 N59q
    obtain ⟨cq60, kq60, q60a, q60b, q60c⟩ := isOf hZ e59 G55
    obtain ⟨_, _, ⟨T60, L60, k60, n60⟩, -, X60, ⟨Lc60, hQ60, l60, y60, z60⟩, st60⟩ := X59.virtualBack hx (y := (⟨"com/example/commitlog/commitlog/codec/JsonWriter", "length", "()I"⟩ : MethodName)) (z := (⟨"com/example/commitlog/commitlog/codec/JsonWriter", "length", "()I"⟩ : MethodName)) hown (mvT hZ (hw _ (List.mem_of_getElem? (i := 65) rfl))) (mvT hZ (hw _ (List.mem_of_getElem? (i := 66) rfl))) (notFace_of_selects (args := #[]) (mvT hZ (hw _ (List.mem_of_getElem? (i := 68) rfl)))) (mvT hZ (hw _ (List.mem_of_getElem? (i := 68) rfl))) (mvT hZ (hw _ (List.mem_of_getElem? (i := 67) rfl))) (by decide) (backOf (W := 0) (rm13 l Z A0 hw [] b6 (.ref b37_b1_b9_b1) (((0 : Int32) + (1 : Int32)) + v1) (0 : Int32) T51.heap n0 (Nat.le_trans Z0 K51.1) G55 G56 G57 G58) hZ (hw _ (List.mem_of_getElem? (i := 69) rfl)) (hw _ (List.mem_of_getElem? (i := 3) rfl)) (by decide) (by decide)) q60a q60c (g := (mkF m 66 #[.val (.int p0), .val (.int p1), .val (.int p2), .val (.int p3), .val (.int (0 : Int32)), .val (.int v1), .val (.int v3), .val (.ref b6), .val (.ref b37_b1_b9_b1), .unset] [(.ref b6)])) rfl (by rw [hml]; rfl) (Steps.refl _) (argsL := []) (rest := []) (lenOf pd_10 rfl) rfl (by show 2 * 0 + _ ≤ _; exact Nat.le_of_eq rfl) (hb hby at_66) (fun _ _ => ⟨rfl, e59, (by decide : 4 + 0 ≤ _), (by decide : 43 + 0 ≤ _)⟩)
    dsimp only [Pt.U, Pt.locs, Pt.cells, Pt.slots] at X60 l60 y60 z60 st60 hQ60
    subst l60 y60 z60
    obtain ⟨rfl, N60q, e60⟩ := hQ60
    have N60 := Fr.app N59 N60q
    have hk61 : (((0 : Int32) + (1 : Int32)) + v1) = (v1 + (1 : Int32)) := (by rw [show ((0 : Int32) + (1 : Int32)) = 1 from by decide]; exact Int32.add_comm _ _)
    have hi62 : own_in v3 z46 := own_in0 V1 V3 LEN
    have hi63 : own_in (v3 + (1 : Int32)) z46 := own_inK V1 V3 LEN 1 (by decide)
    have hi64 : own_in (v3 + (2 : Int32)) z46 := own_inK V1 V3 LEN 2 (by decide)
    have hi65 : own_in (v3 + (3 : Int32)) z46 := own_inK V1 V3 LEN 3 (by decide)
    obtain ⟨v66, hv66⟩ : ∃ z : Int32, z = ((((((f53 (v3).toNatClampNeg) &&& (255 : Int32)) <<< ((24 : Int32) &&& 31)) ||| (((f53 ((v3 + (1 : Int32))).toNatClampNeg) &&& (255 : Int32)) <<< ((16 : Int32) &&& 31))) ||| (((f53 ((v3 + (2 : Int32))).toNatClampNeg) &&& (255 : Int32)) <<< ((8 : Int32) &&& 31))) ||| ((f53 ((v3 + (3 : Int32))).toNatClampNeg) &&& (255 : Int32))) := ⟨_, rfl⟩
    have hk67 : v66 = p3 := own_bk v3 p3 _ _ _ V3.1 (by omega) hf53 hv66
    have hp68 : 0 ≤ (0 : Int32).toInt := (by decide)
    have hp69 : v1.toInt < z46 := (by omega)
    obtain ⟨_, _, ⟨T70, L70, k70, n70⟩, -, X70, ⟨Lc70, hQ70, l70, y70, z70⟩, st70⟩ := Jvm.LawKit.callS X60 hx (y := (⟨"com/example/commitlog/commitlog/codec/JsonWriterPutIntPinLaw", "untouched", "([BIII)Z"⟩ : MethodName)) hown (mvT hZ (hw _ (List.mem_of_getElem? (i := 70) rfl))) (mvT hZ (hw _ (List.mem_of_getElem? (i := 71) rfl))) (mvT hZ (hw _ (List.mem_of_getElem? (i := 72) rfl))) (mvT hZ (hw _ (List.mem_of_getElem? (i := 73) rfl))) (by decide) (backOf (W := 0) (rm14 l Z A0 hw [] b37_b1_b9_b1 (0 : Int32) v3 v1 z46 f53 T51.heap n0 (Nat.le_trans Z0 K51.1) P54 hp68 hp69) hZ (hw _ (List.mem_of_getElem? (i := 73) rfl)) (hw _ (List.mem_of_getElem? (i := 72) rfl)) (by decide) (by decide)) (g := (mkF m 149 #[.val (.int p0), .val (.int p1), .val (.int p2), .val (.int p3), .val (.int (0 : Int32)), .val (.int v1), .val (.int v3), .val (.ref b6), .val (.ref b37_b1_b9_b1), .val (.int v66)] [(.int v1), (.int v3), (.int (0 : Int32)), (.ref b37_b1_b9_b1)])) rfl (by rw [hml]; rfl) (argsL := [(.ref b37_b1_b9_b1), (.int (0 : Int32)), (.int v3), (.int v1)]) (rest := []) (lenOf pd_11 rfl) rfl (by show 2 * 0 + _ ≤ _; exact Nat.le_of_eq rfl) (hb hby at_149) (fun _ _ => ⟨rfl, e60, (by decide : 4 + 0 ≤ _), (by decide : 43 + 0 ≤ _)⟩)
    dsimp only [Pt.U, Pt.locs, Pt.cells, Pt.slots] at X70 l70 y70 z70 st70 hQ70
    subst l70 y70 z70
    obtain ⟨rfl, N70q, e70⟩ := hQ70
    have N70 := Fr.app N60 N70q
    have hk71 : ¬ ((own_un (0 : Int32) v3 v1 f53) = (0 : Int32)) := own_unF 0 (by decide) v1 v3 p3 _ _ V3.1 (by omega) CON hf53
    have hp72 : 0 ≤ (1 : Int32).toInt := (by decide)
    have hp73 : v1.toInt < z46 := (by omega)
    obtain ⟨_, _, ⟨T74, L74, k74, n74⟩, -, X74, ⟨Lc74, hQ74, l74, y74, z74⟩, st74⟩ := Jvm.LawKit.callS X70 hx (y := (⟨"com/example/commitlog/commitlog/codec/JsonWriterPutIntPinLaw", "untouched", "([BIII)Z"⟩ : MethodName)) hown (mvT hZ (hw _ (List.mem_of_getElem? (i := 70) rfl))) (mvT hZ (hw _ (List.mem_of_getElem? (i := 71) rfl))) (mvT hZ (hw _ (List.mem_of_getElem? (i := 72) rfl))) (mvT hZ (hw _ (List.mem_of_getElem? (i := 73) rfl))) (by decide) (backOf (W := 0) (rm14 l Z A0 hw [] b37_b1_b9_b1 (1 : Int32) v3 v1 z46 f53 T51.heap n0 (Nat.le_trans Z0 K51.1) P54 hp72 hp73) hZ (hw _ (List.mem_of_getElem? (i := 73) rfl)) (hw _ (List.mem_of_getElem? (i := 72) rfl)) (by decide) (by decide)) (g := (mkF m 162 #[.val (.int p0), .val (.int p1), .val (.int p2), .val (.int p3), .val (.int (0 : Int32)), .val (.int v1), .val (.int v3), .val (.ref b6), .val (.ref b37_b1_b9_b1), .val (.int v66)] [(.int v1), (.int v3), (.int (1 : Int32)), (.ref b37_b1_b9_b1)])) rfl (by rw [hml]; rfl) (argsL := [(.ref b37_b1_b9_b1), (.int (1 : Int32)), (.int v3), (.int v1)]) (rest := []) (lenOf pd_11 rfl) rfl (by show 2 * 0 + _ ≤ _; exact Nat.le_of_eq rfl) (hb hby at_162) (fun _ _ => ⟨rfl, e70, (by decide : 4 + 0 ≤ _), (by decide : 43 + 0 ≤ _)⟩)
    dsimp only [Pt.U, Pt.locs, Pt.cells, Pt.slots] at X74 l74 y74 z74 st74 hQ74
    subst l74 y74 z74
    obtain ⟨rfl, N74q, e74⟩ := hQ74
    have N74 := Fr.app N70 N74q
    have hk75 : ¬ ((own_un (1 : Int32) v3 v1 f53) = (0 : Int32)) := own_unF 1 (by decide) v1 v3 p3 _ _ V3.1 (by omega) CON hf53
    have hp76 : 0 ≤ (2 : Int32).toInt := (by decide)
    have hp77 : v1.toInt < z46 := (by omega)
    obtain ⟨_, _, ⟨T78, L78, k78, n78⟩, -, X78, ⟨Lc78, hQ78, l78, y78, z78⟩, st78⟩ := Jvm.LawKit.callS X74 hx (y := (⟨"com/example/commitlog/commitlog/codec/JsonWriterPutIntPinLaw", "untouched", "([BIII)Z"⟩ : MethodName)) hown (mvT hZ (hw _ (List.mem_of_getElem? (i := 70) rfl))) (mvT hZ (hw _ (List.mem_of_getElem? (i := 71) rfl))) (mvT hZ (hw _ (List.mem_of_getElem? (i := 72) rfl))) (mvT hZ (hw _ (List.mem_of_getElem? (i := 73) rfl))) (by decide) (backOf (W := 0) (rm14 l Z A0 hw [] b37_b1_b9_b1 (2 : Int32) v3 v1 z46 f53 T51.heap n0 (Nat.le_trans Z0 K51.1) P54 hp76 hp77) hZ (hw _ (List.mem_of_getElem? (i := 73) rfl)) (hw _ (List.mem_of_getElem? (i := 72) rfl)) (by decide) (by decide)) (g := (mkF m 175 #[.val (.int p0), .val (.int p1), .val (.int p2), .val (.int p3), .val (.int (0 : Int32)), .val (.int v1), .val (.int v3), .val (.ref b6), .val (.ref b37_b1_b9_b1), .val (.int v66)] [(.int v1), (.int v3), (.int (2 : Int32)), (.ref b37_b1_b9_b1)])) rfl (by rw [hml]; rfl) (argsL := [(.ref b37_b1_b9_b1), (.int (2 : Int32)), (.int v3), (.int v1)]) (rest := []) (lenOf pd_11 rfl) rfl (by show 2 * 0 + _ ≤ _; exact Nat.le_of_eq rfl) (hb hby at_175) (fun _ _ => ⟨rfl, e74, (by decide : 4 + 0 ≤ _), (by decide : 43 + 0 ≤ _)⟩)
    dsimp only [Pt.U, Pt.locs, Pt.cells, Pt.slots] at X78 l78 y78 z78 st78 hQ78
    subst l78 y78 z78
    obtain ⟨rfl, N78q, e78⟩ := hQ78
    have N78 := Fr.app N74 N78q
    have hk79 : ¬ ((own_un (2 : Int32) v3 v1 f53) = (0 : Int32)) := own_unF 2 (by decide) v1 v3 p3 _ _ V3.1 (by omega) CON hf53
    have hp80 : 0 ≤ (3 : Int32).toInt := (by decide)
    have hp81 : v1.toInt < z46 := (by omega)
    obtain ⟨_, _, ⟨T82, L82, k82, n82⟩, -, X82, ⟨Lc82, hQ82, l82, y82, z82⟩, st82⟩ := Jvm.LawKit.callS X78 hx (y := (⟨"com/example/commitlog/commitlog/codec/JsonWriterPutIntPinLaw", "untouched", "([BIII)Z"⟩ : MethodName)) hown (mvT hZ (hw _ (List.mem_of_getElem? (i := 70) rfl))) (mvT hZ (hw _ (List.mem_of_getElem? (i := 71) rfl))) (mvT hZ (hw _ (List.mem_of_getElem? (i := 72) rfl))) (mvT hZ (hw _ (List.mem_of_getElem? (i := 73) rfl))) (by decide) (backOf (W := 0) (rm14 l Z A0 hw [] b37_b1_b9_b1 (3 : Int32) v3 v1 z46 f53 T51.heap n0 (Nat.le_trans Z0 K51.1) P54 hp80 hp81) hZ (hw _ (List.mem_of_getElem? (i := 73) rfl)) (hw _ (List.mem_of_getElem? (i := 72) rfl)) (by decide) (by decide)) (g := (mkF m 188 #[.val (.int p0), .val (.int p1), .val (.int p2), .val (.int p3), .val (.int (0 : Int32)), .val (.int v1), .val (.int v3), .val (.ref b6), .val (.ref b37_b1_b9_b1), .val (.int v66)] [(.int v1), (.int v3), (.int (3 : Int32)), (.ref b37_b1_b9_b1)])) rfl (by rw [hml]; rfl) (argsL := [(.ref b37_b1_b9_b1), (.int (3 : Int32)), (.int v3), (.int v1)]) (rest := []) (lenOf pd_11 rfl) rfl (by show 2 * 0 + _ ≤ _; exact Nat.le_of_eq rfl) (hb hby at_188) (fun _ _ => ⟨rfl, e78, (by decide : 4 + 0 ≤ _), (by decide : 43 + 0 ≤ _)⟩)
    dsimp only [Pt.U, Pt.locs, Pt.cells, Pt.slots] at X82 l82 y82 z82 st82 hQ82
    subst l82 y82 z82
    obtain ⟨rfl, N82q, e82⟩ := hQ82
    have N82 := Fr.app N78 N82q
    have hk83 : ¬ ((own_un (3 : Int32) v3 v1 f53) = (0 : Int32)) := own_unF 3 (by decide) v1 v3 p3 _ _ V3.1 (by omega) CON hf53
    have hp84 : 0 ≤ (4 : Int32).toInt := (by decide)
    have hp85 : v1.toInt < z46 := (by omega)
    obtain ⟨_, _, ⟨T86, L86, k86, n86⟩, -, X86, ⟨Lc86, hQ86, l86, y86, z86⟩, st86⟩ := Jvm.LawKit.callS X82 hx (y := (⟨"com/example/commitlog/commitlog/codec/JsonWriterPutIntPinLaw", "untouched", "([BIII)Z"⟩ : MethodName)) hown (mvT hZ (hw _ (List.mem_of_getElem? (i := 70) rfl))) (mvT hZ (hw _ (List.mem_of_getElem? (i := 71) rfl))) (mvT hZ (hw _ (List.mem_of_getElem? (i := 72) rfl))) (mvT hZ (hw _ (List.mem_of_getElem? (i := 73) rfl))) (by decide) (backOf (W := 0) (rm14 l Z A0 hw [] b37_b1_b9_b1 (4 : Int32) v3 v1 z46 f53 T51.heap n0 (Nat.le_trans Z0 K51.1) P54 hp84 hp85) hZ (hw _ (List.mem_of_getElem? (i := 73) rfl)) (hw _ (List.mem_of_getElem? (i := 72) rfl)) (by decide) (by decide)) (g := (mkF m 201 #[.val (.int p0), .val (.int p1), .val (.int p2), .val (.int p3), .val (.int (0 : Int32)), .val (.int v1), .val (.int v3), .val (.ref b6), .val (.ref b37_b1_b9_b1), .val (.int v66)] [(.int v1), (.int v3), (.int (4 : Int32)), (.ref b37_b1_b9_b1)])) rfl (by rw [hml]; rfl) (argsL := [(.ref b37_b1_b9_b1), (.int (4 : Int32)), (.int v3), (.int v1)]) (rest := []) (lenOf pd_11 rfl) rfl (by show 2 * 0 + _ ≤ _; exact Nat.le_of_eq rfl) (hb hby at_201) (fun _ _ => ⟨rfl, e82, (by decide : 4 + 0 ≤ _), (by decide : 43 + 0 ≤ _)⟩)
    dsimp only [Pt.U, Pt.locs, Pt.cells, Pt.slots] at X86 l86 y86 z86 st86 hQ86
    subst l86 y86 z86
    obtain ⟨rfl, N86q, e86⟩ := hQ86
    have N86 := Fr.app N82 N86q
    have hk87 : ¬ ((own_un (4 : Int32) v3 v1 f53) = (0 : Int32)) := own_unF 4 (by decide) v1 v3 p3 _ _ V3.1 (by omega) CON hf53
    have hp88 : 0 ≤ (5 : Int32).toInt := (by decide)
    have hp89 : v1.toInt < z46 := (by omega)
    obtain ⟨_, _, ⟨T90, L90, k90, n90⟩, -, X90, ⟨Lc90, hQ90, l90, y90, z90⟩, st90⟩ := Jvm.LawKit.callS X86 hx (y := (⟨"com/example/commitlog/commitlog/codec/JsonWriterPutIntPinLaw", "untouched", "([BIII)Z"⟩ : MethodName)) hown (mvT hZ (hw _ (List.mem_of_getElem? (i := 70) rfl))) (mvT hZ (hw _ (List.mem_of_getElem? (i := 71) rfl))) (mvT hZ (hw _ (List.mem_of_getElem? (i := 72) rfl))) (mvT hZ (hw _ (List.mem_of_getElem? (i := 73) rfl))) (by decide) (backOf (W := 0) (rm14 l Z A0 hw [] b37_b1_b9_b1 (5 : Int32) v3 v1 z46 f53 T51.heap n0 (Nat.le_trans Z0 K51.1) P54 hp88 hp89) hZ (hw _ (List.mem_of_getElem? (i := 73) rfl)) (hw _ (List.mem_of_getElem? (i := 72) rfl)) (by decide) (by decide)) (g := (mkF m 214 #[.val (.int p0), .val (.int p1), .val (.int p2), .val (.int p3), .val (.int (0 : Int32)), .val (.int v1), .val (.int v3), .val (.ref b6), .val (.ref b37_b1_b9_b1), .val (.int v66)] [(.int v1), (.int v3), (.int (5 : Int32)), (.ref b37_b1_b9_b1)])) rfl (by rw [hml]; rfl) (argsL := [(.ref b37_b1_b9_b1), (.int (5 : Int32)), (.int v3), (.int v1)]) (rest := []) (lenOf pd_11 rfl) rfl (by show 2 * 0 + _ ≤ _; exact Nat.le_of_eq rfl) (hb hby at_214) (fun _ _ => ⟨rfl, e86, (by decide : 4 + 0 ≤ _), (by decide : 43 + 0 ≤ _)⟩)
    dsimp only [Pt.U, Pt.locs, Pt.cells, Pt.slots] at X90 l90 y90 z90 st90 hQ90
    subst l90 y90 z90
    obtain ⟨rfl, N90q, e90⟩ := hQ90
    have N90 := Fr.app N86 N90q
    have hk91 : ¬ ((own_un (5 : Int32) v3 v1 f53) = (0 : Int32)) := own_unF 5 (by decide) v1 v3 p3 _ _ V3.1 (by omega) CON hf53
    have hp92 : 0 ≤ (6 : Int32).toInt := (by decide)
    have hp93 : v1.toInt < z46 := (by omega)
    obtain ⟨_, _, ⟨T94, L94, k94, n94⟩, -, X94, ⟨Lc94, hQ94, l94, y94, z94⟩, st94⟩ := Jvm.LawKit.callS X90 hx (y := (⟨"com/example/commitlog/commitlog/codec/JsonWriterPutIntPinLaw", "untouched", "([BIII)Z"⟩ : MethodName)) hown (mvT hZ (hw _ (List.mem_of_getElem? (i := 70) rfl))) (mvT hZ (hw _ (List.mem_of_getElem? (i := 71) rfl))) (mvT hZ (hw _ (List.mem_of_getElem? (i := 72) rfl))) (mvT hZ (hw _ (List.mem_of_getElem? (i := 73) rfl))) (by decide) (backOf (W := 0) (rm14 l Z A0 hw [] b37_b1_b9_b1 (6 : Int32) v3 v1 z46 f53 T51.heap n0 (Nat.le_trans Z0 K51.1) P54 hp92 hp93) hZ (hw _ (List.mem_of_getElem? (i := 73) rfl)) (hw _ (List.mem_of_getElem? (i := 72) rfl)) (by decide) (by decide)) (g := (mkF m 228 #[.val (.int p0), .val (.int p1), .val (.int p2), .val (.int p3), .val (.int (0 : Int32)), .val (.int v1), .val (.int v3), .val (.ref b6), .val (.ref b37_b1_b9_b1), .val (.int v66)] [(.int v1), (.int v3), (.int (6 : Int32)), (.ref b37_b1_b9_b1)])) rfl (by rw [hml]; rfl) (argsL := [(.ref b37_b1_b9_b1), (.int (6 : Int32)), (.int v3), (.int v1)]) (rest := []) (lenOf pd_11 rfl) rfl (by show 2 * 0 + _ ≤ _; exact Nat.le_of_eq rfl) (hb hby at_228) (fun _ _ => ⟨rfl, e90, (by decide : 4 + 0 ≤ _), (by decide : 43 + 0 ≤ _)⟩)
    dsimp only [Pt.U, Pt.locs, Pt.cells, Pt.slots] at X94 l94 y94 z94 st94 hQ94
    subst l94 y94 z94
    obtain ⟨rfl, N94q, e94⟩ := hQ94
    have N94 := Fr.app N90 N94q
    have hk95 : ¬ ((own_un (6 : Int32) v3 v1 f53) = (0 : Int32)) := own_unF 6 (by decide) v1 v3 p3 _ _ V3.1 (by omega) CON hf53
    have hp96 : 0 ≤ (7 : Int32).toInt := (by decide)
    have hp97 : v1.toInt < z46 := (by omega)
    obtain ⟨_, _, ⟨T98, L98, k98, n98⟩, -, X98, ⟨Lc98, hQ98, l98, y98, z98⟩, st98⟩ := Jvm.LawKit.callS X94 hx (y := (⟨"com/example/commitlog/commitlog/codec/JsonWriterPutIntPinLaw", "untouched", "([BIII)Z"⟩ : MethodName)) hown (mvT hZ (hw _ (List.mem_of_getElem? (i := 70) rfl))) (mvT hZ (hw _ (List.mem_of_getElem? (i := 71) rfl))) (mvT hZ (hw _ (List.mem_of_getElem? (i := 72) rfl))) (mvT hZ (hw _ (List.mem_of_getElem? (i := 73) rfl))) (by decide) (backOf (W := 0) (rm14 l Z A0 hw [] b37_b1_b9_b1 (7 : Int32) v3 v1 z46 f53 T51.heap n0 (Nat.le_trans Z0 K51.1) P54 hp96 hp97) hZ (hw _ (List.mem_of_getElem? (i := 73) rfl)) (hw _ (List.mem_of_getElem? (i := 72) rfl)) (by decide) (by decide)) (g := (mkF m 242 #[.val (.int p0), .val (.int p1), .val (.int p2), .val (.int p3), .val (.int (0 : Int32)), .val (.int v1), .val (.int v3), .val (.ref b6), .val (.ref b37_b1_b9_b1), .val (.int v66)] [(.int v1), (.int v3), (.int (7 : Int32)), (.ref b37_b1_b9_b1)])) rfl (by rw [hml]; rfl) (argsL := [(.ref b37_b1_b9_b1), (.int (7 : Int32)), (.int v3), (.int v1)]) (rest := []) (lenOf pd_11 rfl) rfl (by show 2 * 0 + _ ≤ _; exact Nat.le_of_eq rfl) (hb hby at_242) (fun _ _ => ⟨rfl, e94, (by decide : 4 + 0 ≤ _), (by decide : 43 + 0 ≤ _)⟩)
    dsimp only [Pt.U, Pt.locs, Pt.cells, Pt.slots] at X98 l98 y98 z98 st98 hQ98
    subst l98 y98 z98
    obtain ⟨rfl, N98q, e98⟩ := hQ98
    have N98 := Fr.app N94 N98q
    have hk99 : ¬ ((own_un (7 : Int32) v3 v1 f53) = (0 : Int32)) := own_unF 7 (by decide) v1 v3 p3 _ _ V3.1 (by omega) CON hf53
    obtain ⟨fs, hr, hrun, hended, hW, hsame⟩ := X98.leave (v := some (.int (1 : Int32))) (fun h => by rw [Bd.returns] at h; cases h)
    refine ⟨_, _, pre0 _ (ck5 _ ?_), hrun, hended, _, _, rfl, ?_, ⟨_, rfl⟩, hW, hsame.mono (by decide) (by decide)⟩
    · show Steps p.tables e below (s₁.setTop (mkF m 24 #[.val (.int p0), .val (.int p1), .val (.int p2), .val (.int p3), .val (.int (0 : Int32)), .val (.int v1), .val (.int v3), .unset, .unset, .unset] [])) _
      refine st6 _ ?_
      show Steps p.tables e below (T6.setTop (mkF m 27 #[.val (.int p0), .val (.int p1), .val (.int p2), .val (.int p3), .val (.int (0 : Int32)), .val (.int v1), .val (.int v3), .unset, .unset, .unset] [(.ref b6)])) _
      refine XS.dup X6.here hx rfl (hb hby at_27) rfl rfl ?_
      show Steps p.tables e below (T6.setTop (mkF m 28 #[.val (.int p0), .val (.int p1), .val (.int p2), .val (.int p3), .val (.int (0 : Int32)), .val (.int v1), .val (.int v3), .unset, .unset, .unset] [(.ref b6), (.ref b6)])) _
      refine XS.iload X6.here hx rfl (hb hby at_28) rfl ?_
      show Steps p.tables e below (T6.setTop (mkF m 30 #[.val (.int p0), .val (.int p1), .val (.int p2), .val (.int p3), .val (.int (0 : Int32)), .val (.int v1), .val (.int v3), .unset, .unset, .unset] [(.int (0 : Int32)), (.ref b6), (.ref b6)])) _
      refine st9.trans ?_
      show Steps p.tables e below (T9.setTop (mkF m 33 #[.val (.int p0), .val (.int p1), .val (.int p2), .val (.int p3), .val (.int (0 : Int32)), .val (.int v1), .val (.int v3), .unset, .unset, .unset] [(.ref b6)])) _
      refine XS.astore X9.here hx rfl (hb hby at_33) rfl rfl (l' := #[.val (.int p0), .val (.int p1), .val (.int p2), .val (.int p3), .val (.int (0 : Int32)), .val (.int v1), .val (.int v3), .val (.ref b6), .unset, .unset]) rfl ?_
      show Steps p.tables e below (T9.setTop (mkF m 35 #[.val (.int p0), .val (.int p1), .val (.int p2), .val (.int p3), .val (.int (0 : Int32)), .val (.int v1), .val (.int v3), .val (.ref b6), .unset, .unset] [])) _
      refine XS.aload X9.here hx rfl (hb hby at_35) rfl rfl ?_
      show Steps p.tables e below (T9.setTop (mkF m 37 #[.val (.int p0), .val (.int p1), .val (.int p2), .val (.int p3), .val (.int (0 : Int32)), .val (.int v1), .val (.int v3), .val (.ref b6), .unset, .unset] [(.ref b6)])) _
      refine st22.trans ?_
      show Steps p.tables e below (T22.setTop (mkF m 40 #[.val (.int p0), .val (.int p1), .val (.int p2), .val (.int p3), .val (.int (0 : Int32)), .val (.int v1), .val (.int v3), .val (.ref b6), .unset, .unset] [(.ref b6)])) _
      refine XS.pop X22.here hx rfl (hb hby at_40) rfl rfl ?_
      show Steps p.tables e below (T22.setTop (mkF m 41 #[.val (.int p0), .val (.int p1), .val (.int p2), .val (.int p3), .val (.int (0 : Int32)), .val (.int v1), .val (.int v3), .val (.ref b6), .unset, .unset] [])) _
      refine XS.aload X22.here hx rfl (hb hby at_41) rfl rfl ?_
      show Steps p.tables e below (T22.setTop (mkF m 43 #[.val (.int p0), .val (.int p1), .val (.int p2), .val (.int p3), .val (.int (0 : Int32)), .val (.int v1), .val (.int v3), .val (.ref b6), .unset, .unset] [(.ref b6)])) _
      refine XS.iload X22.here hx rfl (hb hby at_43) rfl ?_
      show Steps p.tables e below (T22.setTop (mkF m 45 #[.val (.int p0), .val (.int p1), .val (.int p2), .val (.int p3), .val (.int (0 : Int32)), .val (.int v1), .val (.int v3), .val (.ref b6), .unset, .unset] [(.int v1), (.ref b6)])) _
      refine st37.trans ?_
      show Steps p.tables e below (T37.setTop (mkF m 48 #[.val (.int p0), .val (.int p1), .val (.int p2), .val (.int p3), .val (.int (0 : Int32)), .val (.int v1), .val (.int v3), .val (.ref b6), .unset, .unset] [(.ref b6)])) _
      refine XS.pop X37.here hx rfl (hb hby at_48) rfl rfl ?_
      show Steps p.tables e below (T37.setTop (mkF m 49 #[.val (.int p0), .val (.int p1), .val (.int p2), .val (.int p3), .val (.int (0 : Int32)), .val (.int v1), .val (.int v3), .val (.ref b6), .unset, .unset] [])) _
      refine XS.aload X37.here hx rfl (hb hby at_49) rfl rfl ?_
      show Steps p.tables e below (T37.setTop (mkF m 51 #[.val (.int p0), .val (.int p1), .val (.int p2), .val (.int p3), .val (.int (0 : Int32)), .val (.int v1), .val (.int v3), .val (.ref b6), .unset, .unset] [(.ref b6)])) _
      refine XS.iload X37.here hx rfl (hb hby at_51) rfl ?_
      show Steps p.tables e below (T37.setTop (mkF m 53 #[.val (.int p0), .val (.int p1), .val (.int p2), .val (.int p3), .val (.int (0 : Int32)), .val (.int v1), .val (.int v3), .val (.ref b6), .unset, .unset] [(.int v3), (.ref b6)])) _
      refine XS.iloadN X37.here hx rfl (hb hby at_53) rfl ?_
      show Steps p.tables e below (T37.setTop (mkF m 54 #[.val (.int p0), .val (.int p1), .val (.int p2), .val (.int p3), .val (.int (0 : Int32)), .val (.int v1), .val (.int v3), .val (.ref b6), .unset, .unset] [(.int p3), (.int v3), (.ref b6)])) _
      refine st51.trans ?_
      show Steps p.tables e below (T51.setTop (mkF m 57 #[.val (.int p0), .val (.int p1), .val (.int p2), .val (.int p3), .val (.int (0 : Int32)), .val (.int v1), .val (.int v3), .val (.ref b6), .unset, .unset] [])) _
      refine XS.aload X51.here hx rfl (hb hby at_57) rfl rfl ?_
      show Steps p.tables e below (T51.setTop (mkF m 59 #[.val (.int p0), .val (.int p1), .val (.int p2), .val (.int p3), .val (.int (0 : Int32)), .val (.int v1), .val (.int v3), .val (.ref b6), .unset, .unset] [(.ref b6)])) _
      refine st59.trans ?_
      show Steps p.tables e below (T59.setTop (mkF m 62 #[.val (.int p0), .val (.int p1), .val (.int p2), .val (.int p3), .val (.int (0 : Int32)), .val (.int v1), .val (.int v3), .val (.ref b6), .unset, .unset] [(.ref b37_b1_b9_b1)])) _
      refine XS.astore X59.here hx rfl (hb hby at_62) rfl rfl (l' := #[.val (.int p0), .val (.int p1), .val (.int p2), .val (.int p3), .val (.int (0 : Int32)), .val (.int v1), .val (.int v3), .val (.ref b6), .val (.ref b37_b1_b9_b1), .unset]) rfl ?_
      show Steps p.tables e below (T59.setTop (mkF m 64 #[.val (.int p0), .val (.int p1), .val (.int p2), .val (.int p3), .val (.int (0 : Int32)), .val (.int v1), .val (.int v3), .val (.ref b6), .val (.ref b37_b1_b9_b1), .unset] [])) _
      refine XS.aload X59.here hx rfl (hb hby at_64) rfl rfl ?_
      show Steps p.tables e below (T59.setTop (mkF m 66 #[.val (.int p0), .val (.int p1), .val (.int p2), .val (.int p3), .val (.int (0 : Int32)), .val (.int v1), .val (.int v3), .val (.ref b6), .val (.ref b37_b1_b9_b1), .unset] [(.ref b6)])) _
      refine st60.trans ?_
      show Steps p.tables e below (T60.setTop (mkF m 69 #[.val (.int p0), .val (.int p1), .val (.int p2), .val (.int p3), .val (.int (0 : Int32)), .val (.int v1), .val (.int v3), .val (.ref b6), .val (.ref b37_b1_b9_b1), .unset] [(.int (((0 : Int32) + (1 : Int32)) + v1))])) _
      refine XS.iload X60.here hx rfl (hb hby at_69) rfl ?_
      show Steps p.tables e below (T60.setTop (mkF m 71 #[.val (.int p0), .val (.int p1), .val (.int p2), .val (.int p3), .val (.int (0 : Int32)), .val (.int v1), .val (.int v3), .val (.ref b6), .val (.ref b37_b1_b9_b1), .unset] [(.int v1), (.int (((0 : Int32) + (1 : Int32)) + v1))])) _
      refine XS.iconst X60.here hx rfl (hb hby at_71) ?_
      show Steps p.tables e below (T60.setTop (mkF m 72 #[.val (.int p0), .val (.int p1), .val (.int p2), .val (.int p3), .val (.int (0 : Int32)), .val (.int v1), .val (.int v3), .val (.ref b6), .val (.ref b37_b1_b9_b1), .unset] [(.int (1 : Int32)), (.int v1), (.int (((0 : Int32) + (1 : Int32)) + v1))])) _
      refine XS.iadd X60.here hx rfl (hb hby at_72) rfl ?_
      show Steps p.tables e below (T60.setTop (mkF m 73 #[.val (.int p0), .val (.int p1), .val (.int p2), .val (.int p3), .val (.int (0 : Int32)), .val (.int v1), .val (.int v3), .val (.ref b6), .val (.ref b37_b1_b9_b1), .unset] [(.int (v1 + (1 : Int32))), (.int (((0 : Int32) + (1 : Int32)) + v1))])) _
      refine XS.icmpYes X60.here hx rfl (pc0 := 73) (pc' := 78) rfl (hb hby at_73) rfl (teq hk61).1 (by decide) (by decide) ?_
      show Steps p.tables e below (T60.setTop (mkF m 78 #[.val (.int p0), .val (.int p1), .val (.int p2), .val (.int p3), .val (.int (0 : Int32)), .val (.int v1), .val (.int v3), .val (.ref b6), .val (.ref b37_b1_b9_b1), .unset] [])) _
      refine XS.aload X60.here hx rfl (hb hby at_78) rfl rfl ?_
      show Steps p.tables e below (T60.setTop (mkF m 80 #[.val (.int p0), .val (.int p1), .val (.int p2), .val (.int p3), .val (.int (0 : Int32)), .val (.int v1), .val (.int v3), .val (.ref b6), .val (.ref b37_b1_b9_b1), .unset] [(.ref b37_b1_b9_b1)])) _
      refine XS.iload X60.here hx rfl (hb hby at_80) rfl ?_
      show Steps p.tables e below (T60.setTop (mkF m 82 #[.val (.int p0), .val (.int p1), .val (.int p2), .val (.int p3), .val (.int (0 : Int32)), .val (.int v1), .val (.int v3), .val (.ref b6), .val (.ref b37_b1_b9_b1), .unset] [(.int v3), (.ref b37_b1_b9_b1)])) _
      refine AF.ldB X60 hx hZ e60 P54 hi62 (g := (mkF m 82 #[.val (.int p0), .val (.int p1), .val (.int p2), .val (.int p3), .val (.int (0 : Int32)), .val (.int v1), .val (.int v3), .val (.ref b6), .val (.ref b37_b1_b9_b1), .unset] [(.int v3), (.ref b37_b1_b9_b1)])) rfl rfl (hb hby at_82) _ ?_
      show Steps p.tables e below (T60.setTop (mkF m 83 #[.val (.int p0), .val (.int p1), .val (.int p2), .val (.int p3), .val (.int (0 : Int32)), .val (.int v1), .val (.int v3), .val (.ref b6), .val (.ref b37_b1_b9_b1), .unset] [(.int (f53 (v3).toNatClampNeg))])) _
      refine XS.sipush X60.here hx rfl (hb hby at_83) ?_
      show Steps p.tables e below (T60.setTop (mkF m 86 #[.val (.int p0), .val (.int p1), .val (.int p2), .val (.int p3), .val (.int (0 : Int32)), .val (.int v1), .val (.int v3), .val (.ref b6), .val (.ref b37_b1_b9_b1), .unset] [(.int (255 : Int32)), (.int (f53 (v3).toNatClampNeg))])) _
      refine XS.iand X60.here hx rfl (hb hby at_86) rfl ?_
      show Steps p.tables e below (T60.setTop (mkF m 87 #[.val (.int p0), .val (.int p1), .val (.int p2), .val (.int p3), .val (.int (0 : Int32)), .val (.int v1), .val (.int v3), .val (.ref b6), .val (.ref b37_b1_b9_b1), .unset] [(.int ((f53 (v3).toNatClampNeg) &&& (255 : Int32)))])) _
      refine XS.bipush X60.here hx rfl (hb hby at_87) ?_
      show Steps p.tables e below (T60.setTop (mkF m 89 #[.val (.int p0), .val (.int p1), .val (.int p2), .val (.int p3), .val (.int (0 : Int32)), .val (.int v1), .val (.int v3), .val (.ref b6), .val (.ref b37_b1_b9_b1), .unset] [(.int (24 : Int32)), (.int ((f53 (v3).toNatClampNeg) &&& (255 : Int32)))])) _
      refine XS.ishl X60.here hx rfl (hb hby at_89) rfl ?_
      show Steps p.tables e below (T60.setTop (mkF m 90 #[.val (.int p0), .val (.int p1), .val (.int p2), .val (.int p3), .val (.int (0 : Int32)), .val (.int v1), .val (.int v3), .val (.ref b6), .val (.ref b37_b1_b9_b1), .unset] [(.int (((f53 (v3).toNatClampNeg) &&& (255 : Int32)) <<< ((24 : Int32) &&& 31)))])) _
      refine XS.aload X60.here hx rfl (hb hby at_90) rfl rfl ?_
      show Steps p.tables e below (T60.setTop (mkF m 92 #[.val (.int p0), .val (.int p1), .val (.int p2), .val (.int p3), .val (.int (0 : Int32)), .val (.int v1), .val (.int v3), .val (.ref b6), .val (.ref b37_b1_b9_b1), .unset] [(.ref b37_b1_b9_b1), (.int (((f53 (v3).toNatClampNeg) &&& (255 : Int32)) <<< ((24 : Int32) &&& 31)))])) _
      refine XS.iload X60.here hx rfl (hb hby at_92) rfl ?_
      show Steps p.tables e below (T60.setTop (mkF m 94 #[.val (.int p0), .val (.int p1), .val (.int p2), .val (.int p3), .val (.int (0 : Int32)), .val (.int v1), .val (.int v3), .val (.ref b6), .val (.ref b37_b1_b9_b1), .unset] [(.int v3), (.ref b37_b1_b9_b1), (.int (((f53 (v3).toNatClampNeg) &&& (255 : Int32)) <<< ((24 : Int32) &&& 31)))])) _
      refine XS.iconst X60.here hx rfl (hb hby at_94) ?_
      show Steps p.tables e below (T60.setTop (mkF m 95 #[.val (.int p0), .val (.int p1), .val (.int p2), .val (.int p3), .val (.int (0 : Int32)), .val (.int v1), .val (.int v3), .val (.ref b6), .val (.ref b37_b1_b9_b1), .unset] [(.int (1 : Int32)), (.int v3), (.ref b37_b1_b9_b1), (.int (((f53 (v3).toNatClampNeg) &&& (255 : Int32)) <<< ((24 : Int32) &&& 31)))])) _
      refine XS.iadd X60.here hx rfl (hb hby at_95) rfl ?_
      show Steps p.tables e below (T60.setTop (mkF m 96 #[.val (.int p0), .val (.int p1), .val (.int p2), .val (.int p3), .val (.int (0 : Int32)), .val (.int v1), .val (.int v3), .val (.ref b6), .val (.ref b37_b1_b9_b1), .unset] [(.int (v3 + (1 : Int32))), (.ref b37_b1_b9_b1), (.int (((f53 (v3).toNatClampNeg) &&& (255 : Int32)) <<< ((24 : Int32) &&& 31)))])) _
      refine AF.ldB X60 hx hZ e60 P54 hi63 (g := (mkF m 96 #[.val (.int p0), .val (.int p1), .val (.int p2), .val (.int p3), .val (.int (0 : Int32)), .val (.int v1), .val (.int v3), .val (.ref b6), .val (.ref b37_b1_b9_b1), .unset] [(.int (v3 + (1 : Int32))), (.ref b37_b1_b9_b1), (.int (((f53 (v3).toNatClampNeg) &&& (255 : Int32)) <<< ((24 : Int32) &&& 31)))])) rfl rfl (hb hby at_96) _ ?_
      show Steps p.tables e below (T60.setTop (mkF m 97 #[.val (.int p0), .val (.int p1), .val (.int p2), .val (.int p3), .val (.int (0 : Int32)), .val (.int v1), .val (.int v3), .val (.ref b6), .val (.ref b37_b1_b9_b1), .unset] [(.int (f53 ((v3 + (1 : Int32))).toNatClampNeg)), (.int (((f53 (v3).toNatClampNeg) &&& (255 : Int32)) <<< ((24 : Int32) &&& 31)))])) _
      refine XS.sipush X60.here hx rfl (hb hby at_97) ?_
      show Steps p.tables e below (T60.setTop (mkF m 100 #[.val (.int p0), .val (.int p1), .val (.int p2), .val (.int p3), .val (.int (0 : Int32)), .val (.int v1), .val (.int v3), .val (.ref b6), .val (.ref b37_b1_b9_b1), .unset] [(.int (255 : Int32)), (.int (f53 ((v3 + (1 : Int32))).toNatClampNeg)), (.int (((f53 (v3).toNatClampNeg) &&& (255 : Int32)) <<< ((24 : Int32) &&& 31)))])) _
      refine XS.iand X60.here hx rfl (hb hby at_100) rfl ?_
      show Steps p.tables e below (T60.setTop (mkF m 101 #[.val (.int p0), .val (.int p1), .val (.int p2), .val (.int p3), .val (.int (0 : Int32)), .val (.int v1), .val (.int v3), .val (.ref b6), .val (.ref b37_b1_b9_b1), .unset] [(.int ((f53 ((v3 + (1 : Int32))).toNatClampNeg) &&& (255 : Int32))), (.int (((f53 (v3).toNatClampNeg) &&& (255 : Int32)) <<< ((24 : Int32) &&& 31)))])) _
      refine XS.bipush X60.here hx rfl (hb hby at_101) ?_
      show Steps p.tables e below (T60.setTop (mkF m 103 #[.val (.int p0), .val (.int p1), .val (.int p2), .val (.int p3), .val (.int (0 : Int32)), .val (.int v1), .val (.int v3), .val (.ref b6), .val (.ref b37_b1_b9_b1), .unset] [(.int (16 : Int32)), (.int ((f53 ((v3 + (1 : Int32))).toNatClampNeg) &&& (255 : Int32))), (.int (((f53 (v3).toNatClampNeg) &&& (255 : Int32)) <<< ((24 : Int32) &&& 31)))])) _
      refine XS.ishl X60.here hx rfl (hb hby at_103) rfl ?_
      show Steps p.tables e below (T60.setTop (mkF m 104 #[.val (.int p0), .val (.int p1), .val (.int p2), .val (.int p3), .val (.int (0 : Int32)), .val (.int v1), .val (.int v3), .val (.ref b6), .val (.ref b37_b1_b9_b1), .unset] [(.int (((f53 ((v3 + (1 : Int32))).toNatClampNeg) &&& (255 : Int32)) <<< ((16 : Int32) &&& 31))), (.int (((f53 (v3).toNatClampNeg) &&& (255 : Int32)) <<< ((24 : Int32) &&& 31)))])) _
      refine XS.ior X60.here hx rfl (hb hby at_104) rfl ?_
      show Steps p.tables e below (T60.setTop (mkF m 105 #[.val (.int p0), .val (.int p1), .val (.int p2), .val (.int p3), .val (.int (0 : Int32)), .val (.int v1), .val (.int v3), .val (.ref b6), .val (.ref b37_b1_b9_b1), .unset] [(.int ((((f53 (v3).toNatClampNeg) &&& (255 : Int32)) <<< ((24 : Int32) &&& 31)) ||| (((f53 ((v3 + (1 : Int32))).toNatClampNeg) &&& (255 : Int32)) <<< ((16 : Int32) &&& 31))))])) _
      refine XS.aload X60.here hx rfl (hb hby at_105) rfl rfl ?_
      show Steps p.tables e below (T60.setTop (mkF m 107 #[.val (.int p0), .val (.int p1), .val (.int p2), .val (.int p3), .val (.int (0 : Int32)), .val (.int v1), .val (.int v3), .val (.ref b6), .val (.ref b37_b1_b9_b1), .unset] [(.ref b37_b1_b9_b1), (.int ((((f53 (v3).toNatClampNeg) &&& (255 : Int32)) <<< ((24 : Int32) &&& 31)) ||| (((f53 ((v3 + (1 : Int32))).toNatClampNeg) &&& (255 : Int32)) <<< ((16 : Int32) &&& 31))))])) _
      refine XS.iload X60.here hx rfl (hb hby at_107) rfl ?_
      show Steps p.tables e below (T60.setTop (mkF m 109 #[.val (.int p0), .val (.int p1), .val (.int p2), .val (.int p3), .val (.int (0 : Int32)), .val (.int v1), .val (.int v3), .val (.ref b6), .val (.ref b37_b1_b9_b1), .unset] [(.int v3), (.ref b37_b1_b9_b1), (.int ((((f53 (v3).toNatClampNeg) &&& (255 : Int32)) <<< ((24 : Int32) &&& 31)) ||| (((f53 ((v3 + (1 : Int32))).toNatClampNeg) &&& (255 : Int32)) <<< ((16 : Int32) &&& 31))))])) _
      refine XS.iconst X60.here hx rfl (hb hby at_109) ?_
      show Steps p.tables e below (T60.setTop (mkF m 110 #[.val (.int p0), .val (.int p1), .val (.int p2), .val (.int p3), .val (.int (0 : Int32)), .val (.int v1), .val (.int v3), .val (.ref b6), .val (.ref b37_b1_b9_b1), .unset] [(.int (2 : Int32)), (.int v3), (.ref b37_b1_b9_b1), (.int ((((f53 (v3).toNatClampNeg) &&& (255 : Int32)) <<< ((24 : Int32) &&& 31)) ||| (((f53 ((v3 + (1 : Int32))).toNatClampNeg) &&& (255 : Int32)) <<< ((16 : Int32) &&& 31))))])) _
      refine XS.iadd X60.here hx rfl (hb hby at_110) rfl ?_
      show Steps p.tables e below (T60.setTop (mkF m 111 #[.val (.int p0), .val (.int p1), .val (.int p2), .val (.int p3), .val (.int (0 : Int32)), .val (.int v1), .val (.int v3), .val (.ref b6), .val (.ref b37_b1_b9_b1), .unset] [(.int (v3 + (2 : Int32))), (.ref b37_b1_b9_b1), (.int ((((f53 (v3).toNatClampNeg) &&& (255 : Int32)) <<< ((24 : Int32) &&& 31)) ||| (((f53 ((v3 + (1 : Int32))).toNatClampNeg) &&& (255 : Int32)) <<< ((16 : Int32) &&& 31))))])) _
      refine AF.ldB X60 hx hZ e60 P54 hi64 (g := (mkF m 111 #[.val (.int p0), .val (.int p1), .val (.int p2), .val (.int p3), .val (.int (0 : Int32)), .val (.int v1), .val (.int v3), .val (.ref b6), .val (.ref b37_b1_b9_b1), .unset] [(.int (v3 + (2 : Int32))), (.ref b37_b1_b9_b1), (.int ((((f53 (v3).toNatClampNeg) &&& (255 : Int32)) <<< ((24 : Int32) &&& 31)) ||| (((f53 ((v3 + (1 : Int32))).toNatClampNeg) &&& (255 : Int32)) <<< ((16 : Int32) &&& 31))))])) rfl rfl (hb hby at_111) _ ?_
      show Steps p.tables e below (T60.setTop (mkF m 112 #[.val (.int p0), .val (.int p1), .val (.int p2), .val (.int p3), .val (.int (0 : Int32)), .val (.int v1), .val (.int v3), .val (.ref b6), .val (.ref b37_b1_b9_b1), .unset] [(.int (f53 ((v3 + (2 : Int32))).toNatClampNeg)), (.int ((((f53 (v3).toNatClampNeg) &&& (255 : Int32)) <<< ((24 : Int32) &&& 31)) ||| (((f53 ((v3 + (1 : Int32))).toNatClampNeg) &&& (255 : Int32)) <<< ((16 : Int32) &&& 31))))])) _
      refine XS.sipush X60.here hx rfl (hb hby at_112) ?_
      show Steps p.tables e below (T60.setTop (mkF m 115 #[.val (.int p0), .val (.int p1), .val (.int p2), .val (.int p3), .val (.int (0 : Int32)), .val (.int v1), .val (.int v3), .val (.ref b6), .val (.ref b37_b1_b9_b1), .unset] [(.int (255 : Int32)), (.int (f53 ((v3 + (2 : Int32))).toNatClampNeg)), (.int ((((f53 (v3).toNatClampNeg) &&& (255 : Int32)) <<< ((24 : Int32) &&& 31)) ||| (((f53 ((v3 + (1 : Int32))).toNatClampNeg) &&& (255 : Int32)) <<< ((16 : Int32) &&& 31))))])) _
      refine XS.iand X60.here hx rfl (hb hby at_115) rfl ?_
      show Steps p.tables e below (T60.setTop (mkF m 116 #[.val (.int p0), .val (.int p1), .val (.int p2), .val (.int p3), .val (.int (0 : Int32)), .val (.int v1), .val (.int v3), .val (.ref b6), .val (.ref b37_b1_b9_b1), .unset] [(.int ((f53 ((v3 + (2 : Int32))).toNatClampNeg) &&& (255 : Int32))), (.int ((((f53 (v3).toNatClampNeg) &&& (255 : Int32)) <<< ((24 : Int32) &&& 31)) ||| (((f53 ((v3 + (1 : Int32))).toNatClampNeg) &&& (255 : Int32)) <<< ((16 : Int32) &&& 31))))])) _
      refine XS.bipush X60.here hx rfl (hb hby at_116) ?_
      show Steps p.tables e below (T60.setTop (mkF m 118 #[.val (.int p0), .val (.int p1), .val (.int p2), .val (.int p3), .val (.int (0 : Int32)), .val (.int v1), .val (.int v3), .val (.ref b6), .val (.ref b37_b1_b9_b1), .unset] [(.int (8 : Int32)), (.int ((f53 ((v3 + (2 : Int32))).toNatClampNeg) &&& (255 : Int32))), (.int ((((f53 (v3).toNatClampNeg) &&& (255 : Int32)) <<< ((24 : Int32) &&& 31)) ||| (((f53 ((v3 + (1 : Int32))).toNatClampNeg) &&& (255 : Int32)) <<< ((16 : Int32) &&& 31))))])) _
      refine XS.ishl X60.here hx rfl (hb hby at_118) rfl ?_
      show Steps p.tables e below (T60.setTop (mkF m 119 #[.val (.int p0), .val (.int p1), .val (.int p2), .val (.int p3), .val (.int (0 : Int32)), .val (.int v1), .val (.int v3), .val (.ref b6), .val (.ref b37_b1_b9_b1), .unset] [(.int (((f53 ((v3 + (2 : Int32))).toNatClampNeg) &&& (255 : Int32)) <<< ((8 : Int32) &&& 31))), (.int ((((f53 (v3).toNatClampNeg) &&& (255 : Int32)) <<< ((24 : Int32) &&& 31)) ||| (((f53 ((v3 + (1 : Int32))).toNatClampNeg) &&& (255 : Int32)) <<< ((16 : Int32) &&& 31))))])) _
      refine XS.ior X60.here hx rfl (hb hby at_119) rfl ?_
      show Steps p.tables e below (T60.setTop (mkF m 120 #[.val (.int p0), .val (.int p1), .val (.int p2), .val (.int p3), .val (.int (0 : Int32)), .val (.int v1), .val (.int v3), .val (.ref b6), .val (.ref b37_b1_b9_b1), .unset] [(.int (((((f53 (v3).toNatClampNeg) &&& (255 : Int32)) <<< ((24 : Int32) &&& 31)) ||| (((f53 ((v3 + (1 : Int32))).toNatClampNeg) &&& (255 : Int32)) <<< ((16 : Int32) &&& 31))) ||| (((f53 ((v3 + (2 : Int32))).toNatClampNeg) &&& (255 : Int32)) <<< ((8 : Int32) &&& 31))))])) _
      refine XS.aload X60.here hx rfl (hb hby at_120) rfl rfl ?_
      show Steps p.tables e below (T60.setTop (mkF m 122 #[.val (.int p0), .val (.int p1), .val (.int p2), .val (.int p3), .val (.int (0 : Int32)), .val (.int v1), .val (.int v3), .val (.ref b6), .val (.ref b37_b1_b9_b1), .unset] [(.ref b37_b1_b9_b1), (.int (((((f53 (v3).toNatClampNeg) &&& (255 : Int32)) <<< ((24 : Int32) &&& 31)) ||| (((f53 ((v3 + (1 : Int32))).toNatClampNeg) &&& (255 : Int32)) <<< ((16 : Int32) &&& 31))) ||| (((f53 ((v3 + (2 : Int32))).toNatClampNeg) &&& (255 : Int32)) <<< ((8 : Int32) &&& 31))))])) _
      refine XS.iload X60.here hx rfl (hb hby at_122) rfl ?_
      show Steps p.tables e below (T60.setTop (mkF m 124 #[.val (.int p0), .val (.int p1), .val (.int p2), .val (.int p3), .val (.int (0 : Int32)), .val (.int v1), .val (.int v3), .val (.ref b6), .val (.ref b37_b1_b9_b1), .unset] [(.int v3), (.ref b37_b1_b9_b1), (.int (((((f53 (v3).toNatClampNeg) &&& (255 : Int32)) <<< ((24 : Int32) &&& 31)) ||| (((f53 ((v3 + (1 : Int32))).toNatClampNeg) &&& (255 : Int32)) <<< ((16 : Int32) &&& 31))) ||| (((f53 ((v3 + (2 : Int32))).toNatClampNeg) &&& (255 : Int32)) <<< ((8 : Int32) &&& 31))))])) _
      refine XS.iconst X60.here hx rfl (hb hby at_124) ?_
      show Steps p.tables e below (T60.setTop (mkF m 125 #[.val (.int p0), .val (.int p1), .val (.int p2), .val (.int p3), .val (.int (0 : Int32)), .val (.int v1), .val (.int v3), .val (.ref b6), .val (.ref b37_b1_b9_b1), .unset] [(.int (3 : Int32)), (.int v3), (.ref b37_b1_b9_b1), (.int (((((f53 (v3).toNatClampNeg) &&& (255 : Int32)) <<< ((24 : Int32) &&& 31)) ||| (((f53 ((v3 + (1 : Int32))).toNatClampNeg) &&& (255 : Int32)) <<< ((16 : Int32) &&& 31))) ||| (((f53 ((v3 + (2 : Int32))).toNatClampNeg) &&& (255 : Int32)) <<< ((8 : Int32) &&& 31))))])) _
      refine XS.iadd X60.here hx rfl (hb hby at_125) rfl ?_
      show Steps p.tables e below (T60.setTop (mkF m 126 #[.val (.int p0), .val (.int p1), .val (.int p2), .val (.int p3), .val (.int (0 : Int32)), .val (.int v1), .val (.int v3), .val (.ref b6), .val (.ref b37_b1_b9_b1), .unset] [(.int (v3 + (3 : Int32))), (.ref b37_b1_b9_b1), (.int (((((f53 (v3).toNatClampNeg) &&& (255 : Int32)) <<< ((24 : Int32) &&& 31)) ||| (((f53 ((v3 + (1 : Int32))).toNatClampNeg) &&& (255 : Int32)) <<< ((16 : Int32) &&& 31))) ||| (((f53 ((v3 + (2 : Int32))).toNatClampNeg) &&& (255 : Int32)) <<< ((8 : Int32) &&& 31))))])) _
      refine AF.ldB X60 hx hZ e60 P54 hi65 (g := (mkF m 126 #[.val (.int p0), .val (.int p1), .val (.int p2), .val (.int p3), .val (.int (0 : Int32)), .val (.int v1), .val (.int v3), .val (.ref b6), .val (.ref b37_b1_b9_b1), .unset] [(.int (v3 + (3 : Int32))), (.ref b37_b1_b9_b1), (.int (((((f53 (v3).toNatClampNeg) &&& (255 : Int32)) <<< ((24 : Int32) &&& 31)) ||| (((f53 ((v3 + (1 : Int32))).toNatClampNeg) &&& (255 : Int32)) <<< ((16 : Int32) &&& 31))) ||| (((f53 ((v3 + (2 : Int32))).toNatClampNeg) &&& (255 : Int32)) <<< ((8 : Int32) &&& 31))))])) rfl rfl (hb hby at_126) _ ?_
      show Steps p.tables e below (T60.setTop (mkF m 127 #[.val (.int p0), .val (.int p1), .val (.int p2), .val (.int p3), .val (.int (0 : Int32)), .val (.int v1), .val (.int v3), .val (.ref b6), .val (.ref b37_b1_b9_b1), .unset] [(.int (f53 ((v3 + (3 : Int32))).toNatClampNeg)), (.int (((((f53 (v3).toNatClampNeg) &&& (255 : Int32)) <<< ((24 : Int32) &&& 31)) ||| (((f53 ((v3 + (1 : Int32))).toNatClampNeg) &&& (255 : Int32)) <<< ((16 : Int32) &&& 31))) ||| (((f53 ((v3 + (2 : Int32))).toNatClampNeg) &&& (255 : Int32)) <<< ((8 : Int32) &&& 31))))])) _
      refine XS.sipush X60.here hx rfl (hb hby at_127) ?_
      show Steps p.tables e below (T60.setTop (mkF m 130 #[.val (.int p0), .val (.int p1), .val (.int p2), .val (.int p3), .val (.int (0 : Int32)), .val (.int v1), .val (.int v3), .val (.ref b6), .val (.ref b37_b1_b9_b1), .unset] [(.int (255 : Int32)), (.int (f53 ((v3 + (3 : Int32))).toNatClampNeg)), (.int (((((f53 (v3).toNatClampNeg) &&& (255 : Int32)) <<< ((24 : Int32) &&& 31)) ||| (((f53 ((v3 + (1 : Int32))).toNatClampNeg) &&& (255 : Int32)) <<< ((16 : Int32) &&& 31))) ||| (((f53 ((v3 + (2 : Int32))).toNatClampNeg) &&& (255 : Int32)) <<< ((8 : Int32) &&& 31))))])) _
      refine XS.iand X60.here hx rfl (hb hby at_130) rfl ?_
      show Steps p.tables e below (T60.setTop (mkF m 131 #[.val (.int p0), .val (.int p1), .val (.int p2), .val (.int p3), .val (.int (0 : Int32)), .val (.int v1), .val (.int v3), .val (.ref b6), .val (.ref b37_b1_b9_b1), .unset] [(.int ((f53 ((v3 + (3 : Int32))).toNatClampNeg) &&& (255 : Int32))), (.int (((((f53 (v3).toNatClampNeg) &&& (255 : Int32)) <<< ((24 : Int32) &&& 31)) ||| (((f53 ((v3 + (1 : Int32))).toNatClampNeg) &&& (255 : Int32)) <<< ((16 : Int32) &&& 31))) ||| (((f53 ((v3 + (2 : Int32))).toNatClampNeg) &&& (255 : Int32)) <<< ((8 : Int32) &&& 31))))])) _
      refine XS.ior X60.here hx rfl (hb hby at_131) rfl ?_
      show Steps p.tables e below (T60.setTop (mkF m 132 #[.val (.int p0), .val (.int p1), .val (.int p2), .val (.int p3), .val (.int (0 : Int32)), .val (.int v1), .val (.int v3), .val (.ref b6), .val (.ref b37_b1_b9_b1), .unset] [(.int ((((((f53 (v3).toNatClampNeg) &&& (255 : Int32)) <<< ((24 : Int32) &&& 31)) ||| (((f53 ((v3 + (1 : Int32))).toNatClampNeg) &&& (255 : Int32)) <<< ((16 : Int32) &&& 31))) ||| (((f53 ((v3 + (2 : Int32))).toNatClampNeg) &&& (255 : Int32)) <<< ((8 : Int32) &&& 31))) ||| ((f53 ((v3 + (3 : Int32))).toNatClampNeg) &&& (255 : Int32))))])) _
      refine castTop (g' := (mkF m 132 #[.val (.int p0), .val (.int p1), .val (.int p2), .val (.int p3), .val (.int (0 : Int32)), .val (.int v1), .val (.int v3), .val (.ref b6), .val (.ref b37_b1_b9_b1), .unset] [(.int v66)])) (by rw [hv66] <;> rfl) ?_
      show Steps p.tables e below (T60.setTop (mkF m 132 #[.val (.int p0), .val (.int p1), .val (.int p2), .val (.int p3), .val (.int (0 : Int32)), .val (.int v1), .val (.int v3), .val (.ref b6), .val (.ref b37_b1_b9_b1), .unset] [(.int v66)])) _
      refine XS.istore X60.here hx rfl (hb hby at_132) rfl (l' := #[.val (.int p0), .val (.int p1), .val (.int p2), .val (.int p3), .val (.int (0 : Int32)), .val (.int v1), .val (.int v3), .val (.ref b6), .val (.ref b37_b1_b9_b1), .val (.int v66)]) rfl ?_
      show Steps p.tables e below (T60.setTop (mkF m 134 #[.val (.int p0), .val (.int p1), .val (.int p2), .val (.int p3), .val (.int (0 : Int32)), .val (.int v1), .val (.int v3), .val (.ref b6), .val (.ref b37_b1_b9_b1), .val (.int v66)] [])) _
      refine XS.iload X60.here hx rfl (hb hby at_134) rfl ?_
      show Steps p.tables e below (T60.setTop (mkF m 136 #[.val (.int p0), .val (.int p1), .val (.int p2), .val (.int p3), .val (.int (0 : Int32)), .val (.int v1), .val (.int v3), .val (.ref b6), .val (.ref b37_b1_b9_b1), .val (.int v66)] [(.int v66)])) _
      refine XS.iloadN X60.here hx rfl (hb hby at_136) rfl ?_
      show Steps p.tables e below (T60.setTop (mkF m 137 #[.val (.int p0), .val (.int p1), .val (.int p2), .val (.int p3), .val (.int (0 : Int32)), .val (.int v1), .val (.int v3), .val (.ref b6), .val (.ref b37_b1_b9_b1), .val (.int v66)] [(.int p3), (.int v66)])) _
      refine XS.icmpYes X60.here hx rfl (pc0 := 137) (pc' := 142) rfl (hb hby at_137) rfl (teq hk67).1 (by decide) (by decide) ?_
      show Steps p.tables e below (T60.setTop (mkF m 142 #[.val (.int p0), .val (.int p1), .val (.int p2), .val (.int p3), .val (.int (0 : Int32)), .val (.int v1), .val (.int v3), .val (.ref b6), .val (.ref b37_b1_b9_b1), .val (.int v66)] [])) _
      refine XS.aload X60.here hx rfl (hb hby at_142) rfl rfl ?_
      show Steps p.tables e below (T60.setTop (mkF m 144 #[.val (.int p0), .val (.int p1), .val (.int p2), .val (.int p3), .val (.int (0 : Int32)), .val (.int v1), .val (.int v3), .val (.ref b6), .val (.ref b37_b1_b9_b1), .val (.int v66)] [(.ref b37_b1_b9_b1)])) _
      refine XS.iconst X60.here hx rfl (hb hby at_144) ?_
      show Steps p.tables e below (T60.setTop (mkF m 145 #[.val (.int p0), .val (.int p1), .val (.int p2), .val (.int p3), .val (.int (0 : Int32)), .val (.int v1), .val (.int v3), .val (.ref b6), .val (.ref b37_b1_b9_b1), .val (.int v66)] [(.int (0 : Int32)), (.ref b37_b1_b9_b1)])) _
      refine XS.iload X60.here hx rfl (hb hby at_145) rfl ?_
      show Steps p.tables e below (T60.setTop (mkF m 147 #[.val (.int p0), .val (.int p1), .val (.int p2), .val (.int p3), .val (.int (0 : Int32)), .val (.int v1), .val (.int v3), .val (.ref b6), .val (.ref b37_b1_b9_b1), .val (.int v66)] [(.int v3), (.int (0 : Int32)), (.ref b37_b1_b9_b1)])) _
      refine XS.iload X60.here hx rfl (hb hby at_147) rfl ?_
      show Steps p.tables e below (T60.setTop (mkF m 149 #[.val (.int p0), .val (.int p1), .val (.int p2), .val (.int p3), .val (.int (0 : Int32)), .val (.int v1), .val (.int v3), .val (.ref b6), .val (.ref b37_b1_b9_b1), .val (.int v66)] [(.int v1), (.int v3), (.int (0 : Int32)), (.ref b37_b1_b9_b1)])) _
      refine st70 _ ?_
      show Steps p.tables e below (T70.setTop (mkF m 152 #[.val (.int p0), .val (.int p1), .val (.int p2), .val (.int p3), .val (.int (0 : Int32)), .val (.int v1), .val (.int v3), .val (.ref b6), .val (.ref b37_b1_b9_b1), .val (.int v66)] [(.int (own_un (0 : Int32) v3 v1 f53))])) _
      refine XS.ifNo X70.here hx rfl (hb hby at_152) rfl ((if0 _ _).trans (feq hk71).1) ?_
      show Steps p.tables e below (T70.setTop (mkF m 155 #[.val (.int p0), .val (.int p1), .val (.int p2), .val (.int p3), .val (.int (0 : Int32)), .val (.int v1), .val (.int v3), .val (.ref b6), .val (.ref b37_b1_b9_b1), .val (.int v66)] [])) _
      refine XS.aload X70.here hx rfl (hb hby at_155) rfl rfl ?_
      show Steps p.tables e below (T70.setTop (mkF m 157 #[.val (.int p0), .val (.int p1), .val (.int p2), .val (.int p3), .val (.int (0 : Int32)), .val (.int v1), .val (.int v3), .val (.ref b6), .val (.ref b37_b1_b9_b1), .val (.int v66)] [(.ref b37_b1_b9_b1)])) _
      refine XS.iconst X70.here hx rfl (hb hby at_157) ?_
      show Steps p.tables e below (T70.setTop (mkF m 158 #[.val (.int p0), .val (.int p1), .val (.int p2), .val (.int p3), .val (.int (0 : Int32)), .val (.int v1), .val (.int v3), .val (.ref b6), .val (.ref b37_b1_b9_b1), .val (.int v66)] [(.int (1 : Int32)), (.ref b37_b1_b9_b1)])) _
      refine XS.iload X70.here hx rfl (hb hby at_158) rfl ?_
      show Steps p.tables e below (T70.setTop (mkF m 160 #[.val (.int p0), .val (.int p1), .val (.int p2), .val (.int p3), .val (.int (0 : Int32)), .val (.int v1), .val (.int v3), .val (.ref b6), .val (.ref b37_b1_b9_b1), .val (.int v66)] [(.int v3), (.int (1 : Int32)), (.ref b37_b1_b9_b1)])) _
      refine XS.iload X70.here hx rfl (hb hby at_160) rfl ?_
      show Steps p.tables e below (T70.setTop (mkF m 162 #[.val (.int p0), .val (.int p1), .val (.int p2), .val (.int p3), .val (.int (0 : Int32)), .val (.int v1), .val (.int v3), .val (.ref b6), .val (.ref b37_b1_b9_b1), .val (.int v66)] [(.int v1), (.int v3), (.int (1 : Int32)), (.ref b37_b1_b9_b1)])) _
      refine st74 _ ?_
      show Steps p.tables e below (T74.setTop (mkF m 165 #[.val (.int p0), .val (.int p1), .val (.int p2), .val (.int p3), .val (.int (0 : Int32)), .val (.int v1), .val (.int v3), .val (.ref b6), .val (.ref b37_b1_b9_b1), .val (.int v66)] [(.int (own_un (1 : Int32) v3 v1 f53))])) _
      refine XS.ifNo X74.here hx rfl (hb hby at_165) rfl ((if0 _ _).trans (feq hk75).1) ?_
      show Steps p.tables e below (T74.setTop (mkF m 168 #[.val (.int p0), .val (.int p1), .val (.int p2), .val (.int p3), .val (.int (0 : Int32)), .val (.int v1), .val (.int v3), .val (.ref b6), .val (.ref b37_b1_b9_b1), .val (.int v66)] [])) _
      refine XS.aload X74.here hx rfl (hb hby at_168) rfl rfl ?_
      show Steps p.tables e below (T74.setTop (mkF m 170 #[.val (.int p0), .val (.int p1), .val (.int p2), .val (.int p3), .val (.int (0 : Int32)), .val (.int v1), .val (.int v3), .val (.ref b6), .val (.ref b37_b1_b9_b1), .val (.int v66)] [(.ref b37_b1_b9_b1)])) _
      refine XS.iconst X74.here hx rfl (hb hby at_170) ?_
      show Steps p.tables e below (T74.setTop (mkF m 171 #[.val (.int p0), .val (.int p1), .val (.int p2), .val (.int p3), .val (.int (0 : Int32)), .val (.int v1), .val (.int v3), .val (.ref b6), .val (.ref b37_b1_b9_b1), .val (.int v66)] [(.int (2 : Int32)), (.ref b37_b1_b9_b1)])) _
      refine XS.iload X74.here hx rfl (hb hby at_171) rfl ?_
      show Steps p.tables e below (T74.setTop (mkF m 173 #[.val (.int p0), .val (.int p1), .val (.int p2), .val (.int p3), .val (.int (0 : Int32)), .val (.int v1), .val (.int v3), .val (.ref b6), .val (.ref b37_b1_b9_b1), .val (.int v66)] [(.int v3), (.int (2 : Int32)), (.ref b37_b1_b9_b1)])) _
      refine XS.iload X74.here hx rfl (hb hby at_173) rfl ?_
      show Steps p.tables e below (T74.setTop (mkF m 175 #[.val (.int p0), .val (.int p1), .val (.int p2), .val (.int p3), .val (.int (0 : Int32)), .val (.int v1), .val (.int v3), .val (.ref b6), .val (.ref b37_b1_b9_b1), .val (.int v66)] [(.int v1), (.int v3), (.int (2 : Int32)), (.ref b37_b1_b9_b1)])) _
      refine st78 _ ?_
      show Steps p.tables e below (T78.setTop (mkF m 178 #[.val (.int p0), .val (.int p1), .val (.int p2), .val (.int p3), .val (.int (0 : Int32)), .val (.int v1), .val (.int v3), .val (.ref b6), .val (.ref b37_b1_b9_b1), .val (.int v66)] [(.int (own_un (2 : Int32) v3 v1 f53))])) _
      refine XS.ifNo X78.here hx rfl (hb hby at_178) rfl ((if0 _ _).trans (feq hk79).1) ?_
      show Steps p.tables e below (T78.setTop (mkF m 181 #[.val (.int p0), .val (.int p1), .val (.int p2), .val (.int p3), .val (.int (0 : Int32)), .val (.int v1), .val (.int v3), .val (.ref b6), .val (.ref b37_b1_b9_b1), .val (.int v66)] [])) _
      refine XS.aload X78.here hx rfl (hb hby at_181) rfl rfl ?_
      show Steps p.tables e below (T78.setTop (mkF m 183 #[.val (.int p0), .val (.int p1), .val (.int p2), .val (.int p3), .val (.int (0 : Int32)), .val (.int v1), .val (.int v3), .val (.ref b6), .val (.ref b37_b1_b9_b1), .val (.int v66)] [(.ref b37_b1_b9_b1)])) _
      refine XS.iconst X78.here hx rfl (hb hby at_183) ?_
      show Steps p.tables e below (T78.setTop (mkF m 184 #[.val (.int p0), .val (.int p1), .val (.int p2), .val (.int p3), .val (.int (0 : Int32)), .val (.int v1), .val (.int v3), .val (.ref b6), .val (.ref b37_b1_b9_b1), .val (.int v66)] [(.int (3 : Int32)), (.ref b37_b1_b9_b1)])) _
      refine XS.iload X78.here hx rfl (hb hby at_184) rfl ?_
      show Steps p.tables e below (T78.setTop (mkF m 186 #[.val (.int p0), .val (.int p1), .val (.int p2), .val (.int p3), .val (.int (0 : Int32)), .val (.int v1), .val (.int v3), .val (.ref b6), .val (.ref b37_b1_b9_b1), .val (.int v66)] [(.int v3), (.int (3 : Int32)), (.ref b37_b1_b9_b1)])) _
      refine XS.iload X78.here hx rfl (hb hby at_186) rfl ?_
      show Steps p.tables e below (T78.setTop (mkF m 188 #[.val (.int p0), .val (.int p1), .val (.int p2), .val (.int p3), .val (.int (0 : Int32)), .val (.int v1), .val (.int v3), .val (.ref b6), .val (.ref b37_b1_b9_b1), .val (.int v66)] [(.int v1), (.int v3), (.int (3 : Int32)), (.ref b37_b1_b9_b1)])) _
      refine st82 _ ?_
      show Steps p.tables e below (T82.setTop (mkF m 191 #[.val (.int p0), .val (.int p1), .val (.int p2), .val (.int p3), .val (.int (0 : Int32)), .val (.int v1), .val (.int v3), .val (.ref b6), .val (.ref b37_b1_b9_b1), .val (.int v66)] [(.int (own_un (3 : Int32) v3 v1 f53))])) _
      refine XS.ifNo X82.here hx rfl (hb hby at_191) rfl ((if0 _ _).trans (feq hk83).1) ?_
      show Steps p.tables e below (T82.setTop (mkF m 194 #[.val (.int p0), .val (.int p1), .val (.int p2), .val (.int p3), .val (.int (0 : Int32)), .val (.int v1), .val (.int v3), .val (.ref b6), .val (.ref b37_b1_b9_b1), .val (.int v66)] [])) _
      refine XS.aload X82.here hx rfl (hb hby at_194) rfl rfl ?_
      show Steps p.tables e below (T82.setTop (mkF m 196 #[.val (.int p0), .val (.int p1), .val (.int p2), .val (.int p3), .val (.int (0 : Int32)), .val (.int v1), .val (.int v3), .val (.ref b6), .val (.ref b37_b1_b9_b1), .val (.int v66)] [(.ref b37_b1_b9_b1)])) _
      refine XS.iconst X82.here hx rfl (hb hby at_196) ?_
      show Steps p.tables e below (T82.setTop (mkF m 197 #[.val (.int p0), .val (.int p1), .val (.int p2), .val (.int p3), .val (.int (0 : Int32)), .val (.int v1), .val (.int v3), .val (.ref b6), .val (.ref b37_b1_b9_b1), .val (.int v66)] [(.int (4 : Int32)), (.ref b37_b1_b9_b1)])) _
      refine XS.iload X82.here hx rfl (hb hby at_197) rfl ?_
      show Steps p.tables e below (T82.setTop (mkF m 199 #[.val (.int p0), .val (.int p1), .val (.int p2), .val (.int p3), .val (.int (0 : Int32)), .val (.int v1), .val (.int v3), .val (.ref b6), .val (.ref b37_b1_b9_b1), .val (.int v66)] [(.int v3), (.int (4 : Int32)), (.ref b37_b1_b9_b1)])) _
      refine XS.iload X82.here hx rfl (hb hby at_199) rfl ?_
      show Steps p.tables e below (T82.setTop (mkF m 201 #[.val (.int p0), .val (.int p1), .val (.int p2), .val (.int p3), .val (.int (0 : Int32)), .val (.int v1), .val (.int v3), .val (.ref b6), .val (.ref b37_b1_b9_b1), .val (.int v66)] [(.int v1), (.int v3), (.int (4 : Int32)), (.ref b37_b1_b9_b1)])) _
      refine st86 _ ?_
      show Steps p.tables e below (T86.setTop (mkF m 204 #[.val (.int p0), .val (.int p1), .val (.int p2), .val (.int p3), .val (.int (0 : Int32)), .val (.int v1), .val (.int v3), .val (.ref b6), .val (.ref b37_b1_b9_b1), .val (.int v66)] [(.int (own_un (4 : Int32) v3 v1 f53))])) _
      refine XS.ifNo X86.here hx rfl (hb hby at_204) rfl ((if0 _ _).trans (feq hk87).1) ?_
      show Steps p.tables e below (T86.setTop (mkF m 207 #[.val (.int p0), .val (.int p1), .val (.int p2), .val (.int p3), .val (.int (0 : Int32)), .val (.int v1), .val (.int v3), .val (.ref b6), .val (.ref b37_b1_b9_b1), .val (.int v66)] [])) _
      refine XS.aload X86.here hx rfl (hb hby at_207) rfl rfl ?_
      show Steps p.tables e below (T86.setTop (mkF m 209 #[.val (.int p0), .val (.int p1), .val (.int p2), .val (.int p3), .val (.int (0 : Int32)), .val (.int v1), .val (.int v3), .val (.ref b6), .val (.ref b37_b1_b9_b1), .val (.int v66)] [(.ref b37_b1_b9_b1)])) _
      refine XS.iconst X86.here hx rfl (hb hby at_209) ?_
      show Steps p.tables e below (T86.setTop (mkF m 210 #[.val (.int p0), .val (.int p1), .val (.int p2), .val (.int p3), .val (.int (0 : Int32)), .val (.int v1), .val (.int v3), .val (.ref b6), .val (.ref b37_b1_b9_b1), .val (.int v66)] [(.int (5 : Int32)), (.ref b37_b1_b9_b1)])) _
      refine XS.iload X86.here hx rfl (hb hby at_210) rfl ?_
      show Steps p.tables e below (T86.setTop (mkF m 212 #[.val (.int p0), .val (.int p1), .val (.int p2), .val (.int p3), .val (.int (0 : Int32)), .val (.int v1), .val (.int v3), .val (.ref b6), .val (.ref b37_b1_b9_b1), .val (.int v66)] [(.int v3), (.int (5 : Int32)), (.ref b37_b1_b9_b1)])) _
      refine XS.iload X86.here hx rfl (hb hby at_212) rfl ?_
      show Steps p.tables e below (T86.setTop (mkF m 214 #[.val (.int p0), .val (.int p1), .val (.int p2), .val (.int p3), .val (.int (0 : Int32)), .val (.int v1), .val (.int v3), .val (.ref b6), .val (.ref b37_b1_b9_b1), .val (.int v66)] [(.int v1), (.int v3), (.int (5 : Int32)), (.ref b37_b1_b9_b1)])) _
      refine st90 _ ?_
      show Steps p.tables e below (T90.setTop (mkF m 217 #[.val (.int p0), .val (.int p1), .val (.int p2), .val (.int p3), .val (.int (0 : Int32)), .val (.int v1), .val (.int v3), .val (.ref b6), .val (.ref b37_b1_b9_b1), .val (.int v66)] [(.int (own_un (5 : Int32) v3 v1 f53))])) _
      refine XS.ifNo X90.here hx rfl (hb hby at_217) rfl ((if0 _ _).trans (feq hk91).1) ?_
      show Steps p.tables e below (T90.setTop (mkF m 220 #[.val (.int p0), .val (.int p1), .val (.int p2), .val (.int p3), .val (.int (0 : Int32)), .val (.int v1), .val (.int v3), .val (.ref b6), .val (.ref b37_b1_b9_b1), .val (.int v66)] [])) _
      refine XS.aload X90.here hx rfl (hb hby at_220) rfl rfl ?_
      show Steps p.tables e below (T90.setTop (mkF m 222 #[.val (.int p0), .val (.int p1), .val (.int p2), .val (.int p3), .val (.int (0 : Int32)), .val (.int v1), .val (.int v3), .val (.ref b6), .val (.ref b37_b1_b9_b1), .val (.int v66)] [(.ref b37_b1_b9_b1)])) _
      refine XS.bipush X90.here hx rfl (hb hby at_222) ?_
      show Steps p.tables e below (T90.setTop (mkF m 224 #[.val (.int p0), .val (.int p1), .val (.int p2), .val (.int p3), .val (.int (0 : Int32)), .val (.int v1), .val (.int v3), .val (.ref b6), .val (.ref b37_b1_b9_b1), .val (.int v66)] [(.int (6 : Int32)), (.ref b37_b1_b9_b1)])) _
      refine XS.iload X90.here hx rfl (hb hby at_224) rfl ?_
      show Steps p.tables e below (T90.setTop (mkF m 226 #[.val (.int p0), .val (.int p1), .val (.int p2), .val (.int p3), .val (.int (0 : Int32)), .val (.int v1), .val (.int v3), .val (.ref b6), .val (.ref b37_b1_b9_b1), .val (.int v66)] [(.int v3), (.int (6 : Int32)), (.ref b37_b1_b9_b1)])) _
      refine XS.iload X90.here hx rfl (hb hby at_226) rfl ?_
      show Steps p.tables e below (T90.setTop (mkF m 228 #[.val (.int p0), .val (.int p1), .val (.int p2), .val (.int p3), .val (.int (0 : Int32)), .val (.int v1), .val (.int v3), .val (.ref b6), .val (.ref b37_b1_b9_b1), .val (.int v66)] [(.int v1), (.int v3), (.int (6 : Int32)), (.ref b37_b1_b9_b1)])) _
      refine st94 _ ?_
      show Steps p.tables e below (T94.setTop (mkF m 231 #[.val (.int p0), .val (.int p1), .val (.int p2), .val (.int p3), .val (.int (0 : Int32)), .val (.int v1), .val (.int v3), .val (.ref b6), .val (.ref b37_b1_b9_b1), .val (.int v66)] [(.int (own_un (6 : Int32) v3 v1 f53))])) _
      refine XS.ifNo X94.here hx rfl (hb hby at_231) rfl ((if0 _ _).trans (feq hk95).1) ?_
      show Steps p.tables e below (T94.setTop (mkF m 234 #[.val (.int p0), .val (.int p1), .val (.int p2), .val (.int p3), .val (.int (0 : Int32)), .val (.int v1), .val (.int v3), .val (.ref b6), .val (.ref b37_b1_b9_b1), .val (.int v66)] [])) _
      refine XS.aload X94.here hx rfl (hb hby at_234) rfl rfl ?_
      show Steps p.tables e below (T94.setTop (mkF m 236 #[.val (.int p0), .val (.int p1), .val (.int p2), .val (.int p3), .val (.int (0 : Int32)), .val (.int v1), .val (.int v3), .val (.ref b6), .val (.ref b37_b1_b9_b1), .val (.int v66)] [(.ref b37_b1_b9_b1)])) _
      refine XS.bipush X94.here hx rfl (hb hby at_236) ?_
      show Steps p.tables e below (T94.setTop (mkF m 238 #[.val (.int p0), .val (.int p1), .val (.int p2), .val (.int p3), .val (.int (0 : Int32)), .val (.int v1), .val (.int v3), .val (.ref b6), .val (.ref b37_b1_b9_b1), .val (.int v66)] [(.int (7 : Int32)), (.ref b37_b1_b9_b1)])) _
      refine XS.iload X94.here hx rfl (hb hby at_238) rfl ?_
      show Steps p.tables e below (T94.setTop (mkF m 240 #[.val (.int p0), .val (.int p1), .val (.int p2), .val (.int p3), .val (.int (0 : Int32)), .val (.int v1), .val (.int v3), .val (.ref b6), .val (.ref b37_b1_b9_b1), .val (.int v66)] [(.int v3), (.int (7 : Int32)), (.ref b37_b1_b9_b1)])) _
      refine XS.iload X94.here hx rfl (hb hby at_240) rfl ?_
      show Steps p.tables e below (T94.setTop (mkF m 242 #[.val (.int p0), .val (.int p1), .val (.int p2), .val (.int p3), .val (.int (0 : Int32)), .val (.int v1), .val (.int v3), .val (.ref b6), .val (.ref b37_b1_b9_b1), .val (.int v66)] [(.int v1), (.int v3), (.int (7 : Int32)), (.ref b37_b1_b9_b1)])) _
      refine st98 _ ?_
      show Steps p.tables e below (T98.setTop (mkF m 245 #[.val (.int p0), .val (.int p1), .val (.int p2), .val (.int p3), .val (.int (0 : Int32)), .val (.int v1), .val (.int v3), .val (.ref b6), .val (.ref b37_b1_b9_b1), .val (.int v66)] [(.int (own_un (7 : Int32) v3 v1 f53))])) _
      refine XS.ifNo X98.here hx rfl (hb hby at_245) rfl ((if0 _ _).trans (feq hk99).1) ?_
      show Steps p.tables e below (T98.setTop (mkF m 248 #[.val (.int p0), .val (.int p1), .val (.int p2), .val (.int p3), .val (.int (0 : Int32)), .val (.int v1), .val (.int v3), .val (.ref b6), .val (.ref b37_b1_b9_b1), .val (.int v66)] [])) _
      refine XS.iconst X98.here hx rfl (hb hby at_248) ?_
      show Steps p.tables e below (T98.setTop (mkF m 249 #[.val (.int p0), .val (.int p1), .val (.int p2), .val (.int p3), .val (.int (0 : Int32)), .val (.int v1), .val (.int v3), .val (.ref b6), .val (.ref b37_b1_b9_b1), .val (.int v66)] [(.int (1 : Int32))])) _
      refine XS.goto X98.here hx rfl (pc0 := 249) (pc' := 253) rfl (hb hby at_249) (by decide) (by decide) ?_
      show Steps p.tables e below (T98.setTop (mkF m 253 #[.val (.int p0), .val (.int p1), .val (.int p2), .val (.int p3), .val (.int (0 : Int32)), .val (.int v1), .val (.int v3), .val (.ref b6), .val (.ref b37_b1_b9_b1), .val (.int v66)] [(.int (1 : Int32))])) _
      exact retN X98 hx (t := .boolean) Bd.returns (by simp) (hb hby at_253) hr
    · show Q0 h0 n0 _ T98.heap _
      exact ⟨rfl, N98⟩
  · have V4 := own_c7 _ v4 hv4
    have V4' := own_c1 v4 V4.1 hk
    obtain ⟨T100, h100, X100, e100, E100, A100, D100, -, st100⟩ := newO X0 hx hZ hown (hw _ (List.mem_of_getElem? (i := 1) rfl)) (hw _ (List.mem_of_getElem? (i := 2) rfl)) (hw _ (List.mem_of_getElem? (i := 3) rfl)) e0 (g := (mkF m 24 #[.val (.int p0), .val (.int p1), .val (.int p2), .val (.int p3), .val (.int v4), .val (.int v1), .val (.int v3), .unset, .unset, .unset] [])) rfl (hb hby at_24) (by decide) (by decide)
    obtain ⟨b100, g100⟩ : ∃ z, z = h0.size := ⟨_, rfl⟩
    rw [← g100] at A100 D100 st100
    have nw_b100 : n0 ≤ b100 := Nat.le_trans (Nat.le_trans Z0 (Keep.refl h0 []).1) (Nat.le_of_eq g100.symm)
    have sz_b100 : h0.size ≤ b100 := Nat.le_trans (Keep.refl h0 []).1 (Nat.le_of_eq g100.symm)
    have K100 : Keep h0 h100 [] := (Keep.refl h0 []).ext E100
    have F_bytes_b100 : Fld Z h100 b100 "com/example/commitlog/commitlog/codec/JsonWriter" "bytes" "[B" .null := D100 (Or.inl (hw _ (List.mem_of_getElem? (i := 12) rfl))) (ty := (.array .byte)) (by decide)
    have F_length_b100 : Fld Z h100 b100 "com/example/commitlog/commitlog/codec/JsonWriter" "length" "I" (.int (0 : Int32)) := D100 (Or.inl (hw _ (List.mem_of_getElem? (i := 27) rfl))) (ty := .int) (by decide)
    have F_afterValue_b100 : Fld Z h100 b100 "com/example/commitlog/commitlog/codec/JsonWriter" "afterValue" "Z" (.int (0 : Int32)) := D100 (Or.inl (hw _ (List.mem_of_getElem? (i := 49) rfl))) (ty := .boolean) (by decide)
    have hp101 : ¬ v4 < (0 : Int32) := (by rw [Int32.lt_iff_toInt_lt]; have k0 : (0 : Int32).toInt = 0 := (by decide); omega)
    have hp102 : v4.toNatClampNeg ≤ 8 := (by omega)
    obtain ⟨_, _, ⟨T103, L103, k103, n103⟩, -, X103, ⟨Lc103, hQ103, l103, y103, z103⟩, st103⟩ := X100.specialBack hx (y := (⟨"com/example/commitlog/commitlog/codec/JsonWriter", "<init>", "(I)V"⟩ : MethodName)) rfl hown (mvT hZ (hw _ (List.mem_of_getElem? (i := 4) rfl))) (mvT hZ (hw _ (List.mem_of_getElem? (i := 5) rfl))) (mvT hZ (hw _ (List.mem_of_getElem? (i := 6) rfl))) (by decide) (backOf (W := 1) (rm1 l Z A0 hw [] b100 v4 .null (0 : Int32) (0 : Int32) h100 n0 (Nat.le_trans Z0 K100.1) A100 F_bytes_b100 F_length_b100 F_afterValue_b100 nw_b100 hp101 hp102) hZ (hw _ (List.mem_of_getElem? (i := 6) rfl)) (hw _ (List.mem_of_getElem? (i := 3) rfl)) (by decide) (by decide)) (g := (mkF m 30 #[.val (.int p0), .val (.int p1), .val (.int p2), .val (.int p3), .val (.int v4), .val (.int v1), .val (.int v3), .unset, .unset, .unset] [(.int v4), (.ref b100), (.ref b100)])) rfl (by rw [hml]; rfl) (Steps.refl _) (a := b100) (argsL := [(.int v4)]) (rest := [(.ref b100)]) (lenOf pd_0 rfl) rfl (by show 2 * 0 + _ ≤ _; exact Nat.le_of_eq rfl) (hb hby at_30) (fun _ _ => ⟨rfl, e100, (by decide : 1 + 1 ≤ _), (by decide : 3 + 8 ≤ _)⟩)
    dsimp only [Pt.U, Pt.locs, Pt.cells, Pt.slots] at X103 l103 y103 z103 st103 hQ103
    subst l103 y103 z103
    obtain ⟨b103_b2, rfl, N103q, Kc103, szb103_b2, P104, P105, P106, P107, P108⟩ := hQ103
    have ne_b100_b103_b2 : b100 ≠ b103_b2 := Nat.ne_of_lt (Nat.lt_of_lt_of_le A100.lt szb103_b2)
    have nw_b103_b2 : n0 ≤ b103_b2 := Nat.le_trans (Nat.le_trans Z0 K100.1) szb103_b2
    have sq_b103_b2 : h0.size ≤ b103_b2 := Nat.le_trans K100.1 szb103_b2
    have K103 : Keep h0 T103.heap [] := K100.trans Kc103 (allS (Or.inr sz_b100) all0)
    have N103 := Fr.app N0 N103q
    have hp109 : ¬ (((Int32.ofNat (v4).toNatClampNeg) - (0 : Int32)) < (1 : Int32)) := (fun q => by have z := (own_rc _ _ _ (by omega) (by decide) (by have k0 : (0 : Int32).toInt = 0 := (by decide); omega)).mp q; have k0 : (0 : Int32).toInt = 0 := (by decide); have k1 : (1 : Int32).toInt = 1 := (by decide); omega)
    have hp110 : own_in (0 : Int32) (v4).toNatClampNeg := ⟨by decide, by have k0 : (0 : Int32).toInt = 0 := (by decide); omega⟩
    obtain ⟨cq111, kq111, q111a, q111b, q111c⟩ := isOf hZ rfl P104
    obtain ⟨_, _, ⟨T111, L111, k111, n111⟩, -, X111, ⟨Lc111, hQ111, l111, y111, z111⟩, st111⟩ := X103.virtualBack hx (y := (⟨"com/example/commitlog/commitlog/codec/JsonWriter", "startObject", "()Lcom/example/commitlog/commitlog/codec/JsonWriter;"⟩ : MethodName)) (z := (⟨"com/example/commitlog/commitlog/codec/JsonWriter", "startObject", "()Lcom/example/commitlog/commitlog/codec/JsonWriter;"⟩ : MethodName)) hown (mvT hZ (hw _ (List.mem_of_getElem? (i := 13) rfl))) (mvT hZ (hw _ (List.mem_of_getElem? (i := 14) rfl))) (notFace_of_selects (args := #[]) (mvT hZ (hw _ (List.mem_of_getElem? (i := 16) rfl)))) (mvT hZ (hw _ (List.mem_of_getElem? (i := 16) rfl))) (mvT hZ (hw _ (List.mem_of_getElem? (i := 15) rfl))) (by decide) (backOf (W := 0) (rm3k l Z A0 hw [] b100 b103_b2 (0 : Int32) (0 : Int32) ((v4).toNatClampNeg) (fun _ => (0 : Int32)) T103.heap n0 (Nat.le_trans Z0 K103.1) P104 P105 P106 P107 P108 nw_b100 ne_b100_b103_b2 nw_b103_b2 hp109 hp110) hZ (hw _ (List.mem_of_getElem? (i := 17) rfl)) (hw _ (List.mem_of_getElem? (i := 3) rfl)) (by decide) (by decide)) q111a q111c (g := (mkF m 37 #[.val (.int p0), .val (.int p1), .val (.int p2), .val (.int p3), .val (.int v4), .val (.int v1), .val (.int v3), .val (.ref b100), .unset, .unset] [(.ref b100)])) rfl (by rw [hml]; rfl) (Steps.refl _) (argsL := []) (rest := []) (lenOf pd_2 rfl) rfl (by show 2 * 0 + _ ≤ _; exact Nat.le_of_eq rfl) (hb hby at_37) (fun _ _ => ⟨rfl, rfl, (by decide : 2 + 0 ≤ _), (by decide : 11 + 0 ≤ _)⟩)
    dsimp only [Pt.U, Pt.locs, Pt.cells, Pt.slots] at X111 l111 y111 z111 st111 hQ111
    subst l111 y111 z111
    obtain ⟨rfl, N111q, Kc111, P112, P113, P114, P115, P116⟩ := hQ111
    have K111 : Keep h0 T111.heap [] := K103.trans Kc111 (allS (Or.inr sq_b103_b2) (allS (Or.inr sz_b100) all0))
    obtain ⟨f117, hf117⟩ : ∃ f : Nat → Int32, f = (fun i => if i = ((0 : Int32)).toNatClampNeg then (((123 : Int32).toInt8.toInt32).toInt8.toInt32) else (fun _ => (0 : Int32)) i) := ⟨_, rfl⟩
    have P118 : AF Z T111.heap b103_b2 .byte (v4).toNatClampNeg (fun j => .int (f117 j)) := by rw [hf117]; exact P116
    have N111 := Fr.app N103 N111q
    have ck119 : ∀ t, Steps p.tables e below (T111.setTop (mkF m 45 #[.val (.int p0), .val (.int p1), .val (.int p2), .val (.int p3), .val (.int v4), .val (.int v1), .val (.int v3), .val (.ref b100), .unset, .unset] [(.int v1), (.ref b100)])) t → Steps p.tables e below (s₁.setTop (mkF m 24 #[.val (.int p0), .val (.int p1), .val (.int p2), .val (.int p3), .val (.int v4), .val (.int v1), .val (.int v3), .unset, .unset, .unset] [])) t := by
      intro t kt
      show Steps p.tables e below (s₁.setTop (mkF m 24 #[.val (.int p0), .val (.int p1), .val (.int p2), .val (.int p3), .val (.int v4), .val (.int v1), .val (.int v3), .unset, .unset, .unset] [])) _
      refine st100 _ ?_
      show Steps p.tables e below (T100.setTop (mkF m 27 #[.val (.int p0), .val (.int p1), .val (.int p2), .val (.int p3), .val (.int v4), .val (.int v1), .val (.int v3), .unset, .unset, .unset] [(.ref b100)])) _
      refine XS.dup X100.here hx rfl (hb hby at_27) rfl rfl ?_
      show Steps p.tables e below (T100.setTop (mkF m 28 #[.val (.int p0), .val (.int p1), .val (.int p2), .val (.int p3), .val (.int v4), .val (.int v1), .val (.int v3), .unset, .unset, .unset] [(.ref b100), (.ref b100)])) _
      refine XS.iload X100.here hx rfl (hb hby at_28) rfl ?_
      show Steps p.tables e below (T100.setTop (mkF m 30 #[.val (.int p0), .val (.int p1), .val (.int p2), .val (.int p3), .val (.int v4), .val (.int v1), .val (.int v3), .unset, .unset, .unset] [(.int v4), (.ref b100), (.ref b100)])) _
      refine st103.trans ?_
      show Steps p.tables e below (T103.setTop (mkF m 33 #[.val (.int p0), .val (.int p1), .val (.int p2), .val (.int p3), .val (.int v4), .val (.int v1), .val (.int v3), .unset, .unset, .unset] [(.ref b100)])) _
      refine XS.astore X103.here hx rfl (hb hby at_33) rfl rfl (l' := #[.val (.int p0), .val (.int p1), .val (.int p2), .val (.int p3), .val (.int v4), .val (.int v1), .val (.int v3), .val (.ref b100), .unset, .unset]) rfl ?_
      show Steps p.tables e below (T103.setTop (mkF m 35 #[.val (.int p0), .val (.int p1), .val (.int p2), .val (.int p3), .val (.int v4), .val (.int v1), .val (.int v3), .val (.ref b100), .unset, .unset] [])) _
      refine XS.aload X103.here hx rfl (hb hby at_35) rfl rfl ?_
      show Steps p.tables e below (T103.setTop (mkF m 37 #[.val (.int p0), .val (.int p1), .val (.int p2), .val (.int p3), .val (.int v4), .val (.int v1), .val (.int v3), .val (.ref b100), .unset, .unset] [(.ref b100)])) _
      refine st111.trans ?_
      show Steps p.tables e below (T111.setTop (mkF m 40 #[.val (.int p0), .val (.int p1), .val (.int p2), .val (.int p3), .val (.int v4), .val (.int v1), .val (.int v3), .val (.ref b100), .unset, .unset] [(.ref b100)])) _
      refine XS.pop X111.here hx rfl (hb hby at_40) rfl rfl ?_
      show Steps p.tables e below (T111.setTop (mkF m 41 #[.val (.int p0), .val (.int p1), .val (.int p2), .val (.int p3), .val (.int v4), .val (.int v1), .val (.int v3), .val (.ref b100), .unset, .unset] [])) _
      refine XS.aload X111.here hx rfl (hb hby at_41) rfl rfl ?_
      show Steps p.tables e below (T111.setTop (mkF m 43 #[.val (.int p0), .val (.int p1), .val (.int p2), .val (.int p3), .val (.int v4), .val (.int v1), .val (.int v3), .val (.ref b100), .unset, .unset] [(.ref b100)])) _
      refine XS.iload X111.here hx rfl (hb hby at_43) rfl ?_
      exact kt
    rcases Classical.em (((Int32.ofNat (v4).toNatClampNeg) - ((0 : Int32) + (1 : Int32))) < v1) with hs | hs
    · have hp120 : ((Int32.ofNat (v4).toNatClampNeg) - ((0 : Int32) + (1 : Int32))) < v1 := hs
      have hp121 : ¬ ((own_nl (v4).toNatClampNeg ((0 : Int32) + (1 : Int32)) v1) = (Int32.ofNat (v4).toNatClampNeg)) := (own_hc3_47_2_45_Bg p0 p1 v1 v4 hv1 hv4 V4 V4' hs V1)
      have hp122 : ¬ (own_nl (v4).toNatClampNeg ((0 : Int32) + (1 : Int32)) v1) < (0 : Int32) := (own_hneg_47_2_45_Bg p0 p1 v1 v4 hv1 hv4 V4 V4' hs V1)
      have hp123 : (own_nl (v4).toNatClampNeg ((0 : Int32) + (1 : Int32)) v1).toNatClampNeg ≤ 16 := (own_hcap_47_2_45_Bg p0 p1 v1 v4 hv1 hv4 V4 V4' hs V1)
      have hp124 : ¬ ((own_nl (v4).toNatClampNeg ((0 : Int32) + (1 : Int32)) v1) < (Int32.ofNat (v4).toNatClampNeg)) := (own_hle_47_2_45_Bg p0 p1 v1 v4 hv1 hv4 V4 V4' hs V1)
      have hp125 : ∀ j, j < (v4).toNatClampNeg → fits .byte (.int (f117 j)) = true := (own_hfit_47_2_45_Bg p0 p1 v1 v4 f117 hv1 hv4 hf117 V4 V4' hs)
      obtain ⟨cq126, kq126, q126a, q126b, q126c⟩ := isOf hZ rfl P112
      obtain ⟨_, _, ⟨T126, L126, k126, n126⟩, -, X126, ⟨Lc126, hQ126, l126, y126, z126⟩, st126⟩ := X111.virtualBack hx (y := (⟨"com/example/commitlog/commitlog/codec/JsonWriter", "skip", "(I)Lcom/example/commitlog/commitlog/codec/JsonWriter;"⟩ : MethodName)) (z := (⟨"com/example/commitlog/commitlog/codec/JsonWriter", "skip", "(I)Lcom/example/commitlog/commitlog/codec/JsonWriter;"⟩ : MethodName)) hown (mvT hZ (hw _ (List.mem_of_getElem? (i := 50) rfl))) (mvT hZ (hw _ (List.mem_of_getElem? (i := 51) rfl))) (notFace_of_selects (args := #[]) (mvT hZ (hw _ (List.mem_of_getElem? (i := 53) rfl)))) (mvT hZ (hw _ (List.mem_of_getElem? (i := 53) rfl))) (mvT hZ (hw _ (List.mem_of_getElem? (i := 52) rfl))) (by decide) (backOf (W := 0) (rm10g l Z A0 hw [] b100 v1 b103_b2 ((0 : Int32) + (1 : Int32)) (0 : Int32) ((v4).toNatClampNeg) f117 T111.heap n0 (Nat.le_trans Z0 K111.1) P112 P113 P114 P115 P118 nw_b100 hp120 hp121 hp122 hp123 hp124 hp125) hZ (hw _ (List.mem_of_getElem? (i := 54) rfl)) (hw _ (List.mem_of_getElem? (i := 3) rfl)) (by decide) (by decide)) q126a q126c (g := (mkF m 45 #[.val (.int p0), .val (.int p1), .val (.int p2), .val (.int p3), .val (.int v4), .val (.int v1), .val (.int v3), .val (.ref b100), .unset, .unset] [(.int v1), (.ref b100)])) rfl (by rw [hml]; rfl) (Steps.refl _) (argsL := [(.int v1)]) (rest := []) (lenOf pd_7 rfl) rfl (by show 2 * 0 + _ ≤ _; exact Nat.le_of_eq rfl) (hb hby at_45) (fun _ _ => ⟨rfl, rfl, (by decide : 2 + 1 ≤ _), (by decide : 11 + 16 ≤ _)⟩)
      dsimp only [Pt.U, Pt.locs, Pt.cells, Pt.slots] at X126 l126 y126 z126 st126 hQ126
      subst l126 y126 z126
      obtain ⟨b126_b1_b9_b1, rfl, N126q, Kc126, szb126_b1_b9_b1, P127, P128, P129, P130, P131⟩ := hQ126
      have ne_b100_b126_b1_b9_b1 : b100 ≠ b126_b1_b9_b1 := Nat.ne_of_lt (Nat.lt_of_lt_of_le P112.lt szb126_b1_b9_b1)
      have ne_b103_b2_b126_b1_b9_b1 : b103_b2 ≠ b126_b1_b9_b1 := Nat.ne_of_lt (Nat.lt_of_lt_of_le P118.lt szb126_b1_b9_b1)
      have nw_b126_b1_b9_b1 : n0 ≤ b126_b1_b9_b1 := Nat.le_trans (Nat.le_trans Z0 K111.1) szb126_b1_b9_b1
      have sq_b126_b1_b9_b1 : h0.size ≤ b126_b1_b9_b1 := Nat.le_trans K111.1 szb126_b1_b9_b1
      have K126 : Keep h0 T126.heap [] := K111.trans Kc126 (allS (Or.inr sz_b100) all0)
      obtain ⟨f132, hf132⟩ : ∃ f : Nat → Int32, f = (fun j => if j < (v4).toNatClampNeg then f117 j else (fun _ => (0 : Int32)) j) := ⟨_, rfl⟩
      obtain ⟨z134, hz134⟩ : ∃ z : Nat, z = ((own_nl (v4).toNatClampNeg ((0 : Int32) + (1 : Int32)) v1)).toNatClampNeg := ⟨_, rfl⟩
      have P133 : AF Z T126.heap b126_b1_b9_b1 .byte z134 (fun j => .int (f132 j)) := by rw [hf132, hz134]; exact P131
      have N126 := Fr.app N111 N126q
      have LEN := (own_LEN_Bg p0 p1 v1 v4 z134 hv1 hv4 hz134 V4 V4' hs V1)
      have CON := (own_CON_Bg p0 p1 v1 v4 f117 f132 hv1 hv4 hf117 hf132 V4 V4' hs)
      have hp135 : own_in v3 z134 := own_in0 V1 V3 LEN
      have hp136 : own_in (v3 + (1 : Int32)) z134 := own_inK V1 V3 LEN 1 (by decide)
      have hp137 : own_in (v3 + (2 : Int32)) z134 := own_inK V1 V3 LEN 2 (by decide)
      have hp138 : own_in (v3 + (3 : Int32)) z134 := own_inK V1 V3 LEN 3 (by decide)
      obtain ⟨cq139, kq139, q139a, q139b, q139c⟩ := isOf hZ rfl P127
      obtain ⟨_, _, ⟨T139, L139, k139, n139⟩, -, X139, ⟨Lc139, hQ139, l139, y139, z139⟩, st139⟩ := X126.virtualBack hx (y := (⟨"com/example/commitlog/commitlog/codec/JsonWriter", "putInt", "(II)V"⟩ : MethodName)) (z := (⟨"com/example/commitlog/commitlog/codec/JsonWriter", "putInt", "(II)V"⟩ : MethodName)) hown (mvT hZ (hw _ (List.mem_of_getElem? (i := 55) rfl))) (mvT hZ (hw _ (List.mem_of_getElem? (i := 56) rfl))) (notFace_of_selects (args := #[]) (mvT hZ (hw _ (List.mem_of_getElem? (i := 58) rfl)))) (mvT hZ (hw _ (List.mem_of_getElem? (i := 58) rfl))) (mvT hZ (hw _ (List.mem_of_getElem? (i := 57) rfl))) (by decide) (backOf (W := 0) (rm11 l Z A0 hw [] b100 v3 p3 b126_b1_b9_b1 (((0 : Int32) + (1 : Int32)) + v1) (0 : Int32) z134 f132 T126.heap n0 (Nat.le_trans Z0 K126.1) P127 P128 P129 P130 P133 nw_b126_b1_b9_b1 ne_b100_b126_b1_b9_b1 hp135 hp136 hp137 hp138) hZ (hw _ (List.mem_of_getElem? (i := 59) rfl)) (hw _ (List.mem_of_getElem? (i := 3) rfl)) (by decide) (by decide)) q139a q139c (g := (mkF m 54 #[.val (.int p0), .val (.int p1), .val (.int p2), .val (.int p3), .val (.int v4), .val (.int v1), .val (.int v3), .val (.ref b100), .unset, .unset] [(.int p3), (.int v3), (.ref b100)])) rfl (by rw [hml]; rfl) (Steps.refl _) (argsL := [(.int v3), (.int p3)]) (rest := []) (lenOf pd_8 rfl) rfl (by show 2 * 0 + _ ≤ _; exact Nat.le_of_eq rfl) (hb hby at_54) (fun _ _ => ⟨rfl, rfl, (by decide : 3 + 0 ≤ _), (by decide : 27 + 0 ≤ _)⟩)
      dsimp only [Pt.U, Pt.locs, Pt.cells, Pt.slots] at X139 l139 y139 z139 st139 hQ139
      subst l139 y139 z139
      obtain ⟨rfl, N139q, Kc139, P140⟩ := hQ139
      have K139 : Keep h0 T139.heap [] := K126.trans Kc139 (allS (Or.inr sq_b126_b1_b9_b1) all0)
      obtain ⟨f141, hf141⟩ : ∃ f : Nat → Int32, f = (fun i => if i = ((v3 + (3 : Int32))).toNatClampNeg then ((p3.toInt8.toInt32).toInt8.toInt32) else (fun i => if i = ((v3 + (2 : Int32))).toNatClampNeg then ((((p3.toUInt32 >>> ((8 : Int32) &&& 31).toUInt32).toInt32).toInt8.toInt32).toInt8.toInt32) else (fun i => if i = ((v3 + (1 : Int32))).toNatClampNeg then ((((p3.toUInt32 >>> ((16 : Int32) &&& 31).toUInt32).toInt32).toInt8.toInt32).toInt8.toInt32) else (fun i => if i = (v3).toNatClampNeg then ((((p3.toUInt32 >>> ((24 : Int32) &&& 31).toUInt32).toInt32).toInt8.toInt32).toInt8.toInt32) else f132 i) i) i) i) := ⟨_, rfl⟩
      have P142 : AF Z T139.heap b126_b1_b9_b1 .byte z134 (fun j => .int (f141 j)) := by rw [hf141]; exact P140
      have N139 := Fr.app N126 N139q
      have G143 : Exa Z T139.heap b100 "com/example/commitlog/commitlog/codec/JsonWriter" := (P127.keep Kc139)
      have G144 : Fld Z T139.heap b100 "com/example/commitlog/commitlog/codec/JsonWriter" "bytes" "[B" (.ref b126_b1_b9_b1) := (P128.keep Kc139 (ninS ne_b100_b126_b1_b9_b1 nin0))
      have G145 : Fld Z T139.heap b100 "com/example/commitlog/commitlog/codec/JsonWriter" "length" "I" (.int (((0 : Int32) + (1 : Int32)) + v1)) := (P129.keep Kc139 (ninS ne_b100_b126_b1_b9_b1 nin0))
      have G146 : Fld Z T139.heap b100 "com/example/commitlog/commitlog/codec/JsonWriter" "afterValue" "Z" (.int (0 : Int32)) := (P130.keep Kc139 (ninS ne_b100_b126_b1_b9_b1 nin0))
      obtain ⟨cq147, kq147, q147a, q147b, q147c⟩ := isOf hZ rfl G143
      obtain ⟨_, _, ⟨T147, L147, k147, n147⟩, -, X147, ⟨Lc147, hQ147, l147, y147, z147⟩, st147⟩ := X139.virtualBack hx (y := (⟨"com/example/commitlog/commitlog/codec/JsonWriter", "bytes", "()[B"⟩ : MethodName)) (z := (⟨"com/example/commitlog/commitlog/codec/JsonWriter", "bytes", "()[B"⟩ : MethodName)) hown (mvT hZ (hw _ (List.mem_of_getElem? (i := 60) rfl))) (mvT hZ (hw _ (List.mem_of_getElem? (i := 61) rfl))) (notFace_of_selects (args := #[]) (mvT hZ (hw _ (List.mem_of_getElem? (i := 63) rfl)))) (mvT hZ (hw _ (List.mem_of_getElem? (i := 63) rfl))) (mvT hZ (hw _ (List.mem_of_getElem? (i := 62) rfl))) (by decide) (backOf (W := 0) (rm12 l Z A0 hw [] b100 b126_b1_b9_b1 (((0 : Int32) + (1 : Int32)) + v1) (0 : Int32) T139.heap n0 (Nat.le_trans Z0 K139.1) G143 G144 G145 G146) hZ (hw _ (List.mem_of_getElem? (i := 64) rfl)) (hw _ (List.mem_of_getElem? (i := 3) rfl)) (by decide) (by decide)) q147a q147c (g := (mkF m 59 #[.val (.int p0), .val (.int p1), .val (.int p2), .val (.int p3), .val (.int v4), .val (.int v1), .val (.int v3), .val (.ref b100), .unset, .unset] [(.ref b100)])) rfl (by rw [hml]; rfl) (Steps.refl _) (argsL := []) (rest := []) (lenOf pd_9 rfl) rfl (by show 2 * 0 + _ ≤ _; exact Nat.le_of_eq rfl) (hb hby at_59) (fun _ _ => ⟨rfl, rfl, (by decide : 3 + 0 ≤ _), (by decide : 27 + 0 ≤ _)⟩)
      dsimp only [Pt.U, Pt.locs, Pt.cells, Pt.slots] at X147 l147 y147 z147 st147 hQ147
      subst l147 y147 z147
      obtain ⟨rfl, N147q, e147⟩ := hQ147
      have N147 := Fr.app N139 N147q
      obtain ⟨cq148, kq148, q148a, q148b, q148c⟩ := isOf hZ e147 G143
      obtain ⟨_, _, ⟨T148, L148, k148, n148⟩, -, X148, ⟨Lc148, hQ148, l148, y148, z148⟩, st148⟩ := X147.virtualBack hx (y := (⟨"com/example/commitlog/commitlog/codec/JsonWriter", "length", "()I"⟩ : MethodName)) (z := (⟨"com/example/commitlog/commitlog/codec/JsonWriter", "length", "()I"⟩ : MethodName)) hown (mvT hZ (hw _ (List.mem_of_getElem? (i := 65) rfl))) (mvT hZ (hw _ (List.mem_of_getElem? (i := 66) rfl))) (notFace_of_selects (args := #[]) (mvT hZ (hw _ (List.mem_of_getElem? (i := 68) rfl)))) (mvT hZ (hw _ (List.mem_of_getElem? (i := 68) rfl))) (mvT hZ (hw _ (List.mem_of_getElem? (i := 67) rfl))) (by decide) (backOf (W := 0) (rm13 l Z A0 hw [] b100 (.ref b126_b1_b9_b1) (((0 : Int32) + (1 : Int32)) + v1) (0 : Int32) T139.heap n0 (Nat.le_trans Z0 K139.1) G143 G144 G145 G146) hZ (hw _ (List.mem_of_getElem? (i := 69) rfl)) (hw _ (List.mem_of_getElem? (i := 3) rfl)) (by decide) (by decide)) q148a q148c (g := (mkF m 66 #[.val (.int p0), .val (.int p1), .val (.int p2), .val (.int p3), .val (.int v4), .val (.int v1), .val (.int v3), .val (.ref b100), .val (.ref b126_b1_b9_b1), .unset] [(.ref b100)])) rfl (by rw [hml]; rfl) (Steps.refl _) (argsL := []) (rest := []) (lenOf pd_10 rfl) rfl (by show 2 * 0 + _ ≤ _; exact Nat.le_of_eq rfl) (hb hby at_66) (fun _ _ => ⟨rfl, e147, (by decide : 3 + 0 ≤ _), (by decide : 27 + 0 ≤ _)⟩)
      dsimp only [Pt.U, Pt.locs, Pt.cells, Pt.slots] at X148 l148 y148 z148 st148 hQ148
      subst l148 y148 z148
      obtain ⟨rfl, N148q, e148⟩ := hQ148
      have N148 := Fr.app N147 N148q
      have hk149 : (((0 : Int32) + (1 : Int32)) + v1) = (v1 + (1 : Int32)) := (by rw [show ((0 : Int32) + (1 : Int32)) = 1 from by decide]; exact Int32.add_comm _ _)
      have hi150 : own_in v3 z134 := own_in0 V1 V3 LEN
      have hi151 : own_in (v3 + (1 : Int32)) z134 := own_inK V1 V3 LEN 1 (by decide)
      have hi152 : own_in (v3 + (2 : Int32)) z134 := own_inK V1 V3 LEN 2 (by decide)
      have hi153 : own_in (v3 + (3 : Int32)) z134 := own_inK V1 V3 LEN 3 (by decide)
      obtain ⟨v154, hv154⟩ : ∃ z : Int32, z = ((((((f141 (v3).toNatClampNeg) &&& (255 : Int32)) <<< ((24 : Int32) &&& 31)) ||| (((f141 ((v3 + (1 : Int32))).toNatClampNeg) &&& (255 : Int32)) <<< ((16 : Int32) &&& 31))) ||| (((f141 ((v3 + (2 : Int32))).toNatClampNeg) &&& (255 : Int32)) <<< ((8 : Int32) &&& 31))) ||| ((f141 ((v3 + (3 : Int32))).toNatClampNeg) &&& (255 : Int32))) := ⟨_, rfl⟩
      have hk155 : v154 = p3 := own_bk v3 p3 _ _ _ V3.1 (by omega) hf141 hv154
      have hp156 : 0 ≤ (0 : Int32).toInt := (by decide)
      have hp157 : v1.toInt < z134 := (by omega)
      obtain ⟨_, _, ⟨T158, L158, k158, n158⟩, -, X158, ⟨Lc158, hQ158, l158, y158, z158⟩, st158⟩ := Jvm.LawKit.callS X148 hx (y := (⟨"com/example/commitlog/commitlog/codec/JsonWriterPutIntPinLaw", "untouched", "([BIII)Z"⟩ : MethodName)) hown (mvT hZ (hw _ (List.mem_of_getElem? (i := 70) rfl))) (mvT hZ (hw _ (List.mem_of_getElem? (i := 71) rfl))) (mvT hZ (hw _ (List.mem_of_getElem? (i := 72) rfl))) (mvT hZ (hw _ (List.mem_of_getElem? (i := 73) rfl))) (by decide) (backOf (W := 0) (rm14 l Z A0 hw [] b126_b1_b9_b1 (0 : Int32) v3 v1 z134 f141 T139.heap n0 (Nat.le_trans Z0 K139.1) P142 hp156 hp157) hZ (hw _ (List.mem_of_getElem? (i := 73) rfl)) (hw _ (List.mem_of_getElem? (i := 72) rfl)) (by decide) (by decide)) (g := (mkF m 149 #[.val (.int p0), .val (.int p1), .val (.int p2), .val (.int p3), .val (.int v4), .val (.int v1), .val (.int v3), .val (.ref b100), .val (.ref b126_b1_b9_b1), .val (.int v154)] [(.int v1), (.int v3), (.int (0 : Int32)), (.ref b126_b1_b9_b1)])) rfl (by rw [hml]; rfl) (argsL := [(.ref b126_b1_b9_b1), (.int (0 : Int32)), (.int v3), (.int v1)]) (rest := []) (lenOf pd_11 rfl) rfl (by show 2 * 0 + _ ≤ _; exact Nat.le_of_eq rfl) (hb hby at_149) (fun _ _ => ⟨rfl, e148, (by decide : 3 + 0 ≤ _), (by decide : 27 + 0 ≤ _)⟩)
      dsimp only [Pt.U, Pt.locs, Pt.cells, Pt.slots] at X158 l158 y158 z158 st158 hQ158
      subst l158 y158 z158
      obtain ⟨rfl, N158q, e158⟩ := hQ158
      have N158 := Fr.app N148 N158q
      have hk159 : ¬ ((own_un (0 : Int32) v3 v1 f141) = (0 : Int32)) := own_unF 0 (by decide) v1 v3 p3 _ _ V3.1 (by omega) CON hf141
      have hp160 : 0 ≤ (1 : Int32).toInt := (by decide)
      have hp161 : v1.toInt < z134 := (by omega)
      obtain ⟨_, _, ⟨T162, L162, k162, n162⟩, -, X162, ⟨Lc162, hQ162, l162, y162, z162⟩, st162⟩ := Jvm.LawKit.callS X158 hx (y := (⟨"com/example/commitlog/commitlog/codec/JsonWriterPutIntPinLaw", "untouched", "([BIII)Z"⟩ : MethodName)) hown (mvT hZ (hw _ (List.mem_of_getElem? (i := 70) rfl))) (mvT hZ (hw _ (List.mem_of_getElem? (i := 71) rfl))) (mvT hZ (hw _ (List.mem_of_getElem? (i := 72) rfl))) (mvT hZ (hw _ (List.mem_of_getElem? (i := 73) rfl))) (by decide) (backOf (W := 0) (rm14 l Z A0 hw [] b126_b1_b9_b1 (1 : Int32) v3 v1 z134 f141 T139.heap n0 (Nat.le_trans Z0 K139.1) P142 hp160 hp161) hZ (hw _ (List.mem_of_getElem? (i := 73) rfl)) (hw _ (List.mem_of_getElem? (i := 72) rfl)) (by decide) (by decide)) (g := (mkF m 162 #[.val (.int p0), .val (.int p1), .val (.int p2), .val (.int p3), .val (.int v4), .val (.int v1), .val (.int v3), .val (.ref b100), .val (.ref b126_b1_b9_b1), .val (.int v154)] [(.int v1), (.int v3), (.int (1 : Int32)), (.ref b126_b1_b9_b1)])) rfl (by rw [hml]; rfl) (argsL := [(.ref b126_b1_b9_b1), (.int (1 : Int32)), (.int v3), (.int v1)]) (rest := []) (lenOf pd_11 rfl) rfl (by show 2 * 0 + _ ≤ _; exact Nat.le_of_eq rfl) (hb hby at_162) (fun _ _ => ⟨rfl, e158, (by decide : 3 + 0 ≤ _), (by decide : 27 + 0 ≤ _)⟩)
      dsimp only [Pt.U, Pt.locs, Pt.cells, Pt.slots] at X162 l162 y162 z162 st162 hQ162
      subst l162 y162 z162
      obtain ⟨rfl, N162q, e162⟩ := hQ162
      have N162 := Fr.app N158 N162q
      have hk163 : ¬ ((own_un (1 : Int32) v3 v1 f141) = (0 : Int32)) := own_unF 1 (by decide) v1 v3 p3 _ _ V3.1 (by omega) CON hf141
      have hp164 : 0 ≤ (2 : Int32).toInt := (by decide)
      have hp165 : v1.toInt < z134 := (by omega)
      obtain ⟨_, _, ⟨T166, L166, k166, n166⟩, -, X166, ⟨Lc166, hQ166, l166, y166, z166⟩, st166⟩ := Jvm.LawKit.callS X162 hx (y := (⟨"com/example/commitlog/commitlog/codec/JsonWriterPutIntPinLaw", "untouched", "([BIII)Z"⟩ : MethodName)) hown (mvT hZ (hw _ (List.mem_of_getElem? (i := 70) rfl))) (mvT hZ (hw _ (List.mem_of_getElem? (i := 71) rfl))) (mvT hZ (hw _ (List.mem_of_getElem? (i := 72) rfl))) (mvT hZ (hw _ (List.mem_of_getElem? (i := 73) rfl))) (by decide) (backOf (W := 0) (rm14 l Z A0 hw [] b126_b1_b9_b1 (2 : Int32) v3 v1 z134 f141 T139.heap n0 (Nat.le_trans Z0 K139.1) P142 hp164 hp165) hZ (hw _ (List.mem_of_getElem? (i := 73) rfl)) (hw _ (List.mem_of_getElem? (i := 72) rfl)) (by decide) (by decide)) (g := (mkF m 175 #[.val (.int p0), .val (.int p1), .val (.int p2), .val (.int p3), .val (.int v4), .val (.int v1), .val (.int v3), .val (.ref b100), .val (.ref b126_b1_b9_b1), .val (.int v154)] [(.int v1), (.int v3), (.int (2 : Int32)), (.ref b126_b1_b9_b1)])) rfl (by rw [hml]; rfl) (argsL := [(.ref b126_b1_b9_b1), (.int (2 : Int32)), (.int v3), (.int v1)]) (rest := []) (lenOf pd_11 rfl) rfl (by show 2 * 0 + _ ≤ _; exact Nat.le_of_eq rfl) (hb hby at_175) (fun _ _ => ⟨rfl, e162, (by decide : 3 + 0 ≤ _), (by decide : 27 + 0 ≤ _)⟩)
      dsimp only [Pt.U, Pt.locs, Pt.cells, Pt.slots] at X166 l166 y166 z166 st166 hQ166
      subst l166 y166 z166
      obtain ⟨rfl, N166q, e166⟩ := hQ166
      have N166 := Fr.app N162 N166q
      have hk167 : ¬ ((own_un (2 : Int32) v3 v1 f141) = (0 : Int32)) := own_unF 2 (by decide) v1 v3 p3 _ _ V3.1 (by omega) CON hf141
      have hp168 : 0 ≤ (3 : Int32).toInt := (by decide)
      have hp169 : v1.toInt < z134 := (by omega)
      obtain ⟨_, _, ⟨T170, L170, k170, n170⟩, -, X170, ⟨Lc170, hQ170, l170, y170, z170⟩, st170⟩ := Jvm.LawKit.callS X166 hx (y := (⟨"com/example/commitlog/commitlog/codec/JsonWriterPutIntPinLaw", "untouched", "([BIII)Z"⟩ : MethodName)) hown (mvT hZ (hw _ (List.mem_of_getElem? (i := 70) rfl))) (mvT hZ (hw _ (List.mem_of_getElem? (i := 71) rfl))) (mvT hZ (hw _ (List.mem_of_getElem? (i := 72) rfl))) (mvT hZ (hw _ (List.mem_of_getElem? (i := 73) rfl))) (by decide) (backOf (W := 0) (rm14 l Z A0 hw [] b126_b1_b9_b1 (3 : Int32) v3 v1 z134 f141 T139.heap n0 (Nat.le_trans Z0 K139.1) P142 hp168 hp169) hZ (hw _ (List.mem_of_getElem? (i := 73) rfl)) (hw _ (List.mem_of_getElem? (i := 72) rfl)) (by decide) (by decide)) (g := (mkF m 188 #[.val (.int p0), .val (.int p1), .val (.int p2), .val (.int p3), .val (.int v4), .val (.int v1), .val (.int v3), .val (.ref b100), .val (.ref b126_b1_b9_b1), .val (.int v154)] [(.int v1), (.int v3), (.int (3 : Int32)), (.ref b126_b1_b9_b1)])) rfl (by rw [hml]; rfl) (argsL := [(.ref b126_b1_b9_b1), (.int (3 : Int32)), (.int v3), (.int v1)]) (rest := []) (lenOf pd_11 rfl) rfl (by show 2 * 0 + _ ≤ _; exact Nat.le_of_eq rfl) (hb hby at_188) (fun _ _ => ⟨rfl, e166, (by decide : 3 + 0 ≤ _), (by decide : 27 + 0 ≤ _)⟩)
      dsimp only [Pt.U, Pt.locs, Pt.cells, Pt.slots] at X170 l170 y170 z170 st170 hQ170
      subst l170 y170 z170
      obtain ⟨rfl, N170q, e170⟩ := hQ170
      have N170 := Fr.app N166 N170q
      have hk171 : ¬ ((own_un (3 : Int32) v3 v1 f141) = (0 : Int32)) := own_unF 3 (by decide) v1 v3 p3 _ _ V3.1 (by omega) CON hf141
      have hp172 : 0 ≤ (4 : Int32).toInt := (by decide)
      have hp173 : v1.toInt < z134 := (by omega)
      obtain ⟨_, _, ⟨T174, L174, k174, n174⟩, -, X174, ⟨Lc174, hQ174, l174, y174, z174⟩, st174⟩ := Jvm.LawKit.callS X170 hx (y := (⟨"com/example/commitlog/commitlog/codec/JsonWriterPutIntPinLaw", "untouched", "([BIII)Z"⟩ : MethodName)) hown (mvT hZ (hw _ (List.mem_of_getElem? (i := 70) rfl))) (mvT hZ (hw _ (List.mem_of_getElem? (i := 71) rfl))) (mvT hZ (hw _ (List.mem_of_getElem? (i := 72) rfl))) (mvT hZ (hw _ (List.mem_of_getElem? (i := 73) rfl))) (by decide) (backOf (W := 0) (rm14 l Z A0 hw [] b126_b1_b9_b1 (4 : Int32) v3 v1 z134 f141 T139.heap n0 (Nat.le_trans Z0 K139.1) P142 hp172 hp173) hZ (hw _ (List.mem_of_getElem? (i := 73) rfl)) (hw _ (List.mem_of_getElem? (i := 72) rfl)) (by decide) (by decide)) (g := (mkF m 201 #[.val (.int p0), .val (.int p1), .val (.int p2), .val (.int p3), .val (.int v4), .val (.int v1), .val (.int v3), .val (.ref b100), .val (.ref b126_b1_b9_b1), .val (.int v154)] [(.int v1), (.int v3), (.int (4 : Int32)), (.ref b126_b1_b9_b1)])) rfl (by rw [hml]; rfl) (argsL := [(.ref b126_b1_b9_b1), (.int (4 : Int32)), (.int v3), (.int v1)]) (rest := []) (lenOf pd_11 rfl) rfl (by show 2 * 0 + _ ≤ _; exact Nat.le_of_eq rfl) (hb hby at_201) (fun _ _ => ⟨rfl, e170, (by decide : 3 + 0 ≤ _), (by decide : 27 + 0 ≤ _)⟩)
      dsimp only [Pt.U, Pt.locs, Pt.cells, Pt.slots] at X174 l174 y174 z174 st174 hQ174
      subst l174 y174 z174
      obtain ⟨rfl, N174q, e174⟩ := hQ174
      have N174 := Fr.app N170 N174q
      have hk175 : ¬ ((own_un (4 : Int32) v3 v1 f141) = (0 : Int32)) := own_unF 4 (by decide) v1 v3 p3 _ _ V3.1 (by omega) CON hf141
      have hp176 : 0 ≤ (5 : Int32).toInt := (by decide)
      have hp177 : v1.toInt < z134 := (by omega)
      obtain ⟨_, _, ⟨T178, L178, k178, n178⟩, -, X178, ⟨Lc178, hQ178, l178, y178, z178⟩, st178⟩ := Jvm.LawKit.callS X174 hx (y := (⟨"com/example/commitlog/commitlog/codec/JsonWriterPutIntPinLaw", "untouched", "([BIII)Z"⟩ : MethodName)) hown (mvT hZ (hw _ (List.mem_of_getElem? (i := 70) rfl))) (mvT hZ (hw _ (List.mem_of_getElem? (i := 71) rfl))) (mvT hZ (hw _ (List.mem_of_getElem? (i := 72) rfl))) (mvT hZ (hw _ (List.mem_of_getElem? (i := 73) rfl))) (by decide) (backOf (W := 0) (rm14 l Z A0 hw [] b126_b1_b9_b1 (5 : Int32) v3 v1 z134 f141 T139.heap n0 (Nat.le_trans Z0 K139.1) P142 hp176 hp177) hZ (hw _ (List.mem_of_getElem? (i := 73) rfl)) (hw _ (List.mem_of_getElem? (i := 72) rfl)) (by decide) (by decide)) (g := (mkF m 214 #[.val (.int p0), .val (.int p1), .val (.int p2), .val (.int p3), .val (.int v4), .val (.int v1), .val (.int v3), .val (.ref b100), .val (.ref b126_b1_b9_b1), .val (.int v154)] [(.int v1), (.int v3), (.int (5 : Int32)), (.ref b126_b1_b9_b1)])) rfl (by rw [hml]; rfl) (argsL := [(.ref b126_b1_b9_b1), (.int (5 : Int32)), (.int v3), (.int v1)]) (rest := []) (lenOf pd_11 rfl) rfl (by show 2 * 0 + _ ≤ _; exact Nat.le_of_eq rfl) (hb hby at_214) (fun _ _ => ⟨rfl, e174, (by decide : 3 + 0 ≤ _), (by decide : 27 + 0 ≤ _)⟩)
      dsimp only [Pt.U, Pt.locs, Pt.cells, Pt.slots] at X178 l178 y178 z178 st178 hQ178
      subst l178 y178 z178
      obtain ⟨rfl, N178q, e178⟩ := hQ178
      have N178 := Fr.app N174 N178q
      have hk179 : ¬ ((own_un (5 : Int32) v3 v1 f141) = (0 : Int32)) := own_unF 5 (by decide) v1 v3 p3 _ _ V3.1 (by omega) CON hf141
      have hp180 : 0 ≤ (6 : Int32).toInt := (by decide)
      have hp181 : v1.toInt < z134 := (by omega)
      obtain ⟨_, _, ⟨T182, L182, k182, n182⟩, -, X182, ⟨Lc182, hQ182, l182, y182, z182⟩, st182⟩ := Jvm.LawKit.callS X178 hx (y := (⟨"com/example/commitlog/commitlog/codec/JsonWriterPutIntPinLaw", "untouched", "([BIII)Z"⟩ : MethodName)) hown (mvT hZ (hw _ (List.mem_of_getElem? (i := 70) rfl))) (mvT hZ (hw _ (List.mem_of_getElem? (i := 71) rfl))) (mvT hZ (hw _ (List.mem_of_getElem? (i := 72) rfl))) (mvT hZ (hw _ (List.mem_of_getElem? (i := 73) rfl))) (by decide) (backOf (W := 0) (rm14 l Z A0 hw [] b126_b1_b9_b1 (6 : Int32) v3 v1 z134 f141 T139.heap n0 (Nat.le_trans Z0 K139.1) P142 hp180 hp181) hZ (hw _ (List.mem_of_getElem? (i := 73) rfl)) (hw _ (List.mem_of_getElem? (i := 72) rfl)) (by decide) (by decide)) (g := (mkF m 228 #[.val (.int p0), .val (.int p1), .val (.int p2), .val (.int p3), .val (.int v4), .val (.int v1), .val (.int v3), .val (.ref b100), .val (.ref b126_b1_b9_b1), .val (.int v154)] [(.int v1), (.int v3), (.int (6 : Int32)), (.ref b126_b1_b9_b1)])) rfl (by rw [hml]; rfl) (argsL := [(.ref b126_b1_b9_b1), (.int (6 : Int32)), (.int v3), (.int v1)]) (rest := []) (lenOf pd_11 rfl) rfl (by show 2 * 0 + _ ≤ _; exact Nat.le_of_eq rfl) (hb hby at_228) (fun _ _ => ⟨rfl, e178, (by decide : 3 + 0 ≤ _), (by decide : 27 + 0 ≤ _)⟩)
      dsimp only [Pt.U, Pt.locs, Pt.cells, Pt.slots] at X182 l182 y182 z182 st182 hQ182
      subst l182 y182 z182
      obtain ⟨rfl, N182q, e182⟩ := hQ182
      have N182 := Fr.app N178 N182q
      have hk183 : ¬ ((own_un (6 : Int32) v3 v1 f141) = (0 : Int32)) := own_unF 6 (by decide) v1 v3 p3 _ _ V3.1 (by omega) CON hf141
      have hp184 : 0 ≤ (7 : Int32).toInt := (by decide)
      have hp185 : v1.toInt < z134 := (by omega)
      obtain ⟨_, _, ⟨T186, L186, k186, n186⟩, -, X186, ⟨Lc186, hQ186, l186, y186, z186⟩, st186⟩ := Jvm.LawKit.callS X182 hx (y := (⟨"com/example/commitlog/commitlog/codec/JsonWriterPutIntPinLaw", "untouched", "([BIII)Z"⟩ : MethodName)) hown (mvT hZ (hw _ (List.mem_of_getElem? (i := 70) rfl))) (mvT hZ (hw _ (List.mem_of_getElem? (i := 71) rfl))) (mvT hZ (hw _ (List.mem_of_getElem? (i := 72) rfl))) (mvT hZ (hw _ (List.mem_of_getElem? (i := 73) rfl))) (by decide) (backOf (W := 0) (rm14 l Z A0 hw [] b126_b1_b9_b1 (7 : Int32) v3 v1 z134 f141 T139.heap n0 (Nat.le_trans Z0 K139.1) P142 hp184 hp185) hZ (hw _ (List.mem_of_getElem? (i := 73) rfl)) (hw _ (List.mem_of_getElem? (i := 72) rfl)) (by decide) (by decide)) (g := (mkF m 242 #[.val (.int p0), .val (.int p1), .val (.int p2), .val (.int p3), .val (.int v4), .val (.int v1), .val (.int v3), .val (.ref b100), .val (.ref b126_b1_b9_b1), .val (.int v154)] [(.int v1), (.int v3), (.int (7 : Int32)), (.ref b126_b1_b9_b1)])) rfl (by rw [hml]; rfl) (argsL := [(.ref b126_b1_b9_b1), (.int (7 : Int32)), (.int v3), (.int v1)]) (rest := []) (lenOf pd_11 rfl) rfl (by show 2 * 0 + _ ≤ _; exact Nat.le_of_eq rfl) (hb hby at_242) (fun _ _ => ⟨rfl, e182, (by decide : 3 + 0 ≤ _), (by decide : 27 + 0 ≤ _)⟩)
      dsimp only [Pt.U, Pt.locs, Pt.cells, Pt.slots] at X186 l186 y186 z186 st186 hQ186
      subst l186 y186 z186
      obtain ⟨rfl, N186q, e186⟩ := hQ186
      have N186 := Fr.app N182 N186q
      have hk187 : ¬ ((own_un (7 : Int32) v3 v1 f141) = (0 : Int32)) := own_unF 7 (by decide) v1 v3 p3 _ _ V3.1 (by omega) CON hf141
      obtain ⟨fs, hr, hrun, hended, hW, hsame⟩ := X186.leave (v := some (.int (1 : Int32))) (fun h => by rw [Bd.returns] at h; cases h)
      refine ⟨_, _, pre0 _ (ck5 _ (ck119 _ ?_)), hrun, hended, _, _, rfl, ?_, ⟨_, rfl⟩, hW, hsame.mono (by decide) (by decide)⟩
      · show Steps p.tables e below (T111.setTop (mkF m 45 #[.val (.int p0), .val (.int p1), .val (.int p2), .val (.int p3), .val (.int v4), .val (.int v1), .val (.int v3), .val (.ref b100), .unset, .unset] [(.int v1), (.ref b100)])) _
        refine st126.trans ?_
        show Steps p.tables e below (T126.setTop (mkF m 48 #[.val (.int p0), .val (.int p1), .val (.int p2), .val (.int p3), .val (.int v4), .val (.int v1), .val (.int v3), .val (.ref b100), .unset, .unset] [(.ref b100)])) _
        refine XS.pop X126.here hx rfl (hb hby at_48) rfl rfl ?_
        show Steps p.tables e below (T126.setTop (mkF m 49 #[.val (.int p0), .val (.int p1), .val (.int p2), .val (.int p3), .val (.int v4), .val (.int v1), .val (.int v3), .val (.ref b100), .unset, .unset] [])) _
        refine XS.aload X126.here hx rfl (hb hby at_49) rfl rfl ?_
        show Steps p.tables e below (T126.setTop (mkF m 51 #[.val (.int p0), .val (.int p1), .val (.int p2), .val (.int p3), .val (.int v4), .val (.int v1), .val (.int v3), .val (.ref b100), .unset, .unset] [(.ref b100)])) _
        refine XS.iload X126.here hx rfl (hb hby at_51) rfl ?_
        show Steps p.tables e below (T126.setTop (mkF m 53 #[.val (.int p0), .val (.int p1), .val (.int p2), .val (.int p3), .val (.int v4), .val (.int v1), .val (.int v3), .val (.ref b100), .unset, .unset] [(.int v3), (.ref b100)])) _
        refine XS.iloadN X126.here hx rfl (hb hby at_53) rfl ?_
        show Steps p.tables e below (T126.setTop (mkF m 54 #[.val (.int p0), .val (.int p1), .val (.int p2), .val (.int p3), .val (.int v4), .val (.int v1), .val (.int v3), .val (.ref b100), .unset, .unset] [(.int p3), (.int v3), (.ref b100)])) _
        refine st139.trans ?_
        show Steps p.tables e below (T139.setTop (mkF m 57 #[.val (.int p0), .val (.int p1), .val (.int p2), .val (.int p3), .val (.int v4), .val (.int v1), .val (.int v3), .val (.ref b100), .unset, .unset] [])) _
        refine XS.aload X139.here hx rfl (hb hby at_57) rfl rfl ?_
        show Steps p.tables e below (T139.setTop (mkF m 59 #[.val (.int p0), .val (.int p1), .val (.int p2), .val (.int p3), .val (.int v4), .val (.int v1), .val (.int v3), .val (.ref b100), .unset, .unset] [(.ref b100)])) _
        refine st147.trans ?_
        show Steps p.tables e below (T147.setTop (mkF m 62 #[.val (.int p0), .val (.int p1), .val (.int p2), .val (.int p3), .val (.int v4), .val (.int v1), .val (.int v3), .val (.ref b100), .unset, .unset] [(.ref b126_b1_b9_b1)])) _
        refine XS.astore X147.here hx rfl (hb hby at_62) rfl rfl (l' := #[.val (.int p0), .val (.int p1), .val (.int p2), .val (.int p3), .val (.int v4), .val (.int v1), .val (.int v3), .val (.ref b100), .val (.ref b126_b1_b9_b1), .unset]) rfl ?_
        show Steps p.tables e below (T147.setTop (mkF m 64 #[.val (.int p0), .val (.int p1), .val (.int p2), .val (.int p3), .val (.int v4), .val (.int v1), .val (.int v3), .val (.ref b100), .val (.ref b126_b1_b9_b1), .unset] [])) _
        refine XS.aload X147.here hx rfl (hb hby at_64) rfl rfl ?_
        show Steps p.tables e below (T147.setTop (mkF m 66 #[.val (.int p0), .val (.int p1), .val (.int p2), .val (.int p3), .val (.int v4), .val (.int v1), .val (.int v3), .val (.ref b100), .val (.ref b126_b1_b9_b1), .unset] [(.ref b100)])) _
        refine st148.trans ?_
        show Steps p.tables e below (T148.setTop (mkF m 69 #[.val (.int p0), .val (.int p1), .val (.int p2), .val (.int p3), .val (.int v4), .val (.int v1), .val (.int v3), .val (.ref b100), .val (.ref b126_b1_b9_b1), .unset] [(.int (((0 : Int32) + (1 : Int32)) + v1))])) _
        refine XS.iload X148.here hx rfl (hb hby at_69) rfl ?_
        show Steps p.tables e below (T148.setTop (mkF m 71 #[.val (.int p0), .val (.int p1), .val (.int p2), .val (.int p3), .val (.int v4), .val (.int v1), .val (.int v3), .val (.ref b100), .val (.ref b126_b1_b9_b1), .unset] [(.int v1), (.int (((0 : Int32) + (1 : Int32)) + v1))])) _
        refine XS.iconst X148.here hx rfl (hb hby at_71) ?_
        show Steps p.tables e below (T148.setTop (mkF m 72 #[.val (.int p0), .val (.int p1), .val (.int p2), .val (.int p3), .val (.int v4), .val (.int v1), .val (.int v3), .val (.ref b100), .val (.ref b126_b1_b9_b1), .unset] [(.int (1 : Int32)), (.int v1), (.int (((0 : Int32) + (1 : Int32)) + v1))])) _
        refine XS.iadd X148.here hx rfl (hb hby at_72) rfl ?_
        show Steps p.tables e below (T148.setTop (mkF m 73 #[.val (.int p0), .val (.int p1), .val (.int p2), .val (.int p3), .val (.int v4), .val (.int v1), .val (.int v3), .val (.ref b100), .val (.ref b126_b1_b9_b1), .unset] [(.int (v1 + (1 : Int32))), (.int (((0 : Int32) + (1 : Int32)) + v1))])) _
        refine XS.icmpYes X148.here hx rfl (pc0 := 73) (pc' := 78) rfl (hb hby at_73) rfl (teq hk149).1 (by decide) (by decide) ?_
        show Steps p.tables e below (T148.setTop (mkF m 78 #[.val (.int p0), .val (.int p1), .val (.int p2), .val (.int p3), .val (.int v4), .val (.int v1), .val (.int v3), .val (.ref b100), .val (.ref b126_b1_b9_b1), .unset] [])) _
        refine XS.aload X148.here hx rfl (hb hby at_78) rfl rfl ?_
        show Steps p.tables e below (T148.setTop (mkF m 80 #[.val (.int p0), .val (.int p1), .val (.int p2), .val (.int p3), .val (.int v4), .val (.int v1), .val (.int v3), .val (.ref b100), .val (.ref b126_b1_b9_b1), .unset] [(.ref b126_b1_b9_b1)])) _
        refine XS.iload X148.here hx rfl (hb hby at_80) rfl ?_
        show Steps p.tables e below (T148.setTop (mkF m 82 #[.val (.int p0), .val (.int p1), .val (.int p2), .val (.int p3), .val (.int v4), .val (.int v1), .val (.int v3), .val (.ref b100), .val (.ref b126_b1_b9_b1), .unset] [(.int v3), (.ref b126_b1_b9_b1)])) _
        refine AF.ldB X148 hx hZ e148 P142 hi150 (g := (mkF m 82 #[.val (.int p0), .val (.int p1), .val (.int p2), .val (.int p3), .val (.int v4), .val (.int v1), .val (.int v3), .val (.ref b100), .val (.ref b126_b1_b9_b1), .unset] [(.int v3), (.ref b126_b1_b9_b1)])) rfl rfl (hb hby at_82) _ ?_
        show Steps p.tables e below (T148.setTop (mkF m 83 #[.val (.int p0), .val (.int p1), .val (.int p2), .val (.int p3), .val (.int v4), .val (.int v1), .val (.int v3), .val (.ref b100), .val (.ref b126_b1_b9_b1), .unset] [(.int (f141 (v3).toNatClampNeg))])) _
        refine XS.sipush X148.here hx rfl (hb hby at_83) ?_
        show Steps p.tables e below (T148.setTop (mkF m 86 #[.val (.int p0), .val (.int p1), .val (.int p2), .val (.int p3), .val (.int v4), .val (.int v1), .val (.int v3), .val (.ref b100), .val (.ref b126_b1_b9_b1), .unset] [(.int (255 : Int32)), (.int (f141 (v3).toNatClampNeg))])) _
        refine XS.iand X148.here hx rfl (hb hby at_86) rfl ?_
        show Steps p.tables e below (T148.setTop (mkF m 87 #[.val (.int p0), .val (.int p1), .val (.int p2), .val (.int p3), .val (.int v4), .val (.int v1), .val (.int v3), .val (.ref b100), .val (.ref b126_b1_b9_b1), .unset] [(.int ((f141 (v3).toNatClampNeg) &&& (255 : Int32)))])) _
        refine XS.bipush X148.here hx rfl (hb hby at_87) ?_
        show Steps p.tables e below (T148.setTop (mkF m 89 #[.val (.int p0), .val (.int p1), .val (.int p2), .val (.int p3), .val (.int v4), .val (.int v1), .val (.int v3), .val (.ref b100), .val (.ref b126_b1_b9_b1), .unset] [(.int (24 : Int32)), (.int ((f141 (v3).toNatClampNeg) &&& (255 : Int32)))])) _
        refine XS.ishl X148.here hx rfl (hb hby at_89) rfl ?_
        show Steps p.tables e below (T148.setTop (mkF m 90 #[.val (.int p0), .val (.int p1), .val (.int p2), .val (.int p3), .val (.int v4), .val (.int v1), .val (.int v3), .val (.ref b100), .val (.ref b126_b1_b9_b1), .unset] [(.int (((f141 (v3).toNatClampNeg) &&& (255 : Int32)) <<< ((24 : Int32) &&& 31)))])) _
        refine XS.aload X148.here hx rfl (hb hby at_90) rfl rfl ?_
        show Steps p.tables e below (T148.setTop (mkF m 92 #[.val (.int p0), .val (.int p1), .val (.int p2), .val (.int p3), .val (.int v4), .val (.int v1), .val (.int v3), .val (.ref b100), .val (.ref b126_b1_b9_b1), .unset] [(.ref b126_b1_b9_b1), (.int (((f141 (v3).toNatClampNeg) &&& (255 : Int32)) <<< ((24 : Int32) &&& 31)))])) _
        refine XS.iload X148.here hx rfl (hb hby at_92) rfl ?_
        show Steps p.tables e below (T148.setTop (mkF m 94 #[.val (.int p0), .val (.int p1), .val (.int p2), .val (.int p3), .val (.int v4), .val (.int v1), .val (.int v3), .val (.ref b100), .val (.ref b126_b1_b9_b1), .unset] [(.int v3), (.ref b126_b1_b9_b1), (.int (((f141 (v3).toNatClampNeg) &&& (255 : Int32)) <<< ((24 : Int32) &&& 31)))])) _
        refine XS.iconst X148.here hx rfl (hb hby at_94) ?_
        show Steps p.tables e below (T148.setTop (mkF m 95 #[.val (.int p0), .val (.int p1), .val (.int p2), .val (.int p3), .val (.int v4), .val (.int v1), .val (.int v3), .val (.ref b100), .val (.ref b126_b1_b9_b1), .unset] [(.int (1 : Int32)), (.int v3), (.ref b126_b1_b9_b1), (.int (((f141 (v3).toNatClampNeg) &&& (255 : Int32)) <<< ((24 : Int32) &&& 31)))])) _
        refine XS.iadd X148.here hx rfl (hb hby at_95) rfl ?_
        show Steps p.tables e below (T148.setTop (mkF m 96 #[.val (.int p0), .val (.int p1), .val (.int p2), .val (.int p3), .val (.int v4), .val (.int v1), .val (.int v3), .val (.ref b100), .val (.ref b126_b1_b9_b1), .unset] [(.int (v3 + (1 : Int32))), (.ref b126_b1_b9_b1), (.int (((f141 (v3).toNatClampNeg) &&& (255 : Int32)) <<< ((24 : Int32) &&& 31)))])) _
        refine AF.ldB X148 hx hZ e148 P142 hi151 (g := (mkF m 96 #[.val (.int p0), .val (.int p1), .val (.int p2), .val (.int p3), .val (.int v4), .val (.int v1), .val (.int v3), .val (.ref b100), .val (.ref b126_b1_b9_b1), .unset] [(.int (v3 + (1 : Int32))), (.ref b126_b1_b9_b1), (.int (((f141 (v3).toNatClampNeg) &&& (255 : Int32)) <<< ((24 : Int32) &&& 31)))])) rfl rfl (hb hby at_96) _ ?_
        show Steps p.tables e below (T148.setTop (mkF m 97 #[.val (.int p0), .val (.int p1), .val (.int p2), .val (.int p3), .val (.int v4), .val (.int v1), .val (.int v3), .val (.ref b100), .val (.ref b126_b1_b9_b1), .unset] [(.int (f141 ((v3 + (1 : Int32))).toNatClampNeg)), (.int (((f141 (v3).toNatClampNeg) &&& (255 : Int32)) <<< ((24 : Int32) &&& 31)))])) _
        refine XS.sipush X148.here hx rfl (hb hby at_97) ?_
        show Steps p.tables e below (T148.setTop (mkF m 100 #[.val (.int p0), .val (.int p1), .val (.int p2), .val (.int p3), .val (.int v4), .val (.int v1), .val (.int v3), .val (.ref b100), .val (.ref b126_b1_b9_b1), .unset] [(.int (255 : Int32)), (.int (f141 ((v3 + (1 : Int32))).toNatClampNeg)), (.int (((f141 (v3).toNatClampNeg) &&& (255 : Int32)) <<< ((24 : Int32) &&& 31)))])) _
        refine XS.iand X148.here hx rfl (hb hby at_100) rfl ?_
        show Steps p.tables e below (T148.setTop (mkF m 101 #[.val (.int p0), .val (.int p1), .val (.int p2), .val (.int p3), .val (.int v4), .val (.int v1), .val (.int v3), .val (.ref b100), .val (.ref b126_b1_b9_b1), .unset] [(.int ((f141 ((v3 + (1 : Int32))).toNatClampNeg) &&& (255 : Int32))), (.int (((f141 (v3).toNatClampNeg) &&& (255 : Int32)) <<< ((24 : Int32) &&& 31)))])) _
        refine XS.bipush X148.here hx rfl (hb hby at_101) ?_
        show Steps p.tables e below (T148.setTop (mkF m 103 #[.val (.int p0), .val (.int p1), .val (.int p2), .val (.int p3), .val (.int v4), .val (.int v1), .val (.int v3), .val (.ref b100), .val (.ref b126_b1_b9_b1), .unset] [(.int (16 : Int32)), (.int ((f141 ((v3 + (1 : Int32))).toNatClampNeg) &&& (255 : Int32))), (.int (((f141 (v3).toNatClampNeg) &&& (255 : Int32)) <<< ((24 : Int32) &&& 31)))])) _
        refine XS.ishl X148.here hx rfl (hb hby at_103) rfl ?_
        show Steps p.tables e below (T148.setTop (mkF m 104 #[.val (.int p0), .val (.int p1), .val (.int p2), .val (.int p3), .val (.int v4), .val (.int v1), .val (.int v3), .val (.ref b100), .val (.ref b126_b1_b9_b1), .unset] [(.int (((f141 ((v3 + (1 : Int32))).toNatClampNeg) &&& (255 : Int32)) <<< ((16 : Int32) &&& 31))), (.int (((f141 (v3).toNatClampNeg) &&& (255 : Int32)) <<< ((24 : Int32) &&& 31)))])) _
        refine XS.ior X148.here hx rfl (hb hby at_104) rfl ?_
        show Steps p.tables e below (T148.setTop (mkF m 105 #[.val (.int p0), .val (.int p1), .val (.int p2), .val (.int p3), .val (.int v4), .val (.int v1), .val (.int v3), .val (.ref b100), .val (.ref b126_b1_b9_b1), .unset] [(.int ((((f141 (v3).toNatClampNeg) &&& (255 : Int32)) <<< ((24 : Int32) &&& 31)) ||| (((f141 ((v3 + (1 : Int32))).toNatClampNeg) &&& (255 : Int32)) <<< ((16 : Int32) &&& 31))))])) _
        refine XS.aload X148.here hx rfl (hb hby at_105) rfl rfl ?_
        show Steps p.tables e below (T148.setTop (mkF m 107 #[.val (.int p0), .val (.int p1), .val (.int p2), .val (.int p3), .val (.int v4), .val (.int v1), .val (.int v3), .val (.ref b100), .val (.ref b126_b1_b9_b1), .unset] [(.ref b126_b1_b9_b1), (.int ((((f141 (v3).toNatClampNeg) &&& (255 : Int32)) <<< ((24 : Int32) &&& 31)) ||| (((f141 ((v3 + (1 : Int32))).toNatClampNeg) &&& (255 : Int32)) <<< ((16 : Int32) &&& 31))))])) _
        refine XS.iload X148.here hx rfl (hb hby at_107) rfl ?_
        show Steps p.tables e below (T148.setTop (mkF m 109 #[.val (.int p0), .val (.int p1), .val (.int p2), .val (.int p3), .val (.int v4), .val (.int v1), .val (.int v3), .val (.ref b100), .val (.ref b126_b1_b9_b1), .unset] [(.int v3), (.ref b126_b1_b9_b1), (.int ((((f141 (v3).toNatClampNeg) &&& (255 : Int32)) <<< ((24 : Int32) &&& 31)) ||| (((f141 ((v3 + (1 : Int32))).toNatClampNeg) &&& (255 : Int32)) <<< ((16 : Int32) &&& 31))))])) _
        refine XS.iconst X148.here hx rfl (hb hby at_109) ?_
        show Steps p.tables e below (T148.setTop (mkF m 110 #[.val (.int p0), .val (.int p1), .val (.int p2), .val (.int p3), .val (.int v4), .val (.int v1), .val (.int v3), .val (.ref b100), .val (.ref b126_b1_b9_b1), .unset] [(.int (2 : Int32)), (.int v3), (.ref b126_b1_b9_b1), (.int ((((f141 (v3).toNatClampNeg) &&& (255 : Int32)) <<< ((24 : Int32) &&& 31)) ||| (((f141 ((v3 + (1 : Int32))).toNatClampNeg) &&& (255 : Int32)) <<< ((16 : Int32) &&& 31))))])) _
        refine XS.iadd X148.here hx rfl (hb hby at_110) rfl ?_
        show Steps p.tables e below (T148.setTop (mkF m 111 #[.val (.int p0), .val (.int p1), .val (.int p2), .val (.int p3), .val (.int v4), .val (.int v1), .val (.int v3), .val (.ref b100), .val (.ref b126_b1_b9_b1), .unset] [(.int (v3 + (2 : Int32))), (.ref b126_b1_b9_b1), (.int ((((f141 (v3).toNatClampNeg) &&& (255 : Int32)) <<< ((24 : Int32) &&& 31)) ||| (((f141 ((v3 + (1 : Int32))).toNatClampNeg) &&& (255 : Int32)) <<< ((16 : Int32) &&& 31))))])) _
        refine AF.ldB X148 hx hZ e148 P142 hi152 (g := (mkF m 111 #[.val (.int p0), .val (.int p1), .val (.int p2), .val (.int p3), .val (.int v4), .val (.int v1), .val (.int v3), .val (.ref b100), .val (.ref b126_b1_b9_b1), .unset] [(.int (v3 + (2 : Int32))), (.ref b126_b1_b9_b1), (.int ((((f141 (v3).toNatClampNeg) &&& (255 : Int32)) <<< ((24 : Int32) &&& 31)) ||| (((f141 ((v3 + (1 : Int32))).toNatClampNeg) &&& (255 : Int32)) <<< ((16 : Int32) &&& 31))))])) rfl rfl (hb hby at_111) _ ?_
        show Steps p.tables e below (T148.setTop (mkF m 112 #[.val (.int p0), .val (.int p1), .val (.int p2), .val (.int p3), .val (.int v4), .val (.int v1), .val (.int v3), .val (.ref b100), .val (.ref b126_b1_b9_b1), .unset] [(.int (f141 ((v3 + (2 : Int32))).toNatClampNeg)), (.int ((((f141 (v3).toNatClampNeg) &&& (255 : Int32)) <<< ((24 : Int32) &&& 31)) ||| (((f141 ((v3 + (1 : Int32))).toNatClampNeg) &&& (255 : Int32)) <<< ((16 : Int32) &&& 31))))])) _
        refine XS.sipush X148.here hx rfl (hb hby at_112) ?_
        show Steps p.tables e below (T148.setTop (mkF m 115 #[.val (.int p0), .val (.int p1), .val (.int p2), .val (.int p3), .val (.int v4), .val (.int v1), .val (.int v3), .val (.ref b100), .val (.ref b126_b1_b9_b1), .unset] [(.int (255 : Int32)), (.int (f141 ((v3 + (2 : Int32))).toNatClampNeg)), (.int ((((f141 (v3).toNatClampNeg) &&& (255 : Int32)) <<< ((24 : Int32) &&& 31)) ||| (((f141 ((v3 + (1 : Int32))).toNatClampNeg) &&& (255 : Int32)) <<< ((16 : Int32) &&& 31))))])) _
        refine XS.iand X148.here hx rfl (hb hby at_115) rfl ?_
        show Steps p.tables e below (T148.setTop (mkF m 116 #[.val (.int p0), .val (.int p1), .val (.int p2), .val (.int p3), .val (.int v4), .val (.int v1), .val (.int v3), .val (.ref b100), .val (.ref b126_b1_b9_b1), .unset] [(.int ((f141 ((v3 + (2 : Int32))).toNatClampNeg) &&& (255 : Int32))), (.int ((((f141 (v3).toNatClampNeg) &&& (255 : Int32)) <<< ((24 : Int32) &&& 31)) ||| (((f141 ((v3 + (1 : Int32))).toNatClampNeg) &&& (255 : Int32)) <<< ((16 : Int32) &&& 31))))])) _
        refine XS.bipush X148.here hx rfl (hb hby at_116) ?_
        show Steps p.tables e below (T148.setTop (mkF m 118 #[.val (.int p0), .val (.int p1), .val (.int p2), .val (.int p3), .val (.int v4), .val (.int v1), .val (.int v3), .val (.ref b100), .val (.ref b126_b1_b9_b1), .unset] [(.int (8 : Int32)), (.int ((f141 ((v3 + (2 : Int32))).toNatClampNeg) &&& (255 : Int32))), (.int ((((f141 (v3).toNatClampNeg) &&& (255 : Int32)) <<< ((24 : Int32) &&& 31)) ||| (((f141 ((v3 + (1 : Int32))).toNatClampNeg) &&& (255 : Int32)) <<< ((16 : Int32) &&& 31))))])) _
        refine XS.ishl X148.here hx rfl (hb hby at_118) rfl ?_
        show Steps p.tables e below (T148.setTop (mkF m 119 #[.val (.int p0), .val (.int p1), .val (.int p2), .val (.int p3), .val (.int v4), .val (.int v1), .val (.int v3), .val (.ref b100), .val (.ref b126_b1_b9_b1), .unset] [(.int (((f141 ((v3 + (2 : Int32))).toNatClampNeg) &&& (255 : Int32)) <<< ((8 : Int32) &&& 31))), (.int ((((f141 (v3).toNatClampNeg) &&& (255 : Int32)) <<< ((24 : Int32) &&& 31)) ||| (((f141 ((v3 + (1 : Int32))).toNatClampNeg) &&& (255 : Int32)) <<< ((16 : Int32) &&& 31))))])) _
        refine XS.ior X148.here hx rfl (hb hby at_119) rfl ?_
        show Steps p.tables e below (T148.setTop (mkF m 120 #[.val (.int p0), .val (.int p1), .val (.int p2), .val (.int p3), .val (.int v4), .val (.int v1), .val (.int v3), .val (.ref b100), .val (.ref b126_b1_b9_b1), .unset] [(.int (((((f141 (v3).toNatClampNeg) &&& (255 : Int32)) <<< ((24 : Int32) &&& 31)) ||| (((f141 ((v3 + (1 : Int32))).toNatClampNeg) &&& (255 : Int32)) <<< ((16 : Int32) &&& 31))) ||| (((f141 ((v3 + (2 : Int32))).toNatClampNeg) &&& (255 : Int32)) <<< ((8 : Int32) &&& 31))))])) _
        refine XS.aload X148.here hx rfl (hb hby at_120) rfl rfl ?_
        show Steps p.tables e below (T148.setTop (mkF m 122 #[.val (.int p0), .val (.int p1), .val (.int p2), .val (.int p3), .val (.int v4), .val (.int v1), .val (.int v3), .val (.ref b100), .val (.ref b126_b1_b9_b1), .unset] [(.ref b126_b1_b9_b1), (.int (((((f141 (v3).toNatClampNeg) &&& (255 : Int32)) <<< ((24 : Int32) &&& 31)) ||| (((f141 ((v3 + (1 : Int32))).toNatClampNeg) &&& (255 : Int32)) <<< ((16 : Int32) &&& 31))) ||| (((f141 ((v3 + (2 : Int32))).toNatClampNeg) &&& (255 : Int32)) <<< ((8 : Int32) &&& 31))))])) _
        refine XS.iload X148.here hx rfl (hb hby at_122) rfl ?_
        show Steps p.tables e below (T148.setTop (mkF m 124 #[.val (.int p0), .val (.int p1), .val (.int p2), .val (.int p3), .val (.int v4), .val (.int v1), .val (.int v3), .val (.ref b100), .val (.ref b126_b1_b9_b1), .unset] [(.int v3), (.ref b126_b1_b9_b1), (.int (((((f141 (v3).toNatClampNeg) &&& (255 : Int32)) <<< ((24 : Int32) &&& 31)) ||| (((f141 ((v3 + (1 : Int32))).toNatClampNeg) &&& (255 : Int32)) <<< ((16 : Int32) &&& 31))) ||| (((f141 ((v3 + (2 : Int32))).toNatClampNeg) &&& (255 : Int32)) <<< ((8 : Int32) &&& 31))))])) _
        refine XS.iconst X148.here hx rfl (hb hby at_124) ?_
        show Steps p.tables e below (T148.setTop (mkF m 125 #[.val (.int p0), .val (.int p1), .val (.int p2), .val (.int p3), .val (.int v4), .val (.int v1), .val (.int v3), .val (.ref b100), .val (.ref b126_b1_b9_b1), .unset] [(.int (3 : Int32)), (.int v3), (.ref b126_b1_b9_b1), (.int (((((f141 (v3).toNatClampNeg) &&& (255 : Int32)) <<< ((24 : Int32) &&& 31)) ||| (((f141 ((v3 + (1 : Int32))).toNatClampNeg) &&& (255 : Int32)) <<< ((16 : Int32) &&& 31))) ||| (((f141 ((v3 + (2 : Int32))).toNatClampNeg) &&& (255 : Int32)) <<< ((8 : Int32) &&& 31))))])) _
        refine XS.iadd X148.here hx rfl (hb hby at_125) rfl ?_
        show Steps p.tables e below (T148.setTop (mkF m 126 #[.val (.int p0), .val (.int p1), .val (.int p2), .val (.int p3), .val (.int v4), .val (.int v1), .val (.int v3), .val (.ref b100), .val (.ref b126_b1_b9_b1), .unset] [(.int (v3 + (3 : Int32))), (.ref b126_b1_b9_b1), (.int (((((f141 (v3).toNatClampNeg) &&& (255 : Int32)) <<< ((24 : Int32) &&& 31)) ||| (((f141 ((v3 + (1 : Int32))).toNatClampNeg) &&& (255 : Int32)) <<< ((16 : Int32) &&& 31))) ||| (((f141 ((v3 + (2 : Int32))).toNatClampNeg) &&& (255 : Int32)) <<< ((8 : Int32) &&& 31))))])) _
        refine AF.ldB X148 hx hZ e148 P142 hi153 (g := (mkF m 126 #[.val (.int p0), .val (.int p1), .val (.int p2), .val (.int p3), .val (.int v4), .val (.int v1), .val (.int v3), .val (.ref b100), .val (.ref b126_b1_b9_b1), .unset] [(.int (v3 + (3 : Int32))), (.ref b126_b1_b9_b1), (.int (((((f141 (v3).toNatClampNeg) &&& (255 : Int32)) <<< ((24 : Int32) &&& 31)) ||| (((f141 ((v3 + (1 : Int32))).toNatClampNeg) &&& (255 : Int32)) <<< ((16 : Int32) &&& 31))) ||| (((f141 ((v3 + (2 : Int32))).toNatClampNeg) &&& (255 : Int32)) <<< ((8 : Int32) &&& 31))))])) rfl rfl (hb hby at_126) _ ?_
        show Steps p.tables e below (T148.setTop (mkF m 127 #[.val (.int p0), .val (.int p1), .val (.int p2), .val (.int p3), .val (.int v4), .val (.int v1), .val (.int v3), .val (.ref b100), .val (.ref b126_b1_b9_b1), .unset] [(.int (f141 ((v3 + (3 : Int32))).toNatClampNeg)), (.int (((((f141 (v3).toNatClampNeg) &&& (255 : Int32)) <<< ((24 : Int32) &&& 31)) ||| (((f141 ((v3 + (1 : Int32))).toNatClampNeg) &&& (255 : Int32)) <<< ((16 : Int32) &&& 31))) ||| (((f141 ((v3 + (2 : Int32))).toNatClampNeg) &&& (255 : Int32)) <<< ((8 : Int32) &&& 31))))])) _
        refine XS.sipush X148.here hx rfl (hb hby at_127) ?_
        show Steps p.tables e below (T148.setTop (mkF m 130 #[.val (.int p0), .val (.int p1), .val (.int p2), .val (.int p3), .val (.int v4), .val (.int v1), .val (.int v3), .val (.ref b100), .val (.ref b126_b1_b9_b1), .unset] [(.int (255 : Int32)), (.int (f141 ((v3 + (3 : Int32))).toNatClampNeg)), (.int (((((f141 (v3).toNatClampNeg) &&& (255 : Int32)) <<< ((24 : Int32) &&& 31)) ||| (((f141 ((v3 + (1 : Int32))).toNatClampNeg) &&& (255 : Int32)) <<< ((16 : Int32) &&& 31))) ||| (((f141 ((v3 + (2 : Int32))).toNatClampNeg) &&& (255 : Int32)) <<< ((8 : Int32) &&& 31))))])) _
        refine XS.iand X148.here hx rfl (hb hby at_130) rfl ?_
        show Steps p.tables e below (T148.setTop (mkF m 131 #[.val (.int p0), .val (.int p1), .val (.int p2), .val (.int p3), .val (.int v4), .val (.int v1), .val (.int v3), .val (.ref b100), .val (.ref b126_b1_b9_b1), .unset] [(.int ((f141 ((v3 + (3 : Int32))).toNatClampNeg) &&& (255 : Int32))), (.int (((((f141 (v3).toNatClampNeg) &&& (255 : Int32)) <<< ((24 : Int32) &&& 31)) ||| (((f141 ((v3 + (1 : Int32))).toNatClampNeg) &&& (255 : Int32)) <<< ((16 : Int32) &&& 31))) ||| (((f141 ((v3 + (2 : Int32))).toNatClampNeg) &&& (255 : Int32)) <<< ((8 : Int32) &&& 31))))])) _
        refine XS.ior X148.here hx rfl (hb hby at_131) rfl ?_
        show Steps p.tables e below (T148.setTop (mkF m 132 #[.val (.int p0), .val (.int p1), .val (.int p2), .val (.int p3), .val (.int v4), .val (.int v1), .val (.int v3), .val (.ref b100), .val (.ref b126_b1_b9_b1), .unset] [(.int ((((((f141 (v3).toNatClampNeg) &&& (255 : Int32)) <<< ((24 : Int32) &&& 31)) ||| (((f141 ((v3 + (1 : Int32))).toNatClampNeg) &&& (255 : Int32)) <<< ((16 : Int32) &&& 31))) ||| (((f141 ((v3 + (2 : Int32))).toNatClampNeg) &&& (255 : Int32)) <<< ((8 : Int32) &&& 31))) ||| ((f141 ((v3 + (3 : Int32))).toNatClampNeg) &&& (255 : Int32))))])) _
        refine castTop (g' := (mkF m 132 #[.val (.int p0), .val (.int p1), .val (.int p2), .val (.int p3), .val (.int v4), .val (.int v1), .val (.int v3), .val (.ref b100), .val (.ref b126_b1_b9_b1), .unset] [(.int v154)])) (by rw [hv154] <;> rfl) ?_
        show Steps p.tables e below (T148.setTop (mkF m 132 #[.val (.int p0), .val (.int p1), .val (.int p2), .val (.int p3), .val (.int v4), .val (.int v1), .val (.int v3), .val (.ref b100), .val (.ref b126_b1_b9_b1), .unset] [(.int v154)])) _
        refine XS.istore X148.here hx rfl (hb hby at_132) rfl (l' := #[.val (.int p0), .val (.int p1), .val (.int p2), .val (.int p3), .val (.int v4), .val (.int v1), .val (.int v3), .val (.ref b100), .val (.ref b126_b1_b9_b1), .val (.int v154)]) rfl ?_
        show Steps p.tables e below (T148.setTop (mkF m 134 #[.val (.int p0), .val (.int p1), .val (.int p2), .val (.int p3), .val (.int v4), .val (.int v1), .val (.int v3), .val (.ref b100), .val (.ref b126_b1_b9_b1), .val (.int v154)] [])) _
        refine XS.iload X148.here hx rfl (hb hby at_134) rfl ?_
        show Steps p.tables e below (T148.setTop (mkF m 136 #[.val (.int p0), .val (.int p1), .val (.int p2), .val (.int p3), .val (.int v4), .val (.int v1), .val (.int v3), .val (.ref b100), .val (.ref b126_b1_b9_b1), .val (.int v154)] [(.int v154)])) _
        refine XS.iloadN X148.here hx rfl (hb hby at_136) rfl ?_
        show Steps p.tables e below (T148.setTop (mkF m 137 #[.val (.int p0), .val (.int p1), .val (.int p2), .val (.int p3), .val (.int v4), .val (.int v1), .val (.int v3), .val (.ref b100), .val (.ref b126_b1_b9_b1), .val (.int v154)] [(.int p3), (.int v154)])) _
        refine XS.icmpYes X148.here hx rfl (pc0 := 137) (pc' := 142) rfl (hb hby at_137) rfl (teq hk155).1 (by decide) (by decide) ?_
        show Steps p.tables e below (T148.setTop (mkF m 142 #[.val (.int p0), .val (.int p1), .val (.int p2), .val (.int p3), .val (.int v4), .val (.int v1), .val (.int v3), .val (.ref b100), .val (.ref b126_b1_b9_b1), .val (.int v154)] [])) _
        refine XS.aload X148.here hx rfl (hb hby at_142) rfl rfl ?_
        show Steps p.tables e below (T148.setTop (mkF m 144 #[.val (.int p0), .val (.int p1), .val (.int p2), .val (.int p3), .val (.int v4), .val (.int v1), .val (.int v3), .val (.ref b100), .val (.ref b126_b1_b9_b1), .val (.int v154)] [(.ref b126_b1_b9_b1)])) _
        refine XS.iconst X148.here hx rfl (hb hby at_144) ?_
        show Steps p.tables e below (T148.setTop (mkF m 145 #[.val (.int p0), .val (.int p1), .val (.int p2), .val (.int p3), .val (.int v4), .val (.int v1), .val (.int v3), .val (.ref b100), .val (.ref b126_b1_b9_b1), .val (.int v154)] [(.int (0 : Int32)), (.ref b126_b1_b9_b1)])) _
        refine XS.iload X148.here hx rfl (hb hby at_145) rfl ?_
        show Steps p.tables e below (T148.setTop (mkF m 147 #[.val (.int p0), .val (.int p1), .val (.int p2), .val (.int p3), .val (.int v4), .val (.int v1), .val (.int v3), .val (.ref b100), .val (.ref b126_b1_b9_b1), .val (.int v154)] [(.int v3), (.int (0 : Int32)), (.ref b126_b1_b9_b1)])) _
        refine XS.iload X148.here hx rfl (hb hby at_147) rfl ?_
        show Steps p.tables e below (T148.setTop (mkF m 149 #[.val (.int p0), .val (.int p1), .val (.int p2), .val (.int p3), .val (.int v4), .val (.int v1), .val (.int v3), .val (.ref b100), .val (.ref b126_b1_b9_b1), .val (.int v154)] [(.int v1), (.int v3), (.int (0 : Int32)), (.ref b126_b1_b9_b1)])) _
        refine st158 _ ?_
        show Steps p.tables e below (T158.setTop (mkF m 152 #[.val (.int p0), .val (.int p1), .val (.int p2), .val (.int p3), .val (.int v4), .val (.int v1), .val (.int v3), .val (.ref b100), .val (.ref b126_b1_b9_b1), .val (.int v154)] [(.int (own_un (0 : Int32) v3 v1 f141))])) _
        refine XS.ifNo X158.here hx rfl (hb hby at_152) rfl ((if0 _ _).trans (feq hk159).1) ?_
        show Steps p.tables e below (T158.setTop (mkF m 155 #[.val (.int p0), .val (.int p1), .val (.int p2), .val (.int p3), .val (.int v4), .val (.int v1), .val (.int v3), .val (.ref b100), .val (.ref b126_b1_b9_b1), .val (.int v154)] [])) _
        refine XS.aload X158.here hx rfl (hb hby at_155) rfl rfl ?_
        show Steps p.tables e below (T158.setTop (mkF m 157 #[.val (.int p0), .val (.int p1), .val (.int p2), .val (.int p3), .val (.int v4), .val (.int v1), .val (.int v3), .val (.ref b100), .val (.ref b126_b1_b9_b1), .val (.int v154)] [(.ref b126_b1_b9_b1)])) _
        refine XS.iconst X158.here hx rfl (hb hby at_157) ?_
        show Steps p.tables e below (T158.setTop (mkF m 158 #[.val (.int p0), .val (.int p1), .val (.int p2), .val (.int p3), .val (.int v4), .val (.int v1), .val (.int v3), .val (.ref b100), .val (.ref b126_b1_b9_b1), .val (.int v154)] [(.int (1 : Int32)), (.ref b126_b1_b9_b1)])) _
        refine XS.iload X158.here hx rfl (hb hby at_158) rfl ?_
        show Steps p.tables e below (T158.setTop (mkF m 160 #[.val (.int p0), .val (.int p1), .val (.int p2), .val (.int p3), .val (.int v4), .val (.int v1), .val (.int v3), .val (.ref b100), .val (.ref b126_b1_b9_b1), .val (.int v154)] [(.int v3), (.int (1 : Int32)), (.ref b126_b1_b9_b1)])) _
        refine XS.iload X158.here hx rfl (hb hby at_160) rfl ?_
        show Steps p.tables e below (T158.setTop (mkF m 162 #[.val (.int p0), .val (.int p1), .val (.int p2), .val (.int p3), .val (.int v4), .val (.int v1), .val (.int v3), .val (.ref b100), .val (.ref b126_b1_b9_b1), .val (.int v154)] [(.int v1), (.int v3), (.int (1 : Int32)), (.ref b126_b1_b9_b1)])) _
        refine st162 _ ?_
        show Steps p.tables e below (T162.setTop (mkF m 165 #[.val (.int p0), .val (.int p1), .val (.int p2), .val (.int p3), .val (.int v4), .val (.int v1), .val (.int v3), .val (.ref b100), .val (.ref b126_b1_b9_b1), .val (.int v154)] [(.int (own_un (1 : Int32) v3 v1 f141))])) _
        refine XS.ifNo X162.here hx rfl (hb hby at_165) rfl ((if0 _ _).trans (feq hk163).1) ?_
        show Steps p.tables e below (T162.setTop (mkF m 168 #[.val (.int p0), .val (.int p1), .val (.int p2), .val (.int p3), .val (.int v4), .val (.int v1), .val (.int v3), .val (.ref b100), .val (.ref b126_b1_b9_b1), .val (.int v154)] [])) _
        refine XS.aload X162.here hx rfl (hb hby at_168) rfl rfl ?_
        show Steps p.tables e below (T162.setTop (mkF m 170 #[.val (.int p0), .val (.int p1), .val (.int p2), .val (.int p3), .val (.int v4), .val (.int v1), .val (.int v3), .val (.ref b100), .val (.ref b126_b1_b9_b1), .val (.int v154)] [(.ref b126_b1_b9_b1)])) _
        refine XS.iconst X162.here hx rfl (hb hby at_170) ?_
        show Steps p.tables e below (T162.setTop (mkF m 171 #[.val (.int p0), .val (.int p1), .val (.int p2), .val (.int p3), .val (.int v4), .val (.int v1), .val (.int v3), .val (.ref b100), .val (.ref b126_b1_b9_b1), .val (.int v154)] [(.int (2 : Int32)), (.ref b126_b1_b9_b1)])) _
        refine XS.iload X162.here hx rfl (hb hby at_171) rfl ?_
        show Steps p.tables e below (T162.setTop (mkF m 173 #[.val (.int p0), .val (.int p1), .val (.int p2), .val (.int p3), .val (.int v4), .val (.int v1), .val (.int v3), .val (.ref b100), .val (.ref b126_b1_b9_b1), .val (.int v154)] [(.int v3), (.int (2 : Int32)), (.ref b126_b1_b9_b1)])) _
        refine XS.iload X162.here hx rfl (hb hby at_173) rfl ?_
        show Steps p.tables e below (T162.setTop (mkF m 175 #[.val (.int p0), .val (.int p1), .val (.int p2), .val (.int p3), .val (.int v4), .val (.int v1), .val (.int v3), .val (.ref b100), .val (.ref b126_b1_b9_b1), .val (.int v154)] [(.int v1), (.int v3), (.int (2 : Int32)), (.ref b126_b1_b9_b1)])) _
        refine st166 _ ?_
        show Steps p.tables e below (T166.setTop (mkF m 178 #[.val (.int p0), .val (.int p1), .val (.int p2), .val (.int p3), .val (.int v4), .val (.int v1), .val (.int v3), .val (.ref b100), .val (.ref b126_b1_b9_b1), .val (.int v154)] [(.int (own_un (2 : Int32) v3 v1 f141))])) _
        refine XS.ifNo X166.here hx rfl (hb hby at_178) rfl ((if0 _ _).trans (feq hk167).1) ?_
        show Steps p.tables e below (T166.setTop (mkF m 181 #[.val (.int p0), .val (.int p1), .val (.int p2), .val (.int p3), .val (.int v4), .val (.int v1), .val (.int v3), .val (.ref b100), .val (.ref b126_b1_b9_b1), .val (.int v154)] [])) _
        refine XS.aload X166.here hx rfl (hb hby at_181) rfl rfl ?_
        show Steps p.tables e below (T166.setTop (mkF m 183 #[.val (.int p0), .val (.int p1), .val (.int p2), .val (.int p3), .val (.int v4), .val (.int v1), .val (.int v3), .val (.ref b100), .val (.ref b126_b1_b9_b1), .val (.int v154)] [(.ref b126_b1_b9_b1)])) _
        refine XS.iconst X166.here hx rfl (hb hby at_183) ?_
        show Steps p.tables e below (T166.setTop (mkF m 184 #[.val (.int p0), .val (.int p1), .val (.int p2), .val (.int p3), .val (.int v4), .val (.int v1), .val (.int v3), .val (.ref b100), .val (.ref b126_b1_b9_b1), .val (.int v154)] [(.int (3 : Int32)), (.ref b126_b1_b9_b1)])) _
        refine XS.iload X166.here hx rfl (hb hby at_184) rfl ?_
        show Steps p.tables e below (T166.setTop (mkF m 186 #[.val (.int p0), .val (.int p1), .val (.int p2), .val (.int p3), .val (.int v4), .val (.int v1), .val (.int v3), .val (.ref b100), .val (.ref b126_b1_b9_b1), .val (.int v154)] [(.int v3), (.int (3 : Int32)), (.ref b126_b1_b9_b1)])) _
        refine XS.iload X166.here hx rfl (hb hby at_186) rfl ?_
        show Steps p.tables e below (T166.setTop (mkF m 188 #[.val (.int p0), .val (.int p1), .val (.int p2), .val (.int p3), .val (.int v4), .val (.int v1), .val (.int v3), .val (.ref b100), .val (.ref b126_b1_b9_b1), .val (.int v154)] [(.int v1), (.int v3), (.int (3 : Int32)), (.ref b126_b1_b9_b1)])) _
        refine st170 _ ?_
        show Steps p.tables e below (T170.setTop (mkF m 191 #[.val (.int p0), .val (.int p1), .val (.int p2), .val (.int p3), .val (.int v4), .val (.int v1), .val (.int v3), .val (.ref b100), .val (.ref b126_b1_b9_b1), .val (.int v154)] [(.int (own_un (3 : Int32) v3 v1 f141))])) _
        refine XS.ifNo X170.here hx rfl (hb hby at_191) rfl ((if0 _ _).trans (feq hk171).1) ?_
        show Steps p.tables e below (T170.setTop (mkF m 194 #[.val (.int p0), .val (.int p1), .val (.int p2), .val (.int p3), .val (.int v4), .val (.int v1), .val (.int v3), .val (.ref b100), .val (.ref b126_b1_b9_b1), .val (.int v154)] [])) _
        refine XS.aload X170.here hx rfl (hb hby at_194) rfl rfl ?_
        show Steps p.tables e below (T170.setTop (mkF m 196 #[.val (.int p0), .val (.int p1), .val (.int p2), .val (.int p3), .val (.int v4), .val (.int v1), .val (.int v3), .val (.ref b100), .val (.ref b126_b1_b9_b1), .val (.int v154)] [(.ref b126_b1_b9_b1)])) _
        refine XS.iconst X170.here hx rfl (hb hby at_196) ?_
        show Steps p.tables e below (T170.setTop (mkF m 197 #[.val (.int p0), .val (.int p1), .val (.int p2), .val (.int p3), .val (.int v4), .val (.int v1), .val (.int v3), .val (.ref b100), .val (.ref b126_b1_b9_b1), .val (.int v154)] [(.int (4 : Int32)), (.ref b126_b1_b9_b1)])) _
        refine XS.iload X170.here hx rfl (hb hby at_197) rfl ?_
        show Steps p.tables e below (T170.setTop (mkF m 199 #[.val (.int p0), .val (.int p1), .val (.int p2), .val (.int p3), .val (.int v4), .val (.int v1), .val (.int v3), .val (.ref b100), .val (.ref b126_b1_b9_b1), .val (.int v154)] [(.int v3), (.int (4 : Int32)), (.ref b126_b1_b9_b1)])) _
        refine XS.iload X170.here hx rfl (hb hby at_199) rfl ?_
        show Steps p.tables e below (T170.setTop (mkF m 201 #[.val (.int p0), .val (.int p1), .val (.int p2), .val (.int p3), .val (.int v4), .val (.int v1), .val (.int v3), .val (.ref b100), .val (.ref b126_b1_b9_b1), .val (.int v154)] [(.int v1), (.int v3), (.int (4 : Int32)), (.ref b126_b1_b9_b1)])) _
        refine st174 _ ?_
        show Steps p.tables e below (T174.setTop (mkF m 204 #[.val (.int p0), .val (.int p1), .val (.int p2), .val (.int p3), .val (.int v4), .val (.int v1), .val (.int v3), .val (.ref b100), .val (.ref b126_b1_b9_b1), .val (.int v154)] [(.int (own_un (4 : Int32) v3 v1 f141))])) _
        refine XS.ifNo X174.here hx rfl (hb hby at_204) rfl ((if0 _ _).trans (feq hk175).1) ?_
        show Steps p.tables e below (T174.setTop (mkF m 207 #[.val (.int p0), .val (.int p1), .val (.int p2), .val (.int p3), .val (.int v4), .val (.int v1), .val (.int v3), .val (.ref b100), .val (.ref b126_b1_b9_b1), .val (.int v154)] [])) _
        refine XS.aload X174.here hx rfl (hb hby at_207) rfl rfl ?_
        show Steps p.tables e below (T174.setTop (mkF m 209 #[.val (.int p0), .val (.int p1), .val (.int p2), .val (.int p3), .val (.int v4), .val (.int v1), .val (.int v3), .val (.ref b100), .val (.ref b126_b1_b9_b1), .val (.int v154)] [(.ref b126_b1_b9_b1)])) _
        refine XS.iconst X174.here hx rfl (hb hby at_209) ?_
        show Steps p.tables e below (T174.setTop (mkF m 210 #[.val (.int p0), .val (.int p1), .val (.int p2), .val (.int p3), .val (.int v4), .val (.int v1), .val (.int v3), .val (.ref b100), .val (.ref b126_b1_b9_b1), .val (.int v154)] [(.int (5 : Int32)), (.ref b126_b1_b9_b1)])) _
        refine XS.iload X174.here hx rfl (hb hby at_210) rfl ?_
        show Steps p.tables e below (T174.setTop (mkF m 212 #[.val (.int p0), .val (.int p1), .val (.int p2), .val (.int p3), .val (.int v4), .val (.int v1), .val (.int v3), .val (.ref b100), .val (.ref b126_b1_b9_b1), .val (.int v154)] [(.int v3), (.int (5 : Int32)), (.ref b126_b1_b9_b1)])) _
        refine XS.iload X174.here hx rfl (hb hby at_212) rfl ?_
        show Steps p.tables e below (T174.setTop (mkF m 214 #[.val (.int p0), .val (.int p1), .val (.int p2), .val (.int p3), .val (.int v4), .val (.int v1), .val (.int v3), .val (.ref b100), .val (.ref b126_b1_b9_b1), .val (.int v154)] [(.int v1), (.int v3), (.int (5 : Int32)), (.ref b126_b1_b9_b1)])) _
        refine st178 _ ?_
        show Steps p.tables e below (T178.setTop (mkF m 217 #[.val (.int p0), .val (.int p1), .val (.int p2), .val (.int p3), .val (.int v4), .val (.int v1), .val (.int v3), .val (.ref b100), .val (.ref b126_b1_b9_b1), .val (.int v154)] [(.int (own_un (5 : Int32) v3 v1 f141))])) _
        refine XS.ifNo X178.here hx rfl (hb hby at_217) rfl ((if0 _ _).trans (feq hk179).1) ?_
        show Steps p.tables e below (T178.setTop (mkF m 220 #[.val (.int p0), .val (.int p1), .val (.int p2), .val (.int p3), .val (.int v4), .val (.int v1), .val (.int v3), .val (.ref b100), .val (.ref b126_b1_b9_b1), .val (.int v154)] [])) _
        refine XS.aload X178.here hx rfl (hb hby at_220) rfl rfl ?_
        show Steps p.tables e below (T178.setTop (mkF m 222 #[.val (.int p0), .val (.int p1), .val (.int p2), .val (.int p3), .val (.int v4), .val (.int v1), .val (.int v3), .val (.ref b100), .val (.ref b126_b1_b9_b1), .val (.int v154)] [(.ref b126_b1_b9_b1)])) _
        refine XS.bipush X178.here hx rfl (hb hby at_222) ?_
        show Steps p.tables e below (T178.setTop (mkF m 224 #[.val (.int p0), .val (.int p1), .val (.int p2), .val (.int p3), .val (.int v4), .val (.int v1), .val (.int v3), .val (.ref b100), .val (.ref b126_b1_b9_b1), .val (.int v154)] [(.int (6 : Int32)), (.ref b126_b1_b9_b1)])) _
        refine XS.iload X178.here hx rfl (hb hby at_224) rfl ?_
        show Steps p.tables e below (T178.setTop (mkF m 226 #[.val (.int p0), .val (.int p1), .val (.int p2), .val (.int p3), .val (.int v4), .val (.int v1), .val (.int v3), .val (.ref b100), .val (.ref b126_b1_b9_b1), .val (.int v154)] [(.int v3), (.int (6 : Int32)), (.ref b126_b1_b9_b1)])) _
        refine XS.iload X178.here hx rfl (hb hby at_226) rfl ?_
        show Steps p.tables e below (T178.setTop (mkF m 228 #[.val (.int p0), .val (.int p1), .val (.int p2), .val (.int p3), .val (.int v4), .val (.int v1), .val (.int v3), .val (.ref b100), .val (.ref b126_b1_b9_b1), .val (.int v154)] [(.int v1), (.int v3), (.int (6 : Int32)), (.ref b126_b1_b9_b1)])) _
        refine st182 _ ?_
        show Steps p.tables e below (T182.setTop (mkF m 231 #[.val (.int p0), .val (.int p1), .val (.int p2), .val (.int p3), .val (.int v4), .val (.int v1), .val (.int v3), .val (.ref b100), .val (.ref b126_b1_b9_b1), .val (.int v154)] [(.int (own_un (6 : Int32) v3 v1 f141))])) _
        refine XS.ifNo X182.here hx rfl (hb hby at_231) rfl ((if0 _ _).trans (feq hk183).1) ?_
        show Steps p.tables e below (T182.setTop (mkF m 234 #[.val (.int p0), .val (.int p1), .val (.int p2), .val (.int p3), .val (.int v4), .val (.int v1), .val (.int v3), .val (.ref b100), .val (.ref b126_b1_b9_b1), .val (.int v154)] [])) _
        refine XS.aload X182.here hx rfl (hb hby at_234) rfl rfl ?_
        show Steps p.tables e below (T182.setTop (mkF m 236 #[.val (.int p0), .val (.int p1), .val (.int p2), .val (.int p3), .val (.int v4), .val (.int v1), .val (.int v3), .val (.ref b100), .val (.ref b126_b1_b9_b1), .val (.int v154)] [(.ref b126_b1_b9_b1)])) _
        refine XS.bipush X182.here hx rfl (hb hby at_236) ?_
        show Steps p.tables e below (T182.setTop (mkF m 238 #[.val (.int p0), .val (.int p1), .val (.int p2), .val (.int p3), .val (.int v4), .val (.int v1), .val (.int v3), .val (.ref b100), .val (.ref b126_b1_b9_b1), .val (.int v154)] [(.int (7 : Int32)), (.ref b126_b1_b9_b1)])) _
        refine XS.iload X182.here hx rfl (hb hby at_238) rfl ?_
        show Steps p.tables e below (T182.setTop (mkF m 240 #[.val (.int p0), .val (.int p1), .val (.int p2), .val (.int p3), .val (.int v4), .val (.int v1), .val (.int v3), .val (.ref b100), .val (.ref b126_b1_b9_b1), .val (.int v154)] [(.int v3), (.int (7 : Int32)), (.ref b126_b1_b9_b1)])) _
        refine XS.iload X182.here hx rfl (hb hby at_240) rfl ?_
        show Steps p.tables e below (T182.setTop (mkF m 242 #[.val (.int p0), .val (.int p1), .val (.int p2), .val (.int p3), .val (.int v4), .val (.int v1), .val (.int v3), .val (.ref b100), .val (.ref b126_b1_b9_b1), .val (.int v154)] [(.int v1), (.int v3), (.int (7 : Int32)), (.ref b126_b1_b9_b1)])) _
        refine st186 _ ?_
        show Steps p.tables e below (T186.setTop (mkF m 245 #[.val (.int p0), .val (.int p1), .val (.int p2), .val (.int p3), .val (.int v4), .val (.int v1), .val (.int v3), .val (.ref b100), .val (.ref b126_b1_b9_b1), .val (.int v154)] [(.int (own_un (7 : Int32) v3 v1 f141))])) _
        refine XS.ifNo X186.here hx rfl (hb hby at_245) rfl ((if0 _ _).trans (feq hk187).1) ?_
        show Steps p.tables e below (T186.setTop (mkF m 248 #[.val (.int p0), .val (.int p1), .val (.int p2), .val (.int p3), .val (.int v4), .val (.int v1), .val (.int v3), .val (.ref b100), .val (.ref b126_b1_b9_b1), .val (.int v154)] [])) _
        refine XS.iconst X186.here hx rfl (hb hby at_248) ?_
        show Steps p.tables e below (T186.setTop (mkF m 249 #[.val (.int p0), .val (.int p1), .val (.int p2), .val (.int p3), .val (.int v4), .val (.int v1), .val (.int v3), .val (.ref b100), .val (.ref b126_b1_b9_b1), .val (.int v154)] [(.int (1 : Int32))])) _
        refine XS.goto X186.here hx rfl (pc0 := 249) (pc' := 253) rfl (hb hby at_249) (by decide) (by decide) ?_
        show Steps p.tables e below (T186.setTop (mkF m 253 #[.val (.int p0), .val (.int p1), .val (.int p2), .val (.int p3), .val (.int v4), .val (.int v1), .val (.int v3), .val (.ref b100), .val (.ref b126_b1_b9_b1), .val (.int v154)] [(.int (1 : Int32))])) _
        exact retN X186 hx (t := .boolean) Bd.returns (by simp) (hb hby at_253) hr
      · show Q0 h0 n0 _ T186.heap _
        exact ⟨rfl, N186⟩
    · have hp188 : ¬ (((Int32.ofNat (v4).toNatClampNeg) - ((0 : Int32) + (1 : Int32))) < v1) := hs
      obtain ⟨cq189, kq189, q189a, q189b, q189c⟩ := isOf hZ rfl P112
      obtain ⟨_, _, ⟨T189, L189, k189, n189⟩, -, X189, ⟨Lc189, hQ189, l189, y189, z189⟩, st189⟩ := X111.virtualBack hx (y := (⟨"com/example/commitlog/commitlog/codec/JsonWriter", "skip", "(I)Lcom/example/commitlog/commitlog/codec/JsonWriter;"⟩ : MethodName)) (z := (⟨"com/example/commitlog/commitlog/codec/JsonWriter", "skip", "(I)Lcom/example/commitlog/commitlog/codec/JsonWriter;"⟩ : MethodName)) hown (mvT hZ (hw _ (List.mem_of_getElem? (i := 50) rfl))) (mvT hZ (hw _ (List.mem_of_getElem? (i := 51) rfl))) (notFace_of_selects (args := #[]) (mvT hZ (hw _ (List.mem_of_getElem? (i := 53) rfl)))) (mvT hZ (hw _ (List.mem_of_getElem? (i := 53) rfl))) (mvT hZ (hw _ (List.mem_of_getElem? (i := 52) rfl))) (by decide) (backOf (W := 0) (rm10k l Z A0 hw [] b100 v1 b103_b2 ((0 : Int32) + (1 : Int32)) (0 : Int32) ((v4).toNatClampNeg) f117 T111.heap n0 (Nat.le_trans Z0 K111.1) P112 P113 P114 P115 P118 nw_b100 hp188) hZ (hw _ (List.mem_of_getElem? (i := 54) rfl)) (hw _ (List.mem_of_getElem? (i := 3) rfl)) (by decide) (by decide)) q189a q189c (g := (mkF m 45 #[.val (.int p0), .val (.int p1), .val (.int p2), .val (.int p3), .val (.int v4), .val (.int v1), .val (.int v3), .val (.ref b100), .unset, .unset] [(.int v1), (.ref b100)])) rfl (by rw [hml]; rfl) (Steps.refl _) (argsL := [(.int v1)]) (rest := []) (lenOf pd_7 rfl) rfl (by show 2 * 0 + _ ≤ _; exact Nat.le_of_eq rfl) (hb hby at_45) (fun _ _ => ⟨rfl, rfl, (by decide : 2 + 0 ≤ _), (by decide : 11 + 0 ≤ _)⟩)
      dsimp only [Pt.U, Pt.locs, Pt.cells, Pt.slots] at X189 l189 y189 z189 st189 hQ189
      subst l189 y189 z189
      obtain ⟨rfl, N189q, Kc189, P190, P191, P192, P193⟩ := hQ189
      have K189 : Keep h0 T189.heap [] := K111.trans Kc189 (allS (Or.inr sz_b100) all0)
      have N189 := Fr.app N111 N189q
      have LEN := (own_LEN_Bk p0 p1 v1 v4 hv1 hv4 V4 V4' hs V1)
      have CON := (own_CON_Bk p0 p1 v1 v4 f117 hv1 hv4 hf117 V4 V4' hs)
      have G194 : AF Z T189.heap b103_b2 .byte (v4).toNatClampNeg (fun j => .int (f117 j)) := (P118.keep Kc189 (ninS (Ne.symm ne_b100_b103_b2) nin0))
      have hp195 : own_in v3 (v4).toNatClampNeg := own_in0 V1 V3 LEN
      have hp196 : own_in (v3 + (1 : Int32)) (v4).toNatClampNeg := own_inK V1 V3 LEN 1 (by decide)
      have hp197 : own_in (v3 + (2 : Int32)) (v4).toNatClampNeg := own_inK V1 V3 LEN 2 (by decide)
      have hp198 : own_in (v3 + (3 : Int32)) (v4).toNatClampNeg := own_inK V1 V3 LEN 3 (by decide)
      obtain ⟨cq199, kq199, q199a, q199b, q199c⟩ := isOf hZ rfl P190
      obtain ⟨_, _, ⟨T199, L199, k199, n199⟩, -, X199, ⟨Lc199, hQ199, l199, y199, z199⟩, st199⟩ := X189.virtualBack hx (y := (⟨"com/example/commitlog/commitlog/codec/JsonWriter", "putInt", "(II)V"⟩ : MethodName)) (z := (⟨"com/example/commitlog/commitlog/codec/JsonWriter", "putInt", "(II)V"⟩ : MethodName)) hown (mvT hZ (hw _ (List.mem_of_getElem? (i := 55) rfl))) (mvT hZ (hw _ (List.mem_of_getElem? (i := 56) rfl))) (notFace_of_selects (args := #[]) (mvT hZ (hw _ (List.mem_of_getElem? (i := 58) rfl)))) (mvT hZ (hw _ (List.mem_of_getElem? (i := 58) rfl))) (mvT hZ (hw _ (List.mem_of_getElem? (i := 57) rfl))) (by decide) (backOf (W := 0) (rm11 l Z A0 hw [] b100 v3 p3 b103_b2 (((0 : Int32) + (1 : Int32)) + v1) (0 : Int32) ((v4).toNatClampNeg) f117 T189.heap n0 (Nat.le_trans Z0 K189.1) P190 P191 P192 P193 G194 nw_b103_b2 ne_b100_b103_b2 hp195 hp196 hp197 hp198) hZ (hw _ (List.mem_of_getElem? (i := 59) rfl)) (hw _ (List.mem_of_getElem? (i := 3) rfl)) (by decide) (by decide)) q199a q199c (g := (mkF m 54 #[.val (.int p0), .val (.int p1), .val (.int p2), .val (.int p3), .val (.int v4), .val (.int v1), .val (.int v3), .val (.ref b100), .unset, .unset] [(.int p3), (.int v3), (.ref b100)])) rfl (by rw [hml]; rfl) (Steps.refl _) (argsL := [(.int v3), (.int p3)]) (rest := []) (lenOf pd_8 rfl) rfl (by show 2 * 0 + _ ≤ _; exact Nat.le_of_eq rfl) (hb hby at_54) (fun _ _ => ⟨rfl, rfl, (by decide : 2 + 0 ≤ _), (by decide : 11 + 0 ≤ _)⟩)
      dsimp only [Pt.U, Pt.locs, Pt.cells, Pt.slots] at X199 l199 y199 z199 st199 hQ199
      subst l199 y199 z199
      obtain ⟨rfl, N199q, Kc199, P200⟩ := hQ199
      have K199 : Keep h0 T199.heap [] := K189.trans Kc199 (allS (Or.inr sq_b103_b2) all0)
      obtain ⟨f201, hf201⟩ : ∃ f : Nat → Int32, f = (fun i => if i = ((v3 + (3 : Int32))).toNatClampNeg then ((p3.toInt8.toInt32).toInt8.toInt32) else (fun i => if i = ((v3 + (2 : Int32))).toNatClampNeg then ((((p3.toUInt32 >>> ((8 : Int32) &&& 31).toUInt32).toInt32).toInt8.toInt32).toInt8.toInt32) else (fun i => if i = ((v3 + (1 : Int32))).toNatClampNeg then ((((p3.toUInt32 >>> ((16 : Int32) &&& 31).toUInt32).toInt32).toInt8.toInt32).toInt8.toInt32) else (fun i => if i = (v3).toNatClampNeg then ((((p3.toUInt32 >>> ((24 : Int32) &&& 31).toUInt32).toInt32).toInt8.toInt32).toInt8.toInt32) else f117 i) i) i) i) := ⟨_, rfl⟩
      have P202 : AF Z T199.heap b103_b2 .byte (v4).toNatClampNeg (fun j => .int (f201 j)) := by rw [hf201]; exact P200
      have N199 := Fr.app N189 N199q
      have G203 : Exa Z T199.heap b100 "com/example/commitlog/commitlog/codec/JsonWriter" := (P190.keep Kc199)
      have G204 : Fld Z T199.heap b100 "com/example/commitlog/commitlog/codec/JsonWriter" "bytes" "[B" (.ref b103_b2) := (P191.keep Kc199 (ninS ne_b100_b103_b2 nin0))
      have G205 : Fld Z T199.heap b100 "com/example/commitlog/commitlog/codec/JsonWriter" "length" "I" (.int (((0 : Int32) + (1 : Int32)) + v1)) := (P192.keep Kc199 (ninS ne_b100_b103_b2 nin0))
      have G206 : Fld Z T199.heap b100 "com/example/commitlog/commitlog/codec/JsonWriter" "afterValue" "Z" (.int (0 : Int32)) := (P193.keep Kc199 (ninS ne_b100_b103_b2 nin0))
      obtain ⟨cq207, kq207, q207a, q207b, q207c⟩ := isOf hZ rfl G203
      obtain ⟨_, _, ⟨T207, L207, k207, n207⟩, -, X207, ⟨Lc207, hQ207, l207, y207, z207⟩, st207⟩ := X199.virtualBack hx (y := (⟨"com/example/commitlog/commitlog/codec/JsonWriter", "bytes", "()[B"⟩ : MethodName)) (z := (⟨"com/example/commitlog/commitlog/codec/JsonWriter", "bytes", "()[B"⟩ : MethodName)) hown (mvT hZ (hw _ (List.mem_of_getElem? (i := 60) rfl))) (mvT hZ (hw _ (List.mem_of_getElem? (i := 61) rfl))) (notFace_of_selects (args := #[]) (mvT hZ (hw _ (List.mem_of_getElem? (i := 63) rfl)))) (mvT hZ (hw _ (List.mem_of_getElem? (i := 63) rfl))) (mvT hZ (hw _ (List.mem_of_getElem? (i := 62) rfl))) (by decide) (backOf (W := 0) (rm12 l Z A0 hw [] b100 b103_b2 (((0 : Int32) + (1 : Int32)) + v1) (0 : Int32) T199.heap n0 (Nat.le_trans Z0 K199.1) G203 G204 G205 G206) hZ (hw _ (List.mem_of_getElem? (i := 64) rfl)) (hw _ (List.mem_of_getElem? (i := 3) rfl)) (by decide) (by decide)) q207a q207c (g := (mkF m 59 #[.val (.int p0), .val (.int p1), .val (.int p2), .val (.int p3), .val (.int v4), .val (.int v1), .val (.int v3), .val (.ref b100), .unset, .unset] [(.ref b100)])) rfl (by rw [hml]; rfl) (Steps.refl _) (argsL := []) (rest := []) (lenOf pd_9 rfl) rfl (by show 2 * 0 + _ ≤ _; exact Nat.le_of_eq rfl) (hb hby at_59) (fun _ _ => ⟨rfl, rfl, (by decide : 2 + 0 ≤ _), (by decide : 11 + 0 ≤ _)⟩)
      dsimp only [Pt.U, Pt.locs, Pt.cells, Pt.slots] at X207 l207 y207 z207 st207 hQ207
      subst l207 y207 z207
      obtain ⟨rfl, N207q, e207⟩ := hQ207
      have N207 := Fr.app N199 N207q
      obtain ⟨cq208, kq208, q208a, q208b, q208c⟩ := isOf hZ e207 G203
      obtain ⟨_, _, ⟨T208, L208, k208, n208⟩, -, X208, ⟨Lc208, hQ208, l208, y208, z208⟩, st208⟩ := X207.virtualBack hx (y := (⟨"com/example/commitlog/commitlog/codec/JsonWriter", "length", "()I"⟩ : MethodName)) (z := (⟨"com/example/commitlog/commitlog/codec/JsonWriter", "length", "()I"⟩ : MethodName)) hown (mvT hZ (hw _ (List.mem_of_getElem? (i := 65) rfl))) (mvT hZ (hw _ (List.mem_of_getElem? (i := 66) rfl))) (notFace_of_selects (args := #[]) (mvT hZ (hw _ (List.mem_of_getElem? (i := 68) rfl)))) (mvT hZ (hw _ (List.mem_of_getElem? (i := 68) rfl))) (mvT hZ (hw _ (List.mem_of_getElem? (i := 67) rfl))) (by decide) (backOf (W := 0) (rm13 l Z A0 hw [] b100 (.ref b103_b2) (((0 : Int32) + (1 : Int32)) + v1) (0 : Int32) T199.heap n0 (Nat.le_trans Z0 K199.1) G203 G204 G205 G206) hZ (hw _ (List.mem_of_getElem? (i := 69) rfl)) (hw _ (List.mem_of_getElem? (i := 3) rfl)) (by decide) (by decide)) q208a q208c (g := (mkF m 66 #[.val (.int p0), .val (.int p1), .val (.int p2), .val (.int p3), .val (.int v4), .val (.int v1), .val (.int v3), .val (.ref b100), .val (.ref b103_b2), .unset] [(.ref b100)])) rfl (by rw [hml]; rfl) (Steps.refl _) (argsL := []) (rest := []) (lenOf pd_10 rfl) rfl (by show 2 * 0 + _ ≤ _; exact Nat.le_of_eq rfl) (hb hby at_66) (fun _ _ => ⟨rfl, e207, (by decide : 2 + 0 ≤ _), (by decide : 11 + 0 ≤ _)⟩)
      dsimp only [Pt.U, Pt.locs, Pt.cells, Pt.slots] at X208 l208 y208 z208 st208 hQ208
      subst l208 y208 z208
      obtain ⟨rfl, N208q, e208⟩ := hQ208
      have N208 := Fr.app N207 N208q
      have hk209 : (((0 : Int32) + (1 : Int32)) + v1) = (v1 + (1 : Int32)) := (by rw [show ((0 : Int32) + (1 : Int32)) = 1 from by decide]; exact Int32.add_comm _ _)
      have hi210 : own_in v3 (v4).toNatClampNeg := own_in0 V1 V3 LEN
      have hi211 : own_in (v3 + (1 : Int32)) (v4).toNatClampNeg := own_inK V1 V3 LEN 1 (by decide)
      have hi212 : own_in (v3 + (2 : Int32)) (v4).toNatClampNeg := own_inK V1 V3 LEN 2 (by decide)
      have hi213 : own_in (v3 + (3 : Int32)) (v4).toNatClampNeg := own_inK V1 V3 LEN 3 (by decide)
      obtain ⟨v214, hv214⟩ : ∃ z : Int32, z = ((((((f201 (v3).toNatClampNeg) &&& (255 : Int32)) <<< ((24 : Int32) &&& 31)) ||| (((f201 ((v3 + (1 : Int32))).toNatClampNeg) &&& (255 : Int32)) <<< ((16 : Int32) &&& 31))) ||| (((f201 ((v3 + (2 : Int32))).toNatClampNeg) &&& (255 : Int32)) <<< ((8 : Int32) &&& 31))) ||| ((f201 ((v3 + (3 : Int32))).toNatClampNeg) &&& (255 : Int32))) := ⟨_, rfl⟩
      have hk215 : v214 = p3 := own_bk v3 p3 _ _ _ V3.1 (by omega) hf201 hv214
      have hp216 : 0 ≤ (0 : Int32).toInt := (by decide)
      have hp217 : v1.toInt < (v4).toNatClampNeg := (by omega)
      obtain ⟨_, _, ⟨T218, L218, k218, n218⟩, -, X218, ⟨Lc218, hQ218, l218, y218, z218⟩, st218⟩ := Jvm.LawKit.callS X208 hx (y := (⟨"com/example/commitlog/commitlog/codec/JsonWriterPutIntPinLaw", "untouched", "([BIII)Z"⟩ : MethodName)) hown (mvT hZ (hw _ (List.mem_of_getElem? (i := 70) rfl))) (mvT hZ (hw _ (List.mem_of_getElem? (i := 71) rfl))) (mvT hZ (hw _ (List.mem_of_getElem? (i := 72) rfl))) (mvT hZ (hw _ (List.mem_of_getElem? (i := 73) rfl))) (by decide) (backOf (W := 0) (rm14 l Z A0 hw [] b103_b2 (0 : Int32) v3 v1 ((v4).toNatClampNeg) f201 T199.heap n0 (Nat.le_trans Z0 K199.1) P202 hp216 hp217) hZ (hw _ (List.mem_of_getElem? (i := 73) rfl)) (hw _ (List.mem_of_getElem? (i := 72) rfl)) (by decide) (by decide)) (g := (mkF m 149 #[.val (.int p0), .val (.int p1), .val (.int p2), .val (.int p3), .val (.int v4), .val (.int v1), .val (.int v3), .val (.ref b100), .val (.ref b103_b2), .val (.int v214)] [(.int v1), (.int v3), (.int (0 : Int32)), (.ref b103_b2)])) rfl (by rw [hml]; rfl) (argsL := [(.ref b103_b2), (.int (0 : Int32)), (.int v3), (.int v1)]) (rest := []) (lenOf pd_11 rfl) rfl (by show 2 * 0 + _ ≤ _; exact Nat.le_of_eq rfl) (hb hby at_149) (fun _ _ => ⟨rfl, e208, (by decide : 2 + 0 ≤ _), (by decide : 11 + 0 ≤ _)⟩)
      dsimp only [Pt.U, Pt.locs, Pt.cells, Pt.slots] at X218 l218 y218 z218 st218 hQ218
      subst l218 y218 z218
      obtain ⟨rfl, N218q, e218⟩ := hQ218
      have N218 := Fr.app N208 N218q
      have hk219 : ¬ ((own_un (0 : Int32) v3 v1 f201) = (0 : Int32)) := own_unF 0 (by decide) v1 v3 p3 _ _ V3.1 (by omega) CON hf201
      have hp220 : 0 ≤ (1 : Int32).toInt := (by decide)
      have hp221 : v1.toInt < (v4).toNatClampNeg := (by omega)
      obtain ⟨_, _, ⟨T222, L222, k222, n222⟩, -, X222, ⟨Lc222, hQ222, l222, y222, z222⟩, st222⟩ := Jvm.LawKit.callS X218 hx (y := (⟨"com/example/commitlog/commitlog/codec/JsonWriterPutIntPinLaw", "untouched", "([BIII)Z"⟩ : MethodName)) hown (mvT hZ (hw _ (List.mem_of_getElem? (i := 70) rfl))) (mvT hZ (hw _ (List.mem_of_getElem? (i := 71) rfl))) (mvT hZ (hw _ (List.mem_of_getElem? (i := 72) rfl))) (mvT hZ (hw _ (List.mem_of_getElem? (i := 73) rfl))) (by decide) (backOf (W := 0) (rm14 l Z A0 hw [] b103_b2 (1 : Int32) v3 v1 ((v4).toNatClampNeg) f201 T199.heap n0 (Nat.le_trans Z0 K199.1) P202 hp220 hp221) hZ (hw _ (List.mem_of_getElem? (i := 73) rfl)) (hw _ (List.mem_of_getElem? (i := 72) rfl)) (by decide) (by decide)) (g := (mkF m 162 #[.val (.int p0), .val (.int p1), .val (.int p2), .val (.int p3), .val (.int v4), .val (.int v1), .val (.int v3), .val (.ref b100), .val (.ref b103_b2), .val (.int v214)] [(.int v1), (.int v3), (.int (1 : Int32)), (.ref b103_b2)])) rfl (by rw [hml]; rfl) (argsL := [(.ref b103_b2), (.int (1 : Int32)), (.int v3), (.int v1)]) (rest := []) (lenOf pd_11 rfl) rfl (by show 2 * 0 + _ ≤ _; exact Nat.le_of_eq rfl) (hb hby at_162) (fun _ _ => ⟨rfl, e218, (by decide : 2 + 0 ≤ _), (by decide : 11 + 0 ≤ _)⟩)
      dsimp only [Pt.U, Pt.locs, Pt.cells, Pt.slots] at X222 l222 y222 z222 st222 hQ222
      subst l222 y222 z222
      obtain ⟨rfl, N222q, e222⟩ := hQ222
      have N222 := Fr.app N218 N222q
      have hk223 : ¬ ((own_un (1 : Int32) v3 v1 f201) = (0 : Int32)) := own_unF 1 (by decide) v1 v3 p3 _ _ V3.1 (by omega) CON hf201
      have hp224 : 0 ≤ (2 : Int32).toInt := (by decide)
      have hp225 : v1.toInt < (v4).toNatClampNeg := (by omega)
      obtain ⟨_, _, ⟨T226, L226, k226, n226⟩, -, X226, ⟨Lc226, hQ226, l226, y226, z226⟩, st226⟩ := Jvm.LawKit.callS X222 hx (y := (⟨"com/example/commitlog/commitlog/codec/JsonWriterPutIntPinLaw", "untouched", "([BIII)Z"⟩ : MethodName)) hown (mvT hZ (hw _ (List.mem_of_getElem? (i := 70) rfl))) (mvT hZ (hw _ (List.mem_of_getElem? (i := 71) rfl))) (mvT hZ (hw _ (List.mem_of_getElem? (i := 72) rfl))) (mvT hZ (hw _ (List.mem_of_getElem? (i := 73) rfl))) (by decide) (backOf (W := 0) (rm14 l Z A0 hw [] b103_b2 (2 : Int32) v3 v1 ((v4).toNatClampNeg) f201 T199.heap n0 (Nat.le_trans Z0 K199.1) P202 hp224 hp225) hZ (hw _ (List.mem_of_getElem? (i := 73) rfl)) (hw _ (List.mem_of_getElem? (i := 72) rfl)) (by decide) (by decide)) (g := (mkF m 175 #[.val (.int p0), .val (.int p1), .val (.int p2), .val (.int p3), .val (.int v4), .val (.int v1), .val (.int v3), .val (.ref b100), .val (.ref b103_b2), .val (.int v214)] [(.int v1), (.int v3), (.int (2 : Int32)), (.ref b103_b2)])) rfl (by rw [hml]; rfl) (argsL := [(.ref b103_b2), (.int (2 : Int32)), (.int v3), (.int v1)]) (rest := []) (lenOf pd_11 rfl) rfl (by show 2 * 0 + _ ≤ _; exact Nat.le_of_eq rfl) (hb hby at_175) (fun _ _ => ⟨rfl, e222, (by decide : 2 + 0 ≤ _), (by decide : 11 + 0 ≤ _)⟩)
      dsimp only [Pt.U, Pt.locs, Pt.cells, Pt.slots] at X226 l226 y226 z226 st226 hQ226
      subst l226 y226 z226
      obtain ⟨rfl, N226q, e226⟩ := hQ226
      have N226 := Fr.app N222 N226q
      have hk227 : ¬ ((own_un (2 : Int32) v3 v1 f201) = (0 : Int32)) := own_unF 2 (by decide) v1 v3 p3 _ _ V3.1 (by omega) CON hf201
      have hp228 : 0 ≤ (3 : Int32).toInt := (by decide)
      have hp229 : v1.toInt < (v4).toNatClampNeg := (by omega)
      obtain ⟨_, _, ⟨T230, L230, k230, n230⟩, -, X230, ⟨Lc230, hQ230, l230, y230, z230⟩, st230⟩ := Jvm.LawKit.callS X226 hx (y := (⟨"com/example/commitlog/commitlog/codec/JsonWriterPutIntPinLaw", "untouched", "([BIII)Z"⟩ : MethodName)) hown (mvT hZ (hw _ (List.mem_of_getElem? (i := 70) rfl))) (mvT hZ (hw _ (List.mem_of_getElem? (i := 71) rfl))) (mvT hZ (hw _ (List.mem_of_getElem? (i := 72) rfl))) (mvT hZ (hw _ (List.mem_of_getElem? (i := 73) rfl))) (by decide) (backOf (W := 0) (rm14 l Z A0 hw [] b103_b2 (3 : Int32) v3 v1 ((v4).toNatClampNeg) f201 T199.heap n0 (Nat.le_trans Z0 K199.1) P202 hp228 hp229) hZ (hw _ (List.mem_of_getElem? (i := 73) rfl)) (hw _ (List.mem_of_getElem? (i := 72) rfl)) (by decide) (by decide)) (g := (mkF m 188 #[.val (.int p0), .val (.int p1), .val (.int p2), .val (.int p3), .val (.int v4), .val (.int v1), .val (.int v3), .val (.ref b100), .val (.ref b103_b2), .val (.int v214)] [(.int v1), (.int v3), (.int (3 : Int32)), (.ref b103_b2)])) rfl (by rw [hml]; rfl) (argsL := [(.ref b103_b2), (.int (3 : Int32)), (.int v3), (.int v1)]) (rest := []) (lenOf pd_11 rfl) rfl (by show 2 * 0 + _ ≤ _; exact Nat.le_of_eq rfl) (hb hby at_188) (fun _ _ => ⟨rfl, e226, (by decide : 2 + 0 ≤ _), (by decide : 11 + 0 ≤ _)⟩)
      dsimp only [Pt.U, Pt.locs, Pt.cells, Pt.slots] at X230 l230 y230 z230 st230 hQ230
      subst l230 y230 z230
      obtain ⟨rfl, N230q, e230⟩ := hQ230
      have N230 := Fr.app N226 N230q
      have hk231 : ¬ ((own_un (3 : Int32) v3 v1 f201) = (0 : Int32)) := own_unF 3 (by decide) v1 v3 p3 _ _ V3.1 (by omega) CON hf201
      have hp232 : 0 ≤ (4 : Int32).toInt := (by decide)
      have hp233 : v1.toInt < (v4).toNatClampNeg := (by omega)
      obtain ⟨_, _, ⟨T234, L234, k234, n234⟩, -, X234, ⟨Lc234, hQ234, l234, y234, z234⟩, st234⟩ := Jvm.LawKit.callS X230 hx (y := (⟨"com/example/commitlog/commitlog/codec/JsonWriterPutIntPinLaw", "untouched", "([BIII)Z"⟩ : MethodName)) hown (mvT hZ (hw _ (List.mem_of_getElem? (i := 70) rfl))) (mvT hZ (hw _ (List.mem_of_getElem? (i := 71) rfl))) (mvT hZ (hw _ (List.mem_of_getElem? (i := 72) rfl))) (mvT hZ (hw _ (List.mem_of_getElem? (i := 73) rfl))) (by decide) (backOf (W := 0) (rm14 l Z A0 hw [] b103_b2 (4 : Int32) v3 v1 ((v4).toNatClampNeg) f201 T199.heap n0 (Nat.le_trans Z0 K199.1) P202 hp232 hp233) hZ (hw _ (List.mem_of_getElem? (i := 73) rfl)) (hw _ (List.mem_of_getElem? (i := 72) rfl)) (by decide) (by decide)) (g := (mkF m 201 #[.val (.int p0), .val (.int p1), .val (.int p2), .val (.int p3), .val (.int v4), .val (.int v1), .val (.int v3), .val (.ref b100), .val (.ref b103_b2), .val (.int v214)] [(.int v1), (.int v3), (.int (4 : Int32)), (.ref b103_b2)])) rfl (by rw [hml]; rfl) (argsL := [(.ref b103_b2), (.int (4 : Int32)), (.int v3), (.int v1)]) (rest := []) (lenOf pd_11 rfl) rfl (by show 2 * 0 + _ ≤ _; exact Nat.le_of_eq rfl) (hb hby at_201) (fun _ _ => ⟨rfl, e230, (by decide : 2 + 0 ≤ _), (by decide : 11 + 0 ≤ _)⟩)
      dsimp only [Pt.U, Pt.locs, Pt.cells, Pt.slots] at X234 l234 y234 z234 st234 hQ234
      subst l234 y234 z234
      obtain ⟨rfl, N234q, e234⟩ := hQ234
      have N234 := Fr.app N230 N234q
      have hk235 : ¬ ((own_un (4 : Int32) v3 v1 f201) = (0 : Int32)) := own_unF 4 (by decide) v1 v3 p3 _ _ V3.1 (by omega) CON hf201
      have hp236 : 0 ≤ (5 : Int32).toInt := (by decide)
      have hp237 : v1.toInt < (v4).toNatClampNeg := (by omega)
      obtain ⟨_, _, ⟨T238, L238, k238, n238⟩, -, X238, ⟨Lc238, hQ238, l238, y238, z238⟩, st238⟩ := Jvm.LawKit.callS X234 hx (y := (⟨"com/example/commitlog/commitlog/codec/JsonWriterPutIntPinLaw", "untouched", "([BIII)Z"⟩ : MethodName)) hown (mvT hZ (hw _ (List.mem_of_getElem? (i := 70) rfl))) (mvT hZ (hw _ (List.mem_of_getElem? (i := 71) rfl))) (mvT hZ (hw _ (List.mem_of_getElem? (i := 72) rfl))) (mvT hZ (hw _ (List.mem_of_getElem? (i := 73) rfl))) (by decide) (backOf (W := 0) (rm14 l Z A0 hw [] b103_b2 (5 : Int32) v3 v1 ((v4).toNatClampNeg) f201 T199.heap n0 (Nat.le_trans Z0 K199.1) P202 hp236 hp237) hZ (hw _ (List.mem_of_getElem? (i := 73) rfl)) (hw _ (List.mem_of_getElem? (i := 72) rfl)) (by decide) (by decide)) (g := (mkF m 214 #[.val (.int p0), .val (.int p1), .val (.int p2), .val (.int p3), .val (.int v4), .val (.int v1), .val (.int v3), .val (.ref b100), .val (.ref b103_b2), .val (.int v214)] [(.int v1), (.int v3), (.int (5 : Int32)), (.ref b103_b2)])) rfl (by rw [hml]; rfl) (argsL := [(.ref b103_b2), (.int (5 : Int32)), (.int v3), (.int v1)]) (rest := []) (lenOf pd_11 rfl) rfl (by show 2 * 0 + _ ≤ _; exact Nat.le_of_eq rfl) (hb hby at_214) (fun _ _ => ⟨rfl, e234, (by decide : 2 + 0 ≤ _), (by decide : 11 + 0 ≤ _)⟩)
      dsimp only [Pt.U, Pt.locs, Pt.cells, Pt.slots] at X238 l238 y238 z238 st238 hQ238
      subst l238 y238 z238
      obtain ⟨rfl, N238q, e238⟩ := hQ238
      have N238 := Fr.app N234 N238q
      have hk239 : ¬ ((own_un (5 : Int32) v3 v1 f201) = (0 : Int32)) := own_unF 5 (by decide) v1 v3 p3 _ _ V3.1 (by omega) CON hf201
      have hp240 : 0 ≤ (6 : Int32).toInt := (by decide)
      have hp241 : v1.toInt < (v4).toNatClampNeg := (by omega)
      obtain ⟨_, _, ⟨T242, L242, k242, n242⟩, -, X242, ⟨Lc242, hQ242, l242, y242, z242⟩, st242⟩ := Jvm.LawKit.callS X238 hx (y := (⟨"com/example/commitlog/commitlog/codec/JsonWriterPutIntPinLaw", "untouched", "([BIII)Z"⟩ : MethodName)) hown (mvT hZ (hw _ (List.mem_of_getElem? (i := 70) rfl))) (mvT hZ (hw _ (List.mem_of_getElem? (i := 71) rfl))) (mvT hZ (hw _ (List.mem_of_getElem? (i := 72) rfl))) (mvT hZ (hw _ (List.mem_of_getElem? (i := 73) rfl))) (by decide) (backOf (W := 0) (rm14 l Z A0 hw [] b103_b2 (6 : Int32) v3 v1 ((v4).toNatClampNeg) f201 T199.heap n0 (Nat.le_trans Z0 K199.1) P202 hp240 hp241) hZ (hw _ (List.mem_of_getElem? (i := 73) rfl)) (hw _ (List.mem_of_getElem? (i := 72) rfl)) (by decide) (by decide)) (g := (mkF m 228 #[.val (.int p0), .val (.int p1), .val (.int p2), .val (.int p3), .val (.int v4), .val (.int v1), .val (.int v3), .val (.ref b100), .val (.ref b103_b2), .val (.int v214)] [(.int v1), (.int v3), (.int (6 : Int32)), (.ref b103_b2)])) rfl (by rw [hml]; rfl) (argsL := [(.ref b103_b2), (.int (6 : Int32)), (.int v3), (.int v1)]) (rest := []) (lenOf pd_11 rfl) rfl (by show 2 * 0 + _ ≤ _; exact Nat.le_of_eq rfl) (hb hby at_228) (fun _ _ => ⟨rfl, e238, (by decide : 2 + 0 ≤ _), (by decide : 11 + 0 ≤ _)⟩)
      dsimp only [Pt.U, Pt.locs, Pt.cells, Pt.slots] at X242 l242 y242 z242 st242 hQ242
      subst l242 y242 z242
      obtain ⟨rfl, N242q, e242⟩ := hQ242
      have N242 := Fr.app N238 N242q
      have hk243 : ¬ ((own_un (6 : Int32) v3 v1 f201) = (0 : Int32)) := own_unF 6 (by decide) v1 v3 p3 _ _ V3.1 (by omega) CON hf201
      have hp244 : 0 ≤ (7 : Int32).toInt := (by decide)
      have hp245 : v1.toInt < (v4).toNatClampNeg := (by omega)
      obtain ⟨_, _, ⟨T246, L246, k246, n246⟩, -, X246, ⟨Lc246, hQ246, l246, y246, z246⟩, st246⟩ := Jvm.LawKit.callS X242 hx (y := (⟨"com/example/commitlog/commitlog/codec/JsonWriterPutIntPinLaw", "untouched", "([BIII)Z"⟩ : MethodName)) hown (mvT hZ (hw _ (List.mem_of_getElem? (i := 70) rfl))) (mvT hZ (hw _ (List.mem_of_getElem? (i := 71) rfl))) (mvT hZ (hw _ (List.mem_of_getElem? (i := 72) rfl))) (mvT hZ (hw _ (List.mem_of_getElem? (i := 73) rfl))) (by decide) (backOf (W := 0) (rm14 l Z A0 hw [] b103_b2 (7 : Int32) v3 v1 ((v4).toNatClampNeg) f201 T199.heap n0 (Nat.le_trans Z0 K199.1) P202 hp244 hp245) hZ (hw _ (List.mem_of_getElem? (i := 73) rfl)) (hw _ (List.mem_of_getElem? (i := 72) rfl)) (by decide) (by decide)) (g := (mkF m 242 #[.val (.int p0), .val (.int p1), .val (.int p2), .val (.int p3), .val (.int v4), .val (.int v1), .val (.int v3), .val (.ref b100), .val (.ref b103_b2), .val (.int v214)] [(.int v1), (.int v3), (.int (7 : Int32)), (.ref b103_b2)])) rfl (by rw [hml]; rfl) (argsL := [(.ref b103_b2), (.int (7 : Int32)), (.int v3), (.int v1)]) (rest := []) (lenOf pd_11 rfl) rfl (by show 2 * 0 + _ ≤ _; exact Nat.le_of_eq rfl) (hb hby at_242) (fun _ _ => ⟨rfl, e242, (by decide : 2 + 0 ≤ _), (by decide : 11 + 0 ≤ _)⟩)
      dsimp only [Pt.U, Pt.locs, Pt.cells, Pt.slots] at X246 l246 y246 z246 st246 hQ246
      subst l246 y246 z246
      obtain ⟨rfl, N246q, e246⟩ := hQ246
      have N246 := Fr.app N242 N246q
      have hk247 : ¬ ((own_un (7 : Int32) v3 v1 f201) = (0 : Int32)) := own_unF 7 (by decide) v1 v3 p3 _ _ V3.1 (by omega) CON hf201
      obtain ⟨fs, hr, hrun, hended, hW, hsame⟩ := X246.leave (v := some (.int (1 : Int32))) (fun h => by rw [Bd.returns] at h; cases h)
      refine ⟨_, _, pre0 _ (ck5 _ (ck119 _ ?_)), hrun, hended, _, _, rfl, ?_, ⟨_, rfl⟩, hW, hsame.mono (by decide) (by decide)⟩
      · show Steps p.tables e below (T111.setTop (mkF m 45 #[.val (.int p0), .val (.int p1), .val (.int p2), .val (.int p3), .val (.int v4), .val (.int v1), .val (.int v3), .val (.ref b100), .unset, .unset] [(.int v1), (.ref b100)])) _
        refine st189.trans ?_
        show Steps p.tables e below (T189.setTop (mkF m 48 #[.val (.int p0), .val (.int p1), .val (.int p2), .val (.int p3), .val (.int v4), .val (.int v1), .val (.int v3), .val (.ref b100), .unset, .unset] [(.ref b100)])) _
        refine XS.pop X189.here hx rfl (hb hby at_48) rfl rfl ?_
        show Steps p.tables e below (T189.setTop (mkF m 49 #[.val (.int p0), .val (.int p1), .val (.int p2), .val (.int p3), .val (.int v4), .val (.int v1), .val (.int v3), .val (.ref b100), .unset, .unset] [])) _
        refine XS.aload X189.here hx rfl (hb hby at_49) rfl rfl ?_
        show Steps p.tables e below (T189.setTop (mkF m 51 #[.val (.int p0), .val (.int p1), .val (.int p2), .val (.int p3), .val (.int v4), .val (.int v1), .val (.int v3), .val (.ref b100), .unset, .unset] [(.ref b100)])) _
        refine XS.iload X189.here hx rfl (hb hby at_51) rfl ?_
        show Steps p.tables e below (T189.setTop (mkF m 53 #[.val (.int p0), .val (.int p1), .val (.int p2), .val (.int p3), .val (.int v4), .val (.int v1), .val (.int v3), .val (.ref b100), .unset, .unset] [(.int v3), (.ref b100)])) _
        refine XS.iloadN X189.here hx rfl (hb hby at_53) rfl ?_
        show Steps p.tables e below (T189.setTop (mkF m 54 #[.val (.int p0), .val (.int p1), .val (.int p2), .val (.int p3), .val (.int v4), .val (.int v1), .val (.int v3), .val (.ref b100), .unset, .unset] [(.int p3), (.int v3), (.ref b100)])) _
        refine st199.trans ?_
        show Steps p.tables e below (T199.setTop (mkF m 57 #[.val (.int p0), .val (.int p1), .val (.int p2), .val (.int p3), .val (.int v4), .val (.int v1), .val (.int v3), .val (.ref b100), .unset, .unset] [])) _
        refine XS.aload X199.here hx rfl (hb hby at_57) rfl rfl ?_
        show Steps p.tables e below (T199.setTop (mkF m 59 #[.val (.int p0), .val (.int p1), .val (.int p2), .val (.int p3), .val (.int v4), .val (.int v1), .val (.int v3), .val (.ref b100), .unset, .unset] [(.ref b100)])) _
        refine st207.trans ?_
        show Steps p.tables e below (T207.setTop (mkF m 62 #[.val (.int p0), .val (.int p1), .val (.int p2), .val (.int p3), .val (.int v4), .val (.int v1), .val (.int v3), .val (.ref b100), .unset, .unset] [(.ref b103_b2)])) _
        refine XS.astore X207.here hx rfl (hb hby at_62) rfl rfl (l' := #[.val (.int p0), .val (.int p1), .val (.int p2), .val (.int p3), .val (.int v4), .val (.int v1), .val (.int v3), .val (.ref b100), .val (.ref b103_b2), .unset]) rfl ?_
        show Steps p.tables e below (T207.setTop (mkF m 64 #[.val (.int p0), .val (.int p1), .val (.int p2), .val (.int p3), .val (.int v4), .val (.int v1), .val (.int v3), .val (.ref b100), .val (.ref b103_b2), .unset] [])) _
        refine XS.aload X207.here hx rfl (hb hby at_64) rfl rfl ?_
        show Steps p.tables e below (T207.setTop (mkF m 66 #[.val (.int p0), .val (.int p1), .val (.int p2), .val (.int p3), .val (.int v4), .val (.int v1), .val (.int v3), .val (.ref b100), .val (.ref b103_b2), .unset] [(.ref b100)])) _
        refine st208.trans ?_
        show Steps p.tables e below (T208.setTop (mkF m 69 #[.val (.int p0), .val (.int p1), .val (.int p2), .val (.int p3), .val (.int v4), .val (.int v1), .val (.int v3), .val (.ref b100), .val (.ref b103_b2), .unset] [(.int (((0 : Int32) + (1 : Int32)) + v1))])) _
        refine XS.iload X208.here hx rfl (hb hby at_69) rfl ?_
        show Steps p.tables e below (T208.setTop (mkF m 71 #[.val (.int p0), .val (.int p1), .val (.int p2), .val (.int p3), .val (.int v4), .val (.int v1), .val (.int v3), .val (.ref b100), .val (.ref b103_b2), .unset] [(.int v1), (.int (((0 : Int32) + (1 : Int32)) + v1))])) _
        refine XS.iconst X208.here hx rfl (hb hby at_71) ?_
        show Steps p.tables e below (T208.setTop (mkF m 72 #[.val (.int p0), .val (.int p1), .val (.int p2), .val (.int p3), .val (.int v4), .val (.int v1), .val (.int v3), .val (.ref b100), .val (.ref b103_b2), .unset] [(.int (1 : Int32)), (.int v1), (.int (((0 : Int32) + (1 : Int32)) + v1))])) _
        refine XS.iadd X208.here hx rfl (hb hby at_72) rfl ?_
        show Steps p.tables e below (T208.setTop (mkF m 73 #[.val (.int p0), .val (.int p1), .val (.int p2), .val (.int p3), .val (.int v4), .val (.int v1), .val (.int v3), .val (.ref b100), .val (.ref b103_b2), .unset] [(.int (v1 + (1 : Int32))), (.int (((0 : Int32) + (1 : Int32)) + v1))])) _
        refine XS.icmpYes X208.here hx rfl (pc0 := 73) (pc' := 78) rfl (hb hby at_73) rfl (teq hk209).1 (by decide) (by decide) ?_
        show Steps p.tables e below (T208.setTop (mkF m 78 #[.val (.int p0), .val (.int p1), .val (.int p2), .val (.int p3), .val (.int v4), .val (.int v1), .val (.int v3), .val (.ref b100), .val (.ref b103_b2), .unset] [])) _
        refine XS.aload X208.here hx rfl (hb hby at_78) rfl rfl ?_
        show Steps p.tables e below (T208.setTop (mkF m 80 #[.val (.int p0), .val (.int p1), .val (.int p2), .val (.int p3), .val (.int v4), .val (.int v1), .val (.int v3), .val (.ref b100), .val (.ref b103_b2), .unset] [(.ref b103_b2)])) _
        refine XS.iload X208.here hx rfl (hb hby at_80) rfl ?_
        show Steps p.tables e below (T208.setTop (mkF m 82 #[.val (.int p0), .val (.int p1), .val (.int p2), .val (.int p3), .val (.int v4), .val (.int v1), .val (.int v3), .val (.ref b100), .val (.ref b103_b2), .unset] [(.int v3), (.ref b103_b2)])) _
        refine AF.ldB X208 hx hZ e208 P202 hi210 (g := (mkF m 82 #[.val (.int p0), .val (.int p1), .val (.int p2), .val (.int p3), .val (.int v4), .val (.int v1), .val (.int v3), .val (.ref b100), .val (.ref b103_b2), .unset] [(.int v3), (.ref b103_b2)])) rfl rfl (hb hby at_82) _ ?_
        show Steps p.tables e below (T208.setTop (mkF m 83 #[.val (.int p0), .val (.int p1), .val (.int p2), .val (.int p3), .val (.int v4), .val (.int v1), .val (.int v3), .val (.ref b100), .val (.ref b103_b2), .unset] [(.int (f201 (v3).toNatClampNeg))])) _
        refine XS.sipush X208.here hx rfl (hb hby at_83) ?_
        show Steps p.tables e below (T208.setTop (mkF m 86 #[.val (.int p0), .val (.int p1), .val (.int p2), .val (.int p3), .val (.int v4), .val (.int v1), .val (.int v3), .val (.ref b100), .val (.ref b103_b2), .unset] [(.int (255 : Int32)), (.int (f201 (v3).toNatClampNeg))])) _
        refine XS.iand X208.here hx rfl (hb hby at_86) rfl ?_
        show Steps p.tables e below (T208.setTop (mkF m 87 #[.val (.int p0), .val (.int p1), .val (.int p2), .val (.int p3), .val (.int v4), .val (.int v1), .val (.int v3), .val (.ref b100), .val (.ref b103_b2), .unset] [(.int ((f201 (v3).toNatClampNeg) &&& (255 : Int32)))])) _
        refine XS.bipush X208.here hx rfl (hb hby at_87) ?_
        show Steps p.tables e below (T208.setTop (mkF m 89 #[.val (.int p0), .val (.int p1), .val (.int p2), .val (.int p3), .val (.int v4), .val (.int v1), .val (.int v3), .val (.ref b100), .val (.ref b103_b2), .unset] [(.int (24 : Int32)), (.int ((f201 (v3).toNatClampNeg) &&& (255 : Int32)))])) _
        refine XS.ishl X208.here hx rfl (hb hby at_89) rfl ?_
        show Steps p.tables e below (T208.setTop (mkF m 90 #[.val (.int p0), .val (.int p1), .val (.int p2), .val (.int p3), .val (.int v4), .val (.int v1), .val (.int v3), .val (.ref b100), .val (.ref b103_b2), .unset] [(.int (((f201 (v3).toNatClampNeg) &&& (255 : Int32)) <<< ((24 : Int32) &&& 31)))])) _
        refine XS.aload X208.here hx rfl (hb hby at_90) rfl rfl ?_
        show Steps p.tables e below (T208.setTop (mkF m 92 #[.val (.int p0), .val (.int p1), .val (.int p2), .val (.int p3), .val (.int v4), .val (.int v1), .val (.int v3), .val (.ref b100), .val (.ref b103_b2), .unset] [(.ref b103_b2), (.int (((f201 (v3).toNatClampNeg) &&& (255 : Int32)) <<< ((24 : Int32) &&& 31)))])) _
        refine XS.iload X208.here hx rfl (hb hby at_92) rfl ?_
        show Steps p.tables e below (T208.setTop (mkF m 94 #[.val (.int p0), .val (.int p1), .val (.int p2), .val (.int p3), .val (.int v4), .val (.int v1), .val (.int v3), .val (.ref b100), .val (.ref b103_b2), .unset] [(.int v3), (.ref b103_b2), (.int (((f201 (v3).toNatClampNeg) &&& (255 : Int32)) <<< ((24 : Int32) &&& 31)))])) _
        refine XS.iconst X208.here hx rfl (hb hby at_94) ?_
        show Steps p.tables e below (T208.setTop (mkF m 95 #[.val (.int p0), .val (.int p1), .val (.int p2), .val (.int p3), .val (.int v4), .val (.int v1), .val (.int v3), .val (.ref b100), .val (.ref b103_b2), .unset] [(.int (1 : Int32)), (.int v3), (.ref b103_b2), (.int (((f201 (v3).toNatClampNeg) &&& (255 : Int32)) <<< ((24 : Int32) &&& 31)))])) _
        refine XS.iadd X208.here hx rfl (hb hby at_95) rfl ?_
        show Steps p.tables e below (T208.setTop (mkF m 96 #[.val (.int p0), .val (.int p1), .val (.int p2), .val (.int p3), .val (.int v4), .val (.int v1), .val (.int v3), .val (.ref b100), .val (.ref b103_b2), .unset] [(.int (v3 + (1 : Int32))), (.ref b103_b2), (.int (((f201 (v3).toNatClampNeg) &&& (255 : Int32)) <<< ((24 : Int32) &&& 31)))])) _
        refine AF.ldB X208 hx hZ e208 P202 hi211 (g := (mkF m 96 #[.val (.int p0), .val (.int p1), .val (.int p2), .val (.int p3), .val (.int v4), .val (.int v1), .val (.int v3), .val (.ref b100), .val (.ref b103_b2), .unset] [(.int (v3 + (1 : Int32))), (.ref b103_b2), (.int (((f201 (v3).toNatClampNeg) &&& (255 : Int32)) <<< ((24 : Int32) &&& 31)))])) rfl rfl (hb hby at_96) _ ?_
        show Steps p.tables e below (T208.setTop (mkF m 97 #[.val (.int p0), .val (.int p1), .val (.int p2), .val (.int p3), .val (.int v4), .val (.int v1), .val (.int v3), .val (.ref b100), .val (.ref b103_b2), .unset] [(.int (f201 ((v3 + (1 : Int32))).toNatClampNeg)), (.int (((f201 (v3).toNatClampNeg) &&& (255 : Int32)) <<< ((24 : Int32) &&& 31)))])) _
        refine XS.sipush X208.here hx rfl (hb hby at_97) ?_
        show Steps p.tables e below (T208.setTop (mkF m 100 #[.val (.int p0), .val (.int p1), .val (.int p2), .val (.int p3), .val (.int v4), .val (.int v1), .val (.int v3), .val (.ref b100), .val (.ref b103_b2), .unset] [(.int (255 : Int32)), (.int (f201 ((v3 + (1 : Int32))).toNatClampNeg)), (.int (((f201 (v3).toNatClampNeg) &&& (255 : Int32)) <<< ((24 : Int32) &&& 31)))])) _
        refine XS.iand X208.here hx rfl (hb hby at_100) rfl ?_
        show Steps p.tables e below (T208.setTop (mkF m 101 #[.val (.int p0), .val (.int p1), .val (.int p2), .val (.int p3), .val (.int v4), .val (.int v1), .val (.int v3), .val (.ref b100), .val (.ref b103_b2), .unset] [(.int ((f201 ((v3 + (1 : Int32))).toNatClampNeg) &&& (255 : Int32))), (.int (((f201 (v3).toNatClampNeg) &&& (255 : Int32)) <<< ((24 : Int32) &&& 31)))])) _
        refine XS.bipush X208.here hx rfl (hb hby at_101) ?_
        show Steps p.tables e below (T208.setTop (mkF m 103 #[.val (.int p0), .val (.int p1), .val (.int p2), .val (.int p3), .val (.int v4), .val (.int v1), .val (.int v3), .val (.ref b100), .val (.ref b103_b2), .unset] [(.int (16 : Int32)), (.int ((f201 ((v3 + (1 : Int32))).toNatClampNeg) &&& (255 : Int32))), (.int (((f201 (v3).toNatClampNeg) &&& (255 : Int32)) <<< ((24 : Int32) &&& 31)))])) _
        refine XS.ishl X208.here hx rfl (hb hby at_103) rfl ?_
        show Steps p.tables e below (T208.setTop (mkF m 104 #[.val (.int p0), .val (.int p1), .val (.int p2), .val (.int p3), .val (.int v4), .val (.int v1), .val (.int v3), .val (.ref b100), .val (.ref b103_b2), .unset] [(.int (((f201 ((v3 + (1 : Int32))).toNatClampNeg) &&& (255 : Int32)) <<< ((16 : Int32) &&& 31))), (.int (((f201 (v3).toNatClampNeg) &&& (255 : Int32)) <<< ((24 : Int32) &&& 31)))])) _
        refine XS.ior X208.here hx rfl (hb hby at_104) rfl ?_
        show Steps p.tables e below (T208.setTop (mkF m 105 #[.val (.int p0), .val (.int p1), .val (.int p2), .val (.int p3), .val (.int v4), .val (.int v1), .val (.int v3), .val (.ref b100), .val (.ref b103_b2), .unset] [(.int ((((f201 (v3).toNatClampNeg) &&& (255 : Int32)) <<< ((24 : Int32) &&& 31)) ||| (((f201 ((v3 + (1 : Int32))).toNatClampNeg) &&& (255 : Int32)) <<< ((16 : Int32) &&& 31))))])) _
        refine XS.aload X208.here hx rfl (hb hby at_105) rfl rfl ?_
        show Steps p.tables e below (T208.setTop (mkF m 107 #[.val (.int p0), .val (.int p1), .val (.int p2), .val (.int p3), .val (.int v4), .val (.int v1), .val (.int v3), .val (.ref b100), .val (.ref b103_b2), .unset] [(.ref b103_b2), (.int ((((f201 (v3).toNatClampNeg) &&& (255 : Int32)) <<< ((24 : Int32) &&& 31)) ||| (((f201 ((v3 + (1 : Int32))).toNatClampNeg) &&& (255 : Int32)) <<< ((16 : Int32) &&& 31))))])) _
        refine XS.iload X208.here hx rfl (hb hby at_107) rfl ?_
        show Steps p.tables e below (T208.setTop (mkF m 109 #[.val (.int p0), .val (.int p1), .val (.int p2), .val (.int p3), .val (.int v4), .val (.int v1), .val (.int v3), .val (.ref b100), .val (.ref b103_b2), .unset] [(.int v3), (.ref b103_b2), (.int ((((f201 (v3).toNatClampNeg) &&& (255 : Int32)) <<< ((24 : Int32) &&& 31)) ||| (((f201 ((v3 + (1 : Int32))).toNatClampNeg) &&& (255 : Int32)) <<< ((16 : Int32) &&& 31))))])) _
        refine XS.iconst X208.here hx rfl (hb hby at_109) ?_
        show Steps p.tables e below (T208.setTop (mkF m 110 #[.val (.int p0), .val (.int p1), .val (.int p2), .val (.int p3), .val (.int v4), .val (.int v1), .val (.int v3), .val (.ref b100), .val (.ref b103_b2), .unset] [(.int (2 : Int32)), (.int v3), (.ref b103_b2), (.int ((((f201 (v3).toNatClampNeg) &&& (255 : Int32)) <<< ((24 : Int32) &&& 31)) ||| (((f201 ((v3 + (1 : Int32))).toNatClampNeg) &&& (255 : Int32)) <<< ((16 : Int32) &&& 31))))])) _
        refine XS.iadd X208.here hx rfl (hb hby at_110) rfl ?_
        show Steps p.tables e below (T208.setTop (mkF m 111 #[.val (.int p0), .val (.int p1), .val (.int p2), .val (.int p3), .val (.int v4), .val (.int v1), .val (.int v3), .val (.ref b100), .val (.ref b103_b2), .unset] [(.int (v3 + (2 : Int32))), (.ref b103_b2), (.int ((((f201 (v3).toNatClampNeg) &&& (255 : Int32)) <<< ((24 : Int32) &&& 31)) ||| (((f201 ((v3 + (1 : Int32))).toNatClampNeg) &&& (255 : Int32)) <<< ((16 : Int32) &&& 31))))])) _
        refine AF.ldB X208 hx hZ e208 P202 hi212 (g := (mkF m 111 #[.val (.int p0), .val (.int p1), .val (.int p2), .val (.int p3), .val (.int v4), .val (.int v1), .val (.int v3), .val (.ref b100), .val (.ref b103_b2), .unset] [(.int (v3 + (2 : Int32))), (.ref b103_b2), (.int ((((f201 (v3).toNatClampNeg) &&& (255 : Int32)) <<< ((24 : Int32) &&& 31)) ||| (((f201 ((v3 + (1 : Int32))).toNatClampNeg) &&& (255 : Int32)) <<< ((16 : Int32) &&& 31))))])) rfl rfl (hb hby at_111) _ ?_
        show Steps p.tables e below (T208.setTop (mkF m 112 #[.val (.int p0), .val (.int p1), .val (.int p2), .val (.int p3), .val (.int v4), .val (.int v1), .val (.int v3), .val (.ref b100), .val (.ref b103_b2), .unset] [(.int (f201 ((v3 + (2 : Int32))).toNatClampNeg)), (.int ((((f201 (v3).toNatClampNeg) &&& (255 : Int32)) <<< ((24 : Int32) &&& 31)) ||| (((f201 ((v3 + (1 : Int32))).toNatClampNeg) &&& (255 : Int32)) <<< ((16 : Int32) &&& 31))))])) _
        refine XS.sipush X208.here hx rfl (hb hby at_112) ?_
        show Steps p.tables e below (T208.setTop (mkF m 115 #[.val (.int p0), .val (.int p1), .val (.int p2), .val (.int p3), .val (.int v4), .val (.int v1), .val (.int v3), .val (.ref b100), .val (.ref b103_b2), .unset] [(.int (255 : Int32)), (.int (f201 ((v3 + (2 : Int32))).toNatClampNeg)), (.int ((((f201 (v3).toNatClampNeg) &&& (255 : Int32)) <<< ((24 : Int32) &&& 31)) ||| (((f201 ((v3 + (1 : Int32))).toNatClampNeg) &&& (255 : Int32)) <<< ((16 : Int32) &&& 31))))])) _
        refine XS.iand X208.here hx rfl (hb hby at_115) rfl ?_
        show Steps p.tables e below (T208.setTop (mkF m 116 #[.val (.int p0), .val (.int p1), .val (.int p2), .val (.int p3), .val (.int v4), .val (.int v1), .val (.int v3), .val (.ref b100), .val (.ref b103_b2), .unset] [(.int ((f201 ((v3 + (2 : Int32))).toNatClampNeg) &&& (255 : Int32))), (.int ((((f201 (v3).toNatClampNeg) &&& (255 : Int32)) <<< ((24 : Int32) &&& 31)) ||| (((f201 ((v3 + (1 : Int32))).toNatClampNeg) &&& (255 : Int32)) <<< ((16 : Int32) &&& 31))))])) _
        refine XS.bipush X208.here hx rfl (hb hby at_116) ?_
        show Steps p.tables e below (T208.setTop (mkF m 118 #[.val (.int p0), .val (.int p1), .val (.int p2), .val (.int p3), .val (.int v4), .val (.int v1), .val (.int v3), .val (.ref b100), .val (.ref b103_b2), .unset] [(.int (8 : Int32)), (.int ((f201 ((v3 + (2 : Int32))).toNatClampNeg) &&& (255 : Int32))), (.int ((((f201 (v3).toNatClampNeg) &&& (255 : Int32)) <<< ((24 : Int32) &&& 31)) ||| (((f201 ((v3 + (1 : Int32))).toNatClampNeg) &&& (255 : Int32)) <<< ((16 : Int32) &&& 31))))])) _
        refine XS.ishl X208.here hx rfl (hb hby at_118) rfl ?_
        show Steps p.tables e below (T208.setTop (mkF m 119 #[.val (.int p0), .val (.int p1), .val (.int p2), .val (.int p3), .val (.int v4), .val (.int v1), .val (.int v3), .val (.ref b100), .val (.ref b103_b2), .unset] [(.int (((f201 ((v3 + (2 : Int32))).toNatClampNeg) &&& (255 : Int32)) <<< ((8 : Int32) &&& 31))), (.int ((((f201 (v3).toNatClampNeg) &&& (255 : Int32)) <<< ((24 : Int32) &&& 31)) ||| (((f201 ((v3 + (1 : Int32))).toNatClampNeg) &&& (255 : Int32)) <<< ((16 : Int32) &&& 31))))])) _
        refine XS.ior X208.here hx rfl (hb hby at_119) rfl ?_
        show Steps p.tables e below (T208.setTop (mkF m 120 #[.val (.int p0), .val (.int p1), .val (.int p2), .val (.int p3), .val (.int v4), .val (.int v1), .val (.int v3), .val (.ref b100), .val (.ref b103_b2), .unset] [(.int (((((f201 (v3).toNatClampNeg) &&& (255 : Int32)) <<< ((24 : Int32) &&& 31)) ||| (((f201 ((v3 + (1 : Int32))).toNatClampNeg) &&& (255 : Int32)) <<< ((16 : Int32) &&& 31))) ||| (((f201 ((v3 + (2 : Int32))).toNatClampNeg) &&& (255 : Int32)) <<< ((8 : Int32) &&& 31))))])) _
        refine XS.aload X208.here hx rfl (hb hby at_120) rfl rfl ?_
        show Steps p.tables e below (T208.setTop (mkF m 122 #[.val (.int p0), .val (.int p1), .val (.int p2), .val (.int p3), .val (.int v4), .val (.int v1), .val (.int v3), .val (.ref b100), .val (.ref b103_b2), .unset] [(.ref b103_b2), (.int (((((f201 (v3).toNatClampNeg) &&& (255 : Int32)) <<< ((24 : Int32) &&& 31)) ||| (((f201 ((v3 + (1 : Int32))).toNatClampNeg) &&& (255 : Int32)) <<< ((16 : Int32) &&& 31))) ||| (((f201 ((v3 + (2 : Int32))).toNatClampNeg) &&& (255 : Int32)) <<< ((8 : Int32) &&& 31))))])) _
        refine XS.iload X208.here hx rfl (hb hby at_122) rfl ?_
        show Steps p.tables e below (T208.setTop (mkF m 124 #[.val (.int p0), .val (.int p1), .val (.int p2), .val (.int p3), .val (.int v4), .val (.int v1), .val (.int v3), .val (.ref b100), .val (.ref b103_b2), .unset] [(.int v3), (.ref b103_b2), (.int (((((f201 (v3).toNatClampNeg) &&& (255 : Int32)) <<< ((24 : Int32) &&& 31)) ||| (((f201 ((v3 + (1 : Int32))).toNatClampNeg) &&& (255 : Int32)) <<< ((16 : Int32) &&& 31))) ||| (((f201 ((v3 + (2 : Int32))).toNatClampNeg) &&& (255 : Int32)) <<< ((8 : Int32) &&& 31))))])) _
        refine XS.iconst X208.here hx rfl (hb hby at_124) ?_
        show Steps p.tables e below (T208.setTop (mkF m 125 #[.val (.int p0), .val (.int p1), .val (.int p2), .val (.int p3), .val (.int v4), .val (.int v1), .val (.int v3), .val (.ref b100), .val (.ref b103_b2), .unset] [(.int (3 : Int32)), (.int v3), (.ref b103_b2), (.int (((((f201 (v3).toNatClampNeg) &&& (255 : Int32)) <<< ((24 : Int32) &&& 31)) ||| (((f201 ((v3 + (1 : Int32))).toNatClampNeg) &&& (255 : Int32)) <<< ((16 : Int32) &&& 31))) ||| (((f201 ((v3 + (2 : Int32))).toNatClampNeg) &&& (255 : Int32)) <<< ((8 : Int32) &&& 31))))])) _
        refine XS.iadd X208.here hx rfl (hb hby at_125) rfl ?_
        show Steps p.tables e below (T208.setTop (mkF m 126 #[.val (.int p0), .val (.int p1), .val (.int p2), .val (.int p3), .val (.int v4), .val (.int v1), .val (.int v3), .val (.ref b100), .val (.ref b103_b2), .unset] [(.int (v3 + (3 : Int32))), (.ref b103_b2), (.int (((((f201 (v3).toNatClampNeg) &&& (255 : Int32)) <<< ((24 : Int32) &&& 31)) ||| (((f201 ((v3 + (1 : Int32))).toNatClampNeg) &&& (255 : Int32)) <<< ((16 : Int32) &&& 31))) ||| (((f201 ((v3 + (2 : Int32))).toNatClampNeg) &&& (255 : Int32)) <<< ((8 : Int32) &&& 31))))])) _
        refine AF.ldB X208 hx hZ e208 P202 hi213 (g := (mkF m 126 #[.val (.int p0), .val (.int p1), .val (.int p2), .val (.int p3), .val (.int v4), .val (.int v1), .val (.int v3), .val (.ref b100), .val (.ref b103_b2), .unset] [(.int (v3 + (3 : Int32))), (.ref b103_b2), (.int (((((f201 (v3).toNatClampNeg) &&& (255 : Int32)) <<< ((24 : Int32) &&& 31)) ||| (((f201 ((v3 + (1 : Int32))).toNatClampNeg) &&& (255 : Int32)) <<< ((16 : Int32) &&& 31))) ||| (((f201 ((v3 + (2 : Int32))).toNatClampNeg) &&& (255 : Int32)) <<< ((8 : Int32) &&& 31))))])) rfl rfl (hb hby at_126) _ ?_
        show Steps p.tables e below (T208.setTop (mkF m 127 #[.val (.int p0), .val (.int p1), .val (.int p2), .val (.int p3), .val (.int v4), .val (.int v1), .val (.int v3), .val (.ref b100), .val (.ref b103_b2), .unset] [(.int (f201 ((v3 + (3 : Int32))).toNatClampNeg)), (.int (((((f201 (v3).toNatClampNeg) &&& (255 : Int32)) <<< ((24 : Int32) &&& 31)) ||| (((f201 ((v3 + (1 : Int32))).toNatClampNeg) &&& (255 : Int32)) <<< ((16 : Int32) &&& 31))) ||| (((f201 ((v3 + (2 : Int32))).toNatClampNeg) &&& (255 : Int32)) <<< ((8 : Int32) &&& 31))))])) _
        refine XS.sipush X208.here hx rfl (hb hby at_127) ?_
        show Steps p.tables e below (T208.setTop (mkF m 130 #[.val (.int p0), .val (.int p1), .val (.int p2), .val (.int p3), .val (.int v4), .val (.int v1), .val (.int v3), .val (.ref b100), .val (.ref b103_b2), .unset] [(.int (255 : Int32)), (.int (f201 ((v3 + (3 : Int32))).toNatClampNeg)), (.int (((((f201 (v3).toNatClampNeg) &&& (255 : Int32)) <<< ((24 : Int32) &&& 31)) ||| (((f201 ((v3 + (1 : Int32))).toNatClampNeg) &&& (255 : Int32)) <<< ((16 : Int32) &&& 31))) ||| (((f201 ((v3 + (2 : Int32))).toNatClampNeg) &&& (255 : Int32)) <<< ((8 : Int32) &&& 31))))])) _
        refine XS.iand X208.here hx rfl (hb hby at_130) rfl ?_
        show Steps p.tables e below (T208.setTop (mkF m 131 #[.val (.int p0), .val (.int p1), .val (.int p2), .val (.int p3), .val (.int v4), .val (.int v1), .val (.int v3), .val (.ref b100), .val (.ref b103_b2), .unset] [(.int ((f201 ((v3 + (3 : Int32))).toNatClampNeg) &&& (255 : Int32))), (.int (((((f201 (v3).toNatClampNeg) &&& (255 : Int32)) <<< ((24 : Int32) &&& 31)) ||| (((f201 ((v3 + (1 : Int32))).toNatClampNeg) &&& (255 : Int32)) <<< ((16 : Int32) &&& 31))) ||| (((f201 ((v3 + (2 : Int32))).toNatClampNeg) &&& (255 : Int32)) <<< ((8 : Int32) &&& 31))))])) _
        refine XS.ior X208.here hx rfl (hb hby at_131) rfl ?_
        show Steps p.tables e below (T208.setTop (mkF m 132 #[.val (.int p0), .val (.int p1), .val (.int p2), .val (.int p3), .val (.int v4), .val (.int v1), .val (.int v3), .val (.ref b100), .val (.ref b103_b2), .unset] [(.int ((((((f201 (v3).toNatClampNeg) &&& (255 : Int32)) <<< ((24 : Int32) &&& 31)) ||| (((f201 ((v3 + (1 : Int32))).toNatClampNeg) &&& (255 : Int32)) <<< ((16 : Int32) &&& 31))) ||| (((f201 ((v3 + (2 : Int32))).toNatClampNeg) &&& (255 : Int32)) <<< ((8 : Int32) &&& 31))) ||| ((f201 ((v3 + (3 : Int32))).toNatClampNeg) &&& (255 : Int32))))])) _
        refine castTop (g' := (mkF m 132 #[.val (.int p0), .val (.int p1), .val (.int p2), .val (.int p3), .val (.int v4), .val (.int v1), .val (.int v3), .val (.ref b100), .val (.ref b103_b2), .unset] [(.int v214)])) (by rw [hv214] <;> rfl) ?_
        show Steps p.tables e below (T208.setTop (mkF m 132 #[.val (.int p0), .val (.int p1), .val (.int p2), .val (.int p3), .val (.int v4), .val (.int v1), .val (.int v3), .val (.ref b100), .val (.ref b103_b2), .unset] [(.int v214)])) _
        refine XS.istore X208.here hx rfl (hb hby at_132) rfl (l' := #[.val (.int p0), .val (.int p1), .val (.int p2), .val (.int p3), .val (.int v4), .val (.int v1), .val (.int v3), .val (.ref b100), .val (.ref b103_b2), .val (.int v214)]) rfl ?_
        show Steps p.tables e below (T208.setTop (mkF m 134 #[.val (.int p0), .val (.int p1), .val (.int p2), .val (.int p3), .val (.int v4), .val (.int v1), .val (.int v3), .val (.ref b100), .val (.ref b103_b2), .val (.int v214)] [])) _
        refine XS.iload X208.here hx rfl (hb hby at_134) rfl ?_
        show Steps p.tables e below (T208.setTop (mkF m 136 #[.val (.int p0), .val (.int p1), .val (.int p2), .val (.int p3), .val (.int v4), .val (.int v1), .val (.int v3), .val (.ref b100), .val (.ref b103_b2), .val (.int v214)] [(.int v214)])) _
        refine XS.iloadN X208.here hx rfl (hb hby at_136) rfl ?_
        show Steps p.tables e below (T208.setTop (mkF m 137 #[.val (.int p0), .val (.int p1), .val (.int p2), .val (.int p3), .val (.int v4), .val (.int v1), .val (.int v3), .val (.ref b100), .val (.ref b103_b2), .val (.int v214)] [(.int p3), (.int v214)])) _
        refine XS.icmpYes X208.here hx rfl (pc0 := 137) (pc' := 142) rfl (hb hby at_137) rfl (teq hk215).1 (by decide) (by decide) ?_
        show Steps p.tables e below (T208.setTop (mkF m 142 #[.val (.int p0), .val (.int p1), .val (.int p2), .val (.int p3), .val (.int v4), .val (.int v1), .val (.int v3), .val (.ref b100), .val (.ref b103_b2), .val (.int v214)] [])) _
        refine XS.aload X208.here hx rfl (hb hby at_142) rfl rfl ?_
        show Steps p.tables e below (T208.setTop (mkF m 144 #[.val (.int p0), .val (.int p1), .val (.int p2), .val (.int p3), .val (.int v4), .val (.int v1), .val (.int v3), .val (.ref b100), .val (.ref b103_b2), .val (.int v214)] [(.ref b103_b2)])) _
        refine XS.iconst X208.here hx rfl (hb hby at_144) ?_
        show Steps p.tables e below (T208.setTop (mkF m 145 #[.val (.int p0), .val (.int p1), .val (.int p2), .val (.int p3), .val (.int v4), .val (.int v1), .val (.int v3), .val (.ref b100), .val (.ref b103_b2), .val (.int v214)] [(.int (0 : Int32)), (.ref b103_b2)])) _
        refine XS.iload X208.here hx rfl (hb hby at_145) rfl ?_
        show Steps p.tables e below (T208.setTop (mkF m 147 #[.val (.int p0), .val (.int p1), .val (.int p2), .val (.int p3), .val (.int v4), .val (.int v1), .val (.int v3), .val (.ref b100), .val (.ref b103_b2), .val (.int v214)] [(.int v3), (.int (0 : Int32)), (.ref b103_b2)])) _
        refine XS.iload X208.here hx rfl (hb hby at_147) rfl ?_
        show Steps p.tables e below (T208.setTop (mkF m 149 #[.val (.int p0), .val (.int p1), .val (.int p2), .val (.int p3), .val (.int v4), .val (.int v1), .val (.int v3), .val (.ref b100), .val (.ref b103_b2), .val (.int v214)] [(.int v1), (.int v3), (.int (0 : Int32)), (.ref b103_b2)])) _
        refine st218 _ ?_
        show Steps p.tables e below (T218.setTop (mkF m 152 #[.val (.int p0), .val (.int p1), .val (.int p2), .val (.int p3), .val (.int v4), .val (.int v1), .val (.int v3), .val (.ref b100), .val (.ref b103_b2), .val (.int v214)] [(.int (own_un (0 : Int32) v3 v1 f201))])) _
        refine XS.ifNo X218.here hx rfl (hb hby at_152) rfl ((if0 _ _).trans (feq hk219).1) ?_
        show Steps p.tables e below (T218.setTop (mkF m 155 #[.val (.int p0), .val (.int p1), .val (.int p2), .val (.int p3), .val (.int v4), .val (.int v1), .val (.int v3), .val (.ref b100), .val (.ref b103_b2), .val (.int v214)] [])) _
        refine XS.aload X218.here hx rfl (hb hby at_155) rfl rfl ?_
        show Steps p.tables e below (T218.setTop (mkF m 157 #[.val (.int p0), .val (.int p1), .val (.int p2), .val (.int p3), .val (.int v4), .val (.int v1), .val (.int v3), .val (.ref b100), .val (.ref b103_b2), .val (.int v214)] [(.ref b103_b2)])) _
        refine XS.iconst X218.here hx rfl (hb hby at_157) ?_
        show Steps p.tables e below (T218.setTop (mkF m 158 #[.val (.int p0), .val (.int p1), .val (.int p2), .val (.int p3), .val (.int v4), .val (.int v1), .val (.int v3), .val (.ref b100), .val (.ref b103_b2), .val (.int v214)] [(.int (1 : Int32)), (.ref b103_b2)])) _
        refine XS.iload X218.here hx rfl (hb hby at_158) rfl ?_
        show Steps p.tables e below (T218.setTop (mkF m 160 #[.val (.int p0), .val (.int p1), .val (.int p2), .val (.int p3), .val (.int v4), .val (.int v1), .val (.int v3), .val (.ref b100), .val (.ref b103_b2), .val (.int v214)] [(.int v3), (.int (1 : Int32)), (.ref b103_b2)])) _
        refine XS.iload X218.here hx rfl (hb hby at_160) rfl ?_
        show Steps p.tables e below (T218.setTop (mkF m 162 #[.val (.int p0), .val (.int p1), .val (.int p2), .val (.int p3), .val (.int v4), .val (.int v1), .val (.int v3), .val (.ref b100), .val (.ref b103_b2), .val (.int v214)] [(.int v1), (.int v3), (.int (1 : Int32)), (.ref b103_b2)])) _
        refine st222 _ ?_
        show Steps p.tables e below (T222.setTop (mkF m 165 #[.val (.int p0), .val (.int p1), .val (.int p2), .val (.int p3), .val (.int v4), .val (.int v1), .val (.int v3), .val (.ref b100), .val (.ref b103_b2), .val (.int v214)] [(.int (own_un (1 : Int32) v3 v1 f201))])) _
        refine XS.ifNo X222.here hx rfl (hb hby at_165) rfl ((if0 _ _).trans (feq hk223).1) ?_
        show Steps p.tables e below (T222.setTop (mkF m 168 #[.val (.int p0), .val (.int p1), .val (.int p2), .val (.int p3), .val (.int v4), .val (.int v1), .val (.int v3), .val (.ref b100), .val (.ref b103_b2), .val (.int v214)] [])) _
        refine XS.aload X222.here hx rfl (hb hby at_168) rfl rfl ?_
        show Steps p.tables e below (T222.setTop (mkF m 170 #[.val (.int p0), .val (.int p1), .val (.int p2), .val (.int p3), .val (.int v4), .val (.int v1), .val (.int v3), .val (.ref b100), .val (.ref b103_b2), .val (.int v214)] [(.ref b103_b2)])) _
        refine XS.iconst X222.here hx rfl (hb hby at_170) ?_
        show Steps p.tables e below (T222.setTop (mkF m 171 #[.val (.int p0), .val (.int p1), .val (.int p2), .val (.int p3), .val (.int v4), .val (.int v1), .val (.int v3), .val (.ref b100), .val (.ref b103_b2), .val (.int v214)] [(.int (2 : Int32)), (.ref b103_b2)])) _
        refine XS.iload X222.here hx rfl (hb hby at_171) rfl ?_
        show Steps p.tables e below (T222.setTop (mkF m 173 #[.val (.int p0), .val (.int p1), .val (.int p2), .val (.int p3), .val (.int v4), .val (.int v1), .val (.int v3), .val (.ref b100), .val (.ref b103_b2), .val (.int v214)] [(.int v3), (.int (2 : Int32)), (.ref b103_b2)])) _
        refine XS.iload X222.here hx rfl (hb hby at_173) rfl ?_
        show Steps p.tables e below (T222.setTop (mkF m 175 #[.val (.int p0), .val (.int p1), .val (.int p2), .val (.int p3), .val (.int v4), .val (.int v1), .val (.int v3), .val (.ref b100), .val (.ref b103_b2), .val (.int v214)] [(.int v1), (.int v3), (.int (2 : Int32)), (.ref b103_b2)])) _
        refine st226 _ ?_
        show Steps p.tables e below (T226.setTop (mkF m 178 #[.val (.int p0), .val (.int p1), .val (.int p2), .val (.int p3), .val (.int v4), .val (.int v1), .val (.int v3), .val (.ref b100), .val (.ref b103_b2), .val (.int v214)] [(.int (own_un (2 : Int32) v3 v1 f201))])) _
        refine XS.ifNo X226.here hx rfl (hb hby at_178) rfl ((if0 _ _).trans (feq hk227).1) ?_
        show Steps p.tables e below (T226.setTop (mkF m 181 #[.val (.int p0), .val (.int p1), .val (.int p2), .val (.int p3), .val (.int v4), .val (.int v1), .val (.int v3), .val (.ref b100), .val (.ref b103_b2), .val (.int v214)] [])) _
        refine XS.aload X226.here hx rfl (hb hby at_181) rfl rfl ?_
        show Steps p.tables e below (T226.setTop (mkF m 183 #[.val (.int p0), .val (.int p1), .val (.int p2), .val (.int p3), .val (.int v4), .val (.int v1), .val (.int v3), .val (.ref b100), .val (.ref b103_b2), .val (.int v214)] [(.ref b103_b2)])) _
        refine XS.iconst X226.here hx rfl (hb hby at_183) ?_
        show Steps p.tables e below (T226.setTop (mkF m 184 #[.val (.int p0), .val (.int p1), .val (.int p2), .val (.int p3), .val (.int v4), .val (.int v1), .val (.int v3), .val (.ref b100), .val (.ref b103_b2), .val (.int v214)] [(.int (3 : Int32)), (.ref b103_b2)])) _
        refine XS.iload X226.here hx rfl (hb hby at_184) rfl ?_
        show Steps p.tables e below (T226.setTop (mkF m 186 #[.val (.int p0), .val (.int p1), .val (.int p2), .val (.int p3), .val (.int v4), .val (.int v1), .val (.int v3), .val (.ref b100), .val (.ref b103_b2), .val (.int v214)] [(.int v3), (.int (3 : Int32)), (.ref b103_b2)])) _
        refine XS.iload X226.here hx rfl (hb hby at_186) rfl ?_
        show Steps p.tables e below (T226.setTop (mkF m 188 #[.val (.int p0), .val (.int p1), .val (.int p2), .val (.int p3), .val (.int v4), .val (.int v1), .val (.int v3), .val (.ref b100), .val (.ref b103_b2), .val (.int v214)] [(.int v1), (.int v3), (.int (3 : Int32)), (.ref b103_b2)])) _
        refine st230 _ ?_
        show Steps p.tables e below (T230.setTop (mkF m 191 #[.val (.int p0), .val (.int p1), .val (.int p2), .val (.int p3), .val (.int v4), .val (.int v1), .val (.int v3), .val (.ref b100), .val (.ref b103_b2), .val (.int v214)] [(.int (own_un (3 : Int32) v3 v1 f201))])) _
        refine XS.ifNo X230.here hx rfl (hb hby at_191) rfl ((if0 _ _).trans (feq hk231).1) ?_
        show Steps p.tables e below (T230.setTop (mkF m 194 #[.val (.int p0), .val (.int p1), .val (.int p2), .val (.int p3), .val (.int v4), .val (.int v1), .val (.int v3), .val (.ref b100), .val (.ref b103_b2), .val (.int v214)] [])) _
        refine XS.aload X230.here hx rfl (hb hby at_194) rfl rfl ?_
        show Steps p.tables e below (T230.setTop (mkF m 196 #[.val (.int p0), .val (.int p1), .val (.int p2), .val (.int p3), .val (.int v4), .val (.int v1), .val (.int v3), .val (.ref b100), .val (.ref b103_b2), .val (.int v214)] [(.ref b103_b2)])) _
        refine XS.iconst X230.here hx rfl (hb hby at_196) ?_
        show Steps p.tables e below (T230.setTop (mkF m 197 #[.val (.int p0), .val (.int p1), .val (.int p2), .val (.int p3), .val (.int v4), .val (.int v1), .val (.int v3), .val (.ref b100), .val (.ref b103_b2), .val (.int v214)] [(.int (4 : Int32)), (.ref b103_b2)])) _
        refine XS.iload X230.here hx rfl (hb hby at_197) rfl ?_
        show Steps p.tables e below (T230.setTop (mkF m 199 #[.val (.int p0), .val (.int p1), .val (.int p2), .val (.int p3), .val (.int v4), .val (.int v1), .val (.int v3), .val (.ref b100), .val (.ref b103_b2), .val (.int v214)] [(.int v3), (.int (4 : Int32)), (.ref b103_b2)])) _
        refine XS.iload X230.here hx rfl (hb hby at_199) rfl ?_
        show Steps p.tables e below (T230.setTop (mkF m 201 #[.val (.int p0), .val (.int p1), .val (.int p2), .val (.int p3), .val (.int v4), .val (.int v1), .val (.int v3), .val (.ref b100), .val (.ref b103_b2), .val (.int v214)] [(.int v1), (.int v3), (.int (4 : Int32)), (.ref b103_b2)])) _
        refine st234 _ ?_
        show Steps p.tables e below (T234.setTop (mkF m 204 #[.val (.int p0), .val (.int p1), .val (.int p2), .val (.int p3), .val (.int v4), .val (.int v1), .val (.int v3), .val (.ref b100), .val (.ref b103_b2), .val (.int v214)] [(.int (own_un (4 : Int32) v3 v1 f201))])) _
        refine XS.ifNo X234.here hx rfl (hb hby at_204) rfl ((if0 _ _).trans (feq hk235).1) ?_
        show Steps p.tables e below (T234.setTop (mkF m 207 #[.val (.int p0), .val (.int p1), .val (.int p2), .val (.int p3), .val (.int v4), .val (.int v1), .val (.int v3), .val (.ref b100), .val (.ref b103_b2), .val (.int v214)] [])) _
        refine XS.aload X234.here hx rfl (hb hby at_207) rfl rfl ?_
        show Steps p.tables e below (T234.setTop (mkF m 209 #[.val (.int p0), .val (.int p1), .val (.int p2), .val (.int p3), .val (.int v4), .val (.int v1), .val (.int v3), .val (.ref b100), .val (.ref b103_b2), .val (.int v214)] [(.ref b103_b2)])) _
        refine XS.iconst X234.here hx rfl (hb hby at_209) ?_
        show Steps p.tables e below (T234.setTop (mkF m 210 #[.val (.int p0), .val (.int p1), .val (.int p2), .val (.int p3), .val (.int v4), .val (.int v1), .val (.int v3), .val (.ref b100), .val (.ref b103_b2), .val (.int v214)] [(.int (5 : Int32)), (.ref b103_b2)])) _
        refine XS.iload X234.here hx rfl (hb hby at_210) rfl ?_
        show Steps p.tables e below (T234.setTop (mkF m 212 #[.val (.int p0), .val (.int p1), .val (.int p2), .val (.int p3), .val (.int v4), .val (.int v1), .val (.int v3), .val (.ref b100), .val (.ref b103_b2), .val (.int v214)] [(.int v3), (.int (5 : Int32)), (.ref b103_b2)])) _
        refine XS.iload X234.here hx rfl (hb hby at_212) rfl ?_
        show Steps p.tables e below (T234.setTop (mkF m 214 #[.val (.int p0), .val (.int p1), .val (.int p2), .val (.int p3), .val (.int v4), .val (.int v1), .val (.int v3), .val (.ref b100), .val (.ref b103_b2), .val (.int v214)] [(.int v1), (.int v3), (.int (5 : Int32)), (.ref b103_b2)])) _
        refine st238 _ ?_
        show Steps p.tables e below (T238.setTop (mkF m 217 #[.val (.int p0), .val (.int p1), .val (.int p2), .val (.int p3), .val (.int v4), .val (.int v1), .val (.int v3), .val (.ref b100), .val (.ref b103_b2), .val (.int v214)] [(.int (own_un (5 : Int32) v3 v1 f201))])) _
        refine XS.ifNo X238.here hx rfl (hb hby at_217) rfl ((if0 _ _).trans (feq hk239).1) ?_
        show Steps p.tables e below (T238.setTop (mkF m 220 #[.val (.int p0), .val (.int p1), .val (.int p2), .val (.int p3), .val (.int v4), .val (.int v1), .val (.int v3), .val (.ref b100), .val (.ref b103_b2), .val (.int v214)] [])) _
        refine XS.aload X238.here hx rfl (hb hby at_220) rfl rfl ?_
        show Steps p.tables e below (T238.setTop (mkF m 222 #[.val (.int p0), .val (.int p1), .val (.int p2), .val (.int p3), .val (.int v4), .val (.int v1), .val (.int v3), .val (.ref b100), .val (.ref b103_b2), .val (.int v214)] [(.ref b103_b2)])) _
        refine XS.bipush X238.here hx rfl (hb hby at_222) ?_
        show Steps p.tables e below (T238.setTop (mkF m 224 #[.val (.int p0), .val (.int p1), .val (.int p2), .val (.int p3), .val (.int v4), .val (.int v1), .val (.int v3), .val (.ref b100), .val (.ref b103_b2), .val (.int v214)] [(.int (6 : Int32)), (.ref b103_b2)])) _
        refine XS.iload X238.here hx rfl (hb hby at_224) rfl ?_
        show Steps p.tables e below (T238.setTop (mkF m 226 #[.val (.int p0), .val (.int p1), .val (.int p2), .val (.int p3), .val (.int v4), .val (.int v1), .val (.int v3), .val (.ref b100), .val (.ref b103_b2), .val (.int v214)] [(.int v3), (.int (6 : Int32)), (.ref b103_b2)])) _
        refine XS.iload X238.here hx rfl (hb hby at_226) rfl ?_
        show Steps p.tables e below (T238.setTop (mkF m 228 #[.val (.int p0), .val (.int p1), .val (.int p2), .val (.int p3), .val (.int v4), .val (.int v1), .val (.int v3), .val (.ref b100), .val (.ref b103_b2), .val (.int v214)] [(.int v1), (.int v3), (.int (6 : Int32)), (.ref b103_b2)])) _
        refine st242 _ ?_
        show Steps p.tables e below (T242.setTop (mkF m 231 #[.val (.int p0), .val (.int p1), .val (.int p2), .val (.int p3), .val (.int v4), .val (.int v1), .val (.int v3), .val (.ref b100), .val (.ref b103_b2), .val (.int v214)] [(.int (own_un (6 : Int32) v3 v1 f201))])) _
        refine XS.ifNo X242.here hx rfl (hb hby at_231) rfl ((if0 _ _).trans (feq hk243).1) ?_
        show Steps p.tables e below (T242.setTop (mkF m 234 #[.val (.int p0), .val (.int p1), .val (.int p2), .val (.int p3), .val (.int v4), .val (.int v1), .val (.int v3), .val (.ref b100), .val (.ref b103_b2), .val (.int v214)] [])) _
        refine XS.aload X242.here hx rfl (hb hby at_234) rfl rfl ?_
        show Steps p.tables e below (T242.setTop (mkF m 236 #[.val (.int p0), .val (.int p1), .val (.int p2), .val (.int p3), .val (.int v4), .val (.int v1), .val (.int v3), .val (.ref b100), .val (.ref b103_b2), .val (.int v214)] [(.ref b103_b2)])) _
        refine XS.bipush X242.here hx rfl (hb hby at_236) ?_
        show Steps p.tables e below (T242.setTop (mkF m 238 #[.val (.int p0), .val (.int p1), .val (.int p2), .val (.int p3), .val (.int v4), .val (.int v1), .val (.int v3), .val (.ref b100), .val (.ref b103_b2), .val (.int v214)] [(.int (7 : Int32)), (.ref b103_b2)])) _
        refine XS.iload X242.here hx rfl (hb hby at_238) rfl ?_
        show Steps p.tables e below (T242.setTop (mkF m 240 #[.val (.int p0), .val (.int p1), .val (.int p2), .val (.int p3), .val (.int v4), .val (.int v1), .val (.int v3), .val (.ref b100), .val (.ref b103_b2), .val (.int v214)] [(.int v3), (.int (7 : Int32)), (.ref b103_b2)])) _
        refine XS.iload X242.here hx rfl (hb hby at_240) rfl ?_
        show Steps p.tables e below (T242.setTop (mkF m 242 #[.val (.int p0), .val (.int p1), .val (.int p2), .val (.int p3), .val (.int v4), .val (.int v1), .val (.int v3), .val (.ref b100), .val (.ref b103_b2), .val (.int v214)] [(.int v1), (.int v3), (.int (7 : Int32)), (.ref b103_b2)])) _
        refine st246 _ ?_
        show Steps p.tables e below (T246.setTop (mkF m 245 #[.val (.int p0), .val (.int p1), .val (.int p2), .val (.int p3), .val (.int v4), .val (.int v1), .val (.int v3), .val (.ref b100), .val (.ref b103_b2), .val (.int v214)] [(.int (own_un (7 : Int32) v3 v1 f201))])) _
        refine XS.ifNo X246.here hx rfl (hb hby at_245) rfl ((if0 _ _).trans (feq hk247).1) ?_
        show Steps p.tables e below (T246.setTop (mkF m 248 #[.val (.int p0), .val (.int p1), .val (.int p2), .val (.int p3), .val (.int v4), .val (.int v1), .val (.int v3), .val (.ref b100), .val (.ref b103_b2), .val (.int v214)] [])) _
        refine XS.iconst X246.here hx rfl (hb hby at_248) ?_
        show Steps p.tables e below (T246.setTop (mkF m 249 #[.val (.int p0), .val (.int p1), .val (.int p2), .val (.int p3), .val (.int v4), .val (.int v1), .val (.int v3), .val (.ref b100), .val (.ref b103_b2), .val (.int v214)] [(.int (1 : Int32))])) _
        refine XS.goto X246.here hx rfl (pc0 := 249) (pc' := 253) rfl (hb hby at_249) (by decide) (by decide) ?_
        show Steps p.tables e below (T246.setTop (mkF m 253 #[.val (.int p0), .val (.int p1), .val (.int p2), .val (.int p3), .val (.int v4), .val (.int v1), .val (.int v3), .val (.ref b100), .val (.ref b103_b2), .val (.int v214)] [(.int (1 : Int32))])) _
        exact retN X246 hx (t := .boolean) Bd.returns (by simp) (hb hby at_253) hr
      · show Q0 h0 n0 _ T246.heap _
        exact ⟨rfl, N246⟩
set_option maxRecDepth 65536 in
set_option maxHeartbeats 40000000 in
theorem comes_1 {Post : Tables → Env → Array Value → State → Outcome → State → Prop} (hpost : ∀ tb e args s v u, (limb_1_1.after args s (.returned v) u = true ∧ limb_1_2.after args s (.returned v) u = true ∧ True) → FrameEnd s (.returned v) u (Jvm.fieldLocs frame_1_writes args s ++ Jvm.arrayLocs frame_1_arrays args s ++ Jvm.staticLocs frame_1_statics s) 16 128 → Post tb e args s (.returned v) u) :
    ArmFor flags0 classFile x code maxLocals ret World_1 tables_1 room_1 Calls_1 rest_1 Pre_1 Post := by
  intro l hfl _ _ p e ha hc hk s m args below hf hA hF happ hP
  obtain ⟨hcalls, hrest, hpre⟩ := hP
  obtain ⟨-, -, -, hnamed, -, -, -, hat⟩ := (Spec.applies_iff hf).mp happ
  obtain ⟨hg, hn⟩ := and_e (Cond.before_iff.mp (show (Jvm.Cond.and given_1 narrow_1).before args s = true from hpre))
  obtain ⟨gg1, gg2⟩ := and_e hg
  obtain ⟨gg3, gg4⟩ := and_e gg2
  obtain ⟨gg5, gg6⟩ := and_e gg4
  obtain ⟨gg7, gg8⟩ := and_e gg6
  obtain ⟨w0, w1, w2, w3, rfl⟩ : ∃ w0 w1 w2 w3 : Value, args = #[w0, w1, w2, w3] := by
    have hs : args.size = 4 := by simpa [Cond.value, given_1] using gg1
    obtain ⟨L⟩ := args
    match L, hs with
    | [w0, w1, w2, w3], _ => exact ⟨w0, w1, w2, w3, rfl⟩
  have hw := fun d (hd : d ∈ tables_1) => atoms_spec (ws := Jvm.Cond.code x code maxLocals ret :: tables_1) hat d (List.mem_cons_of_mem _ hd)
  have hfit : Fit s := fun {y c} hc i hi => by
    obtain ⟨ha, rfl⟩ := Array.getElem?_eq_some_iff.mp hc
    have q := List.all_eq_true.mp ((Array.all_eq_true_iff_forall_mem.mp hF) _ (Array.getElem_mem ha)) i (List.mem_range.mpr hi)
    simpa [Array.getElem?_eq_getElem hi] using q
  obtain ⟨i0, ei0⟩ := is_v gg3
  obtain rfl : w0 = (.int i0) := Option.some.inj ei0
  obtain ⟨i1, ei1⟩ := is_v gg5
  obtain rfl : w1 = (.int i1) := Option.some.inj ei1
  obtain ⟨i2, ei2⟩ := is_v gg7
  obtain rfl : w2 = (.int i2) := Option.some.inj ei2
  obtain ⟨i3, ei3⟩ := is_v gg8
  obtain rfl : w3 = (.int i3) := Option.some.inj ei3
  obtain ⟨n, o, h1, h2, h3, _, L, rfl, ⟨rfl, N⟩, hq⟩ := rm0 l s _ hw tables_1 i0 i1 i2 i3  s.heap s.heap.size (Nat.le_refl _)  p e ha hc hk s m _ below hf ((Spec.applies_iff_loose hf).mp happ).1 ⟨rfl, State.Warmed39.refl s, rfl⟩ trivial
  refine ⟨n, _, h1, h2, h3, hpost _ _ _ _ _ _ ⟨Cond.after_iff.mpr rfl, Cond.after_iff.mpr (eq_i res_at (Term.int_eval (1)) rfl), trivial⟩ ⟨hq.1, hq.2.1, (hq.2.2.sift fun y hy => Or.inr (N y hy)).mono (by decide) (by decide)⟩⟩
theorem main_1_1 : Claimed_1_1 := comes_1 fun _ _ _ _ _ _ h hF => ⟨h.1, hF⟩
theorem main_1_2 : Claimed_1_2 := comes_1 fun _ _ _ _ _ _ h hF => ⟨h.2.1, hF⟩
end Jvm.Pilot.@@N@@
namespace Jvm.Pilot.@@N@@
open Jvm Jvm.ClassFile Sem Op Lib Jvm.Free Jvm.Stand Jvm.Pilot.@@N@@.Jvm.D
/-! MADE BY PROGRAM (witnessworld.py) out of the Statement's table words and the real class files: 12 classes; the members and pool entries that the words name. The judged class is class 1, her method 1. -/
namespace start1
open Jvm.ClassFile
def u (s : String) : CpInfo := .utf8 (stringToUtf16 s)
/-- a pool by its gaps: so many unusable entries, then the entry; so many at the end -/
def gap : Nat → List CpInfo → List CpInfo
  | 0, r => r
  | n + 1, r => .unusable :: gap n r
def poolList (es : List (Nat × CpInfo)) (last : Nat) : List CpInfo := es.foldr (fun e r => gap e.1 (e.2 :: r)) (gap last [])
def pool (es : List (Nat × CpInfo)) (last : Nat) : Array CpInfo := ⟨poolList es last⟩
def fileOf (pool : Array CpInfo) (this : Nat) (attrs : Array Attribute := #[]) (ms : Array MethodInfo := #[]) (fl : Nat := 33) (sup : Nat := 0) (ifs : Array Nat := #[]) (fds : Array FieldInfo := #[]) : ClassFile where
  minorVersion := 0
  majorVersion := 65
  constantPool := pool
  accessFlags := fl
  thisClass := this
  superClass := sup
  interfaces := ifs
  fields := fds
  methods := ms
  attributes := attrs
def plain (name : String) (sup : Option ClassId) : Class where
  name := name
  kind := .ordinary
  loader := none
  accessFlags := 33
  super := sup
  interfaces := #[]
  cf := none
  fields := #[]
  methods := #[]
  instanceTypes := #[]
  staticTypes := #[]
  resolved := #[]
  callSites := []
  init := .initialized
  statics := none
  mirror := none

def pool0 : Array CpInfo := pool [(5, u "<init>"), (0, u "()V"), (1, .class_ 10), (1, u "java/lang/Object")] 113

def k0c0 : Code := { maxStack := 0, maxLocals := 1, code := object_method_1_code, exceptionTable := #[], attributes := #[] }
def k0m0 : Method := { name := "<init>", desc := "()V", sig := { parameters := [], returnType := none }, accessFlags := 1, code := some k0c0 }
/-- java/lang/Object -/
def k0 : Class := { plain "java/lang/Object" none with
  accessFlags := 33
  interfaces := #[]
  cf := some (fileOf pool0 8 #[] #[{ accessFlags := 1, nameIndex := 5, descriptorIndex := 6, attributes := #[] }] 33 0 #[] #[])
  fields := #[]
  methods := #[k0m0]
  instanceTypes := #[]
  staticTypes := #[]
  resolved := Array.replicate 124 none
  statics := none }

def pool1 : Array CpInfo := pool [(2, .class_ 4), (1, u "java/lang/Object"), (0, u "<init>"), (0, u "()V"), (0, .integer 2147483647), (0, .class_ 9), (0, u "com/example/commitlog/commitlog/codec/JsonWriter"), (0, .methodref 8 11), (0, .nameAndType 5 12), (0, u "(I)V"), (0, .methodref 8 14), (0, .nameAndType 15 16), (0, u "startObject"), (0, u "()Lcom/example/commitlog/commitlog/codec/JsonWriter;"), (0, .methodref 8 18), (0, .nameAndType 19 20), (0, u "skip"), (0, u "(I)Lcom/example/commitlog/commitlog/codec/JsonWriter;"), (0, .methodref 8 22), (0, .nameAndType 23 24), (0, u "putInt"), (0, u "(II)V"), (0, .methodref 8 26), (0, .nameAndType 27 28), (0, u "bytes"), (0, u "()[B"), (0, .methodref 8 30), (0, .nameAndType 31 32), (0, u "length"), (0, u "()I"), (0, .methodref 34 35), (0, .class_ 36), (0, .nameAndType 37 38), (0, u "com/example/commitlog/commitlog/codec/JsonWriterPutIntPinLaw"), (0, u "untouched"), (0, u "([BIII)Z"), (2, u "law"), (0, u "(IIII)Z")] 5

def k1m0 : Method := { name := "<init>", desc := "()V", sig := { parameters := [], returnType := none }, accessFlags := 1, code := none }
def k1c1 : Code := { maxStack := 4, maxLocals := 10, code := code, exceptionTable := #[], attributes := #[] }
def k1m1 : Method := { name := "law", desc := "(IIII)Z", sig := { parameters := [.int, .int, .int, .int], returnType := some .boolean }, accessFlags := 9, code := some k1c1 }
def k1c2 : Code := { maxStack := 3, maxLocals := 5, code := method_3_code, exceptionTable := #[], attributes := #[] }
def k1m2 : Method := { name := "untouched", desc := "([BIII)Z", sig := { parameters := [(.array .byte), .int, .int, .int], returnType := some .boolean }, accessFlags := 10, code := some k1c2 }
/-- com/example/commitlog/commitlog/codec/JsonWriterPutIntPinLaw -/
def k1 : Class := { plain "com/example/commitlog/commitlog/codec/JsonWriterPutIntPinLaw" (some 0) with
  accessFlags := 49
  interfaces := #[]
  cf := some (fileOf pool1 34 #[] #[{ accessFlags := 1, nameIndex := 5, descriptorIndex := 6, attributes := #[] }, { accessFlags := 9, nameIndex := 41, descriptorIndex := 42, attributes := #[] }, { accessFlags := 10, nameIndex := 37, descriptorIndex := 38, attributes := #[] }] 49 2 #[] #[])
  fields := #[]
  methods := #[k1m0, k1m1, k1m2]
  instanceTypes := #[]
  staticTypes := #[]
  resolved := Array.replicate 48 none
  statics := none }

def pool2 : Array CpInfo := pool [(3, .methodref 4 5), (0, .class_ 6), (0, .nameAndType 7 8), (0, u "java/lang/Object"), (0, u "<init>"), (0, u "()V"), (0, .fieldref 10 11), (0, .class_ 12), (0, .nameAndType 13 14), (0, u "com/example/commitlog/commitlog/codec/JsonWriter"), (0, u "bytes"), (0, u "[B"), (0, .methodref 10 16), (0, .nameAndType 17 18), (0, u "put"), (0, u "(I)V"), (0, .fieldref 10 20), (0, .nameAndType 21 22), (0, u "afterValue"), (0, u "Z"), (4, .methodref 10 28), (0, .nameAndType 29 18), (0, u "room"), (0, .fieldref 10 31), (0, .nameAndType 32 33), (0, u "length"), (0, u "I"), (10, u "()I"), (6, .methodref 52 53), (0, .class_ 54), (0, .nameAndType 55 56), (0, u "java/util/Arrays"), (0, u "copyOf"), (0, u "([BI)[B"), (38, u "HEX_DIGITS"), (0, .long 2147483639), (1, .long 2), (1, .methodref 101 102), (0, .class_ 103), (0, .nameAndType 104 105), (0, u "java/lang/Math"), (0, u "max"), (0, u "(JJ)J"), (0, .methodref 101 107), (0, .nameAndType 108 105), (0, u "min"), (0, u "FIRST_PRINTABLE"), (2, u "FIRST_NON_ASCII"), (1, u "FIRST_OF_THREE_BYTES"), (1, u "MAX_LENGTH"), (1, u "MAX_LONG_LENGTH"), (3, u "startObject"), (0, u "()Lcom/example/commitlog/commitlog/codec/JsonWriter;"), (8, u "(I)Lcom/example/commitlog/commitlog/codec/JsonWriter;"), (0, u "skip"), (0, u "putInt"), (0, u "(II)V"), (0, u "()[B")] 3

def k2c0 : Code := { maxStack := 2, maxLocals := 2, code := prog_9_method_1_code, exceptionTable := #[], attributes := #[] }
def k2m0 : Method := { name := "<init>", desc := "(I)V", sig := { parameters := [.int], returnType := none }, accessFlags := 0, code := some k2c0 }
def k2c1 : Code := { maxStack := 2, maxLocals := 1, code := prog_9_method_2_code, exceptionTable := #[], attributes := #[] }
def k2m1 : Method := { name := "startObject", desc := "()Lcom/example/commitlog/commitlog/codec/JsonWriter;", sig := { parameters := [], returnType := some (.object "com/example/commitlog/commitlog/codec/JsonWriter") }, accessFlags := 0, code := some k2c1 }
def k2c2 : Code := { maxStack := 1, maxLocals := 1, code := prog_9_method_9_code, exceptionTable := #[], attributes := #[] }
def k2m2 : Method := { name := "length", desc := "()I", sig := { parameters := [], returnType := some .int }, accessFlags := 0, code := some k2c2 }
def k2c3 : Code := { maxStack := 3, maxLocals := 2, code := prog_9_method_11_code, exceptionTable := #[], attributes := #[] }
def k2m3 : Method := { name := "skip", desc := "(I)Lcom/example/commitlog/commitlog/codec/JsonWriter;", sig := { parameters := [.int], returnType := some (.object "com/example/commitlog/commitlog/codec/JsonWriter") }, accessFlags := 0, code := some k2c3 }
def k2c4 : Code := { maxStack := 4, maxLocals := 3, code := prog_9_method_12_code, exceptionTable := #[], attributes := #[] }
def k2m4 : Method := { name := "putInt", desc := "(II)V", sig := { parameters := [.int, .int], returnType := none }, accessFlags := 0, code := some k2c4 }
def k2c5 : Code := { maxStack := 1, maxLocals := 1, code := prog_9_method_13_code, exceptionTable := #[], attributes := #[] }
def k2m5 : Method := { name := "bytes", desc := "()[B", sig := { parameters := [], returnType := some (.array .byte) }, accessFlags := 0, code := some k2c5 }
def k2c6 : Code := { maxStack := 5, maxLocals := 2, code := prog_9_method_18_code, exceptionTable := #[], attributes := #[] }
def k2m6 : Method := { name := "put", desc := "(I)V", sig := { parameters := [.int], returnType := none }, accessFlags := 2, code := some k2c6 }
def k2c7 : Code := { maxStack := 10, maxLocals := 2, code := prog_9_method_19_code, exceptionTable := #[], attributes := #[] }
def k2m7 : Method := { name := "room", desc := "(I)V", sig := { parameters := [.int], returnType := none }, accessFlags := 2, code := some k2c7 }
/-- com/example/commitlog/commitlog/codec/JsonWriter -/
def k2 : Class := { plain "com/example/commitlog/commitlog/codec/JsonWriter" (some 0) with
  accessFlags := 48
  interfaces := #[]
  cf := some (fileOf pool2 10 #[] #[{ accessFlags := 0, nameIndex := 7, descriptorIndex := 18, attributes := #[] }, { accessFlags := 0, nameIndex := 122, descriptorIndex := 123, attributes := #[] }, { accessFlags := 0, nameIndex := 32, descriptorIndex := 44, attributes := #[] }, { accessFlags := 0, nameIndex := 133, descriptorIndex := 132, attributes := #[] }, { accessFlags := 0, nameIndex := 134, descriptorIndex := 135, attributes := #[] }, { accessFlags := 0, nameIndex := 13, descriptorIndex := 136, attributes := #[] }, { accessFlags := 2, nameIndex := 17, descriptorIndex := 18, attributes := #[] }, { accessFlags := 2, nameIndex := 29, descriptorIndex := 18, attributes := #[] }] 48 4 #[] #[{ accessFlags := 26, nameIndex := 95, descriptorIndex := 14, attributes := #[] }, { accessFlags := 26, nameIndex := 109, descriptorIndex := 33, attributes := #[] }, { accessFlags := 26, nameIndex := 112, descriptorIndex := 33, attributes := #[] }, { accessFlags := 26, nameIndex := 114, descriptorIndex := 33, attributes := #[] }, { accessFlags := 26, nameIndex := 116, descriptorIndex := 33, attributes := #[] }, { accessFlags := 26, nameIndex := 118, descriptorIndex := 33, attributes := #[] }, { accessFlags := 2, nameIndex := 13, descriptorIndex := 14, attributes := #[] }, { accessFlags := 2, nameIndex := 32, descriptorIndex := 33, attributes := #[] }, { accessFlags := 2, nameIndex := 21, descriptorIndex := 22, attributes := #[] }])
  fields := #[{ name := "HEX_DIGITS", type := (.array .byte), accessFlags := 26, slot := 0, constantValue := 0 }, { name := "FIRST_PRINTABLE", type := .int, accessFlags := 26, slot := 1, constantValue := 0 }, { name := "FIRST_NON_ASCII", type := .int, accessFlags := 26, slot := 2, constantValue := 0 }, { name := "FIRST_OF_THREE_BYTES", type := .int, accessFlags := 26, slot := 3, constantValue := 0 }, { name := "MAX_LENGTH", type := .int, accessFlags := 26, slot := 4, constantValue := 0 }, { name := "MAX_LONG_LENGTH", type := .int, accessFlags := 26, slot := 5, constantValue := 0 }, { name := "bytes", type := (.array .byte), accessFlags := 2, slot := 0, constantValue := 0 }, { name := "length", type := .int, accessFlags := 2, slot := 1, constantValue := 0 }, { name := "afterValue", type := .boolean, accessFlags := 2, slot := 2, constantValue := 0 }]
  methods := #[k2m0, k2m1, k2m2, k2m3, k2m4, k2m5, k2m6, k2m7]
  instanceTypes := #[(.array .byte), .int, .boolean]
  staticTypes := #[(.array .byte), .int, .int, .int, .int, .int]
  resolved := Array.replicate 140 none
  statics := none }

def pool3 : Array CpInfo := pool [(1, .class_ 2), (0, u "java/lang/Math"), (1, .class_ 6), (1, u "java/lang/Object"), (0, u "<init>"), (0, u "()V"), (89, .class_ 100), (1, u "java/lang/Math$RandomNumberGeneratorHolder"), (20, u "(JJ)J"), (50, u "negativeZeroFloatBits"), (0, u "J"), (2, u "negativeZeroDoubleBits"), (21, u "max"), (2, u "min"), (43, u "$assertionsDisabled"), (0, u "Z"), (88, u "(II)I"), (2, u "twoToTheDoubleScaleDown"), (0, u "D"), (4, u "twoToTheDoubleScaleUp"), (9, u "E"), (3, u "PI"), (2, u "TAU"), (2, u "DEGREES_TO_RADIANS"), (0, u "RADIANS_TO_DEGREES")] 94

def k3m0 : Method := { name := "<init>", desc := "()V", sig := { parameters := [], returnType := none }, accessFlags := 2, code := none }
def k3c1 : Code := { maxStack := 4, maxLocals := 4, code := jdk_29_method_66_code, exceptionTable := #[], attributes := #[] }
def k3m1 : Method := { name := "max", desc := "(JJ)J", sig := { parameters := [.long, .long], returnType := some .long }, accessFlags := 9, code := some k3c1 }
def k3c2 : Code := { maxStack := 2, maxLocals := 2, code := jdk_29_method_69_code, exceptionTable := #[], attributes := #[] }
def k3m2 : Method := { name := "min", desc := "(II)I", sig := { parameters := [.int, .int], returnType := some .int }, accessFlags := 9, code := some k3c2 }
def k3c3 : Code := { maxStack := 4, maxLocals := 4, code := jdk_29_method_70_code, exceptionTable := #[], attributes := #[] }
def k3m3 : Method := { name := "min", desc := "(JJ)J", sig := { parameters := [.long, .long], returnType := some .long }, accessFlags := 9, code := some k3c3 }
/-- java/lang/Math -/
def k3 : Class := { plain "java/lang/Math" (some 0) with
  accessFlags := 49
  interfaces := #[]
  cf := some (fileOf pool3 1 #[.nestMembers #[98]] #[{ accessFlags := 2, nameIndex := 7, descriptorIndex := 8, attributes := #[] }, { accessFlags := 9, nameIndex := 198, descriptorIndex := 121, attributes := #[] }, { accessFlags := 9, nameIndex := 201, descriptorIndex := 335, attributes := #[] }, { accessFlags := 9, nameIndex := 201, descriptorIndex := 121, attributes := #[] }] 49 4 #[] #[{ accessFlags := 25, nameIndex := 354, descriptorIndex := 339, attributes := #[] }, { accessFlags := 25, nameIndex := 358, descriptorIndex := 339, attributes := #[] }, { accessFlags := 25, nameIndex := 361, descriptorIndex := 339, attributes := #[] }, { accessFlags := 26, nameIndex := 364, descriptorIndex := 339, attributes := #[] }, { accessFlags := 26, nameIndex := 365, descriptorIndex := 339, attributes := #[] }, { accessFlags := 26, nameIndex := 172, descriptorIndex := 173, attributes := #[] }, { accessFlags := 26, nameIndex := 176, descriptorIndex := 173, attributes := #[] }, { accessFlags := 8, nameIndex := 344, descriptorIndex := 339, attributes := #[] }, { accessFlags := 8, nameIndex := 338, descriptorIndex := 339, attributes := #[] }, { accessFlags := 4120, nameIndex := 245, descriptorIndex := 246, attributes := #[] }])
  fields := #[{ name := "E", type := .double, accessFlags := 25, slot := 0, constantValue := 0 }, { name := "PI", type := .double, accessFlags := 25, slot := 1, constantValue := 0 }, { name := "TAU", type := .double, accessFlags := 25, slot := 2, constantValue := 0 }, { name := "DEGREES_TO_RADIANS", type := .double, accessFlags := 26, slot := 3, constantValue := 0 }, { name := "RADIANS_TO_DEGREES", type := .double, accessFlags := 26, slot := 4, constantValue := 0 }, { name := "negativeZeroFloatBits", type := .long, accessFlags := 26, slot := 5, constantValue := 0 }, { name := "negativeZeroDoubleBits", type := .long, accessFlags := 26, slot := 6, constantValue := 0 }, { name := "twoToTheDoubleScaleUp", type := .double, accessFlags := 8, slot := 7, constantValue := 0 }, { name := "twoToTheDoubleScaleDown", type := .double, accessFlags := 8, slot := 8, constantValue := 0 }, { name := "$assertionsDisabled", type := .boolean, accessFlags := 4120, slot := 9, constantValue := 0 }]
  methods := #[k3m0, k3m1, k3m2, k3m3]
  instanceTypes := #[]
  staticTypes := #[.double, .double, .double, .double, .double, .long, .long, .double, .double, .boolean]
  resolved := Array.replicate 460 none
  statics := none }

def pool4 : Array CpInfo := pool [(2, .class_ 4), (1, u "java/lang/Object"), (0, u "<init>"), (0, u "()V"), (7, .class_ 16), (1, u "java/util/Arrays"), (57, .class_ 76), (1, u "java/util/Arrays$NaturalOrder"), (36, .class_ 115), (1, u "java/util/Arrays$LegacyMergeSort"), (1, u "Z"), (32, .methodref 151 152), (0, .class_ 153), (0, .nameAndType 154 155), (0, u "java/lang/System"), (0, u "arraycopy"), (0, u "(Ljava/lang/Object;ILjava/lang/Object;II)V"), (146, u "copyOf"), (1, .methodref 305 306), (0, .class_ 307), (0, .nameAndType 308 309), (0, u "java/lang/Math"), (0, u "min"), (0, u "(II)I"), (65, .class_ 376), (0, u "java/util/Arrays$ArrayList"), (68, u "$assertionsDisabled"), (269, u "MIN_ARRAY_SORT_GRAN"), (0, u "I"), (2, u "INSERTIONSORT_THRESHOLD"), (149, u "([BI)[B"), (105, .class_ 976), (0, u "java/util/Arrays$ArrayItr")] 52

def k4m0 : Method := { name := "<init>", desc := "()V", sig := { parameters := [], returnType := none }, accessFlags := 2, code := none }
def k4c1 : Code := { maxStack := 6, maxLocals := 3, code := jdk_65_method_121_code, exceptionTable := #[], attributes := #[] }
def k4m1 : Method := { name := "copyOf", desc := "([BI)[B", sig := { parameters := [(.array .byte), .int], returnType := some (.array .byte) }, accessFlags := 9, code := some k4c1 }
/-- java/util/Arrays -/
def k4 : Class := { plain "java/util/Arrays" (some 0) with
  accessFlags := 49
  interfaces := #[]
  cf := some (fileOf pool4 14 #[.nestMembers #[975, 375, 113, 74]] #[{ accessFlags := 2, nameIndex := 5, descriptorIndex := 6, attributes := #[] }, { accessFlags := 9, nameIndex := 302, descriptorIndex := 869, attributes := #[] }] 49 2 #[] #[{ accessFlags := 26, nameIndex := 715, descriptorIndex := 716, attributes := #[] }, { accessFlags := 26, nameIndex := 719, descriptorIndex := 716, attributes := #[] }, { accessFlags := 4120, nameIndex := 445, descriptorIndex := 117, attributes := #[] }])
  fields := #[{ name := "MIN_ARRAY_SORT_GRAN", type := .int, accessFlags := 26, slot := 0, constantValue := 0 }, { name := "INSERTIONSORT_THRESHOLD", type := .int, accessFlags := 26, slot := 1, constantValue := 0 }, { name := "$assertionsDisabled", type := .boolean, accessFlags := 4120, slot := 2, constantValue := 0 }]
  methods := #[k4m0, k4m1]
  instanceTypes := #[]
  staticTypes := #[.int, .int, .boolean]
  resolved := Array.replicate 1029 none
  statics := none }

def pool5 : Array CpInfo := pool [(2, .class_ 4), (1, u "java/lang/Object"), (0, u "<init>"), (0, u "()V"), (1, .class_ 10), (1, u "java/lang/System"), (0, u "allowSecurityManager"), (0, u "I"), (16, u "cons"), (0, u "Ljava/io/Console;"), (77, .class_ 110), (1, u "java/lang/System$CallersHolder"), (43, u "initialErrStream"), (0, u "Ljava/io/PrintStream;"), (19, u "security"), (0, u "Ljava/lang/SecurityManager;"), (31, .class_ 209), (0, u "java/lang/System$1"), (7, u "props"), (0, u "Ljava/util/Properties;"), (2, u "lineSeparator"), (0, u "Ljava/lang/String;"), (96, .class_ 321), (1, u "java/lang/System$LoggerFinder"), (5, .class_ 328), (0, u "java/lang/System$Logger"), (67, u "err"), (2, u "out"), (91, u "notSupportedJnuEncoding"), (15, u "in"), (17, u "initialIn"), (0, u "Ljava/io/InputStream;"), (35, u "bootLayer"), (0, u "Ljava/lang/ModuleLayer;"), (99, .class_ 664), (0, u "java/lang/System$2"), (9, u "NEVER"), (2, u "MAYBE"), (49, u "arraycopy"), (0, u "(Ljava/lang/Object;ILjava/lang/Object;II)V"), (72, .class_ 802), (0, u "java/lang/System$Logger$Level")] 31

def k5m0 : Method := { name := "<init>", desc := "()V", sig := { parameters := [], returnType := none }, accessFlags := 2, code := none }
def k5m1 : Method := { name := "arraycopy", desc := "(Ljava/lang/Object;ILjava/lang/Object;II)V", sig := { parameters := [(.object "java/lang/Object"), .int, (.object "java/lang/Object"), .int, .int], returnType := none }, accessFlags := 265, code := none }
/-- java/lang/System -/
def k5 : Class := { plain "java/lang/System" (some 0) with
  accessFlags := 49
  interfaces := #[]
  cf := some (fileOf pool5 8 #[.nestMembers #[319, 327, 801, 108, 663, 208]] #[{ accessFlags := 2, nameIndex := 5, descriptorIndex := 6, attributes := #[] }, { accessFlags := 265, nameIndex := 727, descriptorIndex := 728, attributes := #[] }] 49 2 #[] #[{ accessFlags := 25, nameIndex := 507, descriptorIndex := 526, attributes := #[] }, { accessFlags := 25, nameIndex := 399, descriptorIndex := 155, attributes := #[] }, { accessFlags := 25, nameIndex := 396, descriptorIndex := 155, attributes := #[] }, { accessFlags := 10, nameIndex := 525, descriptorIndex := 526, attributes := #[] }, { accessFlags := 26, nameIndex := 674, descriptorIndex := 12, attributes := #[] }, { accessFlags := 26, nameIndex := 677, descriptorIndex := 12, attributes := #[] }, { accessFlags := 10, nameIndex := 11, descriptorIndex := 12, attributes := #[] }, { accessFlags := 74, nameIndex := 175, descriptorIndex := 176, attributes := #[] }, { accessFlags := 10, nameIndex := 491, descriptorIndex := 222, attributes := #[] }, { accessFlags := 74, nameIndex := 29, descriptorIndex := 30, attributes := #[] }, { accessFlags := 74, nameIndex := 154, descriptorIndex := 155, attributes := #[] }, { accessFlags := 10, nameIndex := 217, descriptorIndex := 218, attributes := #[] }, { accessFlags := 10, nameIndex := 221, descriptorIndex := 222, attributes := #[] }, { accessFlags := 8, nameIndex := 562, descriptorIndex := 563, attributes := #[] }])
  fields := #[{ name := "in", type := (.object "java/io/InputStream"), accessFlags := 25, slot := 0, constantValue := 0 }, { name := "out", type := (.object "java/io/PrintStream"), accessFlags := 25, slot := 1, constantValue := 0 }, { name := "err", type := (.object "java/io/PrintStream"), accessFlags := 25, slot := 2, constantValue := 0 }, { name := "initialIn", type := (.object "java/io/InputStream"), accessFlags := 10, slot := 3, constantValue := 0 }, { name := "NEVER", type := .int, accessFlags := 26, slot := 4, constantValue := 0 }, { name := "MAYBE", type := .int, accessFlags := 26, slot := 5, constantValue := 0 }, { name := "allowSecurityManager", type := .int, accessFlags := 10, slot := 6, constantValue := 0 }, { name := "security", type := (.object "java/lang/SecurityManager"), accessFlags := 74, slot := 7, constantValue := 0 }, { name := "notSupportedJnuEncoding", type := (.object "java/lang/String"), accessFlags := 10, slot := 8, constantValue := 0 }, { name := "cons", type := (.object "java/io/Console"), accessFlags := 74, slot := 9, constantValue := 0 }, { name := "initialErrStream", type := (.object "java/io/PrintStream"), accessFlags := 74, slot := 10, constantValue := 0 }, { name := "props", type := (.object "java/util/Properties"), accessFlags := 10, slot := 11, constantValue := 0 }, { name := "lineSeparator", type := (.object "java/lang/String"), accessFlags := 10, slot := 12, constantValue := 0 }, { name := "bootLayer", type := (.object "java/lang/ModuleLayer"), accessFlags := 8, slot := 13, constantValue := 0 }]
  methods := #[k5m0, k5m1]
  instanceTypes := #[]
  staticTypes := #[(.object "java/io/InputStream"), (.object "java/io/PrintStream"), (.object "java/io/PrintStream"), (.object "java/io/InputStream"), .int, .int, .int, (.object "java/lang/SecurityManager"), (.object "java/lang/String"), (.object "java/io/Console"), (.object "java/io/PrintStream"), (.object "java/util/Properties"), (.object "java/lang/String"), (.object "java/lang/ModuleLayer")]
  resolved := Array.replicate 834 none
  statics := none }

def pool6 : Array CpInfo := pool [(1, u "java/lang/Cloneable"), (0, .class_ 1), (0, u "java/lang/Object"), (0, .class_ 3)] 3

/-- java/lang/Cloneable -/
def k6 : Class := { plain "java/lang/Cloneable" (some 0) with
  accessFlags := 1537
  interfaces := #[]
  cf := some (fileOf pool6 2 #[] #[] 1537 4 #[] #[])
  fields := #[]
  methods := #[]
  instanceTypes := #[]
  staticTypes := #[]
  resolved := Array.replicate 8 none
  statics := none }

def pool7 : Array CpInfo := pool [(1, u "java/io/Serializable"), (0, .class_ 1), (0, u "java/lang/Object"), (0, .class_ 3)] 3

/-- java/io/Serializable -/
def k7 : Class := { plain "java/io/Serializable" (some 0) with
  accessFlags := 1537
  interfaces := #[]
  cf := some (fileOf pool7 2 #[] #[] 1537 4 #[] #[])
  fields := #[]
  methods := #[]
  instanceTypes := #[]
  staticTypes := #[]
  resolved := Array.replicate 8 none
  statics := none }

/-- the primitive byte -/
def k8 : Class := { plain "byte" none with kind := .primitive 'B', accessFlags := 0x411 }
/-- [B -/
def k9 : Class := { plain "[B" (some 0) with kind := .array 8 .byte, interfaces := #[6, 7], accessFlags := 1041 }

/-- the primitive int -/
def k10 : Class := { plain "int" none with kind := .primitive 'I', accessFlags := 0x411 }
/-- [I -/
def k11 : Class := { plain "[I" (some 0) with kind := .array 10 .int, interfaces := #[6, 7], accessFlags := 1041 }

def heap : Heap := #[]
def classes : Array Class := #[k0, k1, k2, k3, k4, k5, k6, k7, k8, k9, k10, k11]
def interned : List (Array UInt16 × Addr) := []
def slotsUsed : Nat := 0
def theMethod : MethodId := ⟨1, 1⟩
def args0 : Array Value := #[.int 5, .int 5, .int 5, .int 5]
def aboutOver (below : List Frame) : State where
  vm := { classes := classes, interned := interned.toArray }
  heap := heap
  slotsUsed := slotsUsed
  threads := #[{ frames := .invoking theMethod args0 :: below }]
def below0 : List Frame := [.native { method := ⟨0, 0⟩, args := #[] }]
def about1 : State := aboutOver below0
def p0 : Program := .bare "" "" ""
def e0 : Env := launch0.env 0 0 0
theorem w_frames : about1.frames = Frame.invoking theMethod args0 :: below0 := rfl
set_option maxRecDepth 65536 in
theorem w_args : argsFit about1.vm theMethod args0 = true := by decide +kernel
set_option maxRecDepth 65536 in
theorem w_heap : heapFits about1 = true := by decide +kernel
set_option maxRecDepth 65536 in
theorem w_runnable : about1.curStatus? = some .runnable := by decide +kernel
set_option maxRecDepth 65536 in
theorem w_alone : about1.alone = true := by decide +kernel
set_option maxRecDepth 65536 in
theorem w_named : about1.methodNamed? x = some theMethod := by decide +kernel
set_option maxRecDepth 65536 in
theorem w_hears : about1.hears theMethod below0 = true := by decide +kernel
set_option maxRecDepth 65536 in
theorem w_ripe : about1.ripe theMethod args0 below0 = true := by decide +kernel
theorem w_running : about1.status = .running := rfl
set_option maxRecDepth 65536 in
theorem w_room : about1.hasRoom e0.platform room_1 = true :=
  launch0.hasRoom_least _ room_1 (by decide +kernel) (by decide +kernel) (by decide +kernel) (by decide +kernel) (by decide +kernel) (by decide +kernel)
theorem allAtoms_all (ts : List Jvm.Cond) (a : Array Jvm.Value) (st : Jvm.State) : (allAtoms ts).before a st = ts.all (fun c => c.before a st) := by
  induction ts with
  | nil => rfl
  | cons c t ih =>
    show (Jvm.Cond.and c (allAtoms t)).before a st = _
    rw [Jvm.Cond.before_and, ih, List.all_cons]
def words1 : List Jvm.Cond := Jvm.Cond.code x code maxLocals ret :: tables_1
/-- a 'code' word, met by the world's own term for the bytes: nothing is compared byte by byte -/
theorem code_word {y : MethodName} {bytes : ByteArray} {mx : Nat} {rt : Option FieldType} {a : Array Value} {s : State} {m : MethodId} {meth : Method} {c : Code} (h1 : s.methodNamed? y = some m) (h2 : s.vm.method? m = some meth) (h3 : meth.code = some c) (h4 : c.code = bytes)
    (h5 : (c.maxLocals == mx && c.exceptionTable.isEmpty && decide (c.maxStack ≤ mostOperands) && decide (meth.sig.returnType = rt) && !meth.locks && decide (parseMethodDescriptor y.desc = some meth.sig)) = true) : (Jvm.Cond.code y bytes mx rt).before a s = true := by
  simp only [Bool.and_eq_true, beq_iff_eq, Bool.not_eq_true', decide_eq_true_eq] at h5
  obtain ⟨⟨⟨⟨⟨g1, g2⟩, g3⟩, g4⟩, g5⟩, g6⟩ := h5
  simp [Cond.before, Cond.holds, Cond.value, h1, h2, h3, h4, g1, g2, g3, g4, g5, g6]
def isCode : Jvm.Cond → Bool
  | .code _ _ _ _ => true
  | _ => false
theorem all_split {L : List Jvm.Cond} {P : Jvm.Cond → Bool} (h1 : L.all (fun c => isCode c || P c) = true) (h2 : ∀ c ∈ L.filter isCode, P c = true) : L.all P = true := by
  refine List.all_eq_true.mpr fun c hc => ?_
  have h := List.all_eq_true.mp h1 c hc
  rcases Bool.eq_false_or_eq_true (isCode c) with hi | hi
  · exact h2 c (List.mem_filter.mpr ⟨hc, hi⟩)
  · simpa [hi] using h
set_option maxRecDepth 65536 in
theorem w_c0 : (Jvm.Cond.code x code maxLocals ret).before args0 about1 = true := code_word (m := ⟨1, 1⟩) (meth := k1m1) (c := k1c1) (by decide +kernel) rfl rfl rfl (by decide +kernel)
set_option maxRecDepth 65536 in
theorem w_c1 : (Jvm.Cond.code ({ cls := "com/example/commitlog/commitlog/codec/JsonWriter", name := "<init>", desc := "(I)V" } : Jvm.MethodName) prog_9_method_1_code (2 : Nat) (Option.none : Option Jvm.ClassFile.FieldType)).before args0 about1 = true := code_word (m := ⟨2, 0⟩) (meth := k2m0) (c := k2c0) (by decide +kernel) rfl rfl rfl (by decide +kernel)
set_option maxRecDepth 65536 in
theorem w_c2 : (Jvm.Cond.code ({ cls := "java/lang/Object", name := "<init>", desc := "()V" } : Jvm.MethodName) object_method_1_code (1 : Nat) (Option.none : Option Jvm.ClassFile.FieldType)).before args0 about1 = true := code_word (m := ⟨0, 0⟩) (meth := k0m0) (c := k0c0) (by decide +kernel) rfl rfl rfl (by decide +kernel)
set_option maxRecDepth 65536 in
theorem w_c3 : (Jvm.Cond.code ({ cls := "com/example/commitlog/commitlog/codec/JsonWriter", name := "startObject", desc := "()Lcom/example/commitlog/commitlog/codec/JsonWriter;" } : Jvm.MethodName) prog_9_method_2_code (1 : Nat) (Option.some (Jvm.ClassFile.FieldType.object "com/example/commitlog/commitlog/codec/JsonWriter"))).before args0 about1 = true := code_word (m := ⟨2, 1⟩) (meth := k2m1) (c := k2c1) (by decide +kernel) rfl rfl rfl (by decide +kernel)
set_option maxRecDepth 65536 in
theorem w_c4 : (Jvm.Cond.code ({ cls := "com/example/commitlog/commitlog/codec/JsonWriter", name := "put", desc := "(I)V" } : Jvm.MethodName) prog_9_method_18_code (2 : Nat) (Option.none : Option Jvm.ClassFile.FieldType)).before args0 about1 = true := code_word (m := ⟨2, 6⟩) (meth := k2m6) (c := k2c6) (by decide +kernel) rfl rfl rfl (by decide +kernel)
set_option maxRecDepth 65536 in
theorem w_c5 : (Jvm.Cond.code ({ cls := "com/example/commitlog/commitlog/codec/JsonWriter", name := "room", desc := "(I)V" } : Jvm.MethodName) prog_9_method_19_code (2 : Nat) (Option.none : Option Jvm.ClassFile.FieldType)).before args0 about1 = true := code_word (m := ⟨2, 7⟩) (meth := k2m7) (c := k2c7) (by decide +kernel) rfl rfl rfl (by decide +kernel)
set_option maxRecDepth 65536 in
theorem w_c6 : (Jvm.Cond.code ({ cls := "java/lang/Math", name := "max", desc := "(JJ)J" } : Jvm.MethodName) jdk_29_method_66_code (4 : Nat) (Option.some Jvm.ClassFile.FieldType.long)).before args0 about1 = true := code_word (m := ⟨3, 1⟩) (meth := k3m1) (c := k3c1) (by decide +kernel) rfl rfl rfl (by decide +kernel)
set_option maxRecDepth 65536 in
theorem w_c7 : (Jvm.Cond.code ({ cls := "java/lang/Math", name := "min", desc := "(JJ)J" } : Jvm.MethodName) jdk_29_method_70_code (4 : Nat) (Option.some Jvm.ClassFile.FieldType.long)).before args0 about1 = true := code_word (m := ⟨3, 3⟩) (meth := k3m3) (c := k3c3) (by decide +kernel) rfl rfl rfl (by decide +kernel)
set_option maxRecDepth 65536 in
theorem w_c8 : (Jvm.Cond.code ({ cls := "java/util/Arrays", name := "copyOf", desc := "([BI)[B" } : Jvm.MethodName) jdk_65_method_121_code (3 : Nat) (Option.some (Jvm.ClassFile.FieldType.array Jvm.ClassFile.FieldType.byte))).before args0 about1 = true := code_word (m := ⟨4, 1⟩) (meth := k4m1) (c := k4c1) (by decide +kernel) rfl rfl rfl (by decide +kernel)
set_option maxRecDepth 65536 in
theorem w_c9 : (Jvm.Cond.code ({ cls := "java/lang/Math", name := "min", desc := "(II)I" } : Jvm.MethodName) jdk_29_method_69_code (2 : Nat) (Option.some Jvm.ClassFile.FieldType.int)).before args0 about1 = true := code_word (m := ⟨3, 2⟩) (meth := k3m2) (c := k3c2) (by decide +kernel) rfl rfl rfl (by decide +kernel)
set_option maxRecDepth 65536 in
theorem w_c10 : (Jvm.Cond.code ({ cls := "com/example/commitlog/commitlog/codec/JsonWriter", name := "skip", desc := "(I)Lcom/example/commitlog/commitlog/codec/JsonWriter;" } : Jvm.MethodName) prog_9_method_11_code (2 : Nat) (Option.some (Jvm.ClassFile.FieldType.object "com/example/commitlog/commitlog/codec/JsonWriter"))).before args0 about1 = true := code_word (m := ⟨2, 3⟩) (meth := k2m3) (c := k2c3) (by decide +kernel) rfl rfl rfl (by decide +kernel)
set_option maxRecDepth 65536 in
theorem w_c11 : (Jvm.Cond.code ({ cls := "com/example/commitlog/commitlog/codec/JsonWriter", name := "putInt", desc := "(II)V" } : Jvm.MethodName) prog_9_method_12_code (3 : Nat) (Option.none : Option Jvm.ClassFile.FieldType)).before args0 about1 = true := code_word (m := ⟨2, 4⟩) (meth := k2m4) (c := k2c4) (by decide +kernel) rfl rfl rfl (by decide +kernel)
set_option maxRecDepth 65536 in
theorem w_c12 : (Jvm.Cond.code ({ cls := "com/example/commitlog/commitlog/codec/JsonWriter", name := "bytes", desc := "()[B" } : Jvm.MethodName) prog_9_method_13_code (1 : Nat) (Option.some (Jvm.ClassFile.FieldType.array Jvm.ClassFile.FieldType.byte))).before args0 about1 = true := code_word (m := ⟨2, 5⟩) (meth := k2m5) (c := k2c5) (by decide +kernel) rfl rfl rfl (by decide +kernel)
set_option maxRecDepth 65536 in
theorem w_c13 : (Jvm.Cond.code ({ cls := "com/example/commitlog/commitlog/codec/JsonWriter", name := "length", desc := "()I" } : Jvm.MethodName) prog_9_method_9_code (1 : Nat) (Option.some Jvm.ClassFile.FieldType.int)).before args0 about1 = true := code_word (m := ⟨2, 2⟩) (meth := k2m2) (c := k2c2) (by decide +kernel) rfl rfl rfl (by decide +kernel)
set_option maxRecDepth 65536 in
theorem w_c14 : (Jvm.Cond.code ({ cls := "com/example/commitlog/commitlog/codec/JsonWriterPutIntPinLaw", name := "untouched", desc := "([BIII)Z" } : Jvm.MethodName) method_3_code (5 : Nat) (Option.some Jvm.ClassFile.FieldType.boolean)).before args0 about1 = true := code_word (m := ⟨1, 2⟩) (meth := k1m2) (c := k1c2) (by decide +kernel) rfl rfl rfl (by decide +kernel)
def codes1 : List Jvm.Cond := [Jvm.Cond.code x code maxLocals ret, Jvm.Cond.code ({ cls := "com/example/commitlog/commitlog/codec/JsonWriter", name := "<init>", desc := "(I)V" } : Jvm.MethodName) prog_9_method_1_code (2 : Nat) (Option.none : Option Jvm.ClassFile.FieldType), Jvm.Cond.code ({ cls := "java/lang/Object", name := "<init>", desc := "()V" } : Jvm.MethodName) object_method_1_code (1 : Nat) (Option.none : Option Jvm.ClassFile.FieldType), Jvm.Cond.code ({ cls := "com/example/commitlog/commitlog/codec/JsonWriter", name := "startObject", desc := "()Lcom/example/commitlog/commitlog/codec/JsonWriter;" } : Jvm.MethodName) prog_9_method_2_code (1 : Nat) (Option.some (Jvm.ClassFile.FieldType.object "com/example/commitlog/commitlog/codec/JsonWriter")), Jvm.Cond.code ({ cls := "com/example/commitlog/commitlog/codec/JsonWriter", name := "put", desc := "(I)V" } : Jvm.MethodName) prog_9_method_18_code (2 : Nat) (Option.none : Option Jvm.ClassFile.FieldType), Jvm.Cond.code ({ cls := "com/example/commitlog/commitlog/codec/JsonWriter", name := "room", desc := "(I)V" } : Jvm.MethodName) prog_9_method_19_code (2 : Nat) (Option.none : Option Jvm.ClassFile.FieldType), Jvm.Cond.code ({ cls := "java/lang/Math", name := "max", desc := "(JJ)J" } : Jvm.MethodName) jdk_29_method_66_code (4 : Nat) (Option.some Jvm.ClassFile.FieldType.long), Jvm.Cond.code ({ cls := "java/lang/Math", name := "min", desc := "(JJ)J" } : Jvm.MethodName) jdk_29_method_70_code (4 : Nat) (Option.some Jvm.ClassFile.FieldType.long), Jvm.Cond.code ({ cls := "java/util/Arrays", name := "copyOf", desc := "([BI)[B" } : Jvm.MethodName) jdk_65_method_121_code (3 : Nat) (Option.some (Jvm.ClassFile.FieldType.array Jvm.ClassFile.FieldType.byte)), Jvm.Cond.code ({ cls := "java/lang/Math", name := "min", desc := "(II)I" } : Jvm.MethodName) jdk_29_method_69_code (2 : Nat) (Option.some Jvm.ClassFile.FieldType.int), Jvm.Cond.code ({ cls := "com/example/commitlog/commitlog/codec/JsonWriter", name := "skip", desc := "(I)Lcom/example/commitlog/commitlog/codec/JsonWriter;" } : Jvm.MethodName) prog_9_method_11_code (2 : Nat) (Option.some (Jvm.ClassFile.FieldType.object "com/example/commitlog/commitlog/codec/JsonWriter")), Jvm.Cond.code ({ cls := "com/example/commitlog/commitlog/codec/JsonWriter", name := "putInt", desc := "(II)V" } : Jvm.MethodName) prog_9_method_12_code (3 : Nat) (Option.none : Option Jvm.ClassFile.FieldType), Jvm.Cond.code ({ cls := "com/example/commitlog/commitlog/codec/JsonWriter", name := "bytes", desc := "()[B" } : Jvm.MethodName) prog_9_method_13_code (1 : Nat) (Option.some (Jvm.ClassFile.FieldType.array Jvm.ClassFile.FieldType.byte)), Jvm.Cond.code ({ cls := "com/example/commitlog/commitlog/codec/JsonWriter", name := "length", desc := "()I" } : Jvm.MethodName) prog_9_method_9_code (1 : Nat) (Option.some Jvm.ClassFile.FieldType.int), Jvm.Cond.code ({ cls := "com/example/commitlog/commitlog/codec/JsonWriterPutIntPinLaw", name := "untouched", desc := "([BIII)Z" } : Jvm.MethodName) method_3_code (5 : Nat) (Option.some Jvm.ClassFile.FieldType.boolean)]
set_option maxRecDepth 65536 in
theorem codes_eq : words1.filter isCode = codes1 := rfl
theorem w_codes : ∀ c ∈ words1.filter isCode, c.before args0 about1 = true := by
  rw [codes_eq]
  intro c hc
  simp only [codes1, List.mem_cons, List.not_mem_nil, or_false] at hc
  rcases hc with rfl | rfl | rfl | rfl | rfl | rfl | rfl | rfl | rfl | rfl | rfl | rfl | rfl | rfl | rfl
  · exact w_c0
  · exact w_c1
  · exact w_c2
  · exact w_c3
  · exact w_c4
  · exact w_c5
  · exact w_c6
  · exact w_c7
  · exact w_c8
  · exact w_c9
  · exact w_c10
  · exact w_c11
  · exact w_c12
  · exact w_c13
  · exact w_c14
set_option maxRecDepth 65536 in
theorem w_t1 : (words1.take 24).all (fun c => isCode c || c.before args0 about1) = true := by decide +kernel
set_option maxRecDepth 65536 in
theorem w_t2 : ((words1.drop 24).take 24).all (fun c => isCode c || c.before args0 about1) = true := by decide +kernel
set_option maxRecDepth 65536 in
theorem w_t3 : (((words1.drop 24).drop 24).take 24).all (fun c => isCode c || c.before args0 about1) = true := by decide +kernel
set_option maxRecDepth 65536 in
theorem w_t4 : (((words1.drop 24).drop 24).drop 24).all (fun c => isCode c || c.before args0 about1) = true := by decide +kernel
theorem w_tables : (allAtoms (Jvm.Cond.code x code maxLocals ret :: tables_1)).before args0 about1 = true := by
  rw [allAtoms_all]
  show words1.all (fun c => c.before args0 about1) = true
  refine all_split ?_ w_codes
  rw [← List.take_append_drop 24 words1, List.all_append, w_t1, ← List.take_append_drop 24 (words1.drop 24), List.all_append, w_t2, ← List.take_append_drop 24 ((words1.drop 24).drop 24), List.all_append, w_t3, w_t4]
  rfl
set_option maxRecDepth 65536 in
theorem w_case : (Jvm.Cond.and given_1 narrow_1).before args0 about1 = true := by decide +kernel
theorem w_applies : (headSpec (Jvm.Cond.code x code maxLocals ret :: tables_1) room_1).applies x e0.platform about1 = true :=
  (Spec.applies_iff w_frames).mpr ⟨w_running, w_runnable, w_alone, w_named, w_hears, w_ripe, w_room, w_tables⟩
theorem atStart : AtStart classFile x code maxLocals ret World_1 tables_1 room_1 Calls_1 rest_1 Pre_1 launch0 p0 e0 about1 theMethod args0 below0 :=
  ⟨lists_1, trivial, launch0.admits_env _ _ _, launch0.least_env, fairChoices_fair.cas, fairChoices_fair.clock, w_frames, w_args, w_heap, w_applies, trivial, trivial, w_case⟩
end start1
theorem witness_1 : WitnessClaimed_1 := ⟨start1.p0, start1.e0, start1.about1, start1.theMethod, start1.args0, start1.below0, start1.atStart⟩
end Jvm.Pilot.@@N@@
