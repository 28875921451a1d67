import JvmDerived
import JvmDerived.Pilot.@@N@@Statement
import JvmDerived.Pilot.@@N@@Code
set_option linter.unusedVariables false
set_option linter.unusedSimpArgs false
namespace Jvm.Pilot.@@N@@
open Jvm Jvm.ClassFile Sem Op Lib Jvm.Free Jvm.Stand Jvm.LawKit Jvm.RoadKit Bundle Jvm.Pilot.@@N@@.Jvm.D
section OwnKit
variable {p : Program} {l : Launch} {e : Env} {R : Room} {s : State} {m : MethodId} {args : Array Value} {below : List Frame} {meth : Method} {c : Code} {T : State} {locs : List Loc} {cells slots : Nat} {Z : State} {h h' : Heap} {a b : Addr} {ty : FieldType} {n : Nat} {f f' : Nat → Value} {sl : Nat} {v : Value} {ws : List Addr}
theorem own_dia {t : State} {B F : JFrame} (hh : Steps p.tables e below (T.setTop F) t → Steps p.tables e below (T.setTop B) t) (k : Steps p.tables e below (T.setTop F) t) : Steps p.tables e below (T.setTop B) t := hh k
/-- the place j lies in an array of n places -/
abbrev own_in (j : Int32) (n : Nat) : Prop := 0 ≤ j.toInt ∧ j.toInt < n
theorem own_in_nat {j : Int32} (hj : own_in j n) : j.toNatClampNeg < n := by simp only [Int32.toNatClampNeg]; omega
theorem own_in_arr {cl : Cell} {j : Int32} (hs : cl.slots.size = n) (hj : own_in j n) : ¬ (j < 0 ∨ cl.slots.size ≤ j.toNatClampNeg) := by
  have := own_in_nat hj
  have k0 : (0 : Int32).toInt = 0 := by decide
  rw [Int32.lt_iff_toInt_lt, hs, k0]; omega
/-- an array: its kind, its length, and what each place holds -/
def AF (Z : State) (h : Heap) (a : Addr) (ty : FieldType) (n : Nat) (f : Nat → Value) : Prop := ∃ c : Cell, Arr Z h a c ty ∧ c.slots.size = n ∧ n < 2147483648 ∧ ∀ j, j < n → c.slots[j]? = some (f j)
theorem AF.lt (F : AF Z h a ty n f) : a < h.size := by obtain ⟨c, A, -⟩ := F; exact A.lt
theorem AF.small (F : AF Z h a ty n f) : n < 2147483648 := by obtain ⟨c, -, -, q, -⟩ := F; exact q
theorem AF.ext (F : AF Z h a ty n f) (E : Ext h h') : AF Z h' a ty n f := by obtain ⟨c, A, r⟩ := F; exact ⟨c, A.ext E, r⟩
theorem AF.other (F : AF Z h b ty n f) (W : Wr h h' a sl v) (q : b ≠ a) : AF Z h' b ty n f := by obtain ⟨c, A, r⟩ := F; exact ⟨c, A.other W q, r⟩
theorem AF.keep (F : AF Z h a ty n f) (K : Keep h h' ws) (q : a ∉ ws) : AF Z h' a ty n f := by obtain ⟨c, A, r⟩ := F; exact ⟨c, ⟨K.2.1 a c A.1 q, A.2⟩, r⟩
theorem AF.cong (F : AF Z h a ty n f) (q : ∀ j, j < n → f j = f' j) : AF Z h a ty n f' := by obtain ⟨c, A, r1, r2, r3⟩ := F; exact ⟨c, A, r1, r2, fun j hj => by rw [← q j hj]; exact r3 j hj⟩
theorem AF.new {k : ClassId} {z : Int32} (A : Arr Z h a (newA k ty z) ty) (q : ¬ z < 0) : AF Z h a ty z.toNatClampNeg (fun _ => defaultValue ty) := ⟨_, A, sz_new _ _ _, (back32 q).2, fun j hj => by simp [newA, hj]⟩
theorem AF.set (F : AF Z h a ty n f) {k : Nat} (W : Wr h h' a k v) : AF Z h' a ty n (fun i => if i = k then v else f i) := by
  obtain ⟨c, A, r1, r2, r3⟩ := F
  refine ⟨_, Arr.same W A, by rw [sz_set]; exact r1, r2, fun j hj => ?_⟩
  obtain ⟨cell, h1, -, h3, -⟩ := W
  cases h1.symm.trans A.1
  by_cases q : j = k
  · subst q; simp [Cell.setSlot, h3]
  · have q' : ¬ k = j := fun z => q z.symm
    simp only [Cell.setSlot, Array.getElem?_setIfInBounds, if_neg q, if_neg q']; exact r3 j hj
theorem own_updI {g fN : Nat → Int32} {x : Int32} {J k : Nat} (hk : k = J) (hf : fN = fun i => if i = J then x else g i) : ∀ j, j < n → (if j = k then Value.int x else Value.int (g j)) = Value.int (fN j) := by
  subst hk hf; intro j _; by_cases q : j = k <;> simp [q]
theorem own_updJ {g fN : Nat → Int64} {x : Int64} {J k : Nat} (hk : k = J) (hf : fN = fun i => if i = J then x else g i) : ∀ j, j < n → (if j = k then Value.long x else Value.long (g j)) = Value.long (fN j) := by
  subst hk hf; intro j _; by_cases q : j = k <;> simp [q]
theorem AF.ldI (X : Stand p l e R s m args below meth c T locs cells slots) (hx : p.tables.exec = Jvm.exec) (hZ : Z.Warmed39 s.vm) (eT : T.heap = h) {f : Nat → Int32} (A : AF Z h a .int n (fun j => .int (f j))) {j : Int32} (hj : own_in j n) {g : JFrame} (hg : g.method = m) {rest : List Value} (hs : g.stack = .int j :: .ref a :: rest) (hd : decode c.code g.pc = .ok (.iaload, 1)) (target : State)
    (k : Steps p.tables e below (T.setTop { g with pc := g.pc + 1, stack := .int (f j.toNatClampNeg) :: rest }) target) : Steps p.tables e below (T.setTop g) target := by
  obtain ⟨cl, A, r1, r2, r3⟩ := A
  exact X.iaload hx (j := j) (v := .int (f j.toNatClampNeg)) (by rw [eT]; exact A.1) (State.isArrayOf_alike hZ.alike A.2.1) A.2.2 (own_in_arr r1 hj) (r3 _ (own_in_nat hj)) hg hs hd _ k
theorem AF.ldJ (X : Stand p l e R s m args below meth c T locs cells slots) (hx : p.tables.exec = Jvm.exec) (hZ : Z.Warmed39 s.vm) (eT : T.heap = h) {f : Nat → Int64} (A : AF Z h a .long n (fun j => .long (f j))) {j : Int32} (hj : own_in j n) {g : JFrame} (hg : g.method = m) {rest : List Value} (hs : g.stack = .int j :: .ref a :: rest) (hd : decode c.code g.pc = .ok (.laload, 1)) (target : State)
    (k : Steps p.tables e below (T.setTop { g with pc := g.pc + 1, stack := .long (f j.toNatClampNeg) :: rest }) target) : Steps p.tables e below (T.setTop g) target := by
  obtain ⟨cl, A, r1, r2, r3⟩ := A
  exact X.laload hx (j := j) (v := .long (f j.toNatClampNeg)) (by rw [eT]; exact A.1) (State.isArrayOf_alike hZ.alike A.2.1) A.2.2 (own_in_arr r1 hj) (r3 _ (own_in_nat hj)) hg hs hd _ k
theorem AF.ldB (X : Stand p l e R s m args below meth c T locs cells slots) (hx : p.tables.exec = Jvm.exec) (hZ : Z.Warmed39 s.vm) (eT : T.heap = h) {f : Nat → Int32} (A : AF Z h a .byte n (fun j => .int (f j))) {j : Int32} (hj : own_in j n) {g : JFrame} (hg : g.method = m) {rest : List Value} (hs : g.stack = .int j :: .ref a :: rest) (hd : decode c.code g.pc = .ok (.baload, 1)) (target : State)
    (k : Steps p.tables e below (T.setTop { g with pc := g.pc + 1, stack := .int (f j.toNatClampNeg) :: rest }) target) : Steps p.tables e below (T.setTop g) target := by
  obtain ⟨cl, A, r1, r2, r3⟩ := A
  exact X.baloadBytes hx (j := j) (v := .int (f j.toNatClampNeg)) (by rw [eT]; exact A.1) (State.isArrayOf_alike hZ.alike A.2.1) A.2.2 (own_in_arr r1 hj) (r3 _ (own_in_nat hj)) hg hs hd _ k
theorem AF.len (X : Stand p l e R s m args below meth c T locs cells slots) (hx : p.tables.exec = Jvm.exec) (hZ : Z.Warmed39 s.vm) (eT : T.heap = h) (A : AF Z h a ty n f) {g : JFrame} (hg : g.method = m) {rest : List Value} (hs : g.stack = .ref a :: rest) (hd : decode c.code g.pc = .ok (.arraylength, 1)) (target : State)
    (k : Steps p.tables e below (T.setTop { g with pc := g.pc + 1, stack := .int (Int32.ofNat n) :: rest }) target) : Steps p.tables e below (T.setTop g) target := by
  obtain ⟨cl, A, r1, r2, r3⟩ := A
  subst r1
  exact X.arraylength hx (by rw [eT]; exact A.1) (State.isArrayOf_alike hZ.alike A.2.1) hg hs hd _ k
theorem AF.stI (X : Stand p l e R s m args below meth c T locs cells slots) (hx : p.tables.exec = Jvm.exec) (hZ : Z.Warmed39 s.vm) (eT : T.heap = h) (A : AF Z h a .int n f) {j x : Int32} (hj : own_in j n) {g : JFrame} (hg : g.method = m) {rest : List Value} (hs : g.stack = .int x :: .int j :: .ref a :: rest) (hd : decode c.code g.pc = .ok (.iastore, 1)) :
    ∃ T' h', Stand p l e R s m args below meth c T' (locs ++ [⟨a, j.toNatClampNeg⟩]) cells slots ∧ T'.heap = h' ∧ Wr h h' a j.toNatClampNeg (.int x) ∧ AF Z h' a .int n (fun i => if i = j.toNatClampNeg then .int x else f i) ∧ ∀ target, Steps p.tables e below (T'.setTop { g with pc := g.pc + 1, stack := rest }) target → Steps p.tables e below (T.setTop g) target := by
  have A0 := A
  obtain ⟨cl, A, r1, r2, r3⟩ := A
  obtain ⟨T', h', X', e', W, st⟩ := Jvm.RoadKit.stI X hx hZ eT A (j := j) (own_in_arr r1 hj) hg hs hd
  exact ⟨T', h', X', e', W, A0.set W, st⟩
theorem AF.stJ (X : Stand p l e R s m args below meth c T locs cells slots) (hx : p.tables.exec = Jvm.exec) (hZ : Z.Warmed39 s.vm) (eT : T.heap = h) (A : AF Z h a .long n f) {j : Int32} {x : Int64} (hj : own_in j n) {g : JFrame} (hg : g.method = m) {rest : List Value} (hs : g.stack = .long x :: .int j :: .ref a :: rest) (hd : decode c.code g.pc = .ok (.lastore, 1)) :
    ∃ T' h', Stand p l e R s m args below meth c T' (locs ++ [⟨a, j.toNatClampNeg⟩]) cells slots ∧ T'.heap = h' ∧ Wr h h' a j.toNatClampNeg (.long x) ∧ AF Z h' a .long n (fun i => if i = j.toNatClampNeg then .long x else f i) ∧ ∀ target, Steps p.tables e below (T'.setTop { g with pc := g.pc + 1, stack := rest }) target → Steps p.tables e below (T.setTop g) target := by
  have A0 := A
  obtain ⟨cl, A, r1, r2, r3⟩ := A
  obtain ⟨T', h', X', e', W, st⟩ := Jvm.RoadKit.stJ X hx hZ eT A (j := j) (own_in_arr r1 hj) hg hs hd
  exact ⟨T', h', X', e', W, A0.set W, st⟩
theorem AF.stB (X : Stand p l e R s m args below meth c T locs cells slots) (hx : p.tables.exec = Jvm.exec) (hZ : Z.Warmed39 s.vm) (eT : T.heap = h) (A : AF Z h a .byte n f) {j x : Int32} (hj : own_in j n) {g : JFrame} (hg : g.method = m) {rest : List Value} (hs : g.stack = .int x :: .int j :: .ref a :: rest) (hd : decode c.code g.pc = .ok (.bastore, 1)) :
    ∃ T' h', Stand p l e R s m args below meth c T' (locs ++ [⟨a, j.toNatClampNeg⟩]) cells slots ∧ T'.heap = h' ∧ Wr h h' a j.toNatClampNeg (.int x.toInt8.toInt32) ∧ AF Z h' a .byte n (fun i => if i = j.toNatClampNeg then .int x.toInt8.toInt32 else f i) ∧ ∀ target, Steps p.tables e below (T'.setTop { g with pc := g.pc + 1, stack := rest }) target → Steps p.tables e below (T.setTop g) target := by
  have A0 := A
  obtain ⟨cl, A, r1, r2, r3⟩ := A
  obtain ⟨T', h', X', e', W, st⟩ := Jvm.RoadKit.stB X hx hZ eT A (j := j) (own_in_arr r1 hj) hg hs hd
  exact ⟨T', h', X', e', W, A0.set W, st⟩
theorem own_cpyI {f g fN : Nat → Int32} {k : Nat} (hf : fN = fun j => if j < k then f j else g j) : ∀ j, j < n → (if j < k then Value.int (f j) else Value.int (g j)) = Value.int (fN j) := by
  subst hf; intro j _; by_cases q : j < k <;> simp [q]
theorem own_cpyJ {f g fN : Nat → Int64} {k : Nat} (hf : fN = fun j => if j < k then f j else g j) : ∀ j, j < n → (if j < k then Value.long (f j) else Value.long (g j)) = Value.long (fN j) := by
  subst hf; intro j _; by_cases q : j < k <;> simp [q]
theorem own_acW {own : String} {index : Nat} (h1 : (Jvm.Cond.methodLink own index Jvm.Stand.acN).before args s = true) (h2 : (Jvm.Cond.native Jvm.Stand.acN).before args s = true) (h3 : (Jvm.Cond.static Jvm.Stand.acN).before args s = true) (h4 : (Jvm.Cond.initialized "java/lang/System").before args s = true) : ∀ w ∈ Jvm.Free.XT.acW own index, w.before args s = true := by
  intro w hw
  change w ∈ [Jvm.Cond.methodLink own index Jvm.Stand.acN, Jvm.Cond.native Jvm.Stand.acN, Jvm.Cond.static Jvm.Stand.acN, Jvm.Cond.initialized "java/lang/System"] at hw
  simp only [List.mem_cons, List.not_mem_nil, or_false] at hw
  rcases hw with rfl | rfl | rfl | rfl
  · exact h1
  · exact h2
  · exact h3
  · exact h4
theorem own_isArr {c c' : Cell} (q : Z.isArrayOf c ty) (h1 : c'.cls = c.cls) (h2 : c'.vm = c.vm) : Z.isArrayOf c' ty := by
  obtain ⟨q1, k, q2, q3⟩ := q
  exact ⟨by rw [h2]; exact q1, k, by rw [h1]; exact q2, q3⟩
theorem AF.copy (X : Stand p l e R s m args below meth c T locs cells slots) (hx : p.tables.exec = Jvm.exec) (hZ : Z.Warmed39 s.vm) {own : String} {index : Nat} (hown : s.vm.findClass own = some m.cls) (hw : ∀ w ∈ Jvm.Free.XT.acW own index, w.before args s = true)
    (eT : T.heap = h) {k : Nat} {f' : Nat → Value} (A : AF Z h a ty n f) (B : AF Z h b ty k f') (hp : ty.isReference = false) {cnt : Nat} (hfit : ∀ j, j < cnt → fits ty (f j) = true) (h1 : cnt ≤ n) (h2 : cnt ≤ k) {jn : Int32} (hn : jn = Int32.ofNat cnt)
    {g : JFrame} (hg : g.method = m) (hsize : g.locals.size = c.maxLocals) {rest : List Value} (hs : g.stack = .int jn :: .int 0 :: .ref b :: .int 0 :: .ref a :: rest) (hd : decode c.code g.pc = .ok (.invokestatic index, 3))
    {W : Nat} (hW : 2 * g.monitorRoom + (rest.map fun v => v.category).sum ≤ W) (hfr : 1 ≤ R.frames) (hlo : W + 40 ≤ R.locals) :
    ∃ (T' : State) (h' : Heap) (L' : List Loc), Stand p l e R s m args below meth c T' (locs ++ L') cells slots ∧ T'.heap = h' ∧ (∀ y ∈ L', y.base = b) ∧ Keep h h' [b] ∧ AF Z h' b ty k (fun j => if j < cnt then f j else f' j) ∧
      ∀ target, Steps p.tables e below (T'.setTop { g with pc := g.pc + 3, stack := rest }) target → Steps p.tables e below (T.setTop g) target := by
  obtain ⟨ca, A, a1, a2, a3⟩ := A
  obtain ⟨cb, B, b1, b2, b3⟩ := B
  have tA : Jvm.Free.XT.Arr ty a ca T := ⟨by rw [eT]; exact A.1, State.isArrayOf_alike X.warmed.alike (State.isArrayOf_alike hZ.alike A.2.1), A.2.2, by omega⟩
  have tB : Jvm.Free.XT.Arr ty b cb T := ⟨by rw [eT]; exact B.1, State.isArrayOf_alike X.warmed.alike (State.isArrayOf_alike hZ.alike B.2.1), B.2.2, by omega⟩
  have ga : ∀ j, j < n → ca.slots.getD j .null = f j := fun j hj => by
    have q := a3 j hj
    rw [Array.getD_eq_getD_getElem?, q]; rfl
  obtain ⟨T', B', X', P, q1, q2, q3, q4, st⟩ := X.acopy hx (o := 0) (q := 0) (n := cnt) (jo := 0) (jq := 0) hown hw tA tB (by simp) rfl rfl hn (by omega) (by omega)
    (fun i hi => ⟨by rw [Nat.zero_add, ga i (by omega)]; exact hfit i hi, fun z => by rw [hp] at z; cases z⟩) hg hsize hs hd hW hfr hlo
  refine ⟨T', _, _, X', rfl, fun y hy => ?_, ⟨by rw [P.2.2, eT]; exact Nat.le_refl _, fun x cx hx' hn' => ?_, fun x cx hx' => ?_⟩, ⟨B', ⟨P.1, own_isArr B.2.1 q1 q2, by rw [q2]; exact B.2.2⟩, q3.trans b1, b2, fun j hj => ?_⟩, st⟩
  · simp only [copyLocs, List.mem_map] at hy
    obtain ⟨i, -, rfl⟩ := hy
    rfl
  · rw [P.2.1 x (fun z => hn' (by simp [z])), eT]; exact hx'
  · by_cases z : x = b
    · subst z
      cases hx'.symm.trans B.1
      exact ⟨B', P.1, q1, q2, q3⟩
    · exact ⟨cx, by rw [P.2.1 x z, eT]; exact hx', rfl, rfl, rfl⟩
  · show _ = some (if j < cnt then f j else f' j)
    rw [q4 j]
    by_cases z : j < cnt
    · rw [if_pos (by omega), if_pos z]
      have : 0 + (j - 0) = j := by omega
      rw [this, ga j (by omega)]
    · rw [if_neg (by omega), if_neg z]; exact b3 j hj
theorem own_nb (x : Int32) : nar .boolean x = x &&& 1 := rfl
theorem own_nar1 : nar .boolean 1 = 1 := rfl
theorem own_nar0 : nar .boolean 0 = 0 := rfl
theorem own_nbyte (x : Int32) : nar .byte x = x.toInt8.toInt32 := rfl
theorem own_nar_ite (q : Prop) [Decidable q] (x y : Int32) : nar .boolean (if q then x else y) = if q then nar .boolean x else nar .boolean y := by split <;> rfl
theorem own_pos_ne {x : Int64} (q : 0 < x) : x ≠ 0 := fun z => by subst z; exact absurd q (by decide)
theorem own_cat {w : Value} (q : w.isRef = true) : w.category = 1 := by cases w <;> first | rfl | (simp [Value.isRef] at q)
theorem own_fits_ref {ty : FieldType} {w : Value} (q : w.isRef = true) (ht : ty.isReference = true := by rfl) : fits ty w = true := by
  cases w <;> cases ty <;> first | rfl | (exact absurd q (by decide)) | (exact absurd ht (by decide)) | (cases q) | (cases ht)
/-- a static field that holds v, in a heap that keeps all that was old at the start -/
def SO (Z : State) (n0 : Nat) (h : Heap) (C n d : String) (v : Value) : Prop := Sta Z Z.heap C n d v ∧ Old Z n0 h
theorem SO.ext {n0 : Nat} {C nm d : String} (F : SO Z n0 h C nm d v) (E : Ext h h') : SO Z n0 h' C nm d v := ⟨F.1, F.2.ext E⟩
theorem SO.wr {n0 : Nat} {C nm d : String} {w : Value} (F : SO Z n0 h C nm d v) (W : Wr h h' a sl w) (q : n0 ≤ a) : SO Z n0 h' C nm d v := ⟨F.1, F.2.wr W q⟩
theorem SO.keep {n0 : Nat} {C nm d : String} (F : SO Z n0 h C nm d v) (K : Keep h h' ws) (q : ∀ x ∈ ws, n0 ≤ x) : SO Z n0 h' C nm d v := ⟨F.1, F.2.keep K q⟩
theorem SO.sta {n0 : Nat} {C nm d : String} (F : SO Z n0 h C nm d v) : Sta Z h C nm d v := F.1.ext F.2.2
theorem own_selp {y : MethodName} {n : Nat} (wi : (Jvm.Cond.instantiable y.cls n).before args s = true) (hpriv : s.PrivateAt y) (hinst : (Jvm.Cond.instanceMethod y).before args s = true) (hy : y.cls ≠ "java/lang/invoke/MethodHandle" ∧ y.cls ≠ "java/lang/invoke/VarHandle") : (Jvm.Cond.selects y.cls y y).before args s = true := by
  obtain ⟨c, k, h1, h2, -, h4, -⟩ := Cond.instantiable_spec wi
  exact Jvm.Stand.selects_self_of_private h1 h2 (by simp only [Bool.or_eq_false_iff] at h4; exact h4.1) hpriv hinst hy
end OwnKit

theorem pn_0 : plainName "com/example/paperloom/paperloom/MeanWeightPinLaw" = true := by first | (simp [plainName, overriddenIn]; done) | decide +kernel
theorem d1_0 : decode method_3_code 0 = .ok (.lconst 1, 1) := by decide +kernel
theorem d1_1 : decode method_3_code 1 = .ok (.lload_n 0, 1) := by decide +kernel
theorem d1_2 : decode method_3_code 2 = .ok (.iconst 3, 1) := by decide +kernel
theorem d1_3 : decode method_3_code 3 = .ok (.lushr, 1) := by decide +kernel
theorem d1_4 : decode method_3_code 4 = .ok (.iload_n 2, 1) := by decide +kernel
theorem d1_5 : decode method_3_code 5 = .ok (.i2l, 1) := by decide +kernel
theorem d1_6 : decode method_3_code 6 = .ok (.lconst 1, 1) := by decide +kernel
theorem d1_7 : decode method_3_code 7 = .ok (.ladd, 1) := by decide +kernel
theorem d1_8 : decode method_3_code 8 = .ok (.ldiv, 1) := by decide +kernel
theorem d1_9 : decode method_3_code 9 = .ok (.invokestatic 23, 3) := by decide +kernel
theorem d1_12 : decode method_3_code 12 = .ok (.lreturn, 1) := by decide +kernel
theorem pn_1 : plainName "com/example/paperloom/paperloom/MeanWeightPinLaw" = true := by first | (simp [plainName, overriddenIn]; done) | decide +kernel
theorem d2_0 : decode jdk_29_method_66_code 0 = .ok (.lload_n 0, 1) := by decide +kernel
theorem d2_1 : decode jdk_29_method_66_code 1 = .ok (.lload_n 2, 1) := by decide +kernel
theorem d2_2 : decode jdk_29_method_66_code 2 = .ok (.lcmp, 1) := by decide +kernel
theorem d2_3 : decode jdk_29_method_66_code 3 = .ok (.ifCond .lt 7, 3) := by decide +kernel
theorem d2_6 : decode jdk_29_method_66_code 6 = .ok (.lload_n 0, 1) := by decide +kernel
theorem d2_7 : decode jdk_29_method_66_code 7 = .ok (.goto 4, 3) := by decide +kernel
theorem d2_10 : decode jdk_29_method_66_code 10 = .ok (.lload_n 2, 1) := by decide +kernel
theorem d2_11 : decode jdk_29_method_66_code 11 = .ok (.lreturn, 1) := by decide +kernel
theorem d3_0 : decode prog_8_method_1_code 0 = .ok (.aload_n 0, 1) := by decide +kernel
theorem d3_1 : decode prog_8_method_1_code 1 = .ok (.aload_n 1, 1) := by decide +kernel
theorem d3_2 : decode prog_8_method_1_code 2 = .ok (.aload_n 2, 1) := by decide +kernel
theorem d3_3 : decode prog_8_method_1_code 3 = .ok (.lconst 0, 1) := by decide +kernel
theorem d3_4 : decode prog_8_method_1_code 4 = .ok (.lconst 0, 1) := by decide +kernel
theorem d3_5 : decode prog_8_method_1_code 5 = .ok (.invokespecial 1, 3) := by decide +kernel
theorem d3_8 : decode prog_8_method_1_code 8 = .ok (.return_, 1) := by decide +kernel
theorem pn_3 : plainName "com/example/paperloom/paperloom/CountSearch$Mean" = true := by first | (simp [plainName, overriddenIn]; done) | decide +kernel
theorem d4_0 : decode prog_8_method_2_code 0 = .ok (.aload_n 0, 1) := by decide +kernel
theorem d4_1 : decode prog_8_method_2_code 1 = .ok (.invokespecial 7, 3) := by decide +kernel
theorem d4_4 : decode prog_8_method_2_code 4 = .ok (.aload_n 0, 1) := by decide +kernel
theorem d4_5 : decode prog_8_method_2_code 5 = .ok (.aload_n 1, 1) := by decide +kernel
theorem d4_6 : decode prog_8_method_2_code 6 = .ok (.putfield 12, 3) := by decide +kernel
theorem d4_9 : decode prog_8_method_2_code 9 = .ok (.aload_n 0, 1) := by decide +kernel
theorem d4_10 : decode prog_8_method_2_code 10 = .ok (.aload_n 2, 1) := by decide +kernel
theorem d4_11 : decode prog_8_method_2_code 11 = .ok (.putfield 16, 3) := by decide +kernel
theorem d4_14 : decode prog_8_method_2_code 14 = .ok (.aload_n 0, 1) := by decide +kernel
theorem d4_15 : decode prog_8_method_2_code 15 = .ok (.lload_n 3, 1) := by decide +kernel
theorem d4_16 : decode prog_8_method_2_code 16 = .ok (.putfield 19, 3) := by decide +kernel
theorem d4_19 : decode prog_8_method_2_code 19 = .ok (.aload_n 0, 1) := by decide +kernel
theorem d4_20 : decode prog_8_method_2_code 20 = .ok (.lload 5, 2) := by decide +kernel
theorem d4_22 : decode prog_8_method_2_code 22 = .ok (.putfield 23, 3) := by decide +kernel
theorem d4_25 : decode prog_8_method_2_code 25 = .ok (.return_, 1) := by decide +kernel
theorem pn_4 : plainName "com/example/paperloom/paperloom/CountSearch$Mean" = true := by first | (simp [plainName, overriddenIn]; done) | decide +kernel
theorem d6_0 : decode prog_8_method_7_code 0 = .ok (.aload_n 0, 1) := by decide +kernel
theorem d6_1 : decode prog_8_method_7_code 1 = .ok (.getfield 23, 3) := by decide +kernel
theorem d6_4 : decode prog_8_method_7_code 4 = .ok (.lstore_n 2, 1) := by decide +kernel
theorem d6_5 : decode prog_8_method_7_code 5 = .ok (.iconst 0, 1) := by decide +kernel
theorem d6_6 : decode prog_8_method_7_code 6 = .ok (.istore 4, 2) := by decide +kernel
theorem d6_8 : decode prog_8_method_7_code 8 = .ok (.iload 4, 2) := by decide +kernel
theorem d6_10 : decode prog_8_method_7_code 10 = .ok (.aload_n 1, 1) := by decide +kernel
theorem d6_11 : decode prog_8_method_7_code 11 = .ok (.arraylength, 1) := by decide +kernel
theorem d6_12 : decode prog_8_method_7_code 12 = .ok (.if_icmp .ge 25, 3) := by decide +kernel
theorem d6_15 : decode prog_8_method_7_code 15 = .ok (.lload_n 2, 1) := by decide +kernel
theorem d6_16 : decode prog_8_method_7_code 16 = .ok (.aload_n 0, 1) := by decide +kernel
theorem d6_17 : decode prog_8_method_7_code 17 = .ok (.getfield 16, 3) := by decide +kernel
theorem d6_20 : decode prog_8_method_7_code 20 = .ok (.iload 4, 2) := by decide +kernel
theorem d6_22 : decode prog_8_method_7_code 22 = .ok (.laload, 1) := by decide +kernel
theorem d6_23 : decode prog_8_method_7_code 23 = .ok (.aload_n 1, 1) := by decide +kernel
theorem d6_24 : decode prog_8_method_7_code 24 = .ok (.iload 4, 2) := by decide +kernel
theorem d6_26 : decode prog_8_method_7_code 26 = .ok (.iaload, 1) := by decide +kernel
theorem d6_27 : decode prog_8_method_7_code 27 = .ok (.i2l, 1) := by decide +kernel
theorem d6_28 : decode prog_8_method_7_code 28 = .ok (.lmul, 1) := by decide +kernel
theorem d6_29 : decode prog_8_method_7_code 29 = .ok (.ladd, 1) := by decide +kernel
theorem d6_30 : decode prog_8_method_7_code 30 = .ok (.lstore_n 2, 1) := by decide +kernel
theorem d6_31 : decode prog_8_method_7_code 31 = .ok (.iinc 4 1, 3) := by decide +kernel
theorem d6_34 : decode prog_8_method_7_code 34 = .ok (.goto (-26), 3) := by decide +kernel
theorem d6_37 : decode prog_8_method_7_code 37 = .ok (.lload_n 2, 1) := by decide +kernel
theorem d6_38 : decode prog_8_method_7_code 38 = .ok (.lreturn, 1) := by decide +kernel
theorem pn_6 : plainName "com/example/paperloom/paperloom/CountSearch$Mean" = true := by first | (simp [plainName, overriddenIn]; done) | decide +kernel
theorem pd_1 : parseMethodDescriptor "(JJ)J" = some ⟨[.long, .long], some .long⟩ := by decide +kernel
theorem pd_3 : parseMethodDescriptor "([J[JJJ)V" = some ⟨[(.array .long), (.array .long), .long, .long], none⟩ := by decide +kernel
theorem pd_0 : parseMethodDescriptor "(JI)J" = some ⟨[.long, .int], some .long⟩ := by decide +kernel
theorem pd_2 : parseMethodDescriptor "([J[J)V" = some ⟨[(.array .long), (.array .long)], none⟩ := by decide +kernel
theorem pd_5 : parseMethodDescriptor "([I)J" = some ⟨[(.array .int)], some .long⟩ := by decide +kernel

theorem own_hz8 (p : Int32) : (((p &&& (2147483647 : Int32)).toInt64) + (1 : Int64)) ≠ (0 : Int64) := by
  intro q
  have m := c_mask p 2147483647 31 (by decide) (by decide)
  have a := c_ladd ((p &&& (2147483647 : Int32)).toInt64) 1
  rw [q, c_i2l] at a
  have k0 : (0 : Int64).toInt = 0 := by decide
  have k1 : (1 : Int64).toInt = 1 := by decide
  rw [k0, k1] at a
  omega

theorem ef_2 (m : MethodId) (q0 : Int64) (q1 : Int64) : entryFrame m #[(.long q0), (.long q1)] 4 = mkF m 0 #[.val (.long q0), .second, .val (.long q1), .second] [] := by first | (simp [entryFrame, mkF, argsToLocals, Value.category]; done) | rfl
def Q2 (Z : State) (q0 : Int64) (q1 : Int64) (h0 : Heap) (n0 : Nat) (v : Option Value) (h : Heap) (L : List Loc) : Prop := v = some (.long (if q0 < q1 then q1 else q0)) ∧ Fr n0 L ∧ h = h0
set_option maxRecDepth 65536 in
set_option maxHeartbeats 40000000 in
theorem rm2 (l : Launch) (Z : State) (A0 : Array Value) (hw : ∀ d ∈ tables_1, d.before A0 Z = true) (ws : List Jvm.Cond) (q0 : Int64) (q1 : Int64) (h0 : Heap) (n0 : Nat) (Z0 : n0 ≤ h0.size) :
    MetFree l (⟨"java/lang/Math", "max", "(JJ)J"⟩ : MethodName) (head1 (Jvm.Cond.code (⟨"java/lang/Math", "max", "(JJ)J"⟩ : MethodName) jdk_29_method_66_code 4 (some .long) :: ws) ({ frames := 0, cells := 0, slots := 0, locals := 0 } : Room)) (fun a U => a = #[(.long q0), (.long q1)] ∧ Z.Warmed39 U.vm ∧ U.heap = h0) (fun _ _ _ _ _ => True) (fun _ U o U' => ∃ v L, o = .returned v ∧ Q2 Z q0 q1 h0 n0 v U'.heap L ∧ FrameEnd U o U' L ({ frames := 0, cells := 0, slots := 0, locals := 0 } : Room).cells ({ frames := 0, cells := 0, slots := 0, locals := 0 } : Room).slots) := by
  refine MetFree.of_bodySF (Jvm.Free.JP.mathPlain rfl (by decide +kernel)) hisR ?_
  intro p e s m args below meth c s₁ Bd hml0 hP hK
  obtain ⟨rfl, hZ, hh⟩ := hP
  have hx := Bd.exec
  have hby := Bd.bytes
  have hml : c.maxLocals = 4 := hml0
  have hown : s.vm.findClass "java/lang/Math" = some m.cls := findClass_of_methodNamed Bd.named
  have hnm := (name_of_methodNamed Bd.named Bd.method).1
  have X0 : Stand p l e ({ frames := 0, cells := 0, slots := 0, locals := 0 } : Room) s m #[(.long q0), (.long q1)] below meth c s₁ [] 0 0 := Stand.of_body Bd
  have e0 : s₁.heap = h0 := by rw [← hh, Bd.state]; rfl
  have N0 := Fr.nil n0
  have pre0 : ∀ t, Steps p.tables e below (s₁.setTop (mkF m 0 #[.val (.long q0), .second, .val (.long q1), .second] [])) t → Steps p.tables e below (s₁.setTop (entryFrame m #[(.long q0), (.long q1)] 4)) t := fun t k => castTop (ef_2 m q0 q1) k
  obtain ⟨v2, hv2⟩ : ∃ z : Int64, z = if q0 < q1 then q1 else q0 := ⟨_, rfl⟩
  obtain ⟨fs, hr, hrun, hended, hW, hsame⟩ := X0.leave (v := some (.long v2)) (fun h => by rw [Bd.returns] at h; cases h)
  refine ⟨_, _, pre0 _ ?_, hrun, hended, _, _, rfl, ?_, ⟨_, rfl⟩, hW, hsame.mono (by decide) (by decide)⟩
  · show Steps p.tables e below (s₁.setTop (mkF m 0 #[.val (.long q0), .second, .val (.long q1), .second] [])) _
    refine XS.lloadN X0.here hx rfl (hb hby d2_0) rfl ?_
    show Steps p.tables e below (s₁.setTop (mkF m 1 #[.val (.long q0), .second, .val (.long q1), .second] [(.long q0)])) _
    refine XS.lloadN X0.here hx rfl (hb hby d2_1) rfl ?_
    show Steps p.tables e below (s₁.setTop (mkF m 2 #[.val (.long q0), .second, .val (.long q1), .second] [(.long q1), (.long q0)])) _
    refine XS.lcmp X0.here hx rfl (hb hby d2_2) rfl ?_
    show Steps p.tables e below (s₁.setTop (mkF m 3 #[.val (.long q0), .second, .val (.long q1), .second] [(.int (lcmpW q0 q1))])) _
    refine own_dia (F := (mkF m 11 #[.val (.long q0), .second, .val (.long q1), .second] [(.long v2)])) ?_ ?_
    · intro kt
      by_cases hc1 : q0 < q1
      · show Steps p.tables e below (s₁.setTop (mkF m 3 #[.val (.long q0), .second, .val (.long q1), .second] [(.int (lcmpW q0 q1))])) _
        refine XS.ifYes X0.here hx rfl (pc0 := 3) (pc' := 10) rfl (hb hby d2_3) rfl ((if0 _ _).trans (tlt ((lw_lt q0 q1).mpr hc1)).1) (by decide) (by decide) ?_
        show Steps p.tables e below (s₁.setTop (mkF m 10 #[.val (.long q0), .second, .val (.long q1), .second] [])) _
        refine XS.lloadN X0.here hx rfl (hb hby d2_10) rfl ?_
        exact castTop (by rw [hv2, if_pos hc1] <;> rfl) kt
      · show Steps p.tables e below (s₁.setTop (mkF m 3 #[.val (.long q0), .second, .val (.long q1), .second] [(.int (lcmpW q0 q1))])) _
        refine XS.ifNo X0.here hx rfl (hb hby d2_3) rfl ((if0 _ _).trans (flt (fun q => hc1 ((lw_lt q0 q1).mp q))).1) ?_
        show Steps p.tables e below (s₁.setTop (mkF m 6 #[.val (.long q0), .second, .val (.long q1), .second] [])) _
        refine XS.lloadN X0.here hx rfl (hb hby d2_6) rfl ?_
        show Steps p.tables e below (s₁.setTop (mkF m 7 #[.val (.long q0), .second, .val (.long q1), .second] [(.long q0)])) _
        refine XS.goto X0.here hx rfl (pc0 := 7) (pc' := 11) rfl (hb hby d2_7) (by decide) (by decide) ?_
        exact castTop (by rw [hv2, if_neg hc1] <;> rfl) kt
    show Steps p.tables e below (s₁.setTop (mkF m 11 #[.val (.long q0), .second, .val (.long q1), .second] [(.long v2)])) _
    exact retOut X0 hx Bd.returns rfl (Or.inr (Or.inl ⟨rfl, rfl, _, rfl⟩)) (hb hby d2_11) hr
  · show Q2 Z q0 q1 h0 n0 _ s₁.heap _
    subst hv2
    exact ⟨rfl, N0, e0⟩
theorem ef_1 (m : MethodId) (q0 : Int64) (p1 : Int32) : entryFrame m #[(.long q0), (.int p1)] 3 = mkF m 0 #[.val (.long q0), .second, .val (.int p1)] [] := by first | (simp [entryFrame, mkF, argsToLocals, Value.category]; done) | rfl
def own_wf (q0 : Int64) (p1 : Int32) : Int64 := (if (1 : Int64) < (((q0.toUInt64 >>> ((3 : Int32) &&& 0x3f).toInt64.toUInt64).toInt64) / ((p1.toInt64) + (1 : Int64))) then (((q0.toUInt64 >>> ((3 : Int32) &&& 0x3f).toInt64.toUInt64).toInt64) / ((p1.toInt64) + (1 : Int64))) else (1 : Int64))
def Q1 (Z : State) (q0 : Int64) (p1 : Int32) (h0 : Heap) (n0 : Nat) (v : Option Value) (h : Heap) (L : List Loc) : Prop := v = some (.long (own_wf q0 p1)) ∧ Fr n0 L ∧ h = h0
set_option maxRecDepth 65536 in
set_option maxHeartbeats 40000000 in
theorem rm1 (l : Launch) (Z : State) (A0 : Array Value) (hw : ∀ d ∈ tables_1, d.before A0 Z = true) (ws : List Jvm.Cond) (q0 : Int64) (p1 : Int32) (h0 : Heap) (n0 : Nat) (Z0 : n0 ≤ h0.size) (hz8 : ((p1.toInt64) + (1 : Int64)) ≠ (0 : Int64)) :
    MetFree l (⟨"com/example/paperloom/paperloom/MeanWeightPinLaw", "weightFor", "(JI)J"⟩ : MethodName) (head1 (Jvm.Cond.code (⟨"com/example/paperloom/paperloom/MeanWeightPinLaw", "weightFor", "(JI)J"⟩ : MethodName) method_3_code 3 (some .long) :: ws) ({ frames := 1, cells := 0, slots := 0, locals := 15 } : Room)) (fun a U => a = #[(.long q0), (.int p1)] ∧ Z.Warmed39 U.vm ∧ U.heap = h0) (fun _ _ _ _ _ => True) (fun _ U o U' => ∃ v L, o = .returned v ∧ Q1 Z q0 p1 h0 n0 v U'.heap L ∧ FrameEnd U o U' L ({ frames := 1, cells := 0, slots := 0, locals := 15 } : Room).cells ({ frames := 1, cells := 0, slots := 0, locals := 15 } : Room).slots) := by
  refine MetFree.of_bodySF (plainFor_of_name pn_1) hisR ?_
  intro p e s m args below meth c s₁ Bd hml0 hP hK
  obtain ⟨rfl, hZ, hh⟩ := hP
  have hx := Bd.exec
  have hby := Bd.bytes
  have hml : c.maxLocals = 3 := hml0
  have hown : s.vm.findClass "com/example/paperloom/paperloom/MeanWeightPinLaw" = some m.cls := findClass_of_methodNamed Bd.named
  have hnm := (name_of_methodNamed Bd.named Bd.method).1
  have X0 : Stand p l e ({ frames := 1, cells := 0, slots := 0, locals := 15 } : Room) s m #[(.long q0), (.int p1)] below meth c s₁ [] 0 0 := Stand.of_body Bd
  have e0 : s₁.heap = h0 := by rw [← hh, Bd.state]; rfl
  have N0 := Fr.nil n0
  have pre0 : ∀ t, Steps p.tables e below (s₁.setTop (mkF m 0 #[.val (.long q0), .second, .val (.int p1)] [])) t → Steps p.tables e below (s₁.setTop (entryFrame m #[(.long q0), (.int p1)] 3)) t := fun t k => castTop (ef_1 m q0 p1) k
  obtain ⟨_, _, ⟨T1, L1, k1, n1⟩, -, X1, ⟨Lc1, hQ1, l1, y1, z1⟩, st1⟩ := Jvm.LawKit.callS X0 hx (y := (⟨"java/lang/Math", "max", "(JJ)J"⟩ : MethodName)) hown (mvT hZ (hw _ (List.mem_of_getElem? (i := 5) rfl))) (mvT hZ (hw _ (List.mem_of_getElem? (i := 6) rfl))) (mvT hZ (hw _ (List.mem_of_getElem? (i := 7) rfl))) (mvT hZ (hw _ (List.mem_of_getElem? (i := 8) rfl))) (by decide) (backOf (W := 0) (rm2 l Z A0 hw [] (1 : Int64) (((q0.toUInt64 >>> ((3 : Int32) &&& 0x3f).toInt64.toUInt64).toInt64) / ((p1.toInt64) + (1 : Int64))) h0 n0 (Nat.le_trans Z0 (Keep.refl h0 []).1) ) hZ (hw _ (List.mem_of_getElem? (i := 8) rfl)) (hw _ (List.mem_of_getElem? (i := 7) rfl)) (by decide) (by decide)) (g := (mkF m 9 #[.val (.long q0), .second, .val (.int p1)] [(.long (((q0.toUInt64 >>> ((3 : Int32) &&& 0x3f).toInt64.toUInt64).toInt64) / ((p1.toInt64) + (1 : Int64)))), (.long (1 : Int64))])) rfl (by rw [hml]; rfl) (argsL := [(.long (1 : Int64)), (.long (((q0.toUInt64 >>> ((3 : Int32) &&& 0x3f).toInt64.toUInt64).toInt64) / ((p1.toInt64) + (1 : Int64))))]) (rest := []) (lenOf pd_1 rfl) rfl (by show 2 * 0 + _ ≤ _; exact Nat.le_of_eq rfl) (hb hby d1_9) (fun _ _ => ⟨rfl, e0, (by decide : 0 + 0 ≤ _), (by decide : 0 + 0 ≤ _)⟩)
  dsimp only [Pt.U, Pt.locs, Pt.cells, Pt.slots] at X1 l1 y1 z1 st1 hQ1
  subst l1 y1 z1
  obtain ⟨rfl, N1q, e1⟩ := hQ1
  have N1 := Fr.app N0 N1q
  obtain ⟨fs, hr, hrun, hended, hW, hsame⟩ := X1.leave (v := some (.long (if (1 : Int64) < (((q0.toUInt64 >>> ((3 : Int32) &&& 0x3f).toInt64.toUInt64).toInt64) / ((p1.toInt64) + (1 : Int64))) then (((q0.toUInt64 >>> ((3 : Int32) &&& 0x3f).toInt64.toUInt64).toInt64) / ((p1.toInt64) + (1 : Int64))) else (1 : Int64)))) (fun h => by rw [Bd.returns] at h; cases h)
  refine ⟨_, _, pre0 _ ?_, hrun, hended, _, _, rfl, ?_, ⟨_, rfl⟩, hW, hsame.mono (by decide) (by decide)⟩
  · show Steps p.tables e below (s₁.setTop (mkF m 0 #[.val (.long q0), .second, .val (.int p1)] [])) _
    refine XS.lconst X0.here hx rfl (hb hby d1_0) ?_
    show Steps p.tables e below (s₁.setTop (mkF m 1 #[.val (.long q0), .second, .val (.int p1)] [(.long (1 : Int64))])) _
    refine XS.lloadN X0.here hx rfl (hb hby d1_1) rfl ?_
    show Steps p.tables e below (s₁.setTop (mkF m 2 #[.val (.long q0), .second, .val (.int p1)] [(.long q0), (.long (1 : Int64))])) _
    refine XS.iconst X0.here hx rfl (hb hby d1_2) ?_
    show Steps p.tables e below (s₁.setTop (mkF m 3 #[.val (.long q0), .second, .val (.int p1)] [(.int (3 : Int32)), (.long q0), (.long (1 : Int64))])) _
    refine XS.lushr X0.here hx rfl (hb hby d1_3) rfl ?_
    show Steps p.tables e below (s₁.setTop (mkF m 4 #[.val (.long q0), .second, .val (.int p1)] [(.long ((q0.toUInt64 >>> ((3 : Int32) &&& 0x3f).toInt64.toUInt64).toInt64)), (.long (1 : Int64))])) _
    refine XS.iloadN X0.here hx rfl (hb hby d1_4) rfl ?_
    show Steps p.tables e below (s₁.setTop (mkF m 5 #[.val (.long q0), .second, .val (.int p1)] [(.int p1), (.long ((q0.toUInt64 >>> ((3 : Int32) &&& 0x3f).toInt64.toUInt64).toInt64)), (.long (1 : Int64))])) _
    refine XS.i2l X0.here hx rfl (hb hby d1_5) rfl ?_
    show Steps p.tables e below (s₁.setTop (mkF m 6 #[.val (.long q0), .second, .val (.int p1)] [(.long (p1.toInt64)), (.long ((q0.toUInt64 >>> ((3 : Int32) &&& 0x3f).toInt64.toUInt64).toInt64)), (.long (1 : Int64))])) _
    refine XS.lconst X0.here hx rfl (hb hby d1_6) ?_
    show Steps p.tables e below (s₁.setTop (mkF m 7 #[.val (.long q0), .second, .val (.int p1)] [(.long (1 : Int64)), (.long (p1.toInt64)), (.long ((q0.toUInt64 >>> ((3 : Int32) &&& 0x3f).toInt64.toUInt64).toInt64)), (.long (1 : Int64))])) _
    refine XS.ladd X0.here hx rfl (hb hby d1_7) rfl ?_
    show Steps p.tables e below (s₁.setTop (mkF m 8 #[.val (.long q0), .second, .val (.int p1)] [(.long ((p1.toInt64) + (1 : Int64))), (.long ((q0.toUInt64 >>> ((3 : Int32) &&& 0x3f).toInt64.toUInt64).toInt64)), (.long (1 : Int64))])) _
    refine XS.ldiv X0.here hx rfl (hb hby d1_8) rfl hz8 ?_
    show Steps p.tables e below (s₁.setTop (mkF m 9 #[.val (.long q0), .second, .val (.int p1)] [(.long (((q0.toUInt64 >>> ((3 : Int32) &&& 0x3f).toInt64.toUInt64).toInt64) / ((p1.toInt64) + (1 : Int64)))), (.long (1 : Int64))])) _
    refine st1 _ ?_
    show Steps p.tables e below (T1.setTop (mkF m 12 #[.val (.long q0), .second, .val (.int p1)] [(.long (if (1 : Int64) < (((q0.toUInt64 >>> ((3 : Int32) &&& 0x3f).toInt64.toUInt64).toInt64) / ((p1.toInt64) + (1 : Int64))) then (((q0.toUInt64 >>> ((3 : Int32) &&& 0x3f).toInt64.toUInt64).toInt64) / ((p1.toInt64) + (1 : Int64))) else (1 : Int64)))])) _
    exact retOut X1 hx Bd.returns rfl (Or.inr (Or.inl ⟨rfl, rfl, _, rfl⟩)) (hb hby d1_12) hr
  · show Q1 Z q0 p1 h0 n0 _ T1.heap _
    exact ⟨rfl, N1, e1⟩
theorem ef_4 (m : MethodId) (a0 : Addr) (a1 : Addr) (a2 : Addr) (q3 : Int64) (q4 : Int64) : entryFrame m #[(.ref a0), (.ref a1), (.ref a2), (.long q3), (.long q4)] 7 = mkF m 0 #[.val (.ref a0), .val (.ref a1), .val (.ref a2), .val (.long q3), .second, .val (.long q4), .second] [] := by first | (simp [entryFrame, mkF, argsToLocals, Value.category]; done) | rfl
def Q4 (Z : State) (a0 : Addr) (a1 : Addr) (a2 : Addr) (q3 : Int64) (q4 : Int64) (w_offset_a0 : Value) (w_weight_a0 : Value) (w_startOffset_a0 : Int64) (w_startWeight_a0 : Int64) (h0 : Heap) (n0 : Nat) (v : Option Value) (h : Heap) (L : List Loc) : Prop := v = none ∧ Fr n0 L ∧ Keep h0 h [a0] ∧ Exa Z h a0 "com/example/paperloom/paperloom/CountSearch$Mean" ∧ Fld Z h a0 "com/example/paperloom/paperloom/CountSearch$Mean" "offset" "[J" (.ref a1) ∧ Fld Z h a0 "com/example/paperloom/paperloom/CountSearch$Mean" "weight" "[J" (.ref a2) ∧ Fld Z h a0 "com/example/paperloom/paperloom/CountSearch$Mean" "startOffset" "J" (.long q3) ∧ Fld Z h a0 "com/example/paperloom/paperloom/CountSearch$Mean" "startWeight" "J" (.long q4)
set_option maxRecDepth 65536 in
set_option maxHeartbeats 40000000 in
theorem rm4 (l : Launch) (Z : State) (A0 : Array Value) (hw : ∀ d ∈ tables_1, d.before A0 Z = true) (ws : List Jvm.Cond) (a0 : Addr) (a1 : Addr) (a2 : Addr) (q3 : Int64) (q4 : Int64) (w_offset_a0 : Value) (w_weight_a0 : Value) (w_startOffset_a0 : Int64) (w_startWeight_a0 : Int64) (h0 : Heap) (n0 : Nat) (Z0 : n0 ≤ h0.size) (E_a0 : Exa Z h0 a0 "com/example/paperloom/paperloom/CountSearch$Mean") (F_offset_a0 : Fld Z h0 a0 "com/example/paperloom/paperloom/CountSearch$Mean" "offset" "[J" w_offset_a0) (F_weight_a0 : Fld Z h0 a0 "com/example/paperloom/paperloom/CountSearch$Mean" "weight" "[J" w_weight_a0) (F_startOffset_a0 : Fld Z h0 a0 "com/example/paperloom/paperloom/CountSearch$Mean" "startOffset" "J" (.long w_startOffset_a0)) (F_startWeight_a0 : Fld Z h0 a0 "com/example/paperloom/paperloom/CountSearch$Mean" "startWeight" "J" (.long w_startWeight_a0)) (nw_a0 : n0 ≤ a0) :
    MetFree l (⟨"com/example/paperloom/paperloom/CountSearch$Mean", "<init>", "([J[JJJ)V"⟩ : MethodName) (head1 (Jvm.Cond.code (⟨"com/example/paperloom/paperloom/CountSearch$Mean", "<init>", "([J[JJJ)V"⟩ : MethodName) prog_8_method_2_code 7 none :: ws) ({ frames := 1, cells := 0, slots := 0, locals := 12 } : Room)) (fun a U => a = #[(.ref a0), (.ref a1), (.ref a2), (.long q3), (.long q4)] ∧ Z.Warmed39 U.vm ∧ U.heap = h0) (fun _ _ _ _ _ => True) (fun _ U o U' => ∃ v L, o = .returned v ∧ Q4 Z a0 a1 a2 q3 q4 w_offset_a0 w_weight_a0 w_startOffset_a0 w_startWeight_a0 h0 n0 v U'.heap L ∧ FrameEnd U o U' L ({ frames := 1, cells := 0, slots := 0, locals := 12 } : Room).cells ({ frames := 1, cells := 0, slots := 0, locals := 12 } : Room).slots) := by
  refine MetFree.of_bodySF (plainFor_of_name pn_4) hisR ?_
  intro p e s m args below meth c s₁ Bd hml0 hP hK
  obtain ⟨rfl, hZ, hh⟩ := hP
  have hx := Bd.exec
  have hby := Bd.bytes
  have hml : c.maxLocals = 7 := hml0
  have hown : s.vm.findClass "com/example/paperloom/paperloom/CountSearch$Mean" = some m.cls := findClass_of_methodNamed Bd.named
  have hnm := (name_of_methodNamed Bd.named Bd.method).1
  have X0 : Stand p l e ({ frames := 1, cells := 0, slots := 0, locals := 12 } : Room) s m #[(.ref a0), (.ref a1), (.ref a2), (.long q3), (.long q4)] below meth c s₁ [] 0 0 := Stand.of_body Bd
  have e0 : s₁.heap = h0 := by rw [← hh, Bd.state]; rfl
  have N0 := Fr.nil n0
  have pre0 : ∀ t, Steps p.tables e below (s₁.setTop (mkF m 0 #[.val (.ref a0), .val (.ref a1), .val (.ref a2), .val (.long q3), .second, .val (.long q4), .second] [])) t → Steps p.tables e below (s₁.setTop (entryFrame m #[(.ref a0), (.ref a1), (.ref a2), (.long q3), (.long q4)] 7)) t := fun t k => castTop (ef_4 m a0 a1 a2 q3 q4) k
  obtain ⟨T1, X1, e1, st1⟩ := initO X0 hx hZ hown (hw _ (List.mem_of_getElem? (i := 19) rfl)) (hw _ (List.mem_of_getElem? (i := 20) rfl)) (hw _ (List.mem_of_getElem? (i := 21) rfl)) e0 (g := (mkF m 1 #[.val (.ref a0), .val (.ref a1), .val (.ref a2), .val (.long q3), .second, .val (.long q4), .second] [(.ref a0)])) rfl (by rw [hml]; rfl) rfl (hb hby d4_1) (by decide) (W := 0) (by show 2 * 0 + _ ≤ _; exact Nat.le_of_eq rfl) (by decide)
  obtain ⟨T2, h2, X2, e2, W2, st2⟩ := putF X1 hx hZ hown (host := "") (Or.inl (hw _ (List.mem_of_getElem? (i := 22) rfl))) Via.refl e1 F_offset_a0 E_a0 (Or.inr ⟨(hw _ (List.mem_of_getElem? (i := 23) rfl)), rfl, hnm⟩) (hw _ (List.mem_of_getElem? (i := 11) rfl)) (ty := (.array .long)) (by decide) rfl rfl (g := (mkF m 6 #[.val (.ref a0), .val (.ref a1), .val (.ref a2), .val (.long q3), .second, .val (.long q4), .second] [(.ref a1), (.ref a0)])) rfl rfl (hb hby d4_6)
  have K2 : Keep h0 h2 [a0] := (Keep.refl h0 [a0]).wr W2 (Or.inl (by simp))
  have Fw2 : Fld Z h2 a0 "com/example/paperloom/paperloom/CountSearch$Mean" "offset" "[J" (.ref a1) := F_offset_a0.same W2
  have N2 := Fr.snoc X2 N0 nw_a0
  have G3 : Exa Z h2 a0 "com/example/paperloom/paperloom/CountSearch$Mean" := (E_a0.wr W2)
  have G4 : Fld Z h2 a0 "com/example/paperloom/paperloom/CountSearch$Mean" "weight" "[J" w_weight_a0 := (F_weight_a0.other W2 (Or.inr (slot_ne (Or.inr (hw _ (List.mem_of_getElem? (i := 25) rfl))) (Or.inr (hw _ (List.mem_of_getElem? (i := 23) rfl))) (by decide) (t := (.array .long)) (t' := (.array .long)) (by decide) (by decide))))
  obtain ⟨T5, h5, X5, e5, W5, st5⟩ := putF X2 hx hZ hown (host := "") (Or.inl (hw _ (List.mem_of_getElem? (i := 24) rfl))) Via.refl e2 G4 G3 (Or.inr ⟨(hw _ (List.mem_of_getElem? (i := 25) rfl)), rfl, hnm⟩) (hw _ (List.mem_of_getElem? (i := 11) rfl)) (ty := (.array .long)) (by decide) rfl rfl (g := (mkF m 11 #[.val (.ref a0), .val (.ref a1), .val (.ref a2), .val (.long q3), .second, .val (.long q4), .second] [(.ref a2), (.ref a0)])) rfl rfl (hb hby d4_11)
  have K5 : Keep h0 h5 [a0] := K2.wr W5 (Or.inl (by simp))
  have Fw5 : Fld Z h5 a0 "com/example/paperloom/paperloom/CountSearch$Mean" "weight" "[J" (.ref a2) := G4.same W5
  have N5 := Fr.snoc X5 N2 nw_a0
  have G6 : Exa Z h5 a0 "com/example/paperloom/paperloom/CountSearch$Mean" := (G3.wr W5)
  have G7 : Fld Z h5 a0 "com/example/paperloom/paperloom/CountSearch$Mean" "startOffset" "J" (.long w_startOffset_a0) := ((F_startOffset_a0.other W2 (Or.inr (slot_ne (Or.inr (hw _ (List.mem_of_getElem? (i := 27) rfl))) (Or.inr (hw _ (List.mem_of_getElem? (i := 23) rfl))) (by decide) (t := .long) (t' := (.array .long)) (by decide) (by decide)))).other W5 (Or.inr (slot_ne (Or.inr (hw _ (List.mem_of_getElem? (i := 27) rfl))) (Or.inr (hw _ (List.mem_of_getElem? (i := 25) rfl))) (by decide) (t := .long) (t' := (.array .long)) (by decide) (by decide))))
  obtain ⟨T8, h8, X8, e8, W8, st8⟩ := putF X5 hx hZ hown (host := "") (Or.inl (hw _ (List.mem_of_getElem? (i := 26) rfl))) Via.refl e5 G7 G6 (Or.inr ⟨(hw _ (List.mem_of_getElem? (i := 27) rfl)), rfl, hnm⟩) (hw _ (List.mem_of_getElem? (i := 11) rfl)) (ty := .long) (by decide) rfl rfl (g := (mkF m 16 #[.val (.ref a0), .val (.ref a1), .val (.ref a2), .val (.long q3), .second, .val (.long q4), .second] [(.long q3), (.ref a0)])) rfl rfl (hb hby d4_16)
  have K8 : Keep h0 h8 [a0] := K5.wr W8 (Or.inl (by simp))
  have Fw8 : Fld Z h8 a0 "com/example/paperloom/paperloom/CountSearch$Mean" "startOffset" "J" (.long q3) := G7.same W8
  have N8 := Fr.snoc X8 N5 nw_a0
  have G9 : Exa Z h8 a0 "com/example/paperloom/paperloom/CountSearch$Mean" := (G6.wr W8)
  have G10 : Fld Z h8 a0 "com/example/paperloom/paperloom/CountSearch$Mean" "startWeight" "J" (.long w_startWeight_a0) := (((F_startWeight_a0.other W2 (Or.inr (slot_ne (Or.inr (hw _ (List.mem_of_getElem? (i := 29) rfl))) (Or.inr (hw _ (List.mem_of_getElem? (i := 23) rfl))) (by decide) (t := .long) (t' := (.array .long)) (by decide) (by decide)))).other W5 (Or.inr (slot_ne (Or.inr (hw _ (List.mem_of_getElem? (i := 29) rfl))) (Or.inr (hw _ (List.mem_of_getElem? (i := 25) rfl))) (by decide) (t := .long) (t' := (.array .long)) (by decide) (by decide)))).other W8 (Or.inr (slot_ne (Or.inr (hw _ (List.mem_of_getElem? (i := 29) rfl))) (Or.inr (hw _ (List.mem_of_getElem? (i := 27) rfl))) (by decide) (t := .long) (t' := .long) (by decide) (by decide))))
  obtain ⟨T11, h11, X11, e11, W11, st11⟩ := putF X8 hx hZ hown (host := "") (Or.inl (hw _ (List.mem_of_getElem? (i := 28) rfl))) Via.refl e8 G10 G9 (Or.inr ⟨(hw _ (List.mem_of_getElem? (i := 29) rfl)), rfl, hnm⟩) (hw _ (List.mem_of_getElem? (i := 11) rfl)) (ty := .long) (by decide) rfl rfl (g := (mkF m 22 #[.val (.ref a0), .val (.ref a1), .val (.ref a2), .val (.long q3), .second, .val (.long q4), .second] [(.long q4), (.ref a0)])) rfl rfl (hb hby d4_22)
  have K11 : Keep h0 h11 [a0] := K8.wr W11 (Or.inl (by simp))
  have Fw11 : Fld Z h11 a0 "com/example/paperloom/paperloom/CountSearch$Mean" "startWeight" "J" (.long q4) := G10.same W11
  have N11 := Fr.snoc X11 N8 nw_a0
  obtain ⟨fs, hr, hrun, hended, hW, hsame⟩ := X11.leave (v := none) (fun _ => rfl)
  refine ⟨_, _, pre0 _ ?_, hrun, hended, _, _, rfl, ?_, ⟨_, rfl⟩, hW, hsame.mono (by decide) (by decide)⟩
  · show Steps p.tables e below (s₁.setTop (mkF m 0 #[.val (.ref a0), .val (.ref a1), .val (.ref a2), .val (.long q3), .second, .val (.long q4), .second] [])) _
    refine XS.aloadN X0.here hx rfl (hb hby d4_0) rfl rfl ?_
    show Steps p.tables e below (s₁.setTop (mkF m 1 #[.val (.ref a0), .val (.ref a1), .val (.ref a2), .val (.long q3), .second, .val (.long q4), .second] [(.ref a0)])) _
    refine st1 _ ?_
    show Steps p.tables e below (T1.setTop (mkF m 4 #[.val (.ref a0), .val (.ref a1), .val (.ref a2), .val (.long q3), .second, .val (.long q4), .second] [])) _
    refine XS.aloadN X1.here hx rfl (hb hby d4_4) rfl rfl ?_
    show Steps p.tables e below (T1.setTop (mkF m 5 #[.val (.ref a0), .val (.ref a1), .val (.ref a2), .val (.long q3), .second, .val (.long q4), .second] [(.ref a0)])) _
    refine XS.aloadN X1.here hx rfl (hb hby d4_5) rfl rfl ?_
    show Steps p.tables e below (T1.setTop (mkF m 6 #[.val (.ref a0), .val (.ref a1), .val (.ref a2), .val (.long q3), .second, .val (.long q4), .second] [(.ref a1), (.ref a0)])) _
    refine st2 _ ?_
    show Steps p.tables e below (T2.setTop (mkF m 9 #[.val (.ref a0), .val (.ref a1), .val (.ref a2), .val (.long q3), .second, .val (.long q4), .second] [])) _
    refine XS.aloadN X2.here hx rfl (hb hby d4_9) rfl rfl ?_
    show Steps p.tables e below (T2.setTop (mkF m 10 #[.val (.ref a0), .val (.ref a1), .val (.ref a2), .val (.long q3), .second, .val (.long q4), .second] [(.ref a0)])) _
    refine XS.aloadN X2.here hx rfl (hb hby d4_10) rfl rfl ?_
    show Steps p.tables e below (T2.setTop (mkF m 11 #[.val (.ref a0), .val (.ref a1), .val (.ref a2), .val (.long q3), .second, .val (.long q4), .second] [(.ref a2), (.ref a0)])) _
    refine st5 _ ?_
    show Steps p.tables e below (T5.setTop (mkF m 14 #[.val (.ref a0), .val (.ref a1), .val (.ref a2), .val (.long q3), .second, .val (.long q4), .second] [])) _
    refine XS.aloadN X5.here hx rfl (hb hby d4_14) rfl rfl ?_
    show Steps p.tables e below (T5.setTop (mkF m 15 #[.val (.ref a0), .val (.ref a1), .val (.ref a2), .val (.long q3), .second, .val (.long q4), .second] [(.ref a0)])) _
    refine XS.lloadN X5.here hx rfl (hb hby d4_15) rfl ?_
    show Steps p.tables e below (T5.setTop (mkF m 16 #[.val (.ref a0), .val (.ref a1), .val (.ref a2), .val (.long q3), .second, .val (.long q4), .second] [(.long q3), (.ref a0)])) _
    refine st8 _ ?_
    show Steps p.tables e below (T8.setTop (mkF m 19 #[.val (.ref a0), .val (.ref a1), .val (.ref a2), .val (.long q3), .second, .val (.long q4), .second] [])) _
    refine XS.aloadN X8.here hx rfl (hb hby d4_19) rfl rfl ?_
    show Steps p.tables e below (T8.setTop (mkF m 20 #[.val (.ref a0), .val (.ref a1), .val (.ref a2), .val (.long q3), .second, .val (.long q4), .second] [(.ref a0)])) _
    refine XS.lload X8.here hx rfl (hb hby d4_20) rfl ?_
    show Steps p.tables e below (T8.setTop (mkF m 22 #[.val (.ref a0), .val (.ref a1), .val (.ref a2), .val (.long q3), .second, .val (.long q4), .second] [(.long q4), (.ref a0)])) _
    refine st11 _ ?_
    show Steps p.tables e below (T11.setTop (mkF m 25 #[.val (.ref a0), .val (.ref a1), .val (.ref a2), .val (.long q3), .second, .val (.long q4), .second] [])) _
    exact X11.returnOut hx Bd.returns (hb hby d4_25) hr
  have G12 : Exa Z h11 a0 "com/example/paperloom/paperloom/CountSearch$Mean" := (G9.wr W11)
  have G13 : Fld Z h11 a0 "com/example/paperloom/paperloom/CountSearch$Mean" "offset" "[J" (.ref a1) := (((Fw2.other W5 (Or.inr (slot_ne (Or.inr (hw _ (List.mem_of_getElem? (i := 23) rfl))) (Or.inr (hw _ (List.mem_of_getElem? (i := 25) rfl))) (by decide) (t := (.array .long)) (t' := (.array .long)) (by decide) (by decide)))).other W8 (Or.inr (slot_ne (Or.inr (hw _ (List.mem_of_getElem? (i := 23) rfl))) (Or.inr (hw _ (List.mem_of_getElem? (i := 27) rfl))) (by decide) (t := (.array .long)) (t' := .long) (by decide) (by decide)))).other W11 (Or.inr (slot_ne (Or.inr (hw _ (List.mem_of_getElem? (i := 23) rfl))) (Or.inr (hw _ (List.mem_of_getElem? (i := 29) rfl))) (by decide) (t := (.array .long)) (t' := .long) (by decide) (by decide))))
  have G14 : Fld Z h11 a0 "com/example/paperloom/paperloom/CountSearch$Mean" "weight" "[J" (.ref a2) := ((Fw5.other W8 (Or.inr (slot_ne (Or.inr (hw _ (List.mem_of_getElem? (i := 25) rfl))) (Or.inr (hw _ (List.mem_of_getElem? (i := 27) rfl))) (by decide) (t := (.array .long)) (t' := .long) (by decide) (by decide)))).other W11 (Or.inr (slot_ne (Or.inr (hw _ (List.mem_of_getElem? (i := 25) rfl))) (Or.inr (hw _ (List.mem_of_getElem? (i := 29) rfl))) (by decide) (t := (.array .long)) (t' := .long) (by decide) (by decide))))
  have G15 : Fld Z h11 a0 "com/example/paperloom/paperloom/CountSearch$Mean" "startOffset" "J" (.long q3) := (Fw8.other W11 (Or.inr (slot_ne (Or.inr (hw _ (List.mem_of_getElem? (i := 27) rfl))) (Or.inr (hw _ (List.mem_of_getElem? (i := 29) rfl))) (by decide) (t := .long) (t' := .long) (by decide) (by decide))))
  · show Q4 Z a0 a1 a2 q3 q4 w_offset_a0 w_weight_a0 w_startOffset_a0 w_startWeight_a0 h0 n0 _ T11.heap _
    rw [e11]
    exact ⟨rfl, N11, K11, G12, G13, G14, G15, Fw11⟩
theorem ef_3 (m : MethodId) (a0 : Addr) (a1 : Addr) (a2 : Addr) : entryFrame m #[(.ref a0), (.ref a1), (.ref a2)] 3 = mkF m 0 #[.val (.ref a0), .val (.ref a1), .val (.ref a2)] [] := by first | (simp [entryFrame, mkF, argsToLocals, Value.category]; done) | rfl
def Q3 (Z : State) (a0 : Addr) (a1 : Addr) (a2 : Addr) (w_offset_a0 : Value) (w_weight_a0 : Value) (w_startOffset_a0 : Int64) (w_startWeight_a0 : Int64) (h0 : Heap) (n0 : Nat) (v : Option Value) (h : Heap) (L : List Loc) : Prop := v = none ∧ Fr n0 L ∧ Keep h0 h [a0] ∧ Exa Z h a0 "com/example/paperloom/paperloom/CountSearch$Mean" ∧ Fld Z h a0 "com/example/paperloom/paperloom/CountSearch$Mean" "offset" "[J" (.ref a1) ∧ Fld Z h a0 "com/example/paperloom/paperloom/CountSearch$Mean" "weight" "[J" (.ref a2) ∧ Fld Z h a0 "com/example/paperloom/paperloom/CountSearch$Mean" "startOffset" "J" (.long (0 : Int64)) ∧ Fld Z h a0 "com/example/paperloom/paperloom/CountSearch$Mean" "startWeight" "J" (.long (0 : Int64))
set_option maxRecDepth 65536 in
set_option maxHeartbeats 40000000 in
theorem rm3 (l : Launch) (Z : State) (A0 : Array Value) (hw : ∀ d ∈ tables_1, d.before A0 Z = true) (ws : List Jvm.Cond) (a0 : Addr) (a1 : Addr) (a2 : Addr) (w_offset_a0 : Value) (w_weight_a0 : Value) (w_startOffset_a0 : Int64) (w_startWeight_a0 : Int64) (h0 : Heap) (n0 : Nat) (Z0 : n0 ≤ h0.size) (E_a0 : Exa Z h0 a0 "com/example/paperloom/paperloom/CountSearch$Mean") (F_offset_a0 : Fld Z h0 a0 "com/example/paperloom/paperloom/CountSearch$Mean" "offset" "[J" w_offset_a0) (F_weight_a0 : Fld Z h0 a0 "com/example/paperloom/paperloom/CountSearch$Mean" "weight" "[J" w_weight_a0) (F_startOffset_a0 : Fld Z h0 a0 "com/example/paperloom/paperloom/CountSearch$Mean" "startOffset" "J" (.long w_startOffset_a0)) (F_startWeight_a0 : Fld Z h0 a0 "com/example/paperloom/paperloom/CountSearch$Mean" "startWeight" "J" (.long w_startWeight_a0)) (nw_a0 : n0 ≤ a0) :
    MetFree l (⟨"com/example/paperloom/paperloom/CountSearch$Mean", "<init>", "([J[J)V"⟩ : MethodName) (head1 (Jvm.Cond.code (⟨"com/example/paperloom/paperloom/CountSearch$Mean", "<init>", "([J[J)V"⟩ : MethodName) prog_8_method_1_code 3 none :: ws) ({ frames := 2, cells := 0, slots := 0, locals := 30 } : Room)) (fun a U => a = #[(.ref a0), (.ref a1), (.ref a2)] ∧ Z.Warmed39 U.vm ∧ U.heap = h0) (fun _ _ _ _ _ => True) (fun _ U o U' => ∃ v L, o = .returned v ∧ Q3 Z a0 a1 a2 w_offset_a0 w_weight_a0 w_startOffset_a0 w_startWeight_a0 h0 n0 v U'.heap L ∧ FrameEnd U o U' L ({ frames := 2, cells := 0, slots := 0, locals := 30 } : Room).cells ({ frames := 2, cells := 0, slots := 0, locals := 30 } : Room).slots) := by
  refine MetFree.of_bodySF (plainFor_of_name pn_3) hisR ?_
  intro p e s m args below meth c s₁ Bd hml0 hP hK
  obtain ⟨rfl, hZ, hh⟩ := hP
  have hx := Bd.exec
  have hby := Bd.bytes
  have hml : c.maxLocals = 3 := hml0
  have hown : s.vm.findClass "com/example/paperloom/paperloom/CountSearch$Mean" = some m.cls := findClass_of_methodNamed Bd.named
  have hnm := (name_of_methodNamed Bd.named Bd.method).1
  have X0 : Stand p l e ({ frames := 2, cells := 0, slots := 0, locals := 30 } : Room) s m #[(.ref a0), (.ref a1), (.ref a2)] below meth c s₁ [] 0 0 := Stand.of_body Bd
  have e0 : s₁.heap = h0 := by rw [← hh, Bd.state]; rfl
  have N0 := Fr.nil n0
  have pre0 : ∀ t, Steps p.tables e below (s₁.setTop (mkF m 0 #[.val (.ref a0), .val (.ref a1), .val (.ref a2)] [])) t → Steps p.tables e below (s₁.setTop (entryFrame m #[(.ref a0), (.ref a1), (.ref a2)] 3)) t := fun t k => castTop (ef_3 m a0 a1 a2) k
  obtain ⟨_, _, ⟨T1, L1, k1, n1⟩, -, X1, ⟨Lc1, hQ1, l1, y1, z1⟩, st1⟩ := X0.specialBack hx (y := (⟨"com/example/paperloom/paperloom/CountSearch$Mean", "<init>", "([J[JJJ)V"⟩ : MethodName)) rfl hown (mvT hZ (hw _ (List.mem_of_getElem? (i := 16) rfl))) (mvT hZ (hw _ (List.mem_of_getElem? (i := 17) rfl))) (mvT hZ (hw _ (List.mem_of_getElem? (i := 18) rfl))) (by decide) (backOf (W := 0) (rm4 l Z A0 hw [] a0 a1 a2 (0 : Int64) (0 : Int64) w_offset_a0 w_weight_a0 w_startOffset_a0 w_startWeight_a0 h0 n0 (Nat.le_trans Z0 (Keep.refl h0 [a0]).1) E_a0 F_offset_a0 F_weight_a0 F_startOffset_a0 F_startWeight_a0 nw_a0) hZ (hw _ (List.mem_of_getElem? (i := 18) rfl)) (hw _ (List.mem_of_getElem? (i := 12) rfl)) (by decide) (by decide)) (g := (mkF m 5 #[.val (.ref a0), .val (.ref a1), .val (.ref a2)] [(.long (0 : Int64)), (.long (0 : Int64)), (.ref a2), (.ref a1), (.ref a0)])) rfl (by rw [hml]; rfl) (Steps.refl _) (a := a0) (argsL := [(.ref a1), (.ref a2), (.long (0 : Int64)), (.long (0 : Int64))]) (rest := []) (lenOf pd_3 rfl) rfl (by show 2 * 0 + _ ≤ _; exact Nat.le_of_eq rfl) (hb hby d3_5) (fun _ _ => ⟨rfl, e0, (by decide : 0 + 0 ≤ _), (by decide : 0 + 0 ≤ _)⟩)
  dsimp only [Pt.U, Pt.locs, Pt.cells, Pt.slots] at X1 l1 y1 z1 st1 hQ1
  subst l1 y1 z1
  obtain ⟨rfl, N1q, Kc1, P2, P3, P4, P5, P6⟩ := hQ1
  have K1 : Keep h0 T1.heap [a0] := (Keep.refl h0 [a0]).trans Kc1 (allS (Or.inl (by simp)) all0)
  have N1 := Fr.app N0 N1q
  obtain ⟨fs, hr, hrun, hended, hW, hsame⟩ := X1.leave (v := none) (fun _ => rfl)
  refine ⟨_, _, pre0 _ ?_, hrun, hended, _, _, rfl, ?_, ⟨_, rfl⟩, hW, hsame.mono (by decide) (by decide)⟩
  · show Steps p.tables e below (s₁.setTop (mkF m 0 #[.val (.ref a0), .val (.ref a1), .val (.ref a2)] [])) _
    refine XS.aloadN X0.here hx rfl (hb hby d3_0) rfl rfl ?_
    show Steps p.tables e below (s₁.setTop (mkF m 1 #[.val (.ref a0), .val (.ref a1), .val (.ref a2)] [(.ref a0)])) _
    refine XS.aloadN X0.here hx rfl (hb hby d3_1) rfl rfl ?_
    show Steps p.tables e below (s₁.setTop (mkF m 2 #[.val (.ref a0), .val (.ref a1), .val (.ref a2)] [(.ref a1), (.ref a0)])) _
    refine XS.aloadN X0.here hx rfl (hb hby d3_2) rfl rfl ?_
    show Steps p.tables e below (s₁.setTop (mkF m 3 #[.val (.ref a0), .val (.ref a1), .val (.ref a2)] [(.ref a2), (.ref a1), (.ref a0)])) _
    refine XS.lconst X0.here hx rfl (hb hby d3_3) ?_
    show Steps p.tables e below (s₁.setTop (mkF m 4 #[.val (.ref a0), .val (.ref a1), .val (.ref a2)] [(.long (0 : Int64)), (.ref a2), (.ref a1), (.ref a0)])) _
    refine XS.lconst X0.here hx rfl (hb hby d3_4) ?_
    show Steps p.tables e below (s₁.setTop (mkF m 5 #[.val (.ref a0), .val (.ref a1), .val (.ref a2)] [(.long (0 : Int64)), (.long (0 : Int64)), (.ref a2), (.ref a1), (.ref a0)])) _
    refine st1.trans ?_
    show Steps p.tables e below (T1.setTop (mkF m 8 #[.val (.ref a0), .val (.ref a1), .val (.ref a2)] [])) _
    exact X1.returnOut hx Bd.returns (hb hby d3_8) hr
  · show Q3 Z a0 a1 a2 w_offset_a0 w_weight_a0 w_startOffset_a0 w_startWeight_a0 h0 n0 _ T1.heap _
    exact ⟨rfl, N1, K1, P2, P3, P4, P5, P6⟩
theorem ef_6 (m : MethodId) (a0 : Addr) (a1 : Addr) : entryFrame m #[(.ref a0), (.ref a1)] 5 = mkF m 0 #[.val (.ref a0), .val (.ref a1), .unset, .unset, .unset] [] := by first | (simp [entryFrame, mkF, argsToLocals, Value.category]; done) | rfl
def Q6 (Z : State) (a0 : Addr) (a1 : Addr) (w_offset_a0 : Value) (w_weight_a0 : Addr) (w_startOffset_a0 : Int64) (w_startWeight_a0 : Int64) (g_a1 : Nat → Int32) (g_w_weight_a0 : Nat → Int64) (h0 : Heap) (n0 : Nat) (v : Option Value) (h : Heap) (L : List Loc) : Prop := v = some (.long (((w_startWeight_a0 + ((g_w_weight_a0 0) * ((g_a1 0).toInt64))) + ((g_w_weight_a0 1) * ((g_a1 1).toInt64))) + ((g_w_weight_a0 2) * ((g_a1 2).toInt64)))) ∧ Fr n0 L ∧ h = h0
set_option maxRecDepth 65536 in
set_option maxHeartbeats 40000000 in
theorem rm6 (l : Launch) (Z : State) (A0 : Array Value) (hw : ∀ d ∈ tables_1, d.before A0 Z = true) (ws : List Jvm.Cond) (a0 : Addr) (a1 : Addr) (w_offset_a0 : Value) (w_weight_a0 : Addr) (w_startOffset_a0 : Int64) (w_startWeight_a0 : Int64) (g_a1 : Nat → Int32) (g_w_weight_a0 : Nat → Int64) (h0 : Heap) (n0 : Nat) (Z0 : n0 ≤ h0.size) (E_a0 : Exa Z h0 a0 "com/example/paperloom/paperloom/CountSearch$Mean") (F_offset_a0 : Fld Z h0 a0 "com/example/paperloom/paperloom/CountSearch$Mean" "offset" "[J" w_offset_a0) (F_weight_a0 : Fld Z h0 a0 "com/example/paperloom/paperloom/CountSearch$Mean" "weight" "[J" (.ref w_weight_a0)) (F_startOffset_a0 : Fld Z h0 a0 "com/example/paperloom/paperloom/CountSearch$Mean" "startOffset" "J" (.long w_startOffset_a0)) (F_startWeight_a0 : Fld Z h0 a0 "com/example/paperloom/paperloom/CountSearch$Mean" "startWeight" "J" (.long w_startWeight_a0)) (A_a1 : AF Z h0 a1 .int 3 (fun j => .int (g_a1 j))) (A_w_weight_a0 : AF Z h0 w_weight_a0 .long 3 (fun j => .long (g_w_weight_a0 j))) :
    MetFree l (⟨"com/example/paperloom/paperloom/CountSearch$Mean", "weight", "([I)J"⟩ : MethodName) (head1 (Jvm.Cond.code (⟨"com/example/paperloom/paperloom/CountSearch$Mean", "weight", "([I)J"⟩ : MethodName) prog_8_method_7_code 5 (some .long) :: ws) ({ frames := 0, cells := 0, slots := 0, locals := 0 } : Room)) (fun a U => a = #[(.ref a0), (.ref a1)] ∧ Z.Warmed39 U.vm ∧ U.heap = h0) (fun _ _ _ _ _ => True) (fun _ U o U' => ∃ v L, o = .returned v ∧ Q6 Z a0 a1 w_offset_a0 w_weight_a0 w_startOffset_a0 w_startWeight_a0 g_a1 g_w_weight_a0 h0 n0 v U'.heap L ∧ FrameEnd U o U' L ({ frames := 0, cells := 0, slots := 0, locals := 0 } : Room).cells ({ frames := 0, cells := 0, slots := 0, locals := 0 } : Room).slots) := by
  refine MetFree.of_bodySF (plainFor_of_name pn_6) hisR ?_
  intro p e s m args below meth c s₁ Bd hml0 hP hK
  obtain ⟨rfl, hZ, hh⟩ := hP
  have hx := Bd.exec
  have hby := Bd.bytes
  have hml : c.maxLocals = 5 := hml0
  have hown : s.vm.findClass "com/example/paperloom/paperloom/CountSearch$Mean" = some m.cls := findClass_of_methodNamed Bd.named
  have hnm := (name_of_methodNamed Bd.named Bd.method).1
  have X0 : Stand p l e ({ frames := 0, cells := 0, slots := 0, locals := 0 } : Room) s m #[(.ref a0), (.ref a1)] below meth c s₁ [] 0 0 := Stand.of_body Bd
  have e0 : s₁.heap = h0 := by rw [← hh, Bd.state]; rfl
  have N0 := Fr.nil n0
  have pre0 : ∀ t, Steps p.tables e below (s₁.setTop (mkF m 0 #[.val (.ref a0), .val (.ref a1), .unset, .unset, .unset] [])) t → Steps p.tables e below (s₁.setTop (entryFrame m #[(.ref a0), (.ref a1)] 5)) t := fun t k => castTop (ef_6 m a0 a1) k
  obtain ⟨T1, X1, e1, st1⟩ := getF X0 hx hZ hown (host := "") (Or.inl (hw _ (List.mem_of_getElem? (i := 28) rfl))) Via.refl e0 F_startWeight_a0 (g := (mkF m 1 #[.val (.ref a0), .val (.ref a1), .unset, .unset, .unset] [(.ref a0)])) rfl rfl (hb hby d6_1)
  obtain ⟨T2, X2, e2, st2⟩ := getF X1 hx hZ hown (host := "") (Or.inl (hw _ (List.mem_of_getElem? (i := 24) rfl))) Via.refl e1 F_weight_a0 (g := (mkF m 17 #[.val (.ref a0), .val (.ref a1), .val (.long w_startWeight_a0), .second, .val (.int (0 : Int32))] [(.ref a0), (.long w_startWeight_a0)])) rfl rfl (hb hby d6_17)
  obtain ⟨v3, hv3⟩ : ∃ z : Int64, z = (w_startWeight_a0 + ((g_w_weight_a0 0) * ((g_a1 0).toInt64))) := ⟨_, rfl⟩
  obtain ⟨T4, X4, e4, st4⟩ := getF X2 hx hZ hown (host := "") (Or.inl (hw _ (List.mem_of_getElem? (i := 24) rfl))) Via.refl e2 F_weight_a0 (g := (mkF m 17 #[.val (.ref a0), .val (.ref a1), .val (.long v3), .second, .val (.int (1 : Int32))] [(.ref a0), (.long v3)])) rfl rfl (hb hby d6_17)
  obtain ⟨v5, hv5⟩ : ∃ z : Int64, z = (v3 + ((g_w_weight_a0 1) * ((g_a1 1).toInt64))) := ⟨_, rfl⟩
  obtain ⟨T6, X6, e6, st6⟩ := getF X4 hx hZ hown (host := "") (Or.inl (hw _ (List.mem_of_getElem? (i := 24) rfl))) Via.refl e4 F_weight_a0 (g := (mkF m 17 #[.val (.ref a0), .val (.ref a1), .val (.long v5), .second, .val (.int (2 : Int32))] [(.ref a0), (.long v5)])) rfl rfl (hb hby d6_17)
  obtain ⟨v7, hv7⟩ : ∃ z : Int64, z = (v5 + ((g_w_weight_a0 2) * ((g_a1 2).toInt64))) := ⟨_, rfl⟩
  obtain ⟨fs, hr, hrun, hended, hW, hsame⟩ := X6.leave (v := some (.long v7)) (fun h => by rw [Bd.returns] at h; cases h)
  refine ⟨_, _, pre0 _ ?_, hrun, hended, _, _, rfl, ?_, ⟨_, rfl⟩, hW, hsame.mono (by decide) (by decide)⟩
  · show Steps p.tables e below (s₁.setTop (mkF m 0 #[.val (.ref a0), .val (.ref a1), .unset, .unset, .unset] [])) _
    refine XS.aloadN X0.here hx rfl (hb hby d6_0) rfl rfl ?_
    show Steps p.tables e below (s₁.setTop (mkF m 1 #[.val (.ref a0), .val (.ref a1), .unset, .unset, .unset] [(.ref a0)])) _
    refine st1 _ ?_
    show Steps p.tables e below (T1.setTop (mkF m 4 #[.val (.ref a0), .val (.ref a1), .unset, .unset, .unset] [(.long w_startWeight_a0)])) _
    refine XS.lstoreN X1.here hx rfl (hb hby d6_4) rfl (l' := #[.val (.ref a0), .val (.ref a1), .val (.long w_startWeight_a0), .second, .unset]) rfl ?_
    show Steps p.tables e below (T1.setTop (mkF m 5 #[.val (.ref a0), .val (.ref a1), .val (.long w_startWeight_a0), .second, .unset] [])) _
    refine XS.iconst X1.here hx rfl (hb hby d6_5) ?_
    show Steps p.tables e below (T1.setTop (mkF m 6 #[.val (.ref a0), .val (.ref a1), .val (.long w_startWeight_a0), .second, .unset] [(.int (0 : Int32))])) _
    refine XS.istore X1.here hx rfl (hb hby d6_6) rfl (l' := #[.val (.ref a0), .val (.ref a1), .val (.long w_startWeight_a0), .second, .val (.int (0 : Int32))]) rfl ?_
    show Steps p.tables e below (T1.setTop (mkF m 8 #[.val (.ref a0), .val (.ref a1), .val (.long w_startWeight_a0), .second, .val (.int (0 : Int32))] [])) _
    refine XS.iload X1.here hx rfl (hb hby d6_8) rfl ?_
    show Steps p.tables e below (T1.setTop (mkF m 10 #[.val (.ref a0), .val (.ref a1), .val (.long w_startWeight_a0), .second, .val (.int (0 : Int32))] [(.int (0 : Int32))])) _
    refine XS.aloadN X1.here hx rfl (hb hby d6_10) rfl rfl ?_
    show Steps p.tables e below (T1.setTop (mkF m 11 #[.val (.ref a0), .val (.ref a1), .val (.long w_startWeight_a0), .second, .val (.int (0 : Int32))] [(.ref a1), (.int (0 : Int32))])) _
    refine AF.len X1 hx hZ e1 A_a1 (g := (mkF m 11 #[.val (.ref a0), .val (.ref a1), .val (.long w_startWeight_a0), .second, .val (.int (0 : Int32))] [(.ref a1), (.int (0 : Int32))])) rfl rfl (hb hby d6_11) _ ?_
    show Steps p.tables e below (T1.setTop (mkF m 12 #[.val (.ref a0), .val (.ref a1), .val (.long w_startWeight_a0), .second, .val (.int (0 : Int32))] [(.int (3 : Int32)), (.int (0 : Int32))])) _
    refine XS.icmpNo X1.here hx rfl (hb hby d6_12) rfl (tlt (by decide)).2.1 ?_
    show Steps p.tables e below (T1.setTop (mkF m 15 #[.val (.ref a0), .val (.ref a1), .val (.long w_startWeight_a0), .second, .val (.int (0 : Int32))] [])) _
    refine XS.lloadN X1.here hx rfl (hb hby d6_15) rfl ?_
    show Steps p.tables e below (T1.setTop (mkF m 16 #[.val (.ref a0), .val (.ref a1), .val (.long w_startWeight_a0), .second, .val (.int (0 : Int32))] [(.long w_startWeight_a0)])) _
    refine XS.aloadN X1.here hx rfl (hb hby d6_16) rfl rfl ?_
    show Steps p.tables e below (T1.setTop (mkF m 17 #[.val (.ref a0), .val (.ref a1), .val (.long w_startWeight_a0), .second, .val (.int (0 : Int32))] [(.ref a0), (.long w_startWeight_a0)])) _
    refine st2 _ ?_
    show Steps p.tables e below (T2.setTop (mkF m 20 #[.val (.ref a0), .val (.ref a1), .val (.long w_startWeight_a0), .second, .val (.int (0 : Int32))] [(.ref w_weight_a0), (.long w_startWeight_a0)])) _
    refine XS.iload X2.here hx rfl (hb hby d6_20) rfl ?_
    show Steps p.tables e below (T2.setTop (mkF m 22 #[.val (.ref a0), .val (.ref a1), .val (.long w_startWeight_a0), .second, .val (.int (0 : Int32))] [(.int (0 : Int32)), (.ref w_weight_a0), (.long w_startWeight_a0)])) _
    refine AF.ldJ X2 hx hZ e2 A_w_weight_a0 (by decide : own_in (0 : Int32) 3) (g := (mkF m 22 #[.val (.ref a0), .val (.ref a1), .val (.long w_startWeight_a0), .second, .val (.int (0 : Int32))] [(.int (0 : Int32)), (.ref w_weight_a0), (.long w_startWeight_a0)])) rfl rfl (hb hby d6_22) _ ?_
    show Steps p.tables e below (T2.setTop (mkF m 23 #[.val (.ref a0), .val (.ref a1), .val (.long w_startWeight_a0), .second, .val (.int (0 : Int32))] [(.long (g_w_weight_a0 0)), (.long w_startWeight_a0)])) _
    refine XS.aloadN X2.here hx rfl (hb hby d6_23) rfl rfl ?_
    show Steps p.tables e below (T2.setTop (mkF m 24 #[.val (.ref a0), .val (.ref a1), .val (.long w_startWeight_a0), .second, .val (.int (0 : Int32))] [(.ref a1), (.long (g_w_weight_a0 0)), (.long w_startWeight_a0)])) _
    refine XS.iload X2.here hx rfl (hb hby d6_24) rfl ?_
    show Steps p.tables e below (T2.setTop (mkF m 26 #[.val (.ref a0), .val (.ref a1), .val (.long w_startWeight_a0), .second, .val (.int (0 : Int32))] [(.int (0 : Int32)), (.ref a1), (.long (g_w_weight_a0 0)), (.long w_startWeight_a0)])) _
    refine AF.ldI X2 hx hZ e2 A_a1 (by decide : own_in (0 : Int32) 3) (g := (mkF m 26 #[.val (.ref a0), .val (.ref a1), .val (.long w_startWeight_a0), .second, .val (.int (0 : Int32))] [(.int (0 : Int32)), (.ref a1), (.long (g_w_weight_a0 0)), (.long w_startWeight_a0)])) rfl rfl (hb hby d6_26) _ ?_
    show Steps p.tables e below (T2.setTop (mkF m 27 #[.val (.ref a0), .val (.ref a1), .val (.long w_startWeight_a0), .second, .val (.int (0 : Int32))] [(.int (g_a1 0)), (.long (g_w_weight_a0 0)), (.long w_startWeight_a0)])) _
    refine XS.i2l X2.here hx rfl (hb hby d6_27) rfl ?_
    show Steps p.tables e below (T2.setTop (mkF m 28 #[.val (.ref a0), .val (.ref a1), .val (.long w_startWeight_a0), .second, .val (.int (0 : Int32))] [(.long ((g_a1 0).toInt64)), (.long (g_w_weight_a0 0)), (.long w_startWeight_a0)])) _
    refine XS.lmul X2.here hx rfl (hb hby d6_28) rfl ?_
    show Steps p.tables e below (T2.setTop (mkF m 29 #[.val (.ref a0), .val (.ref a1), .val (.long w_startWeight_a0), .second, .val (.int (0 : Int32))] [(.long ((g_w_weight_a0 0) * ((g_a1 0).toInt64))), (.long w_startWeight_a0)])) _
    refine XS.ladd X2.here hx rfl (hb hby d6_29) rfl ?_
    show Steps p.tables e below (T2.setTop (mkF m 30 #[.val (.ref a0), .val (.ref a1), .val (.long w_startWeight_a0), .second, .val (.int (0 : Int32))] [(.long (w_startWeight_a0 + ((g_w_weight_a0 0) * ((g_a1 0).toInt64))))])) _
    refine castTop (g' := (mkF m 30 #[.val (.ref a0), .val (.ref a1), .val (.long w_startWeight_a0), .second, .val (.int (0 : Int32))] [(.long v3)])) (by rw [hv3] <;> rfl) ?_
    show Steps p.tables e below (T2.setTop (mkF m 30 #[.val (.ref a0), .val (.ref a1), .val (.long w_startWeight_a0), .second, .val (.int (0 : Int32))] [(.long v3)])) _
    refine XS.lstoreN X2.here hx rfl (hb hby d6_30) rfl (l' := #[.val (.ref a0), .val (.ref a1), .val (.long v3), .second, .val (.int (0 : Int32))]) rfl ?_
    show Steps p.tables e below (T2.setTop (mkF m 31 #[.val (.ref a0), .val (.ref a1), .val (.long v3), .second, .val (.int (0 : Int32))] [])) _
    refine XS.iinc X2.here hx rfl (hb hby d6_31) rfl (l' := #[.val (.ref a0), .val (.ref a1), .val (.long v3), .second, .val (.int (1 : Int32))]) rfl ?_
    show Steps p.tables e below (T2.setTop (mkF m 34 #[.val (.ref a0), .val (.ref a1), .val (.long v3), .second, .val (.int (1 : Int32))] [])) _
    refine XS.goto X2.here hx rfl (pc0 := 34) (pc' := 8) rfl (hb hby d6_34) (by decide) (by decide) ?_
    show Steps p.tables e below (T2.setTop (mkF m 8 #[.val (.ref a0), .val (.ref a1), .val (.long v3), .second, .val (.int (1 : Int32))] [])) _
    refine XS.iload X2.here hx rfl (hb hby d6_8) rfl ?_
    show Steps p.tables e below (T2.setTop (mkF m 10 #[.val (.ref a0), .val (.ref a1), .val (.long v3), .second, .val (.int (1 : Int32))] [(.int (1 : Int32))])) _
    refine XS.aloadN X2.here hx rfl (hb hby d6_10) rfl rfl ?_
    show Steps p.tables e below (T2.setTop (mkF m 11 #[.val (.ref a0), .val (.ref a1), .val (.long v3), .second, .val (.int (1 : Int32))] [(.ref a1), (.int (1 : Int32))])) _
    refine AF.len X2 hx hZ e2 A_a1 (g := (mkF m 11 #[.val (.ref a0), .val (.ref a1), .val (.long v3), .second, .val (.int (1 : Int32))] [(.ref a1), (.int (1 : Int32))])) rfl rfl (hb hby d6_11) _ ?_
    show Steps p.tables e below (T2.setTop (mkF m 12 #[.val (.ref a0), .val (.ref a1), .val (.long v3), .second, .val (.int (1 : Int32))] [(.int (3 : Int32)), (.int (1 : Int32))])) _
    refine XS.icmpNo X2.here hx rfl (hb hby d6_12) rfl (tlt (by decide)).2.1 ?_
    show Steps p.tables e below (T2.setTop (mkF m 15 #[.val (.ref a0), .val (.ref a1), .val (.long v3), .second, .val (.int (1 : Int32))] [])) _
    refine XS.lloadN X2.here hx rfl (hb hby d6_15) rfl ?_
    show Steps p.tables e below (T2.setTop (mkF m 16 #[.val (.ref a0), .val (.ref a1), .val (.long v3), .second, .val (.int (1 : Int32))] [(.long v3)])) _
    refine XS.aloadN X2.here hx rfl (hb hby d6_16) rfl rfl ?_
    show Steps p.tables e below (T2.setTop (mkF m 17 #[.val (.ref a0), .val (.ref a1), .val (.long v3), .second, .val (.int (1 : Int32))] [(.ref a0), (.long v3)])) _
    refine st4 _ ?_
    show Steps p.tables e below (T4.setTop (mkF m 20 #[.val (.ref a0), .val (.ref a1), .val (.long v3), .second, .val (.int (1 : Int32))] [(.ref w_weight_a0), (.long v3)])) _
    refine XS.iload X4.here hx rfl (hb hby d6_20) rfl ?_
    show Steps p.tables e below (T4.setTop (mkF m 22 #[.val (.ref a0), .val (.ref a1), .val (.long v3), .second, .val (.int (1 : Int32))] [(.int (1 : Int32)), (.ref w_weight_a0), (.long v3)])) _
    refine AF.ldJ X4 hx hZ e4 A_w_weight_a0 (by decide : own_in (1 : Int32) 3) (g := (mkF m 22 #[.val (.ref a0), .val (.ref a1), .val (.long v3), .second, .val (.int (1 : Int32))] [(.int (1 : Int32)), (.ref w_weight_a0), (.long v3)])) rfl rfl (hb hby d6_22) _ ?_
    show Steps p.tables e below (T4.setTop (mkF m 23 #[.val (.ref a0), .val (.ref a1), .val (.long v3), .second, .val (.int (1 : Int32))] [(.long (g_w_weight_a0 1)), (.long v3)])) _
    refine XS.aloadN X4.here hx rfl (hb hby d6_23) rfl rfl ?_
    show Steps p.tables e below (T4.setTop (mkF m 24 #[.val (.ref a0), .val (.ref a1), .val (.long v3), .second, .val (.int (1 : Int32))] [(.ref a1), (.long (g_w_weight_a0 1)), (.long v3)])) _
    refine XS.iload X4.here hx rfl (hb hby d6_24) rfl ?_
    show Steps p.tables e below (T4.setTop (mkF m 26 #[.val (.ref a0), .val (.ref a1), .val (.long v3), .second, .val (.int (1 : Int32))] [(.int (1 : Int32)), (.ref a1), (.long (g_w_weight_a0 1)), (.long v3)])) _
    refine AF.ldI X4 hx hZ e4 A_a1 (by decide : own_in (1 : Int32) 3) (g := (mkF m 26 #[.val (.ref a0), .val (.ref a1), .val (.long v3), .second, .val (.int (1 : Int32))] [(.int (1 : Int32)), (.ref a1), (.long (g_w_weight_a0 1)), (.long v3)])) rfl rfl (hb hby d6_26) _ ?_
    show Steps p.tables e below (T4.setTop (mkF m 27 #[.val (.ref a0), .val (.ref a1), .val (.long v3), .second, .val (.int (1 : Int32))] [(.int (g_a1 1)), (.long (g_w_weight_a0 1)), (.long v3)])) _
    refine XS.i2l X4.here hx rfl (hb hby d6_27) rfl ?_
    show Steps p.tables e below (T4.setTop (mkF m 28 #[.val (.ref a0), .val (.ref a1), .val (.long v3), .second, .val (.int (1 : Int32))] [(.long ((g_a1 1).toInt64)), (.long (g_w_weight_a0 1)), (.long v3)])) _
    refine XS.lmul X4.here hx rfl (hb hby d6_28) rfl ?_
    show Steps p.tables e below (T4.setTop (mkF m 29 #[.val (.ref a0), .val (.ref a1), .val (.long v3), .second, .val (.int (1 : Int32))] [(.long ((g_w_weight_a0 1) * ((g_a1 1).toInt64))), (.long v3)])) _
    refine XS.ladd X4.here hx rfl (hb hby d6_29) rfl ?_
    show Steps p.tables e below (T4.setTop (mkF m 30 #[.val (.ref a0), .val (.ref a1), .val (.long v3), .second, .val (.int (1 : Int32))] [(.long (v3 + ((g_w_weight_a0 1) * ((g_a1 1).toInt64))))])) _
    refine castTop (g' := (mkF m 30 #[.val (.ref a0), .val (.ref a1), .val (.long v3), .second, .val (.int (1 : Int32))] [(.long v5)])) (by rw [hv5] <;> rfl) ?_
    show Steps p.tables e below (T4.setTop (mkF m 30 #[.val (.ref a0), .val (.ref a1), .val (.long v3), .second, .val (.int (1 : Int32))] [(.long v5)])) _
    refine XS.lstoreN X4.here hx rfl (hb hby d6_30) rfl (l' := #[.val (.ref a0), .val (.ref a1), .val (.long v5), .second, .val (.int (1 : Int32))]) rfl ?_
    show Steps p.tables e below (T4.setTop (mkF m 31 #[.val (.ref a0), .val (.ref a1), .val (.long v5), .second, .val (.int (1 : Int32))] [])) _
    refine XS.iinc X4.here hx rfl (hb hby d6_31) rfl (l' := #[.val (.ref a0), .val (.ref a1), .val (.long v5), .second, .val (.int (2 : Int32))]) rfl ?_
    show Steps p.tables e below (T4.setTop (mkF m 34 #[.val (.ref a0), .val (.ref a1), .val (.long v5), .second, .val (.int (2 : Int32))] [])) _
    refine XS.goto X4.here hx rfl (pc0 := 34) (pc' := 8) rfl (hb hby d6_34) (by decide) (by decide) ?_
    show Steps p.tables e below (T4.setTop (mkF m 8 #[.val (.ref a0), .val (.ref a1), .val (.long v5), .second, .val (.int (2 : Int32))] [])) _
    refine XS.iload X4.here hx rfl (hb hby d6_8) rfl ?_
    show Steps p.tables e below (T4.setTop (mkF m 10 #[.val (.ref a0), .val (.ref a1), .val (.long v5), .second, .val (.int (2 : Int32))] [(.int (2 : Int32))])) _
    refine XS.aloadN X4.here hx rfl (hb hby d6_10) rfl rfl ?_
    show Steps p.tables e below (T4.setTop (mkF m 11 #[.val (.ref a0), .val (.ref a1), .val (.long v5), .second, .val (.int (2 : Int32))] [(.ref a1), (.int (2 : Int32))])) _
    refine AF.len X4 hx hZ e4 A_a1 (g := (mkF m 11 #[.val (.ref a0), .val (.ref a1), .val (.long v5), .second, .val (.int (2 : Int32))] [(.ref a1), (.int (2 : Int32))])) rfl rfl (hb hby d6_11) _ ?_
    show Steps p.tables e below (T4.setTop (mkF m 12 #[.val (.ref a0), .val (.ref a1), .val (.long v5), .second, .val (.int (2 : Int32))] [(.int (3 : Int32)), (.int (2 : Int32))])) _
    refine XS.icmpNo X4.here hx rfl (hb hby d6_12) rfl (tlt (by decide)).2.1 ?_
    show Steps p.tables e below (T4.setTop (mkF m 15 #[.val (.ref a0), .val (.ref a1), .val (.long v5), .second, .val (.int (2 : Int32))] [])) _
    refine XS.lloadN X4.here hx rfl (hb hby d6_15) rfl ?_
    show Steps p.tables e below (T4.setTop (mkF m 16 #[.val (.ref a0), .val (.ref a1), .val (.long v5), .second, .val (.int (2 : Int32))] [(.long v5)])) _
    refine XS.aloadN X4.here hx rfl (hb hby d6_16) rfl rfl ?_
    show Steps p.tables e below (T4.setTop (mkF m 17 #[.val (.ref a0), .val (.ref a1), .val (.long v5), .second, .val (.int (2 : Int32))] [(.ref a0), (.long v5)])) _
    refine st6 _ ?_
    show Steps p.tables e below (T6.setTop (mkF m 20 #[.val (.ref a0), .val (.ref a1), .val (.long v5), .second, .val (.int (2 : Int32))] [(.ref w_weight_a0), (.long v5)])) _
    refine XS.iload X6.here hx rfl (hb hby d6_20) rfl ?_
    show Steps p.tables e below (T6.setTop (mkF m 22 #[.val (.ref a0), .val (.ref a1), .val (.long v5), .second, .val (.int (2 : Int32))] [(.int (2 : Int32)), (.ref w_weight_a0), (.long v5)])) _
    refine AF.ldJ X6 hx hZ e6 A_w_weight_a0 (by decide : own_in (2 : Int32) 3) (g := (mkF m 22 #[.val (.ref a0), .val (.ref a1), .val (.long v5), .second, .val (.int (2 : Int32))] [(.int (2 : Int32)), (.ref w_weight_a0), (.long v5)])) rfl rfl (hb hby d6_22) _ ?_
    show Steps p.tables e below (T6.setTop (mkF m 23 #[.val (.ref a0), .val (.ref a1), .val (.long v5), .second, .val (.int (2 : Int32))] [(.long (g_w_weight_a0 2)), (.long v5)])) _
    refine XS.aloadN X6.here hx rfl (hb hby d6_23) rfl rfl ?_
    show Steps p.tables e below (T6.setTop (mkF m 24 #[.val (.ref a0), .val (.ref a1), .val (.long v5), .second, .val (.int (2 : Int32))] [(.ref a1), (.long (g_w_weight_a0 2)), (.long v5)])) _
    refine XS.iload X6.here hx rfl (hb hby d6_24) rfl ?_
    show Steps p.tables e below (T6.setTop (mkF m 26 #[.val (.ref a0), .val (.ref a1), .val (.long v5), .second, .val (.int (2 : Int32))] [(.int (2 : Int32)), (.ref a1), (.long (g_w_weight_a0 2)), (.long v5)])) _
    refine AF.ldI X6 hx hZ e6 A_a1 (by decide : own_in (2 : Int32) 3) (g := (mkF m 26 #[.val (.ref a0), .val (.ref a1), .val (.long v5), .second, .val (.int (2 : Int32))] [(.int (2 : Int32)), (.ref a1), (.long (g_w_weight_a0 2)), (.long v5)])) rfl rfl (hb hby d6_26) _ ?_
    show Steps p.tables e below (T6.setTop (mkF m 27 #[.val (.ref a0), .val (.ref a1), .val (.long v5), .second, .val (.int (2 : Int32))] [(.int (g_a1 2)), (.long (g_w_weight_a0 2)), (.long v5)])) _
    refine XS.i2l X6.here hx rfl (hb hby d6_27) rfl ?_
    show Steps p.tables e below (T6.setTop (mkF m 28 #[.val (.ref a0), .val (.ref a1), .val (.long v5), .second, .val (.int (2 : Int32))] [(.long ((g_a1 2).toInt64)), (.long (g_w_weight_a0 2)), (.long v5)])) _
    refine XS.lmul X6.here hx rfl (hb hby d6_28) rfl ?_
    show Steps p.tables e below (T6.setTop (mkF m 29 #[.val (.ref a0), .val (.ref a1), .val (.long v5), .second, .val (.int (2 : Int32))] [(.long ((g_w_weight_a0 2) * ((g_a1 2).toInt64))), (.long v5)])) _
    refine XS.ladd X6.here hx rfl (hb hby d6_29) rfl ?_
    show Steps p.tables e below (T6.setTop (mkF m 30 #[.val (.ref a0), .val (.ref a1), .val (.long v5), .second, .val (.int (2 : Int32))] [(.long (v5 + ((g_w_weight_a0 2) * ((g_a1 2).toInt64))))])) _
    refine castTop (g' := (mkF m 30 #[.val (.ref a0), .val (.ref a1), .val (.long v5), .second, .val (.int (2 : Int32))] [(.long v7)])) (by rw [hv7] <;> rfl) ?_
    show Steps p.tables e below (T6.setTop (mkF m 30 #[.val (.ref a0), .val (.ref a1), .val (.long v5), .second, .val (.int (2 : Int32))] [(.long v7)])) _
    refine XS.lstoreN X6.here hx rfl (hb hby d6_30) rfl (l' := #[.val (.ref a0), .val (.ref a1), .val (.long v7), .second, .val (.int (2 : Int32))]) rfl ?_
    show Steps p.tables e below (T6.setTop (mkF m 31 #[.val (.ref a0), .val (.ref a1), .val (.long v7), .second, .val (.int (2 : Int32))] [])) _
    refine XS.iinc X6.here hx rfl (hb hby d6_31) rfl (l' := #[.val (.ref a0), .val (.ref a1), .val (.long v7), .second, .val (.int (3 : Int32))]) rfl ?_
    show Steps p.tables e below (T6.setTop (mkF m 34 #[.val (.ref a0), .val (.ref a1), .val (.long v7), .second, .val (.int (3 : Int32))] [])) _
    refine XS.goto X6.here hx rfl (pc0 := 34) (pc' := 8) rfl (hb hby d6_34) (by decide) (by decide) ?_
    show Steps p.tables e below (T6.setTop (mkF m 8 #[.val (.ref a0), .val (.ref a1), .val (.long v7), .second, .val (.int (3 : Int32))] [])) _
    refine XS.iload X6.here hx rfl (hb hby d6_8) rfl ?_
    show Steps p.tables e below (T6.setTop (mkF m 10 #[.val (.ref a0), .val (.ref a1), .val (.long v7), .second, .val (.int (3 : Int32))] [(.int (3 : Int32))])) _
    refine XS.aloadN X6.here hx rfl (hb hby d6_10) rfl rfl ?_
    show Steps p.tables e below (T6.setTop (mkF m 11 #[.val (.ref a0), .val (.ref a1), .val (.long v7), .second, .val (.int (3 : Int32))] [(.ref a1), (.int (3 : Int32))])) _
    refine AF.len X6 hx hZ e6 A_a1 (g := (mkF m 11 #[.val (.ref a0), .val (.ref a1), .val (.long v7), .second, .val (.int (3 : Int32))] [(.ref a1), (.int (3 : Int32))])) rfl rfl (hb hby d6_11) _ ?_
    show Steps p.tables e below (T6.setTop (mkF m 12 #[.val (.ref a0), .val (.ref a1), .val (.long v7), .second, .val (.int (3 : Int32))] [(.int (3 : Int32)), (.int (3 : Int32))])) _
    refine XS.icmpYes X6.here hx rfl (pc0 := 12) (pc' := 37) rfl (hb hby d6_12) rfl (flt (by decide)).2.1 (by decide) (by decide) ?_
    show Steps p.tables e below (T6.setTop (mkF m 37 #[.val (.ref a0), .val (.ref a1), .val (.long v7), .second, .val (.int (3 : Int32))] [])) _
    refine XS.lloadN X6.here hx rfl (hb hby d6_37) rfl ?_
    show Steps p.tables e below (T6.setTop (mkF m 38 #[.val (.ref a0), .val (.ref a1), .val (.long v7), .second, .val (.int (3 : Int32))] [(.long v7)])) _
    exact retOut X6 hx Bd.returns rfl (Or.inr (Or.inl ⟨rfl, rfl, _, rfl⟩)) (hb hby d6_38) hr
  · show Q6 Z a0 a1 w_offset_a0 w_weight_a0 w_startOffset_a0 w_startWeight_a0 g_a1 g_w_weight_a0 h0 n0 _ T6.heap _
    subst hv3 hv5 hv7
    exact ⟨rfl, N0, e6⟩
theorem own_law (q0 : Int64) (q1 : Int64) (q2 : Int64) (p3 : Int32) (p4 : Int32) (p5 : Int32) (f10 : Nat → Int64) (f12 : Nat → Int64) (f14 : Nat → Int64) (f27 : Nat → Int32) (f29 : Nat → Int32) (f31 : Nat → Int32) (v32 : Int64) (v41 : Int32) (hf10 : f10 = (fun i => if i = 0 then (own_wf q0 (p3 &&& (2147483647 : Int32))) else (fun _ => (0 : Int64)) i)) (hf12 : f12 = (fun i => if i = 1 then (own_wf q1 (p4 &&& (2147483647 : Int32))) else f10 i)) (hf14 : f14 = (fun i => if i = 2 then (own_wf q2 (p5 &&& (2147483647 : Int32))) else f12 i)) (hf27 : f27 = (fun i => if i = 0 then (p3 &&& (2147483647 : Int32)) else (fun _ => (0 : Int32)) i)) (hf29 : f29 = (fun i => if i = 1 then (p4 &&& (2147483647 : Int32)) else f27 i)) (hf31 : f31 = (fun i => if i = 2 then (p5 &&& (2147483647 : Int32)) else f29 i)) (hv32 : v32 = ((((own_wf q0 (p3 &&& (2147483647 : Int32))) * ((p3 &&& (2147483647 : Int32)).toInt64)) + ((own_wf q1 (p4 &&& (2147483647 : Int32))) * ((p4 &&& (2147483647 : Int32)).toInt64))) + ((own_wf q2 (p5 &&& (2147483647 : Int32))) * ((p5 &&& (2147483647 : Int32)).toInt64)))) (hv41 : v41 = (if ((((0 : Int64) + ((f14 0) * ((f31 0).toInt64))) + ((f14 1) * ((f31 1).toInt64))) + ((f14 2) * ((f31 2).toInt64))) = v32 then (1 : Int32) else (0 : Int32))) : (nar .boolean v41) = (1 : Int32) := by
  rw [hv41, if_pos (by simp [hf10, hf12, hf14, hf27, hf29, hf31, hv32]), own_nar1]
theorem ef_0 (m : MethodId) (q0 : Int64) (q1 : Int64) (q2 : Int64) (p3 : Int32) (p4 : Int32) (p5 : Int32) : entryFrame m #[(.long q0), (.long q1), (.long q2), (.int p3), (.int p4), (.int p5)] maxLocals = mkF m 0 #[.val (.long q0), .second, .val (.long q1), .second, .val (.long q2), .second, .val (.int p3), .val (.int p4), .val (.int p5), .unset, .unset, .unset, .unset, .unset, .unset, .unset, .unset, .unset, .unset, .unset, .unset, .unset, .unset, .unset] [] := by first | (simp [entryFrame, mkF, argsToLocals, Value.category, maxLocals]; done) | rfl
def Q0 (h0 : Heap) (n0 : Nat) (v : Option Value) (h : Heap) (L : List Loc) : Prop := v = some (.int 1) ∧ Fr n0 L
set_option maxRecDepth 65536 in
set_option maxHeartbeats 40000000 in
theorem rm0 (l : Launch) (Z : State) (A0 : Array Value) (hw : ∀ d ∈ tables_1, d.before A0 Z = true) (ws : List Jvm.Cond) (q0 : Int64) (q1 : Int64) (q2 : Int64) (p3 : Int32) (p4 : Int32) (p5 : Int32) (h0 : Heap) (n0 : Nat) (Z0 : n0 ≤ h0.size) :
    MetFree l x (head1 (Jvm.Cond.code x code maxLocals ret :: ws) room_1) (fun a U => a = #[(.long q0), (.long q1), (.long q2), (.int p3), (.int p4), (.int p5)] ∧ Z.Warmed39 U.vm ∧ U.heap = h0) (fun _ _ _ _ _ => True) (fun _ U o U' => ∃ v L, o = .returned v ∧ Q0 h0 n0 v U'.heap L ∧ FrameEnd U o U' L 4 13) := by
  refine MetFree.of_bodySF (plainFor_of_name pn_0) hisR ?_
  intro p e s m args below meth c s₁ Bd hml0 hP hK
  obtain ⟨rfl, hZ, hh⟩ := hP
  have hx := Bd.exec
  have hby := Bd.bytes
  have hml : c.maxLocals = 24 := hml0
  have hown : s.vm.findClass "com/example/paperloom/paperloom/MeanWeightPinLaw" = some m.cls := findClass_of_methodNamed Bd.named
  have hnm := (name_of_methodNamed Bd.named Bd.method).1
  have X0 : Stand p l e room_1 s m #[(.long q0), (.long q1), (.long q2), (.int p3), (.int p4), (.int p5)] below meth c s₁ [] 0 0 := Stand.of_body Bd
  have e0 : s₁.heap = h0 := by rw [← hh, Bd.state]; rfl
  have N0 := Fr.nil n0
  have pre0 : ∀ t, Steps p.tables e below (s₁.setTop (mkF m 0 #[.val (.long q0), .second, .val (.long q1), .second, .val (.long q2), .second, .val (.int p3), .val (.int p4), .val (.int p5), .unset, .unset, .unset, .unset, .unset, .unset, .unset, .unset, .unset, .unset, .unset, .unset, .unset, .unset, .unset] [])) t → Steps p.tables e below (s₁.setTop (entryFrame m #[(.long q0), (.long q1), (.long q2), (.int p3), (.int p4), (.int p5)] maxLocals)) t := fun t k => castTop (ef_0 m q0 q1 q2 p3 p4 p5) k
  have hp1 : (((p3 &&& (2147483647 : Int32)).toInt64) + (1 : Int64)) ≠ (0 : Int64) := own_hz8 _
  obtain ⟨_, _, ⟨T2, L2, k2, n2⟩, -, X2, ⟨Lc2, hQ2, l2, y2, z2⟩, st2⟩ := Jvm.LawKit.callS X0 hx (y := (⟨"com/example/paperloom/paperloom/MeanWeightPinLaw", "weightFor", "(JI)J"⟩ : MethodName)) hown (mvT hZ (hw _ (List.mem_of_getElem? (i := 1) rfl))) (mvT hZ (hw _ (List.mem_of_getElem? (i := 2) rfl))) (mvT hZ (hw _ (List.mem_of_getElem? (i := 3) rfl))) (mvT hZ (hw _ (List.mem_of_getElem? (i := 4) rfl))) (by decide) (backOf (W := 0) (rm1 l Z A0 hw [] q0 (p3 &&& (2147483647 : Int32)) h0 n0 (Nat.le_trans Z0 (Keep.refl h0 []).1) hp1) hZ (hw _ (List.mem_of_getElem? (i := 4) rfl)) (hw _ (List.mem_of_getElem? (i := 3) rfl)) (by decide) (by decide)) (g := (mkF m 24 #[.val (.long q0), .second, .val (.long q1), .second, .val (.long q2), .second, .val (.int p3), .val (.int p4), .val (.int p5), .val (.int (p3 &&& (2147483647 : Int32))), .val (.int (p4 &&& (2147483647 : Int32))), .val (.int (p5 &&& (2147483647 : Int32))), .unset, .unset, .unset, .unset, .unset, .unset, .unset, .unset, .unset, .unset, .unset, .unset] [(.int (p3 &&& (2147483647 : Int32))), (.long q0)])) rfl (by rw [hml]; rfl) (argsL := [(.long q0), (.int (p3 &&& (2147483647 : Int32)))]) (rest := []) (lenOf pd_0 rfl) rfl (by show 2 * 0 + _ ≤ _; exact Nat.le_of_eq rfl) (hb hby at_24) (fun _ _ => ⟨rfl, e0, (by decide : 0 + 0 ≤ _), (by decide : 0 + 0 ≤ _)⟩)
  dsimp only [Pt.U, Pt.locs, Pt.cells, Pt.slots] at X2 l2 y2 z2 st2 hQ2
  subst l2 y2 z2
  obtain ⟨rfl, N2q, e2⟩ := hQ2
  have N2 := Fr.app N0 N2q
  have hp3 : (((p4 &&& (2147483647 : Int32)).toInt64) + (1 : Int64)) ≠ (0 : Int64) := own_hz8 _
  obtain ⟨_, _, ⟨T4, L4, k4, n4⟩, -, X4, ⟨Lc4, hQ4, l4, y4, z4⟩, st4⟩ := Jvm.LawKit.callS X2 hx (y := (⟨"com/example/paperloom/paperloom/MeanWeightPinLaw", "weightFor", "(JI)J"⟩ : MethodName)) hown (mvT hZ (hw _ (List.mem_of_getElem? (i := 1) rfl))) (mvT hZ (hw _ (List.mem_of_getElem? (i := 2) rfl))) (mvT hZ (hw _ (List.mem_of_getElem? (i := 3) rfl))) (mvT hZ (hw _ (List.mem_of_getElem? (i := 4) rfl))) (by decide) (backOf (W := 0) (rm1 l Z A0 hw [] q1 (p4 &&& (2147483647 : Int32)) h0 n0 (Nat.le_trans Z0 (Keep.refl h0 []).1) hp3) hZ (hw _ (List.mem_of_getElem? (i := 4) rfl)) (hw _ (List.mem_of_getElem? (i := 3) rfl)) (by decide) (by decide)) (g := (mkF m 32 #[.val (.long q0), .second, .val (.long q1), .second, .val (.long q2), .second, .val (.int p3), .val (.int p4), .val (.int p5), .val (.int (p3 &&& (2147483647 : Int32))), .val (.int (p4 &&& (2147483647 : Int32))), .val (.int (p5 &&& (2147483647 : Int32))), .val (.long (own_wf q0 (p3 &&& (2147483647 : Int32)))), .second, .unset, .unset, .unset, .unset, .unset, .unset, .unset, .unset, .unset, .unset] [(.int (p4 &&& (2147483647 : Int32))), (.long q1)])) rfl (by rw [hml]; rfl) (argsL := [(.long q1), (.int (p4 &&& (2147483647 : Int32)))]) (rest := []) (lenOf pd_0 rfl) rfl (by show 2 * 0 + _ ≤ _; exact Nat.le_of_eq rfl) (hb hby at_32) (fun _ _ => ⟨rfl, e2, (by decide : 0 + 0 ≤ _), (by decide : 0 + 0 ≤ _)⟩)
  dsimp only [Pt.U, Pt.locs, Pt.cells, Pt.slots] at X4 l4 y4 z4 st4 hQ4
  subst l4 y4 z4
  obtain ⟨rfl, N4q, e4⟩ := hQ4
  have N4 := Fr.app N2 N4q
  have hp5 : (((p5 &&& (2147483647 : Int32)).toInt64) + (1 : Int64)) ≠ (0 : Int64) := own_hz8 _
  obtain ⟨_, _, ⟨T6, L6, k6, n6⟩, -, X6, ⟨Lc6, hQ6, l6, y6, z6⟩, st6⟩ := Jvm.LawKit.callS X4 hx (y := (⟨"com/example/paperloom/paperloom/MeanWeightPinLaw", "weightFor", "(JI)J"⟩ : MethodName)) hown (mvT hZ (hw _ (List.mem_of_getElem? (i := 1) rfl))) (mvT hZ (hw _ (List.mem_of_getElem? (i := 2) rfl))) (mvT hZ (hw _ (List.mem_of_getElem? (i := 3) rfl))) (mvT hZ (hw _ (List.mem_of_getElem? (i := 4) rfl))) (by decide) (backOf (W := 0) (rm1 l Z A0 hw [] q2 (p5 &&& (2147483647 : Int32)) h0 n0 (Nat.le_trans Z0 (Keep.refl h0 []).1) hp5) hZ (hw _ (List.mem_of_getElem? (i := 4) rfl)) (hw _ (List.mem_of_getElem? (i := 3) rfl)) (by decide) (by decide)) (g := (mkF m 41 #[.val (.long q0), .second, .val (.long q1), .second, .val (.long q2), .second, .val (.int p3), .val (.int p4), .val (.int p5), .val (.int (p3 &&& (2147483647 : Int32))), .val (.int (p4 &&& (2147483647 : Int32))), .val (.int (p5 &&& (2147483647 : Int32))), .val (.long (own_wf q0 (p3 &&& (2147483647 : Int32)))), .second, .val (.long (own_wf q1 (p4 &&& (2147483647 : Int32)))), .second, .unset, .unset, .unset, .unset, .unset, .unset, .unset, .unset] [(.int (p5 &&& (2147483647 : Int32))), (.long q2)])) rfl (by rw [hml]; rfl) (argsL := [(.long q2), (.int (p5 &&& (2147483647 : Int32)))]) (rest := []) (lenOf pd_0 rfl) rfl (by show 2 * 0 + _ ≤ _; exact Nat.le_of_eq rfl) (hb hby at_41) (fun _ _ => ⟨rfl, e4, (by decide : 0 + 0 ≤ _), (by decide : 0 + 0 ≤ _)⟩)
  dsimp only [Pt.U, Pt.locs, Pt.cells, Pt.slots] at X6 l6 y6 z6 st6 hQ6
  subst l6 y6 z6
  obtain ⟨rfl, N6q, e6⟩ := hQ6
  have N6 := Fr.app N4 N6q
  obtain ⟨T7, h7, k7, X7, e7, E7, A7, st7⟩ := newP X6 hx hZ (hw _ (List.mem_of_getElem? (i := 9) rfl)) e6 (g := (mkF m 47 #[.val (.long q0), .second, .val (.long q1), .second, .val (.long q2), .second, .val (.int p3), .val (.int p4), .val (.int p5), .val (.int (p3 &&& (2147483647 : Int32))), .val (.int (p4 &&& (2147483647 : Int32))), .val (.int (p5 &&& (2147483647 : Int32))), .val (.long (own_wf q0 (p3 &&& (2147483647 : Int32)))), .second, .val (.long (own_wf q1 (p4 &&& (2147483647 : Int32)))), .second, .val (.long (own_wf q2 (p5 &&& (2147483647 : Int32)))), .second, .unset, .unset, .unset, .unset, .unset, .unset] [(.int (3 : Int32))])) rfl (hb hby at_47) rfl (by decide) (cap := 3) (by decide) (by decide) (by decide) (by decide)
  obtain ⟨b7, g7⟩ : ∃ z, z = h0.size := ⟨_, rfl⟩
  rw [← g7] at A7 st7
  have nw_b7 : n0 ≤ b7 := Nat.le_trans (Nat.le_trans Z0 (Keep.refl h0 []).1) (Nat.le_of_eq g7.symm)
  have sz_b7 : h0.size ≤ b7 := Nat.le_trans (Keep.refl h0 []).1 (Nat.le_of_eq g7.symm)
  have K7 : Keep h0 h7 [] := (Keep.refl h0 []).ext E7
  have V7 : AF Z h7 b7 .long 3 (fun j => .long ((fun _ => (0 : Int64)) j)) := AF.new A7 (by decide)
  obtain ⟨T8, h8, k8, X8, e8, E8, A8, st8⟩ := newP X7 hx hZ (hw _ (List.mem_of_getElem? (i := 9) rfl)) e7 (g := (mkF m 52 #[.val (.long q0), .second, .val (.long q1), .second, .val (.long q2), .second, .val (.int p3), .val (.int p4), .val (.int p5), .val (.int (p3 &&& (2147483647 : Int32))), .val (.int (p4 &&& (2147483647 : Int32))), .val (.int (p5 &&& (2147483647 : Int32))), .val (.long (own_wf q0 (p3 &&& (2147483647 : Int32)))), .second, .val (.long (own_wf q1 (p4 &&& (2147483647 : Int32)))), .second, .val (.long (own_wf q2 (p5 &&& (2147483647 : Int32)))), .second, .val (.ref b7), .unset, .unset, .unset, .unset, .unset] [(.int (3 : Int32))])) rfl (hb hby at_52) rfl (by decide) (cap := 3) (by decide) (by decide) (by decide) (by decide)
  obtain ⟨b8, g8⟩ : ∃ z, z = h7.size := ⟨_, rfl⟩
  rw [← g8] at A8 st8
  have ne_b7_b8 : b7 ≠ b8 := Nat.ne_of_lt (Nat.lt_of_lt_of_le V7.lt (Nat.le_of_eq g8.symm))
  have nw_b8 : n0 ≤ b8 := Nat.le_trans (Nat.le_trans Z0 K7.1) (Nat.le_of_eq g8.symm)
  have sz_b8 : h0.size ≤ b8 := Nat.le_trans K7.1 (Nat.le_of_eq g8.symm)
  have K8 : Keep h0 h8 [] := K7.ext E8
  have V8 : AF Z h8 b8 .long 3 (fun j => .long ((fun _ => (0 : Int64)) j)) := AF.new A8 (by decide)
  obtain ⟨T9, h9, X9, e9, W9, A9, st9⟩ := AF.stJ X8 hx hZ e8 V8 (by decide : own_in (0 : Int32) 3) (g := (mkF m 58 #[.val (.long q0), .second, .val (.long q1), .second, .val (.long q2), .second, .val (.int p3), .val (.int p4), .val (.int p5), .val (.int (p3 &&& (2147483647 : Int32))), .val (.int (p4 &&& (2147483647 : Int32))), .val (.int (p5 &&& (2147483647 : Int32))), .val (.long (own_wf q0 (p3 &&& (2147483647 : Int32)))), .second, .val (.long (own_wf q1 (p4 &&& (2147483647 : Int32)))), .second, .val (.long (own_wf q2 (p5 &&& (2147483647 : Int32)))), .second, .val (.ref b7), .unset, .unset, .unset, .unset, .unset] [(.long (own_wf q0 (p3 &&& (2147483647 : Int32)))), (.int (0 : Int32)), (.ref b8), (.ref b8)])) rfl rfl (hb hby at_58)
  have K9 : Keep h0 h9 [] := K8.wr W9 (Or.inr sz_b8)
  obtain ⟨f10, hf10⟩ : ∃ f : Nat → Int64, f = (fun i => if i = 0 then (own_wf q0 (p3 &&& (2147483647 : Int32))) else (fun _ => (0 : Int64)) i) := ⟨_, rfl⟩
  have V9 : AF Z h9 b8 .long 3 (fun j => .long (f10 j)) := AF.cong A9 (own_updJ rfl hf10)
  have N9 := Fr.snoc X9 N6 nw_b8
  obtain ⟨T11, h11, X11, e11, W11, A11, st11⟩ := AF.stJ X9 hx hZ e9 V9 (by decide : own_in (1 : Int32) 3) (g := (mkF m 63 #[.val (.long q0), .second, .val (.long q1), .second, .val (.long q2), .second, .val (.int p3), .val (.int p4), .val (.int p5), .val (.int (p3 &&& (2147483647 : Int32))), .val (.int (p4 &&& (2147483647 : Int32))), .val (.int (p5 &&& (2147483647 : Int32))), .val (.long (own_wf q0 (p3 &&& (2147483647 : Int32)))), .second, .val (.long (own_wf q1 (p4 &&& (2147483647 : Int32)))), .second, .val (.long (own_wf q2 (p5 &&& (2147483647 : Int32)))), .second, .val (.ref b7), .unset, .unset, .unset, .unset, .unset] [(.long (own_wf q1 (p4 &&& (2147483647 : Int32)))), (.int (1 : Int32)), (.ref b8), (.ref b8)])) rfl rfl (hb hby at_63)
  have K11 : Keep h0 h11 [] := K9.wr W11 (Or.inr sz_b8)
  obtain ⟨f12, hf12⟩ : ∃ f : Nat → Int64, f = (fun i => if i = 1 then (own_wf q1 (p4 &&& (2147483647 : Int32))) else f10 i) := ⟨_, rfl⟩
  have V11 : AF Z h11 b8 .long 3 (fun j => .long (f12 j)) := AF.cong A11 (own_updJ rfl hf12)
  have N11 := Fr.snoc X11 N9 nw_b8
  obtain ⟨T13, h13, X13, e13, W13, A13, st13⟩ := AF.stJ X11 hx hZ e11 V11 (by decide : own_in (2 : Int32) 3) (g := (mkF m 68 #[.val (.long q0), .second, .val (.long q1), .second, .val (.long q2), .second, .val (.int p3), .val (.int p4), .val (.int p5), .val (.int (p3 &&& (2147483647 : Int32))), .val (.int (p4 &&& (2147483647 : Int32))), .val (.int (p5 &&& (2147483647 : Int32))), .val (.long (own_wf q0 (p3 &&& (2147483647 : Int32)))), .second, .val (.long (own_wf q1 (p4 &&& (2147483647 : Int32)))), .second, .val (.long (own_wf q2 (p5 &&& (2147483647 : Int32)))), .second, .val (.ref b7), .unset, .unset, .unset, .unset, .unset] [(.long (own_wf q2 (p5 &&& (2147483647 : Int32)))), (.int (2 : Int32)), (.ref b8), (.ref b8)])) rfl rfl (hb hby at_68)
  have K13 : Keep h0 h13 [] := K11.wr W13 (Or.inr sz_b8)
  obtain ⟨f14, hf14⟩ : ∃ f : Nat → Int64, f = (fun i => if i = 2 then (own_wf q2 (p5 &&& (2147483647 : Int32))) else f12 i) := ⟨_, rfl⟩
  have V13 : AF Z h13 b8 .long 3 (fun j => .long (f14 j)) := AF.cong A13 (own_updJ rfl hf14)
  have N13 := Fr.snoc X13 N11 nw_b8
  obtain ⟨T15, h15, X15, e15, E15, A15, D15, -, st15⟩ := newO X13 hx hZ hown (hw _ (List.mem_of_getElem? (i := 10) rfl)) (hw _ (List.mem_of_getElem? (i := 11) rfl)) (hw _ (List.mem_of_getElem? (i := 12) rfl)) e13 (g := (mkF m 71 #[.val (.long q0), .second, .val (.long q1), .second, .val (.long q2), .second, .val (.int p3), .val (.int p4), .val (.int p5), .val (.int (p3 &&& (2147483647 : Int32))), .val (.int (p4 &&& (2147483647 : Int32))), .val (.int (p5 &&& (2147483647 : Int32))), .val (.long (own_wf q0 (p3 &&& (2147483647 : Int32)))), .second, .val (.long (own_wf q1 (p4 &&& (2147483647 : Int32)))), .second, .val (.long (own_wf q2 (p5 &&& (2147483647 : Int32)))), .second, .val (.ref b7), .val (.ref b8), .unset, .unset, .unset, .unset] [])) rfl (hb hby at_71) (by decide) (by decide)
  obtain ⟨b15, g15⟩ : ∃ z, z = h13.size := ⟨_, rfl⟩
  rw [← g15] at A15 D15 st15
  have G16 : AF Z h13 b7 .long 3 (fun j => .long ((fun _ => (0 : Int64)) j)) := ((((V7.ext E8).other W9 ne_b7_b8).other W11 ne_b7_b8).other W13 ne_b7_b8)
  have ne_b7_b15 : b7 ≠ b15 := Nat.ne_of_lt (Nat.lt_of_lt_of_le G16.lt (Nat.le_of_eq g15.symm))
  have ne_b8_b15 : b8 ≠ b15 := Nat.ne_of_lt (Nat.lt_of_lt_of_le V13.lt (Nat.le_of_eq g15.symm))
  have nw_b15 : n0 ≤ b15 := Nat.le_trans (Nat.le_trans Z0 K13.1) (Nat.le_of_eq g15.symm)
  have sz_b15 : h0.size ≤ b15 := Nat.le_trans K13.1 (Nat.le_of_eq g15.symm)
  have K15 : Keep h0 h15 [] := K13.ext E15
  have F_offset_b15 : Fld Z h15 b15 "com/example/paperloom/paperloom/CountSearch$Mean" "offset" "[J" .null := D15 (Or.inr (hw _ (List.mem_of_getElem? (i := 23) rfl))) (ty := (.array .long)) (by decide)
  have F_weight_b15 : Fld Z h15 b15 "com/example/paperloom/paperloom/CountSearch$Mean" "weight" "[J" .null := D15 (Or.inr (hw _ (List.mem_of_getElem? (i := 25) rfl))) (ty := (.array .long)) (by decide)
  have F_startOffset_b15 : Fld Z h15 b15 "com/example/paperloom/paperloom/CountSearch$Mean" "startOffset" "J" (.long (0 : Int64)) := D15 (Or.inr (hw _ (List.mem_of_getElem? (i := 27) rfl))) (ty := .long) (by decide)
  have F_startWeight_b15 : Fld Z h15 b15 "com/example/paperloom/paperloom/CountSearch$Mean" "startWeight" "J" (.long (0 : Int64)) := D15 (Or.inr (hw _ (List.mem_of_getElem? (i := 29) rfl))) (ty := .long) (by decide)
  obtain ⟨_, _, ⟨T17, L17, k17, n17⟩, -, X17, ⟨Lc17, hQ17, l17, y17, z17⟩, st17⟩ := X15.specialBack hx (y := (⟨"com/example/paperloom/paperloom/CountSearch$Mean", "<init>", "([J[J)V"⟩ : MethodName)) rfl hown (mvT hZ (hw _ (List.mem_of_getElem? (i := 13) rfl))) (mvT hZ (hw _ (List.mem_of_getElem? (i := 14) rfl))) (mvT hZ (hw _ (List.mem_of_getElem? (i := 15) rfl))) (by decide) (backOf (W := 1) (rm3 l Z A0 hw [] b15 b7 b8 .null .null (0 : Int64) (0 : Int64) h15 n0 (Nat.le_trans Z0 K15.1) A15 F_offset_b15 F_weight_b15 F_startOffset_b15 F_startWeight_b15 nw_b15) hZ (hw _ (List.mem_of_getElem? (i := 15) rfl)) (hw _ (List.mem_of_getElem? (i := 12) rfl)) (by decide) (by decide)) (g := (mkF m 79 #[.val (.long q0), .second, .val (.long q1), .second, .val (.long q2), .second, .val (.int p3), .val (.int p4), .val (.int p5), .val (.int (p3 &&& (2147483647 : Int32))), .val (.int (p4 &&& (2147483647 : Int32))), .val (.int (p5 &&& (2147483647 : Int32))), .val (.long (own_wf q0 (p3 &&& (2147483647 : Int32)))), .second, .val (.long (own_wf q1 (p4 &&& (2147483647 : Int32)))), .second, .val (.long (own_wf q2 (p5 &&& (2147483647 : Int32)))), .second, .val (.ref b7), .val (.ref b8), .unset, .unset, .unset, .unset] [(.ref b8), (.ref b7), (.ref b15), (.ref b15)])) rfl (by rw [hml]; rfl) (Steps.refl _) (a := b15) (argsL := [(.ref b7), (.ref b8)]) (rest := [(.ref b15)]) (lenOf pd_2 rfl) rfl (by show 2 * 0 + _ ≤ _; exact Nat.le_of_eq rfl) (hb hby at_79) (fun _ _ => ⟨rfl, e15, (by decide : 3 + 0 ≤ _), (by decide : 10 + 0 ≤ _)⟩)
  dsimp only [Pt.U, Pt.locs, Pt.cells, Pt.slots] at X17 l17 y17 z17 st17 hQ17
  subst l17 y17 z17
  obtain ⟨rfl, N17q, Kc17, P18, P19, P20, P21, P22⟩ := hQ17
  have K17 : Keep h0 T17.heap [] := K15.trans Kc17 (allS (Or.inr sz_b15) all0)
  have N17 := Fr.app N13 N17q
  obtain ⟨T23, h23, k23, X23, e23, E23, A23, st23⟩ := newP X17 hx hZ (hw _ (List.mem_of_getElem? (i := 30) rfl)) rfl (g := (mkF m 85 #[.val (.long q0), .second, .val (.long q1), .second, .val (.long q2), .second, .val (.int p3), .val (.int p4), .val (.int p5), .val (.int (p3 &&& (2147483647 : Int32))), .val (.int (p4 &&& (2147483647 : Int32))), .val (.int (p5 &&& (2147483647 : Int32))), .val (.long (own_wf q0 (p3 &&& (2147483647 : Int32)))), .second, .val (.long (own_wf q1 (p4 &&& (2147483647 : Int32)))), .second, .val (.long (own_wf q2 (p5 &&& (2147483647 : Int32)))), .second, .val (.ref b7), .val (.ref b8), .val (.ref b15), .unset, .unset, .unset] [(.int (3 : Int32))])) rfl (hb hby at_85) rfl (by decide) (cap := 3) (by decide) (by decide) (by decide) (by decide)
  obtain ⟨b23, g23⟩ : ∃ z, z = T17.heap.size := ⟨_, rfl⟩
  rw [← g23] at A23 st23
  have G24 : AF Z T17.heap b7 .long 3 (fun j => .long ((fun _ => (0 : Int64)) j)) := ((G16.ext E15).keep Kc17 (ninS ne_b7_b15 nin0))
  have ne_b7_b23 : b7 ≠ b23 := Nat.ne_of_lt (Nat.lt_of_lt_of_le G24.lt (Nat.le_of_eq g23.symm))
  have G25 : AF Z T17.heap b8 .long 3 (fun j => .long (f14 j)) := ((V13.ext E15).keep Kc17 (ninS ne_b8_b15 nin0))
  have ne_b8_b23 : b8 ≠ b23 := Nat.ne_of_lt (Nat.lt_of_lt_of_le G25.lt (Nat.le_of_eq g23.symm))
  have ne_b15_b23 : b15 ≠ b23 := Nat.ne_of_lt (Nat.lt_of_lt_of_le P18.lt (Nat.le_of_eq g23.symm))
  have nw_b23 : n0 ≤ b23 := Nat.le_trans (Nat.le_trans Z0 K17.1) (Nat.le_of_eq g23.symm)
  have sz_b23 : h0.size ≤ b23 := Nat.le_trans K17.1 (Nat.le_of_eq g23.symm)
  have K23 : Keep h0 h23 [] := K17.ext E23
  have V23 : AF Z h23 b23 .int 3 (fun j => .int ((fun _ => (0 : Int32)) j)) := AF.new A23 (by decide)
  obtain ⟨T26, h26, X26, e26, W26, A26, st26⟩ := AF.stI X23 hx hZ e23 V23 (by decide : own_in (0 : Int32) 3) (g := (mkF m 91 #[.val (.long q0), .second, .val (.long q1), .second, .val (.long q2), .second, .val (.int p3), .val (.int p4), .val (.int p5), .val (.int (p3 &&& (2147483647 : Int32))), .val (.int (p4 &&& (2147483647 : Int32))), .val (.int (p5 &&& (2147483647 : Int32))), .val (.long (own_wf q0 (p3 &&& (2147483647 : Int32)))), .second, .val (.long (own_wf q1 (p4 &&& (2147483647 : Int32)))), .second, .val (.long (own_wf q2 (p5 &&& (2147483647 : Int32)))), .second, .val (.ref b7), .val (.ref b8), .val (.ref b15), .unset, .unset, .unset] [(.int (p3 &&& (2147483647 : Int32))), (.int (0 : Int32)), (.ref b23), (.ref b23)])) rfl rfl (hb hby at_91)
  have K26 : Keep h0 h26 [] := K23.wr W26 (Or.inr sz_b23)
  obtain ⟨f27, hf27⟩ : ∃ f : Nat → Int32, f = (fun i => if i = 0 then (p3 &&& (2147483647 : Int32)) else (fun _ => (0 : Int32)) i) := ⟨_, rfl⟩
  have V26 : AF Z h26 b23 .int 3 (fun j => .int (f27 j)) := AF.cong A26 (own_updI rfl hf27)
  have N26 := Fr.snoc X26 N17 nw_b23
  obtain ⟨T28, h28, X28, e28, W28, A28, st28⟩ := AF.stI X26 hx hZ e26 V26 (by decide : own_in (1 : Int32) 3) (g := (mkF m 96 #[.val (.long q0), .second, .val (.long q1), .second, .val (.long q2), .second, .val (.int p3), .val (.int p4), .val (.int p5), .val (.int (p3 &&& (2147483647 : Int32))), .val (.int (p4 &&& (2147483647 : Int32))), .val (.int (p5 &&& (2147483647 : Int32))), .val (.long (own_wf q0 (p3 &&& (2147483647 : Int32)))), .second, .val (.long (own_wf q1 (p4 &&& (2147483647 : Int32)))), .second, .val (.long (own_wf q2 (p5 &&& (2147483647 : Int32)))), .second, .val (.ref b7), .val (.ref b8), .val (.ref b15), .unset, .unset, .unset] [(.int (p4 &&& (2147483647 : Int32))), (.int (1 : Int32)), (.ref b23), (.ref b23)])) rfl rfl (hb hby at_96)
  have K28 : Keep h0 h28 [] := K26.wr W28 (Or.inr sz_b23)
  obtain ⟨f29, hf29⟩ : ∃ f : Nat → Int32, f = (fun i => if i = 1 then (p4 &&& (2147483647 : Int32)) else f27 i) := ⟨_, rfl⟩
  have V28 : AF Z h28 b23 .int 3 (fun j => .int (f29 j)) := AF.cong A28 (own_updI rfl hf29)
  have N28 := Fr.snoc X28 N26 nw_b23
  obtain ⟨T30, h30, X30, e30, W30, A30, st30⟩ := AF.stI X28 hx hZ e28 V28 (by decide : own_in (2 : Int32) 3) (g := (mkF m 101 #[.val (.long q0), .second, .val (.long q1), .second, .val (.long q2), .second, .val (.int p3), .val (.int p4), .val (.int p5), .val (.int (p3 &&& (2147483647 : Int32))), .val (.int (p4 &&& (2147483647 : Int32))), .val (.int (p5 &&& (2147483647 : Int32))), .val (.long (own_wf q0 (p3 &&& (2147483647 : Int32)))), .second, .val (.long (own_wf q1 (p4 &&& (2147483647 : Int32)))), .second, .val (.long (own_wf q2 (p5 &&& (2147483647 : Int32)))), .second, .val (.ref b7), .val (.ref b8), .val (.ref b15), .unset, .unset, .unset] [(.int (p5 &&& (2147483647 : Int32))), (.int (2 : Int32)), (.ref b23), (.ref b23)])) rfl rfl (hb hby at_101)
  have K30 : Keep h0 h30 [] := K28.wr W30 (Or.inr sz_b23)
  obtain ⟨f31, hf31⟩ : ∃ f : Nat → Int32, f = (fun i => if i = 2 then (p5 &&& (2147483647 : Int32)) else f29 i) := ⟨_, rfl⟩
  have V30 : AF Z h30 b23 .int 3 (fun j => .int (f31 j)) := AF.cong A30 (own_updI rfl hf31)
  have N30 := Fr.snoc X30 N28 nw_b23
  obtain ⟨v32, hv32⟩ : ∃ z : Int64, z = ((((own_wf q0 (p3 &&& (2147483647 : Int32))) * ((p3 &&& (2147483647 : Int32)).toInt64)) + ((own_wf q1 (p4 &&& (2147483647 : Int32))) * ((p4 &&& (2147483647 : Int32)).toInt64))) + ((own_wf q2 (p5 &&& (2147483647 : Int32))) * ((p5 &&& (2147483647 : Int32)).toInt64))) := ⟨_, rfl⟩
  have G33 : Exa Z h30 b15 "com/example/paperloom/paperloom/CountSearch$Mean" := ((((P18.ext E23).wr W26).wr W28).wr W30)
  have G34 : Fld Z h30 b15 "com/example/paperloom/paperloom/CountSearch$Mean" "offset" "[J" (.ref b7) := ((((P19.ext E23).other W26 (Or.inl ne_b15_b23)).other W28 (Or.inl ne_b15_b23)).other W30 (Or.inl ne_b15_b23))
  have G35 : Fld Z h30 b15 "com/example/paperloom/paperloom/CountSearch$Mean" "weight" "[J" (.ref b8) := ((((P20.ext E23).other W26 (Or.inl ne_b15_b23)).other W28 (Or.inl ne_b15_b23)).other W30 (Or.inl ne_b15_b23))
  have G36 : Fld Z h30 b15 "com/example/paperloom/paperloom/CountSearch$Mean" "startOffset" "J" (.long (0 : Int64)) := ((((P21.ext E23).other W26 (Or.inl ne_b15_b23)).other W28 (Or.inl ne_b15_b23)).other W30 (Or.inl ne_b15_b23))
  have G37 : Fld Z h30 b15 "com/example/paperloom/paperloom/CountSearch$Mean" "startWeight" "J" (.long (0 : Int64)) := ((((P22.ext E23).other W26 (Or.inl ne_b15_b23)).other W28 (Or.inl ne_b15_b23)).other W30 (Or.inl ne_b15_b23))
  have G38 : AF Z h30 b8 .long 3 (fun j => .long (f14 j)) := ((((G25.ext E23).other W26 ne_b8_b23).other W28 ne_b8_b23).other W30 ne_b8_b23)
  obtain ⟨cq39, kq39, q39a, q39b, q39c⟩ := isOf hZ e30 G33
  obtain ⟨_, _, ⟨T39, L39, k39, n39⟩, -, X39, ⟨Lc39, hQ39, l39, y39, z39⟩, st39⟩ := X30.virtualBack hx (y := (⟨"com/example/paperloom/paperloom/CountSearch$Mean", "weight", "([I)J"⟩ : MethodName)) (z := (⟨"com/example/paperloom/paperloom/CountSearch$Mean", "weight", "([I)J"⟩ : MethodName)) hown (mvT hZ (hw _ (List.mem_of_getElem? (i := 31) rfl))) (mvT hZ (hw _ (List.mem_of_getElem? (i := 32) rfl))) (notFace_of_selects (args := #[]) (mvT hZ (hw _ (List.mem_of_getElem? (i := 34) rfl)))) (mvT hZ (hw _ (List.mem_of_getElem? (i := 34) rfl))) (mvT hZ (hw _ (List.mem_of_getElem? (i := 33) rfl))) (by decide) (backOf (W := 0) (rm6 l Z A0 hw [] b15 b23 (.ref b7) b8 (0 : Int64) (0 : Int64) f31 f14 h30 n0 (Nat.le_trans Z0 K30.1) G33 G34 G35 G36 G37 V30 G38) hZ (hw _ (List.mem_of_getElem? (i := 35) rfl)) (hw _ (List.mem_of_getElem? (i := 12) rfl)) (by decide) (by decide)) q39a q39c (g := (mkF m 130 #[.val (.long q0), .second, .val (.long q1), .second, .val (.long q2), .second, .val (.int p3), .val (.int p4), .val (.int p5), .val (.int (p3 &&& (2147483647 : Int32))), .val (.int (p4 &&& (2147483647 : Int32))), .val (.int (p5 &&& (2147483647 : Int32))), .val (.long (own_wf q0 (p3 &&& (2147483647 : Int32)))), .second, .val (.long (own_wf q1 (p4 &&& (2147483647 : Int32)))), .second, .val (.long (own_wf q2 (p5 &&& (2147483647 : Int32)))), .second, .val (.ref b7), .val (.ref b8), .val (.ref b15), .val (.ref b23), .val (.long v32), .second] [(.ref b23), (.ref b15)])) rfl (by rw [hml]; rfl) (Steps.refl _) (argsL := [(.ref b23)]) (rest := []) (lenOf pd_5 rfl) rfl (by show 2 * 0 + _ ≤ _; exact Nat.le_of_eq rfl) (hb hby at_130) (fun _ _ => ⟨rfl, e30, (by decide : 4 + 0 ≤ _), (by decide : 13 + 0 ≤ _)⟩)
  dsimp only [Pt.U, Pt.locs, Pt.cells, Pt.slots] at X39 l39 y39 z39 st39 hQ39
  subst l39 y39 z39
  obtain ⟨rfl, N39q, e39⟩ := hQ39
  have N39 := Fr.app N30 N39q
  obtain ⟨v41, hv41⟩ : ∃ z : Int32, z = if ((((0 : Int64) + ((f14 0) * ((f31 0).toInt64))) + ((f14 1) * ((f31 1).toInt64))) + ((f14 2) * ((f31 2).toInt64))) = v32 then (1 : Int32) else (0 : Int32) := ⟨_, rfl⟩
  obtain ⟨fs, hr, hrun, hended, hW, hsame⟩ := X39.leave (v := some (.int (nar .boolean v41))) (fun h => by rw [Bd.returns] at h; cases h)
  refine ⟨_, _, pre0 _ ?_, hrun, hended, _, _, rfl, ?_, ⟨_, rfl⟩, hW, hsame.mono (by decide) (by decide)⟩
  · show Steps p.tables e below (s₁.setTop (mkF m 0 #[.val (.long q0), .second, .val (.long q1), .second, .val (.long q2), .second, .val (.int p3), .val (.int p4), .val (.int p5), .unset, .unset, .unset, .unset, .unset, .unset, .unset, .unset, .unset, .unset, .unset, .unset, .unset, .unset, .unset] [])) _
    refine XS.iload X0.here hx rfl (hb hby at_0) rfl ?_
    show Steps p.tables e below (s₁.setTop (mkF m 2 #[.val (.long q0), .second, .val (.long q1), .second, .val (.long q2), .second, .val (.int p3), .val (.int p4), .val (.int p5), .unset, .unset, .unset, .unset, .unset, .unset, .unset, .unset, .unset, .unset, .unset, .unset, .unset, .unset, .unset] [(.int p3)])) _
    refine X0.ldcInt hx hown (mvT hZ (hw _ (List.mem_of_getElem? (i := 0) rfl))) (g := (mkF m 2 #[.val (.long q0), .second, .val (.long q1), .second, .val (.long q2), .second, .val (.int p3), .val (.int p4), .val (.int p5), .unset, .unset, .unset, .unset, .unset, .unset, .unset, .unset, .unset, .unset, .unset, .unset, .unset, .unset, .unset] [(.int p3)])) rfl (hb hby at_2) _ ?_
    show Steps p.tables e below (s₁.setTop (mkF m 4 #[.val (.long q0), .second, .val (.long q1), .second, .val (.long q2), .second, .val (.int p3), .val (.int p4), .val (.int p5), .unset, .unset, .unset, .unset, .unset, .unset, .unset, .unset, .unset, .unset, .unset, .unset, .unset, .unset, .unset] [(.int (2147483647 : Int32)), (.int p3)])) _
    refine XS.iand X0.here hx rfl (hb hby at_4) rfl ?_
    show Steps p.tables e below (s₁.setTop (mkF m 5 #[.val (.long q0), .second, .val (.long q1), .second, .val (.long q2), .second, .val (.int p3), .val (.int p4), .val (.int p5), .unset, .unset, .unset, .unset, .unset, .unset, .unset, .unset, .unset, .unset, .unset, .unset, .unset, .unset, .unset] [(.int (p3 &&& (2147483647 : Int32)))])) _
    refine XS.istore X0.here hx rfl (hb hby at_5) rfl (l' := #[.val (.long q0), .second, .val (.long q1), .second, .val (.long q2), .second, .val (.int p3), .val (.int p4), .val (.int p5), .val (.int (p3 &&& (2147483647 : Int32))), .unset, .unset, .unset, .unset, .unset, .unset, .unset, .unset, .unset, .unset, .unset, .unset, .unset, .unset]) rfl ?_
    show Steps p.tables e below (s₁.setTop (mkF m 7 #[.val (.long q0), .second, .val (.long q1), .second, .val (.long q2), .second, .val (.int p3), .val (.int p4), .val (.int p5), .val (.int (p3 &&& (2147483647 : Int32))), .unset, .unset, .unset, .unset, .unset, .unset, .unset, .unset, .unset, .unset, .unset, .unset, .unset, .unset] [])) _
    refine XS.iload X0.here hx rfl (hb hby at_7) rfl ?_
    show Steps p.tables e below (s₁.setTop (mkF m 9 #[.val (.long q0), .second, .val (.long q1), .second, .val (.long q2), .second, .val (.int p3), .val (.int p4), .val (.int p5), .val (.int (p3 &&& (2147483647 : Int32))), .unset, .unset, .unset, .unset, .unset, .unset, .unset, .unset, .unset, .unset, .unset, .unset, .unset, .unset] [(.int p4)])) _
    refine X0.ldcInt hx hown (mvT hZ (hw _ (List.mem_of_getElem? (i := 0) rfl))) (g := (mkF m 9 #[.val (.long q0), .second, .val (.long q1), .second, .val (.long q2), .second, .val (.int p3), .val (.int p4), .val (.int p5), .val (.int (p3 &&& (2147483647 : Int32))), .unset, .unset, .unset, .unset, .unset, .unset, .unset, .unset, .unset, .unset, .unset, .unset, .unset, .unset] [(.int p4)])) rfl (hb hby at_9) _ ?_
    show Steps p.tables e below (s₁.setTop (mkF m 11 #[.val (.long q0), .second, .val (.long q1), .second, .val (.long q2), .second, .val (.int p3), .val (.int p4), .val (.int p5), .val (.int (p3 &&& (2147483647 : Int32))), .unset, .unset, .unset, .unset, .unset, .unset, .unset, .unset, .unset, .unset, .unset, .unset, .unset, .unset] [(.int (2147483647 : Int32)), (.int p4)])) _
    refine XS.iand X0.here hx rfl (hb hby at_11) rfl ?_
    show Steps p.tables e below (s₁.setTop (mkF m 12 #[.val (.long q0), .second, .val (.long q1), .second, .val (.long q2), .second, .val (.int p3), .val (.int p4), .val (.int p5), .val (.int (p3 &&& (2147483647 : Int32))), .unset, .unset, .unset, .unset, .unset, .unset, .unset, .unset, .unset, .unset, .unset, .unset, .unset, .unset] [(.int (p4 &&& (2147483647 : Int32)))])) _
    refine XS.istore X0.here hx rfl (hb hby at_12) rfl (l' := #[.val (.long q0), .second, .val (.long q1), .second, .val (.long q2), .second, .val (.int p3), .val (.int p4), .val (.int p5), .val (.int (p3 &&& (2147483647 : Int32))), .val (.int (p4 &&& (2147483647 : Int32))), .unset, .unset, .unset, .unset, .unset, .unset, .unset, .unset, .unset, .unset, .unset, .unset, .unset]) rfl ?_
    show Steps p.tables e below (s₁.setTop (mkF m 14 #[.val (.long q0), .second, .val (.long q1), .second, .val (.long q2), .second, .val (.int p3), .val (.int p4), .val (.int p5), .val (.int (p3 &&& (2147483647 : Int32))), .val (.int (p4 &&& (2147483647 : Int32))), .unset, .unset, .unset, .unset, .unset, .unset, .unset, .unset, .unset, .unset, .unset, .unset, .unset] [])) _
    refine XS.iload X0.here hx rfl (hb hby at_14) rfl ?_
    show Steps p.tables e below (s₁.setTop (mkF m 16 #[.val (.long q0), .second, .val (.long q1), .second, .val (.long q2), .second, .val (.int p3), .val (.int p4), .val (.int p5), .val (.int (p3 &&& (2147483647 : Int32))), .val (.int (p4 &&& (2147483647 : Int32))), .unset, .unset, .unset, .unset, .unset, .unset, .unset, .unset, .unset, .unset, .unset, .unset, .unset] [(.int p5)])) _
    refine X0.ldcInt hx hown (mvT hZ (hw _ (List.mem_of_getElem? (i := 0) rfl))) (g := (mkF m 16 #[.val (.long q0), .second, .val (.long q1), .second, .val (.long q2), .second, .val (.int p3), .val (.int p4), .val (.int p5), .val (.int (p3 &&& (2147483647 : Int32))), .val (.int (p4 &&& (2147483647 : Int32))), .unset, .unset, .unset, .unset, .unset, .unset, .unset, .unset, .unset, .unset, .unset, .unset, .unset] [(.int p5)])) rfl (hb hby at_16) _ ?_
    show Steps p.tables e below (s₁.setTop (mkF m 18 #[.val (.long q0), .second, .val (.long q1), .second, .val (.long q2), .second, .val (.int p3), .val (.int p4), .val (.int p5), .val (.int (p3 &&& (2147483647 : Int32))), .val (.int (p4 &&& (2147483647 : Int32))), .unset, .unset, .unset, .unset, .unset, .unset, .unset, .unset, .unset, .unset, .unset, .unset, .unset] [(.int (2147483647 : Int32)), (.int p5)])) _
    refine XS.iand X0.here hx rfl (hb hby at_18) rfl ?_
    show Steps p.tables e below (s₁.setTop (mkF m 19 #[.val (.long q0), .second, .val (.long q1), .second, .val (.long q2), .second, .val (.int p3), .val (.int p4), .val (.int p5), .val (.int (p3 &&& (2147483647 : Int32))), .val (.int (p4 &&& (2147483647 : Int32))), .unset, .unset, .unset, .unset, .unset, .unset, .unset, .unset, .unset, .unset, .unset, .unset, .unset] [(.int (p5 &&& (2147483647 : Int32)))])) _
    refine XS.istore X0.here hx rfl (hb hby at_19) rfl (l' := #[.val (.long q0), .second, .val (.long q1), .second, .val (.long q2), .second, .val (.int p3), .val (.int p4), .val (.int p5), .val (.int (p3 &&& (2147483647 : Int32))), .val (.int (p4 &&& (2147483647 : Int32))), .val (.int (p5 &&& (2147483647 : Int32))), .unset, .unset, .unset, .unset, .unset, .unset, .unset, .unset, .unset, .unset, .unset, .unset]) rfl ?_
    show Steps p.tables e below (s₁.setTop (mkF m 21 #[.val (.long q0), .second, .val (.long q1), .second, .val (.long q2), .second, .val (.int p3), .val (.int p4), .val (.int p5), .val (.int (p3 &&& (2147483647 : Int32))), .val (.int (p4 &&& (2147483647 : Int32))), .val (.int (p5 &&& (2147483647 : Int32))), .unset, .unset, .unset, .unset, .unset, .unset, .unset, .unset, .unset, .unset, .unset, .unset] [])) _
    refine XS.lloadN X0.here hx rfl (hb hby at_21) rfl ?_
    show Steps p.tables e below (s₁.setTop (mkF m 22 #[.val (.long q0), .second, .val (.long q1), .second, .val (.long q2), .second, .val (.int p3), .val (.int p4), .val (.int p5), .val (.int (p3 &&& (2147483647 : Int32))), .val (.int (p4 &&& (2147483647 : Int32))), .val (.int (p5 &&& (2147483647 : Int32))), .unset, .unset, .unset, .unset, .unset, .unset, .unset, .unset, .unset, .unset, .unset, .unset] [(.long q0)])) _
    refine XS.iload X0.here hx rfl (hb hby at_22) rfl ?_
    show Steps p.tables e below (s₁.setTop (mkF m 24 #[.val (.long q0), .second, .val (.long q1), .second, .val (.long q2), .second, .val (.int p3), .val (.int p4), .val (.int p5), .val (.int (p3 &&& (2147483647 : Int32))), .val (.int (p4 &&& (2147483647 : Int32))), .val (.int (p5 &&& (2147483647 : Int32))), .unset, .unset, .unset, .unset, .unset, .unset, .unset, .unset, .unset, .unset, .unset, .unset] [(.int (p3 &&& (2147483647 : Int32))), (.long q0)])) _
    refine st2 _ ?_
    show Steps p.tables e below (T2.setTop (mkF m 27 #[.val (.long q0), .second, .val (.long q1), .second, .val (.long q2), .second, .val (.int p3), .val (.int p4), .val (.int p5), .val (.int (p3 &&& (2147483647 : Int32))), .val (.int (p4 &&& (2147483647 : Int32))), .val (.int (p5 &&& (2147483647 : Int32))), .unset, .unset, .unset, .unset, .unset, .unset, .unset, .unset, .unset, .unset, .unset, .unset] [(.long (own_wf q0 (p3 &&& (2147483647 : Int32))))])) _
    refine XS.lstore X2.here hx rfl (hb hby at_27) rfl (l' := #[.val (.long q0), .second, .val (.long q1), .second, .val (.long q2), .second, .val (.int p3), .val (.int p4), .val (.int p5), .val (.int (p3 &&& (2147483647 : Int32))), .val (.int (p4 &&& (2147483647 : Int32))), .val (.int (p5 &&& (2147483647 : Int32))), .val (.long (own_wf q0 (p3 &&& (2147483647 : Int32)))), .second, .unset, .unset, .unset, .unset, .unset, .unset, .unset, .unset, .unset, .unset]) rfl ?_
    show Steps p.tables e below (T2.setTop (mkF m 29 #[.val (.long q0), .second, .val (.long q1), .second, .val (.long q2), .second, .val (.int p3), .val (.int p4), .val (.int p5), .val (.int (p3 &&& (2147483647 : Int32))), .val (.int (p4 &&& (2147483647 : Int32))), .val (.int (p5 &&& (2147483647 : Int32))), .val (.long (own_wf q0 (p3 &&& (2147483647 : Int32)))), .second, .unset, .unset, .unset, .unset, .unset, .unset, .unset, .unset, .unset, .unset] [])) _
    refine XS.lloadN X2.here hx rfl (hb hby at_29) rfl ?_
    show Steps p.tables e below (T2.setTop (mkF m 30 #[.val (.long q0), .second, .val (.long q1), .second, .val (.long q2), .second, .val (.int p3), .val (.int p4), .val (.int p5), .val (.int (p3 &&& (2147483647 : Int32))), .val (.int (p4 &&& (2147483647 : Int32))), .val (.int (p5 &&& (2147483647 : Int32))), .val (.long (own_wf q0 (p3 &&& (2147483647 : Int32)))), .second, .unset, .unset, .unset, .unset, .unset, .unset, .unset, .unset, .unset, .unset] [(.long q1)])) _
    refine XS.iload X2.here hx rfl (hb hby at_30) rfl ?_
    show Steps p.tables e below (T2.setTop (mkF m 32 #[.val (.long q0), .second, .val (.long q1), .second, .val (.long q2), .second, .val (.int p3), .val (.int p4), .val (.int p5), .val (.int (p3 &&& (2147483647 : Int32))), .val (.int (p4 &&& (2147483647 : Int32))), .val (.int (p5 &&& (2147483647 : Int32))), .val (.long (own_wf q0 (p3 &&& (2147483647 : Int32)))), .second, .unset, .unset, .unset, .unset, .unset, .unset, .unset, .unset, .unset, .unset] [(.int (p4 &&& (2147483647 : Int32))), (.long q1)])) _
    refine st4 _ ?_
    show Steps p.tables e below (T4.setTop (mkF m 35 #[.val (.long q0), .second, .val (.long q1), .second, .val (.long q2), .second, .val (.int p3), .val (.int p4), .val (.int p5), .val (.int (p3 &&& (2147483647 : Int32))), .val (.int (p4 &&& (2147483647 : Int32))), .val (.int (p5 &&& (2147483647 : Int32))), .val (.long (own_wf q0 (p3 &&& (2147483647 : Int32)))), .second, .unset, .unset, .unset, .unset, .unset, .unset, .unset, .unset, .unset, .unset] [(.long (own_wf q1 (p4 &&& (2147483647 : Int32))))])) _
    refine XS.lstore X4.here hx rfl (hb hby at_35) rfl (l' := #[.val (.long q0), .second, .val (.long q1), .second, .val (.long q2), .second, .val (.int p3), .val (.int p4), .val (.int p5), .val (.int (p3 &&& (2147483647 : Int32))), .val (.int (p4 &&& (2147483647 : Int32))), .val (.int (p5 &&& (2147483647 : Int32))), .val (.long (own_wf q0 (p3 &&& (2147483647 : Int32)))), .second, .val (.long (own_wf q1 (p4 &&& (2147483647 : Int32)))), .second, .unset, .unset, .unset, .unset, .unset, .unset, .unset, .unset]) rfl ?_
    show Steps p.tables e below (T4.setTop (mkF m 37 #[.val (.long q0), .second, .val (.long q1), .second, .val (.long q2), .second, .val (.int p3), .val (.int p4), .val (.int p5), .val (.int (p3 &&& (2147483647 : Int32))), .val (.int (p4 &&& (2147483647 : Int32))), .val (.int (p5 &&& (2147483647 : Int32))), .val (.long (own_wf q0 (p3 &&& (2147483647 : Int32)))), .second, .val (.long (own_wf q1 (p4 &&& (2147483647 : Int32)))), .second, .unset, .unset, .unset, .unset, .unset, .unset, .unset, .unset] [])) _
    refine XS.lload X4.here hx rfl (hb hby at_37) rfl ?_
    show Steps p.tables e below (T4.setTop (mkF m 39 #[.val (.long q0), .second, .val (.long q1), .second, .val (.long q2), .second, .val (.int p3), .val (.int p4), .val (.int p5), .val (.int (p3 &&& (2147483647 : Int32))), .val (.int (p4 &&& (2147483647 : Int32))), .val (.int (p5 &&& (2147483647 : Int32))), .val (.long (own_wf q0 (p3 &&& (2147483647 : Int32)))), .second, .val (.long (own_wf q1 (p4 &&& (2147483647 : Int32)))), .second, .unset, .unset, .unset, .unset, .unset, .unset, .unset, .unset] [(.long q2)])) _
    refine XS.iload X4.here hx rfl (hb hby at_39) rfl ?_
    show Steps p.tables e below (T4.setTop (mkF m 41 #[.val (.long q0), .second, .val (.long q1), .second, .val (.long q2), .second, .val (.int p3), .val (.int p4), .val (.int p5), .val (.int (p3 &&& (2147483647 : Int32))), .val (.int (p4 &&& (2147483647 : Int32))), .val (.int (p5 &&& (2147483647 : Int32))), .val (.long (own_wf q0 (p3 &&& (2147483647 : Int32)))), .second, .val (.long (own_wf q1 (p4 &&& (2147483647 : Int32)))), .second, .unset, .unset, .unset, .unset, .unset, .unset, .unset, .unset] [(.int (p5 &&& (2147483647 : Int32))), (.long q2)])) _
    refine st6 _ ?_
    show Steps p.tables e below (T6.setTop (mkF m 44 #[.val (.long q0), .second, .val (.long q1), .second, .val (.long q2), .second, .val (.int p3), .val (.int p4), .val (.int p5), .val (.int (p3 &&& (2147483647 : Int32))), .val (.int (p4 &&& (2147483647 : Int32))), .val (.int (p5 &&& (2147483647 : Int32))), .val (.long (own_wf q0 (p3 &&& (2147483647 : Int32)))), .second, .val (.long (own_wf q1 (p4 &&& (2147483647 : Int32)))), .second, .unset, .unset, .unset, .unset, .unset, .unset, .unset, .unset] [(.long (own_wf q2 (p5 &&& (2147483647 : Int32))))])) _
    refine XS.lstore X6.here hx rfl (hb hby at_44) rfl (l' := #[.val (.long q0), .second, .val (.long q1), .second, .val (.long q2), .second, .val (.int p3), .val (.int p4), .val (.int p5), .val (.int (p3 &&& (2147483647 : Int32))), .val (.int (p4 &&& (2147483647 : Int32))), .val (.int (p5 &&& (2147483647 : Int32))), .val (.long (own_wf q0 (p3 &&& (2147483647 : Int32)))), .second, .val (.long (own_wf q1 (p4 &&& (2147483647 : Int32)))), .second, .val (.long (own_wf q2 (p5 &&& (2147483647 : Int32)))), .second, .unset, .unset, .unset, .unset, .unset, .unset]) rfl ?_
    show Steps p.tables e below (T6.setTop (mkF m 46 #[.val (.long q0), .second, .val (.long q1), .second, .val (.long q2), .second, .val (.int p3), .val (.int p4), .val (.int p5), .val (.int (p3 &&& (2147483647 : Int32))), .val (.int (p4 &&& (2147483647 : Int32))), .val (.int (p5 &&& (2147483647 : Int32))), .val (.long (own_wf q0 (p3 &&& (2147483647 : Int32)))), .second, .val (.long (own_wf q1 (p4 &&& (2147483647 : Int32)))), .second, .val (.long (own_wf q2 (p5 &&& (2147483647 : Int32)))), .second, .unset, .unset, .unset, .unset, .unset, .unset] [])) _
    refine XS.iconst X6.here hx rfl (hb hby at_46) ?_
    show Steps p.tables e below (T6.setTop (mkF m 47 #[.val (.long q0), .second, .val (.long q1), .second, .val (.long q2), .second, .val (.int p3), .val (.int p4), .val (.int p5), .val (.int (p3 &&& (2147483647 : Int32))), .val (.int (p4 &&& (2147483647 : Int32))), .val (.int (p5 &&& (2147483647 : Int32))), .val (.long (own_wf q0 (p3 &&& (2147483647 : Int32)))), .second, .val (.long (own_wf q1 (p4 &&& (2147483647 : Int32)))), .second, .val (.long (own_wf q2 (p5 &&& (2147483647 : Int32)))), .second, .unset, .unset, .unset, .unset, .unset, .unset] [(.int (3 : Int32))])) _
    refine st7 _ ?_
    show Steps p.tables e below (T7.setTop (mkF m 49 #[.val (.long q0), .second, .val (.long q1), .second, .val (.long q2), .second, .val (.int p3), .val (.int p4), .val (.int p5), .val (.int (p3 &&& (2147483647 : Int32))), .val (.int (p4 &&& (2147483647 : Int32))), .val (.int (p5 &&& (2147483647 : Int32))), .val (.long (own_wf q0 (p3 &&& (2147483647 : Int32)))), .second, .val (.long (own_wf q1 (p4 &&& (2147483647 : Int32)))), .second, .val (.long (own_wf q2 (p5 &&& (2147483647 : Int32)))), .second, .unset, .unset, .unset, .unset, .unset, .unset] [(.ref b7)])) _
    refine XS.astore X7.here hx rfl (hb hby at_49) rfl rfl (l' := #[.val (.long q0), .second, .val (.long q1), .second, .val (.long q2), .second, .val (.int p3), .val (.int p4), .val (.int p5), .val (.int (p3 &&& (2147483647 : Int32))), .val (.int (p4 &&& (2147483647 : Int32))), .val (.int (p5 &&& (2147483647 : Int32))), .val (.long (own_wf q0 (p3 &&& (2147483647 : Int32)))), .second, .val (.long (own_wf q1 (p4 &&& (2147483647 : Int32)))), .second, .val (.long (own_wf q2 (p5 &&& (2147483647 : Int32)))), .second, .val (.ref b7), .unset, .unset, .unset, .unset, .unset]) rfl ?_
    show Steps p.tables e below (T7.setTop (mkF m 51 #[.val (.long q0), .second, .val (.long q1), .second, .val (.long q2), .second, .val (.int p3), .val (.int p4), .val (.int p5), .val (.int (p3 &&& (2147483647 : Int32))), .val (.int (p4 &&& (2147483647 : Int32))), .val (.int (p5 &&& (2147483647 : Int32))), .val (.long (own_wf q0 (p3 &&& (2147483647 : Int32)))), .second, .val (.long (own_wf q1 (p4 &&& (2147483647 : Int32)))), .second, .val (.long (own_wf q2 (p5 &&& (2147483647 : Int32)))), .second, .val (.ref b7), .unset, .unset, .unset, .unset, .unset] [])) _
    refine XS.iconst X7.here hx rfl (hb hby at_51) ?_
    show Steps p.tables e below (T7.setTop (mkF m 52 #[.val (.long q0), .second, .val (.long q1), .second, .val (.long q2), .second, .val (.int p3), .val (.int p4), .val (.int p5), .val (.int (p3 &&& (2147483647 : Int32))), .val (.int (p4 &&& (2147483647 : Int32))), .val (.int (p5 &&& (2147483647 : Int32))), .val (.long (own_wf q0 (p3 &&& (2147483647 : Int32)))), .second, .val (.long (own_wf q1 (p4 &&& (2147483647 : Int32)))), .second, .val (.long (own_wf q2 (p5 &&& (2147483647 : Int32)))), .second, .val (.ref b7), .unset, .unset, .unset, .unset, .unset] [(.int (3 : Int32))])) _
    refine st8 _ ?_
    show Steps p.tables e below (T8.setTop (mkF m 54 #[.val (.long q0), .second, .val (.long q1), .second, .val (.long q2), .second, .val (.int p3), .val (.int p4), .val (.int p5), .val (.int (p3 &&& (2147483647 : Int32))), .val (.int (p4 &&& (2147483647 : Int32))), .val (.int (p5 &&& (2147483647 : Int32))), .val (.long (own_wf q0 (p3 &&& (2147483647 : Int32)))), .second, .val (.long (own_wf q1 (p4 &&& (2147483647 : Int32)))), .second, .val (.long (own_wf q2 (p5 &&& (2147483647 : Int32)))), .second, .val (.ref b7), .unset, .unset, .unset, .unset, .unset] [(.ref b8)])) _
    refine XS.dup X8.here hx rfl (hb hby at_54) rfl rfl ?_
    show Steps p.tables e below (T8.setTop (mkF m 55 #[.val (.long q0), .second, .val (.long q1), .second, .val (.long q2), .second, .val (.int p3), .val (.int p4), .val (.int p5), .val (.int (p3 &&& (2147483647 : Int32))), .val (.int (p4 &&& (2147483647 : Int32))), .val (.int (p5 &&& (2147483647 : Int32))), .val (.long (own_wf q0 (p3 &&& (2147483647 : Int32)))), .second, .val (.long (own_wf q1 (p4 &&& (2147483647 : Int32)))), .second, .val (.long (own_wf q2 (p5 &&& (2147483647 : Int32)))), .second, .val (.ref b7), .unset, .unset, .unset, .unset, .unset] [(.ref b8), (.ref b8)])) _
    refine XS.iconst X8.here hx rfl (hb hby at_55) ?_
    show Steps p.tables e below (T8.setTop (mkF m 56 #[.val (.long q0), .second, .val (.long q1), .second, .val (.long q2), .second, .val (.int p3), .val (.int p4), .val (.int p5), .val (.int (p3 &&& (2147483647 : Int32))), .val (.int (p4 &&& (2147483647 : Int32))), .val (.int (p5 &&& (2147483647 : Int32))), .val (.long (own_wf q0 (p3 &&& (2147483647 : Int32)))), .second, .val (.long (own_wf q1 (p4 &&& (2147483647 : Int32)))), .second, .val (.long (own_wf q2 (p5 &&& (2147483647 : Int32)))), .second, .val (.ref b7), .unset, .unset, .unset, .unset, .unset] [(.int (0 : Int32)), (.ref b8), (.ref b8)])) _
    refine XS.lload X8.here hx rfl (hb hby at_56) rfl ?_
    show Steps p.tables e below (T8.setTop (mkF m 58 #[.val (.long q0), .second, .val (.long q1), .second, .val (.long q2), .second, .val (.int p3), .val (.int p4), .val (.int p5), .val (.int (p3 &&& (2147483647 : Int32))), .val (.int (p4 &&& (2147483647 : Int32))), .val (.int (p5 &&& (2147483647 : Int32))), .val (.long (own_wf q0 (p3 &&& (2147483647 : Int32)))), .second, .val (.long (own_wf q1 (p4 &&& (2147483647 : Int32)))), .second, .val (.long (own_wf q2 (p5 &&& (2147483647 : Int32)))), .second, .val (.ref b7), .unset, .unset, .unset, .unset, .unset] [(.long (own_wf q0 (p3 &&& (2147483647 : Int32)))), (.int (0 : Int32)), (.ref b8), (.ref b8)])) _
    refine st9 _ ?_
    show Steps p.tables e below (T9.setTop (mkF m 59 #[.val (.long q0), .second, .val (.long q1), .second, .val (.long q2), .second, .val (.int p3), .val (.int p4), .val (.int p5), .val (.int (p3 &&& (2147483647 : Int32))), .val (.int (p4 &&& (2147483647 : Int32))), .val (.int (p5 &&& (2147483647 : Int32))), .val (.long (own_wf q0 (p3 &&& (2147483647 : Int32)))), .second, .val (.long (own_wf q1 (p4 &&& (2147483647 : Int32)))), .second, .val (.long (own_wf q2 (p5 &&& (2147483647 : Int32)))), .second, .val (.ref b7), .unset, .unset, .unset, .unset, .unset] [(.ref b8)])) _
    refine XS.dup X9.here hx rfl (hb hby at_59) rfl rfl ?_
    show Steps p.tables e below (T9.setTop (mkF m 60 #[.val (.long q0), .second, .val (.long q1), .second, .val (.long q2), .second, .val (.int p3), .val (.int p4), .val (.int p5), .val (.int (p3 &&& (2147483647 : Int32))), .val (.int (p4 &&& (2147483647 : Int32))), .val (.int (p5 &&& (2147483647 : Int32))), .val (.long (own_wf q0 (p3 &&& (2147483647 : Int32)))), .second, .val (.long (own_wf q1 (p4 &&& (2147483647 : Int32)))), .second, .val (.long (own_wf q2 (p5 &&& (2147483647 : Int32)))), .second, .val (.ref b7), .unset, .unset, .unset, .unset, .unset] [(.ref b8), (.ref b8)])) _
    refine XS.iconst X9.here hx rfl (hb hby at_60) ?_
    show Steps p.tables e below (T9.setTop (mkF m 61 #[.val (.long q0), .second, .val (.long q1), .second, .val (.long q2), .second, .val (.int p3), .val (.int p4), .val (.int p5), .val (.int (p3 &&& (2147483647 : Int32))), .val (.int (p4 &&& (2147483647 : Int32))), .val (.int (p5 &&& (2147483647 : Int32))), .val (.long (own_wf q0 (p3 &&& (2147483647 : Int32)))), .second, .val (.long (own_wf q1 (p4 &&& (2147483647 : Int32)))), .second, .val (.long (own_wf q2 (p5 &&& (2147483647 : Int32)))), .second, .val (.ref b7), .unset, .unset, .unset, .unset, .unset] [(.int (1 : Int32)), (.ref b8), (.ref b8)])) _
    refine XS.lload X9.here hx rfl (hb hby at_61) rfl ?_
    show Steps p.tables e below (T9.setTop (mkF m 63 #[.val (.long q0), .second, .val (.long q1), .second, .val (.long q2), .second, .val (.int p3), .val (.int p4), .val (.int p5), .val (.int (p3 &&& (2147483647 : Int32))), .val (.int (p4 &&& (2147483647 : Int32))), .val (.int (p5 &&& (2147483647 : Int32))), .val (.long (own_wf q0 (p3 &&& (2147483647 : Int32)))), .second, .val (.long (own_wf q1 (p4 &&& (2147483647 : Int32)))), .second, .val (.long (own_wf q2 (p5 &&& (2147483647 : Int32)))), .second, .val (.ref b7), .unset, .unset, .unset, .unset, .unset] [(.long (own_wf q1 (p4 &&& (2147483647 : Int32)))), (.int (1 : Int32)), (.ref b8), (.ref b8)])) _
    refine st11 _ ?_
    show Steps p.tables e below (T11.setTop (mkF m 64 #[.val (.long q0), .second, .val (.long q1), .second, .val (.long q2), .second, .val (.int p3), .val (.int p4), .val (.int p5), .val (.int (p3 &&& (2147483647 : Int32))), .val (.int (p4 &&& (2147483647 : Int32))), .val (.int (p5 &&& (2147483647 : Int32))), .val (.long (own_wf q0 (p3 &&& (2147483647 : Int32)))), .second, .val (.long (own_wf q1 (p4 &&& (2147483647 : Int32)))), .second, .val (.long (own_wf q2 (p5 &&& (2147483647 : Int32)))), .second, .val (.ref b7), .unset, .unset, .unset, .unset, .unset] [(.ref b8)])) _
    refine XS.dup X11.here hx rfl (hb hby at_64) rfl rfl ?_
    show Steps p.tables e below (T11.setTop (mkF m 65 #[.val (.long q0), .second, .val (.long q1), .second, .val (.long q2), .second, .val (.int p3), .val (.int p4), .val (.int p5), .val (.int (p3 &&& (2147483647 : Int32))), .val (.int (p4 &&& (2147483647 : Int32))), .val (.int (p5 &&& (2147483647 : Int32))), .val (.long (own_wf q0 (p3 &&& (2147483647 : Int32)))), .second, .val (.long (own_wf q1 (p4 &&& (2147483647 : Int32)))), .second, .val (.long (own_wf q2 (p5 &&& (2147483647 : Int32)))), .second, .val (.ref b7), .unset, .unset, .unset, .unset, .unset] [(.ref b8), (.ref b8)])) _
    refine XS.iconst X11.here hx rfl (hb hby at_65) ?_
    show Steps p.tables e below (T11.setTop (mkF m 66 #[.val (.long q0), .second, .val (.long q1), .second, .val (.long q2), .second, .val (.int p3), .val (.int p4), .val (.int p5), .val (.int (p3 &&& (2147483647 : Int32))), .val (.int (p4 &&& (2147483647 : Int32))), .val (.int (p5 &&& (2147483647 : Int32))), .val (.long (own_wf q0 (p3 &&& (2147483647 : Int32)))), .second, .val (.long (own_wf q1 (p4 &&& (2147483647 : Int32)))), .second, .val (.long (own_wf q2 (p5 &&& (2147483647 : Int32)))), .second, .val (.ref b7), .unset, .unset, .unset, .unset, .unset] [(.int (2 : Int32)), (.ref b8), (.ref b8)])) _
    refine XS.lload X11.here hx rfl (hb hby at_66) rfl ?_
    show Steps p.tables e below (T11.setTop (mkF m 68 #[.val (.long q0), .second, .val (.long q1), .second, .val (.long q2), .second, .val (.int p3), .val (.int p4), .val (.int p5), .val (.int (p3 &&& (2147483647 : Int32))), .val (.int (p4 &&& (2147483647 : Int32))), .val (.int (p5 &&& (2147483647 : Int32))), .val (.long (own_wf q0 (p3 &&& (2147483647 : Int32)))), .second, .val (.long (own_wf q1 (p4 &&& (2147483647 : Int32)))), .second, .val (.long (own_wf q2 (p5 &&& (2147483647 : Int32)))), .second, .val (.ref b7), .unset, .unset, .unset, .unset, .unset] [(.long (own_wf q2 (p5 &&& (2147483647 : Int32)))), (.int (2 : Int32)), (.ref b8), (.ref b8)])) _
    refine st13 _ ?_
    show Steps p.tables e below (T13.setTop (mkF m 69 #[.val (.long q0), .second, .val (.long q1), .second, .val (.long q2), .second, .val (.int p3), .val (.int p4), .val (.int p5), .val (.int (p3 &&& (2147483647 : Int32))), .val (.int (p4 &&& (2147483647 : Int32))), .val (.int (p5 &&& (2147483647 : Int32))), .val (.long (own_wf q0 (p3 &&& (2147483647 : Int32)))), .second, .val (.long (own_wf q1 (p4 &&& (2147483647 : Int32)))), .second, .val (.long (own_wf q2 (p5 &&& (2147483647 : Int32)))), .second, .val (.ref b7), .unset, .unset, .unset, .unset, .unset] [(.ref b8)])) _
    refine XS.astore X13.here hx rfl (hb hby at_69) rfl rfl (l' := #[.val (.long q0), .second, .val (.long q1), .second, .val (.long q2), .second, .val (.int p3), .val (.int p4), .val (.int p5), .val (.int (p3 &&& (2147483647 : Int32))), .val (.int (p4 &&& (2147483647 : Int32))), .val (.int (p5 &&& (2147483647 : Int32))), .val (.long (own_wf q0 (p3 &&& (2147483647 : Int32)))), .second, .val (.long (own_wf q1 (p4 &&& (2147483647 : Int32)))), .second, .val (.long (own_wf q2 (p5 &&& (2147483647 : Int32)))), .second, .val (.ref b7), .val (.ref b8), .unset, .unset, .unset, .unset]) rfl ?_
    show Steps p.tables e below (T13.setTop (mkF m 71 #[.val (.long q0), .second, .val (.long q1), .second, .val (.long q2), .second, .val (.int p3), .val (.int p4), .val (.int p5), .val (.int (p3 &&& (2147483647 : Int32))), .val (.int (p4 &&& (2147483647 : Int32))), .val (.int (p5 &&& (2147483647 : Int32))), .val (.long (own_wf q0 (p3 &&& (2147483647 : Int32)))), .second, .val (.long (own_wf q1 (p4 &&& (2147483647 : Int32)))), .second, .val (.long (own_wf q2 (p5 &&& (2147483647 : Int32)))), .second, .val (.ref b7), .val (.ref b8), .unset, .unset, .unset, .unset] [])) _
    refine st15 _ ?_
    show Steps p.tables e below (T15.setTop (mkF m 74 #[.val (.long q0), .second, .val (.long q1), .second, .val (.long q2), .second, .val (.int p3), .val (.int p4), .val (.int p5), .val (.int (p3 &&& (2147483647 : Int32))), .val (.int (p4 &&& (2147483647 : Int32))), .val (.int (p5 &&& (2147483647 : Int32))), .val (.long (own_wf q0 (p3 &&& (2147483647 : Int32)))), .second, .val (.long (own_wf q1 (p4 &&& (2147483647 : Int32)))), .second, .val (.long (own_wf q2 (p5 &&& (2147483647 : Int32)))), .second, .val (.ref b7), .val (.ref b8), .unset, .unset, .unset, .unset] [(.ref b15)])) _
    refine XS.dup X15.here hx rfl (hb hby at_74) rfl rfl ?_
    show Steps p.tables e below (T15.setTop (mkF m 75 #[.val (.long q0), .second, .val (.long q1), .second, .val (.long q2), .second, .val (.int p3), .val (.int p4), .val (.int p5), .val (.int (p3 &&& (2147483647 : Int32))), .val (.int (p4 &&& (2147483647 : Int32))), .val (.int (p5 &&& (2147483647 : Int32))), .val (.long (own_wf q0 (p3 &&& (2147483647 : Int32)))), .second, .val (.long (own_wf q1 (p4 &&& (2147483647 : Int32)))), .second, .val (.long (own_wf q2 (p5 &&& (2147483647 : Int32)))), .second, .val (.ref b7), .val (.ref b8), .unset, .unset, .unset, .unset] [(.ref b15), (.ref b15)])) _
    refine XS.aload X15.here hx rfl (hb hby at_75) rfl rfl ?_
    show Steps p.tables e below (T15.setTop (mkF m 77 #[.val (.long q0), .second, .val (.long q1), .second, .val (.long q2), .second, .val (.int p3), .val (.int p4), .val (.int p5), .val (.int (p3 &&& (2147483647 : Int32))), .val (.int (p4 &&& (2147483647 : Int32))), .val (.int (p5 &&& (2147483647 : Int32))), .val (.long (own_wf q0 (p3 &&& (2147483647 : Int32)))), .second, .val (.long (own_wf q1 (p4 &&& (2147483647 : Int32)))), .second, .val (.long (own_wf q2 (p5 &&& (2147483647 : Int32)))), .second, .val (.ref b7), .val (.ref b8), .unset, .unset, .unset, .unset] [(.ref b7), (.ref b15), (.ref b15)])) _
    refine XS.aload X15.here hx rfl (hb hby at_77) rfl rfl ?_
    show Steps p.tables e below (T15.setTop (mkF m 79 #[.val (.long q0), .second, .val (.long q1), .second, .val (.long q2), .second, .val (.int p3), .val (.int p4), .val (.int p5), .val (.int (p3 &&& (2147483647 : Int32))), .val (.int (p4 &&& (2147483647 : Int32))), .val (.int (p5 &&& (2147483647 : Int32))), .val (.long (own_wf q0 (p3 &&& (2147483647 : Int32)))), .second, .val (.long (own_wf q1 (p4 &&& (2147483647 : Int32)))), .second, .val (.long (own_wf q2 (p5 &&& (2147483647 : Int32)))), .second, .val (.ref b7), .val (.ref b8), .unset, .unset, .unset, .unset] [(.ref b8), (.ref b7), (.ref b15), (.ref b15)])) _
    refine st17.trans ?_
    show Steps p.tables e below (T17.setTop (mkF m 82 #[.val (.long q0), .second, .val (.long q1), .second, .val (.long q2), .second, .val (.int p3), .val (.int p4), .val (.int p5), .val (.int (p3 &&& (2147483647 : Int32))), .val (.int (p4 &&& (2147483647 : Int32))), .val (.int (p5 &&& (2147483647 : Int32))), .val (.long (own_wf q0 (p3 &&& (2147483647 : Int32)))), .second, .val (.long (own_wf q1 (p4 &&& (2147483647 : Int32)))), .second, .val (.long (own_wf q2 (p5 &&& (2147483647 : Int32)))), .second, .val (.ref b7), .val (.ref b8), .unset, .unset, .unset, .unset] [(.ref b15)])) _
    refine XS.astore X17.here hx rfl (hb hby at_82) rfl rfl (l' := #[.val (.long q0), .second, .val (.long q1), .second, .val (.long q2), .second, .val (.int p3), .val (.int p4), .val (.int p5), .val (.int (p3 &&& (2147483647 : Int32))), .val (.int (p4 &&& (2147483647 : Int32))), .val (.int (p5 &&& (2147483647 : Int32))), .val (.long (own_wf q0 (p3 &&& (2147483647 : Int32)))), .second, .val (.long (own_wf q1 (p4 &&& (2147483647 : Int32)))), .second, .val (.long (own_wf q2 (p5 &&& (2147483647 : Int32)))), .second, .val (.ref b7), .val (.ref b8), .val (.ref b15), .unset, .unset, .unset]) rfl ?_
    show Steps p.tables e below (T17.setTop (mkF m 84 #[.val (.long q0), .second, .val (.long q1), .second, .val (.long q2), .second, .val (.int p3), .val (.int p4), .val (.int p5), .val (.int (p3 &&& (2147483647 : Int32))), .val (.int (p4 &&& (2147483647 : Int32))), .val (.int (p5 &&& (2147483647 : Int32))), .val (.long (own_wf q0 (p3 &&& (2147483647 : Int32)))), .second, .val (.long (own_wf q1 (p4 &&& (2147483647 : Int32)))), .second, .val (.long (own_wf q2 (p5 &&& (2147483647 : Int32)))), .second, .val (.ref b7), .val (.ref b8), .val (.ref b15), .unset, .unset, .unset] [])) _
    refine XS.iconst X17.here hx rfl (hb hby at_84) ?_
    show Steps p.tables e below (T17.setTop (mkF m 85 #[.val (.long q0), .second, .val (.long q1), .second, .val (.long q2), .second, .val (.int p3), .val (.int p4), .val (.int p5), .val (.int (p3 &&& (2147483647 : Int32))), .val (.int (p4 &&& (2147483647 : Int32))), .val (.int (p5 &&& (2147483647 : Int32))), .val (.long (own_wf q0 (p3 &&& (2147483647 : Int32)))), .second, .val (.long (own_wf q1 (p4 &&& (2147483647 : Int32)))), .second, .val (.long (own_wf q2 (p5 &&& (2147483647 : Int32)))), .second, .val (.ref b7), .val (.ref b8), .val (.ref b15), .unset, .unset, .unset] [(.int (3 : Int32))])) _
    refine st23 _ ?_
    show Steps p.tables e below (T23.setTop (mkF m 87 #[.val (.long q0), .second, .val (.long q1), .second, .val (.long q2), .second, .val (.int p3), .val (.int p4), .val (.int p5), .val (.int (p3 &&& (2147483647 : Int32))), .val (.int (p4 &&& (2147483647 : Int32))), .val (.int (p5 &&& (2147483647 : Int32))), .val (.long (own_wf q0 (p3 &&& (2147483647 : Int32)))), .second, .val (.long (own_wf q1 (p4 &&& (2147483647 : Int32)))), .second, .val (.long (own_wf q2 (p5 &&& (2147483647 : Int32)))), .second, .val (.ref b7), .val (.ref b8), .val (.ref b15), .unset, .unset, .unset] [(.ref b23)])) _
    refine XS.dup X23.here hx rfl (hb hby at_87) rfl rfl ?_
    show Steps p.tables e below (T23.setTop (mkF m 88 #[.val (.long q0), .second, .val (.long q1), .second, .val (.long q2), .second, .val (.int p3), .val (.int p4), .val (.int p5), .val (.int (p3 &&& (2147483647 : Int32))), .val (.int (p4 &&& (2147483647 : Int32))), .val (.int (p5 &&& (2147483647 : Int32))), .val (.long (own_wf q0 (p3 &&& (2147483647 : Int32)))), .second, .val (.long (own_wf q1 (p4 &&& (2147483647 : Int32)))), .second, .val (.long (own_wf q2 (p5 &&& (2147483647 : Int32)))), .second, .val (.ref b7), .val (.ref b8), .val (.ref b15), .unset, .unset, .unset] [(.ref b23), (.ref b23)])) _
    refine XS.iconst X23.here hx rfl (hb hby at_88) ?_
    show Steps p.tables e below (T23.setTop (mkF m 89 #[.val (.long q0), .second, .val (.long q1), .second, .val (.long q2), .second, .val (.int p3), .val (.int p4), .val (.int p5), .val (.int (p3 &&& (2147483647 : Int32))), .val (.int (p4 &&& (2147483647 : Int32))), .val (.int (p5 &&& (2147483647 : Int32))), .val (.long (own_wf q0 (p3 &&& (2147483647 : Int32)))), .second, .val (.long (own_wf q1 (p4 &&& (2147483647 : Int32)))), .second, .val (.long (own_wf q2 (p5 &&& (2147483647 : Int32)))), .second, .val (.ref b7), .val (.ref b8), .val (.ref b15), .unset, .unset, .unset] [(.int (0 : Int32)), (.ref b23), (.ref b23)])) _
    refine XS.iload X23.here hx rfl (hb hby at_89) rfl ?_
    show Steps p.tables e below (T23.setTop (mkF m 91 #[.val (.long q0), .second, .val (.long q1), .second, .val (.long q2), .second, .val (.int p3), .val (.int p4), .val (.int p5), .val (.int (p3 &&& (2147483647 : Int32))), .val (.int (p4 &&& (2147483647 : Int32))), .val (.int (p5 &&& (2147483647 : Int32))), .val (.long (own_wf q0 (p3 &&& (2147483647 : Int32)))), .second, .val (.long (own_wf q1 (p4 &&& (2147483647 : Int32)))), .second, .val (.long (own_wf q2 (p5 &&& (2147483647 : Int32)))), .second, .val (.ref b7), .val (.ref b8), .val (.ref b15), .unset, .unset, .unset] [(.int (p3 &&& (2147483647 : Int32))), (.int (0 : Int32)), (.ref b23), (.ref b23)])) _
    refine st26 _ ?_
    show Steps p.tables e below (T26.setTop (mkF m 92 #[.val (.long q0), .second, .val (.long q1), .second, .val (.long q2), .second, .val (.int p3), .val (.int p4), .val (.int p5), .val (.int (p3 &&& (2147483647 : Int32))), .val (.int (p4 &&& (2147483647 : Int32))), .val (.int (p5 &&& (2147483647 : Int32))), .val (.long (own_wf q0 (p3 &&& (2147483647 : Int32)))), .second, .val (.long (own_wf q1 (p4 &&& (2147483647 : Int32)))), .second, .val (.long (own_wf q2 (p5 &&& (2147483647 : Int32)))), .second, .val (.ref b7), .val (.ref b8), .val (.ref b15), .unset, .unset, .unset] [(.ref b23)])) _
    refine XS.dup X26.here hx rfl (hb hby at_92) rfl rfl ?_
    show Steps p.tables e below (T26.setTop (mkF m 93 #[.val (.long q0), .second, .val (.long q1), .second, .val (.long q2), .second, .val (.int p3), .val (.int p4), .val (.int p5), .val (.int (p3 &&& (2147483647 : Int32))), .val (.int (p4 &&& (2147483647 : Int32))), .val (.int (p5 &&& (2147483647 : Int32))), .val (.long (own_wf q0 (p3 &&& (2147483647 : Int32)))), .second, .val (.long (own_wf q1 (p4 &&& (2147483647 : Int32)))), .second, .val (.long (own_wf q2 (p5 &&& (2147483647 : Int32)))), .second, .val (.ref b7), .val (.ref b8), .val (.ref b15), .unset, .unset, .unset] [(.ref b23), (.ref b23)])) _
    refine XS.iconst X26.here hx rfl (hb hby at_93) ?_
    show Steps p.tables e below (T26.setTop (mkF m 94 #[.val (.long q0), .second, .val (.long q1), .second, .val (.long q2), .second, .val (.int p3), .val (.int p4), .val (.int p5), .val (.int (p3 &&& (2147483647 : Int32))), .val (.int (p4 &&& (2147483647 : Int32))), .val (.int (p5 &&& (2147483647 : Int32))), .val (.long (own_wf q0 (p3 &&& (2147483647 : Int32)))), .second, .val (.long (own_wf q1 (p4 &&& (2147483647 : Int32)))), .second, .val (.long (own_wf q2 (p5 &&& (2147483647 : Int32)))), .second, .val (.ref b7), .val (.ref b8), .val (.ref b15), .unset, .unset, .unset] [(.int (1 : Int32)), (.ref b23), (.ref b23)])) _
    refine XS.iload X26.here hx rfl (hb hby at_94) rfl ?_
    show Steps p.tables e below (T26.setTop (mkF m 96 #[.val (.long q0), .second, .val (.long q1), .second, .val (.long q2), .second, .val (.int p3), .val (.int p4), .val (.int p5), .val (.int (p3 &&& (2147483647 : Int32))), .val (.int (p4 &&& (2147483647 : Int32))), .val (.int (p5 &&& (2147483647 : Int32))), .val (.long (own_wf q0 (p3 &&& (2147483647 : Int32)))), .second, .val (.long (own_wf q1 (p4 &&& (2147483647 : Int32)))), .second, .val (.long (own_wf q2 (p5 &&& (2147483647 : Int32)))), .second, .val (.ref b7), .val (.ref b8), .val (.ref b15), .unset, .unset, .unset] [(.int (p4 &&& (2147483647 : Int32))), (.int (1 : Int32)), (.ref b23), (.ref b23)])) _
    refine st28 _ ?_
    show Steps p.tables e below (T28.setTop (mkF m 97 #[.val (.long q0), .second, .val (.long q1), .second, .val (.long q2), .second, .val (.int p3), .val (.int p4), .val (.int p5), .val (.int (p3 &&& (2147483647 : Int32))), .val (.int (p4 &&& (2147483647 : Int32))), .val (.int (p5 &&& (2147483647 : Int32))), .val (.long (own_wf q0 (p3 &&& (2147483647 : Int32)))), .second, .val (.long (own_wf q1 (p4 &&& (2147483647 : Int32)))), .second, .val (.long (own_wf q2 (p5 &&& (2147483647 : Int32)))), .second, .val (.ref b7), .val (.ref b8), .val (.ref b15), .unset, .unset, .unset] [(.ref b23)])) _
    refine XS.dup X28.here hx rfl (hb hby at_97) rfl rfl ?_
    show Steps p.tables e below (T28.setTop (mkF m 98 #[.val (.long q0), .second, .val (.long q1), .second, .val (.long q2), .second, .val (.int p3), .val (.int p4), .val (.int p5), .val (.int (p3 &&& (2147483647 : Int32))), .val (.int (p4 &&& (2147483647 : Int32))), .val (.int (p5 &&& (2147483647 : Int32))), .val (.long (own_wf q0 (p3 &&& (2147483647 : Int32)))), .second, .val (.long (own_wf q1 (p4 &&& (2147483647 : Int32)))), .second, .val (.long (own_wf q2 (p5 &&& (2147483647 : Int32)))), .second, .val (.ref b7), .val (.ref b8), .val (.ref b15), .unset, .unset, .unset] [(.ref b23), (.ref b23)])) _
    refine XS.iconst X28.here hx rfl (hb hby at_98) ?_
    show Steps p.tables e below (T28.setTop (mkF m 99 #[.val (.long q0), .second, .val (.long q1), .second, .val (.long q2), .second, .val (.int p3), .val (.int p4), .val (.int p5), .val (.int (p3 &&& (2147483647 : Int32))), .val (.int (p4 &&& (2147483647 : Int32))), .val (.int (p5 &&& (2147483647 : Int32))), .val (.long (own_wf q0 (p3 &&& (2147483647 : Int32)))), .second, .val (.long (own_wf q1 (p4 &&& (2147483647 : Int32)))), .second, .val (.long (own_wf q2 (p5 &&& (2147483647 : Int32)))), .second, .val (.ref b7), .val (.ref b8), .val (.ref b15), .unset, .unset, .unset] [(.int (2 : Int32)), (.ref b23), (.ref b23)])) _
    refine XS.iload X28.here hx rfl (hb hby at_99) rfl ?_
    show Steps p.tables e below (T28.setTop (mkF m 101 #[.val (.long q0), .second, .val (.long q1), .second, .val (.long q2), .second, .val (.int p3), .val (.int p4), .val (.int p5), .val (.int (p3 &&& (2147483647 : Int32))), .val (.int (p4 &&& (2147483647 : Int32))), .val (.int (p5 &&& (2147483647 : Int32))), .val (.long (own_wf q0 (p3 &&& (2147483647 : Int32)))), .second, .val (.long (own_wf q1 (p4 &&& (2147483647 : Int32)))), .second, .val (.long (own_wf q2 (p5 &&& (2147483647 : Int32)))), .second, .val (.ref b7), .val (.ref b8), .val (.ref b15), .unset, .unset, .unset] [(.int (p5 &&& (2147483647 : Int32))), (.int (2 : Int32)), (.ref b23), (.ref b23)])) _
    refine st30 _ ?_
    show Steps p.tables e below (T30.setTop (mkF m 102 #[.val (.long q0), .second, .val (.long q1), .second, .val (.long q2), .second, .val (.int p3), .val (.int p4), .val (.int p5), .val (.int (p3 &&& (2147483647 : Int32))), .val (.int (p4 &&& (2147483647 : Int32))), .val (.int (p5 &&& (2147483647 : Int32))), .val (.long (own_wf q0 (p3 &&& (2147483647 : Int32)))), .second, .val (.long (own_wf q1 (p4 &&& (2147483647 : Int32)))), .second, .val (.long (own_wf q2 (p5 &&& (2147483647 : Int32)))), .second, .val (.ref b7), .val (.ref b8), .val (.ref b15), .unset, .unset, .unset] [(.ref b23)])) _
    refine XS.astore X30.here hx rfl (hb hby at_102) rfl rfl (l' := #[.val (.long q0), .second, .val (.long q1), .second, .val (.long q2), .second, .val (.int p3), .val (.int p4), .val (.int p5), .val (.int (p3 &&& (2147483647 : Int32))), .val (.int (p4 &&& (2147483647 : Int32))), .val (.int (p5 &&& (2147483647 : Int32))), .val (.long (own_wf q0 (p3 &&& (2147483647 : Int32)))), .second, .val (.long (own_wf q1 (p4 &&& (2147483647 : Int32)))), .second, .val (.long (own_wf q2 (p5 &&& (2147483647 : Int32)))), .second, .val (.ref b7), .val (.ref b8), .val (.ref b15), .val (.ref b23), .unset, .unset]) rfl ?_
    show Steps p.tables e below (T30.setTop (mkF m 104 #[.val (.long q0), .second, .val (.long q1), .second, .val (.long q2), .second, .val (.int p3), .val (.int p4), .val (.int p5), .val (.int (p3 &&& (2147483647 : Int32))), .val (.int (p4 &&& (2147483647 : Int32))), .val (.int (p5 &&& (2147483647 : Int32))), .val (.long (own_wf q0 (p3 &&& (2147483647 : Int32)))), .second, .val (.long (own_wf q1 (p4 &&& (2147483647 : Int32)))), .second, .val (.long (own_wf q2 (p5 &&& (2147483647 : Int32)))), .second, .val (.ref b7), .val (.ref b8), .val (.ref b15), .val (.ref b23), .unset, .unset] [])) _
    refine XS.lload X30.here hx rfl (hb hby at_104) rfl ?_
    show Steps p.tables e below (T30.setTop (mkF m 106 #[.val (.long q0), .second, .val (.long q1), .second, .val (.long q2), .second, .val (.int p3), .val (.int p4), .val (.int p5), .val (.int (p3 &&& (2147483647 : Int32))), .val (.int (p4 &&& (2147483647 : Int32))), .val (.int (p5 &&& (2147483647 : Int32))), .val (.long (own_wf q0 (p3 &&& (2147483647 : Int32)))), .second, .val (.long (own_wf q1 (p4 &&& (2147483647 : Int32)))), .second, .val (.long (own_wf q2 (p5 &&& (2147483647 : Int32)))), .second, .val (.ref b7), .val (.ref b8), .val (.ref b15), .val (.ref b23), .unset, .unset] [(.long (own_wf q0 (p3 &&& (2147483647 : Int32))))])) _
    refine XS.iload X30.here hx rfl (hb hby at_106) rfl ?_
    show Steps p.tables e below (T30.setTop (mkF m 108 #[.val (.long q0), .second, .val (.long q1), .second, .val (.long q2), .second, .val (.int p3), .val (.int p4), .val (.int p5), .val (.int (p3 &&& (2147483647 : Int32))), .val (.int (p4 &&& (2147483647 : Int32))), .val (.int (p5 &&& (2147483647 : Int32))), .val (.long (own_wf q0 (p3 &&& (2147483647 : Int32)))), .second, .val (.long (own_wf q1 (p4 &&& (2147483647 : Int32)))), .second, .val (.long (own_wf q2 (p5 &&& (2147483647 : Int32)))), .second, .val (.ref b7), .val (.ref b8), .val (.ref b15), .val (.ref b23), .unset, .unset] [(.int (p3 &&& (2147483647 : Int32))), (.long (own_wf q0 (p3 &&& (2147483647 : Int32))))])) _
    refine XS.i2l X30.here hx rfl (hb hby at_108) rfl ?_
    show Steps p.tables e below (T30.setTop (mkF m 109 #[.val (.long q0), .second, .val (.long q1), .second, .val (.long q2), .second, .val (.int p3), .val (.int p4), .val (.int p5), .val (.int (p3 &&& (2147483647 : Int32))), .val (.int (p4 &&& (2147483647 : Int32))), .val (.int (p5 &&& (2147483647 : Int32))), .val (.long (own_wf q0 (p3 &&& (2147483647 : Int32)))), .second, .val (.long (own_wf q1 (p4 &&& (2147483647 : Int32)))), .second, .val (.long (own_wf q2 (p5 &&& (2147483647 : Int32)))), .second, .val (.ref b7), .val (.ref b8), .val (.ref b15), .val (.ref b23), .unset, .unset] [(.long ((p3 &&& (2147483647 : Int32)).toInt64)), (.long (own_wf q0 (p3 &&& (2147483647 : Int32))))])) _
    refine XS.lmul X30.here hx rfl (hb hby at_109) rfl ?_
    show Steps p.tables e below (T30.setTop (mkF m 110 #[.val (.long q0), .second, .val (.long q1), .second, .val (.long q2), .second, .val (.int p3), .val (.int p4), .val (.int p5), .val (.int (p3 &&& (2147483647 : Int32))), .val (.int (p4 &&& (2147483647 : Int32))), .val (.int (p5 &&& (2147483647 : Int32))), .val (.long (own_wf q0 (p3 &&& (2147483647 : Int32)))), .second, .val (.long (own_wf q1 (p4 &&& (2147483647 : Int32)))), .second, .val (.long (own_wf q2 (p5 &&& (2147483647 : Int32)))), .second, .val (.ref b7), .val (.ref b8), .val (.ref b15), .val (.ref b23), .unset, .unset] [(.long ((own_wf q0 (p3 &&& (2147483647 : Int32))) * ((p3 &&& (2147483647 : Int32)).toInt64)))])) _
    refine XS.lload X30.here hx rfl (hb hby at_110) rfl ?_
    show Steps p.tables e below (T30.setTop (mkF m 112 #[.val (.long q0), .second, .val (.long q1), .second, .val (.long q2), .second, .val (.int p3), .val (.int p4), .val (.int p5), .val (.int (p3 &&& (2147483647 : Int32))), .val (.int (p4 &&& (2147483647 : Int32))), .val (.int (p5 &&& (2147483647 : Int32))), .val (.long (own_wf q0 (p3 &&& (2147483647 : Int32)))), .second, .val (.long (own_wf q1 (p4 &&& (2147483647 : Int32)))), .second, .val (.long (own_wf q2 (p5 &&& (2147483647 : Int32)))), .second, .val (.ref b7), .val (.ref b8), .val (.ref b15), .val (.ref b23), .unset, .unset] [(.long (own_wf q1 (p4 &&& (2147483647 : Int32)))), (.long ((own_wf q0 (p3 &&& (2147483647 : Int32))) * ((p3 &&& (2147483647 : Int32)).toInt64)))])) _
    refine XS.iload X30.here hx rfl (hb hby at_112) rfl ?_
    show Steps p.tables e below (T30.setTop (mkF m 114 #[.val (.long q0), .second, .val (.long q1), .second, .val (.long q2), .second, .val (.int p3), .val (.int p4), .val (.int p5), .val (.int (p3 &&& (2147483647 : Int32))), .val (.int (p4 &&& (2147483647 : Int32))), .val (.int (p5 &&& (2147483647 : Int32))), .val (.long (own_wf q0 (p3 &&& (2147483647 : Int32)))), .second, .val (.long (own_wf q1 (p4 &&& (2147483647 : Int32)))), .second, .val (.long (own_wf q2 (p5 &&& (2147483647 : Int32)))), .second, .val (.ref b7), .val (.ref b8), .val (.ref b15), .val (.ref b23), .unset, .unset] [(.int (p4 &&& (2147483647 : Int32))), (.long (own_wf q1 (p4 &&& (2147483647 : Int32)))), (.long ((own_wf q0 (p3 &&& (2147483647 : Int32))) * ((p3 &&& (2147483647 : Int32)).toInt64)))])) _
    refine XS.i2l X30.here hx rfl (hb hby at_114) rfl ?_
    show Steps p.tables e below (T30.setTop (mkF m 115 #[.val (.long q0), .second, .val (.long q1), .second, .val (.long q2), .second, .val (.int p3), .val (.int p4), .val (.int p5), .val (.int (p3 &&& (2147483647 : Int32))), .val (.int (p4 &&& (2147483647 : Int32))), .val (.int (p5 &&& (2147483647 : Int32))), .val (.long (own_wf q0 (p3 &&& (2147483647 : Int32)))), .second, .val (.long (own_wf q1 (p4 &&& (2147483647 : Int32)))), .second, .val (.long (own_wf q2 (p5 &&& (2147483647 : Int32)))), .second, .val (.ref b7), .val (.ref b8), .val (.ref b15), .val (.ref b23), .unset, .unset] [(.long ((p4 &&& (2147483647 : Int32)).toInt64)), (.long (own_wf q1 (p4 &&& (2147483647 : Int32)))), (.long ((own_wf q0 (p3 &&& (2147483647 : Int32))) * ((p3 &&& (2147483647 : Int32)).toInt64)))])) _
    refine XS.lmul X30.here hx rfl (hb hby at_115) rfl ?_
    show Steps p.tables e below (T30.setTop (mkF m 116 #[.val (.long q0), .second, .val (.long q1), .second, .val (.long q2), .second, .val (.int p3), .val (.int p4), .val (.int p5), .val (.int (p3 &&& (2147483647 : Int32))), .val (.int (p4 &&& (2147483647 : Int32))), .val (.int (p5 &&& (2147483647 : Int32))), .val (.long (own_wf q0 (p3 &&& (2147483647 : Int32)))), .second, .val (.long (own_wf q1 (p4 &&& (2147483647 : Int32)))), .second, .val (.long (own_wf q2 (p5 &&& (2147483647 : Int32)))), .second, .val (.ref b7), .val (.ref b8), .val (.ref b15), .val (.ref b23), .unset, .unset] [(.long ((own_wf q1 (p4 &&& (2147483647 : Int32))) * ((p4 &&& (2147483647 : Int32)).toInt64))), (.long ((own_wf q0 (p3 &&& (2147483647 : Int32))) * ((p3 &&& (2147483647 : Int32)).toInt64)))])) _
    refine XS.ladd X30.here hx rfl (hb hby at_116) rfl ?_
    show Steps p.tables e below (T30.setTop (mkF m 117 #[.val (.long q0), .second, .val (.long q1), .second, .val (.long q2), .second, .val (.int p3), .val (.int p4), .val (.int p5), .val (.int (p3 &&& (2147483647 : Int32))), .val (.int (p4 &&& (2147483647 : Int32))), .val (.int (p5 &&& (2147483647 : Int32))), .val (.long (own_wf q0 (p3 &&& (2147483647 : Int32)))), .second, .val (.long (own_wf q1 (p4 &&& (2147483647 : Int32)))), .second, .val (.long (own_wf q2 (p5 &&& (2147483647 : Int32)))), .second, .val (.ref b7), .val (.ref b8), .val (.ref b15), .val (.ref b23), .unset, .unset] [(.long (((own_wf q0 (p3 &&& (2147483647 : Int32))) * ((p3 &&& (2147483647 : Int32)).toInt64)) + ((own_wf q1 (p4 &&& (2147483647 : Int32))) * ((p4 &&& (2147483647 : Int32)).toInt64))))])) _
    refine XS.lload X30.here hx rfl (hb hby at_117) rfl ?_
    show Steps p.tables e below (T30.setTop (mkF m 119 #[.val (.long q0), .second, .val (.long q1), .second, .val (.long q2), .second, .val (.int p3), .val (.int p4), .val (.int p5), .val (.int (p3 &&& (2147483647 : Int32))), .val (.int (p4 &&& (2147483647 : Int32))), .val (.int (p5 &&& (2147483647 : Int32))), .val (.long (own_wf q0 (p3 &&& (2147483647 : Int32)))), .second, .val (.long (own_wf q1 (p4 &&& (2147483647 : Int32)))), .second, .val (.long (own_wf q2 (p5 &&& (2147483647 : Int32)))), .second, .val (.ref b7), .val (.ref b8), .val (.ref b15), .val (.ref b23), .unset, .unset] [(.long (own_wf q2 (p5 &&& (2147483647 : Int32)))), (.long (((own_wf q0 (p3 &&& (2147483647 : Int32))) * ((p3 &&& (2147483647 : Int32)).toInt64)) + ((own_wf q1 (p4 &&& (2147483647 : Int32))) * ((p4 &&& (2147483647 : Int32)).toInt64))))])) _
    refine XS.iload X30.here hx rfl (hb hby at_119) rfl ?_
    show Steps p.tables e below (T30.setTop (mkF m 121 #[.val (.long q0), .second, .val (.long q1), .second, .val (.long q2), .second, .val (.int p3), .val (.int p4), .val (.int p5), .val (.int (p3 &&& (2147483647 : Int32))), .val (.int (p4 &&& (2147483647 : Int32))), .val (.int (p5 &&& (2147483647 : Int32))), .val (.long (own_wf q0 (p3 &&& (2147483647 : Int32)))), .second, .val (.long (own_wf q1 (p4 &&& (2147483647 : Int32)))), .second, .val (.long (own_wf q2 (p5 &&& (2147483647 : Int32)))), .second, .val (.ref b7), .val (.ref b8), .val (.ref b15), .val (.ref b23), .unset, .unset] [(.int (p5 &&& (2147483647 : Int32))), (.long (own_wf q2 (p5 &&& (2147483647 : Int32)))), (.long (((own_wf q0 (p3 &&& (2147483647 : Int32))) * ((p3 &&& (2147483647 : Int32)).toInt64)) + ((own_wf q1 (p4 &&& (2147483647 : Int32))) * ((p4 &&& (2147483647 : Int32)).toInt64))))])) _
    refine XS.i2l X30.here hx rfl (hb hby at_121) rfl ?_
    show Steps p.tables e below (T30.setTop (mkF m 122 #[.val (.long q0), .second, .val (.long q1), .second, .val (.long q2), .second, .val (.int p3), .val (.int p4), .val (.int p5), .val (.int (p3 &&& (2147483647 : Int32))), .val (.int (p4 &&& (2147483647 : Int32))), .val (.int (p5 &&& (2147483647 : Int32))), .val (.long (own_wf q0 (p3 &&& (2147483647 : Int32)))), .second, .val (.long (own_wf q1 (p4 &&& (2147483647 : Int32)))), .second, .val (.long (own_wf q2 (p5 &&& (2147483647 : Int32)))), .second, .val (.ref b7), .val (.ref b8), .val (.ref b15), .val (.ref b23), .unset, .unset] [(.long ((p5 &&& (2147483647 : Int32)).toInt64)), (.long (own_wf q2 (p5 &&& (2147483647 : Int32)))), (.long (((own_wf q0 (p3 &&& (2147483647 : Int32))) * ((p3 &&& (2147483647 : Int32)).toInt64)) + ((own_wf q1 (p4 &&& (2147483647 : Int32))) * ((p4 &&& (2147483647 : Int32)).toInt64))))])) _
    refine XS.lmul X30.here hx rfl (hb hby at_122) rfl ?_
    show Steps p.tables e below (T30.setTop (mkF m 123 #[.val (.long q0), .second, .val (.long q1), .second, .val (.long q2), .second, .val (.int p3), .val (.int p4), .val (.int p5), .val (.int (p3 &&& (2147483647 : Int32))), .val (.int (p4 &&& (2147483647 : Int32))), .val (.int (p5 &&& (2147483647 : Int32))), .val (.long (own_wf q0 (p3 &&& (2147483647 : Int32)))), .second, .val (.long (own_wf q1 (p4 &&& (2147483647 : Int32)))), .second, .val (.long (own_wf q2 (p5 &&& (2147483647 : Int32)))), .second, .val (.ref b7), .val (.ref b8), .val (.ref b15), .val (.ref b23), .unset, .unset] [(.long ((own_wf q2 (p5 &&& (2147483647 : Int32))) * ((p5 &&& (2147483647 : Int32)).toInt64))), (.long (((own_wf q0 (p3 &&& (2147483647 : Int32))) * ((p3 &&& (2147483647 : Int32)).toInt64)) + ((own_wf q1 (p4 &&& (2147483647 : Int32))) * ((p4 &&& (2147483647 : Int32)).toInt64))))])) _
    refine XS.ladd X30.here hx rfl (hb hby at_123) rfl ?_
    show Steps p.tables e below (T30.setTop (mkF m 124 #[.val (.long q0), .second, .val (.long q1), .second, .val (.long q2), .second, .val (.int p3), .val (.int p4), .val (.int p5), .val (.int (p3 &&& (2147483647 : Int32))), .val (.int (p4 &&& (2147483647 : Int32))), .val (.int (p5 &&& (2147483647 : Int32))), .val (.long (own_wf q0 (p3 &&& (2147483647 : Int32)))), .second, .val (.long (own_wf q1 (p4 &&& (2147483647 : Int32)))), .second, .val (.long (own_wf q2 (p5 &&& (2147483647 : Int32)))), .second, .val (.ref b7), .val (.ref b8), .val (.ref b15), .val (.ref b23), .unset, .unset] [(.long ((((own_wf q0 (p3 &&& (2147483647 : Int32))) * ((p3 &&& (2147483647 : Int32)).toInt64)) + ((own_wf q1 (p4 &&& (2147483647 : Int32))) * ((p4 &&& (2147483647 : Int32)).toInt64))) + ((own_wf q2 (p5 &&& (2147483647 : Int32))) * ((p5 &&& (2147483647 : Int32)).toInt64))))])) _
    refine castTop (g' := (mkF m 124 #[.val (.long q0), .second, .val (.long q1), .second, .val (.long q2), .second, .val (.int p3), .val (.int p4), .val (.int p5), .val (.int (p3 &&& (2147483647 : Int32))), .val (.int (p4 &&& (2147483647 : Int32))), .val (.int (p5 &&& (2147483647 : Int32))), .val (.long (own_wf q0 (p3 &&& (2147483647 : Int32)))), .second, .val (.long (own_wf q1 (p4 &&& (2147483647 : Int32)))), .second, .val (.long (own_wf q2 (p5 &&& (2147483647 : Int32)))), .second, .val (.ref b7), .val (.ref b8), .val (.ref b15), .val (.ref b23), .unset, .unset] [(.long v32)])) (by rw [hv32] <;> rfl) ?_
    show Steps p.tables e below (T30.setTop (mkF m 124 #[.val (.long q0), .second, .val (.long q1), .second, .val (.long q2), .second, .val (.int p3), .val (.int p4), .val (.int p5), .val (.int (p3 &&& (2147483647 : Int32))), .val (.int (p4 &&& (2147483647 : Int32))), .val (.int (p5 &&& (2147483647 : Int32))), .val (.long (own_wf q0 (p3 &&& (2147483647 : Int32)))), .second, .val (.long (own_wf q1 (p4 &&& (2147483647 : Int32)))), .second, .val (.long (own_wf q2 (p5 &&& (2147483647 : Int32)))), .second, .val (.ref b7), .val (.ref b8), .val (.ref b15), .val (.ref b23), .unset, .unset] [(.long v32)])) _
    refine XS.lstore X30.here hx rfl (hb hby at_124) rfl (l' := #[.val (.long q0), .second, .val (.long q1), .second, .val (.long q2), .second, .val (.int p3), .val (.int p4), .val (.int p5), .val (.int (p3 &&& (2147483647 : Int32))), .val (.int (p4 &&& (2147483647 : Int32))), .val (.int (p5 &&& (2147483647 : Int32))), .val (.long (own_wf q0 (p3 &&& (2147483647 : Int32)))), .second, .val (.long (own_wf q1 (p4 &&& (2147483647 : Int32)))), .second, .val (.long (own_wf q2 (p5 &&& (2147483647 : Int32)))), .second, .val (.ref b7), .val (.ref b8), .val (.ref b15), .val (.ref b23), .val (.long v32), .second]) rfl ?_
    show Steps p.tables e below (T30.setTop (mkF m 126 #[.val (.long q0), .second, .val (.long q1), .second, .val (.long q2), .second, .val (.int p3), .val (.int p4), .val (.int p5), .val (.int (p3 &&& (2147483647 : Int32))), .val (.int (p4 &&& (2147483647 : Int32))), .val (.int (p5 &&& (2147483647 : Int32))), .val (.long (own_wf q0 (p3 &&& (2147483647 : Int32)))), .second, .val (.long (own_wf q1 (p4 &&& (2147483647 : Int32)))), .second, .val (.long (own_wf q2 (p5 &&& (2147483647 : Int32)))), .second, .val (.ref b7), .val (.ref b8), .val (.ref b15), .val (.ref b23), .val (.long v32), .second] [])) _
    refine XS.aload X30.here hx rfl (hb hby at_126) rfl rfl ?_
    show Steps p.tables e below (T30.setTop (mkF m 128 #[.val (.long q0), .second, .val (.long q1), .second, .val (.long q2), .second, .val (.int p3), .val (.int p4), .val (.int p5), .val (.int (p3 &&& (2147483647 : Int32))), .val (.int (p4 &&& (2147483647 : Int32))), .val (.int (p5 &&& (2147483647 : Int32))), .val (.long (own_wf q0 (p3 &&& (2147483647 : Int32)))), .second, .val (.long (own_wf q1 (p4 &&& (2147483647 : Int32)))), .second, .val (.long (own_wf q2 (p5 &&& (2147483647 : Int32)))), .second, .val (.ref b7), .val (.ref b8), .val (.ref b15), .val (.ref b23), .val (.long v32), .second] [(.ref b15)])) _
    refine XS.aload X30.here hx rfl (hb hby at_128) rfl rfl ?_
    show Steps p.tables e below (T30.setTop (mkF m 130 #[.val (.long q0), .second, .val (.long q1), .second, .val (.long q2), .second, .val (.int p3), .val (.int p4), .val (.int p5), .val (.int (p3 &&& (2147483647 : Int32))), .val (.int (p4 &&& (2147483647 : Int32))), .val (.int (p5 &&& (2147483647 : Int32))), .val (.long (own_wf q0 (p3 &&& (2147483647 : Int32)))), .second, .val (.long (own_wf q1 (p4 &&& (2147483647 : Int32)))), .second, .val (.long (own_wf q2 (p5 &&& (2147483647 : Int32)))), .second, .val (.ref b7), .val (.ref b8), .val (.ref b15), .val (.ref b23), .val (.long v32), .second] [(.ref b23), (.ref b15)])) _
    refine st39.trans ?_
    show Steps p.tables e below (T39.setTop (mkF m 133 #[.val (.long q0), .second, .val (.long q1), .second, .val (.long q2), .second, .val (.int p3), .val (.int p4), .val (.int p5), .val (.int (p3 &&& (2147483647 : Int32))), .val (.int (p4 &&& (2147483647 : Int32))), .val (.int (p5 &&& (2147483647 : Int32))), .val (.long (own_wf q0 (p3 &&& (2147483647 : Int32)))), .second, .val (.long (own_wf q1 (p4 &&& (2147483647 : Int32)))), .second, .val (.long (own_wf q2 (p5 &&& (2147483647 : Int32)))), .second, .val (.ref b7), .val (.ref b8), .val (.ref b15), .val (.ref b23), .val (.long v32), .second] [(.long ((((0 : Int64) + ((f14 0) * ((f31 0).toInt64))) + ((f14 1) * ((f31 1).toInt64))) + ((f14 2) * ((f31 2).toInt64))))])) _
    refine XS.lload X39.here hx rfl (hb hby at_133) rfl ?_
    show Steps p.tables e below (T39.setTop (mkF m 135 #[.val (.long q0), .second, .val (.long q1), .second, .val (.long q2), .second, .val (.int p3), .val (.int p4), .val (.int p5), .val (.int (p3 &&& (2147483647 : Int32))), .val (.int (p4 &&& (2147483647 : Int32))), .val (.int (p5 &&& (2147483647 : Int32))), .val (.long (own_wf q0 (p3 &&& (2147483647 : Int32)))), .second, .val (.long (own_wf q1 (p4 &&& (2147483647 : Int32)))), .second, .val (.long (own_wf q2 (p5 &&& (2147483647 : Int32)))), .second, .val (.ref b7), .val (.ref b8), .val (.ref b15), .val (.ref b23), .val (.long v32), .second] [(.long v32), (.long ((((0 : Int64) + ((f14 0) * ((f31 0).toInt64))) + ((f14 1) * ((f31 1).toInt64))) + ((f14 2) * ((f31 2).toInt64))))])) _
    refine XS.lcmp X39.here hx rfl (hb hby at_135) rfl ?_
    show Steps p.tables e below (T39.setTop (mkF m 136 #[.val (.long q0), .second, .val (.long q1), .second, .val (.long q2), .second, .val (.int p3), .val (.int p4), .val (.int p5), .val (.int (p3 &&& (2147483647 : Int32))), .val (.int (p4 &&& (2147483647 : Int32))), .val (.int (p5 &&& (2147483647 : Int32))), .val (.long (own_wf q0 (p3 &&& (2147483647 : Int32)))), .second, .val (.long (own_wf q1 (p4 &&& (2147483647 : Int32)))), .second, .val (.long (own_wf q2 (p5 &&& (2147483647 : Int32)))), .second, .val (.ref b7), .val (.ref b8), .val (.ref b15), .val (.ref b23), .val (.long v32), .second] [(.int (lcmpW ((((0 : Int64) + ((f14 0) * ((f31 0).toInt64))) + ((f14 1) * ((f31 1).toInt64))) + ((f14 2) * ((f31 2).toInt64))) v32))])) _
    refine own_dia (F := (mkF m 144 #[.val (.long q0), .second, .val (.long q1), .second, .val (.long q2), .second, .val (.int p3), .val (.int p4), .val (.int p5), .val (.int (p3 &&& (2147483647 : Int32))), .val (.int (p4 &&& (2147483647 : Int32))), .val (.int (p5 &&& (2147483647 : Int32))), .val (.long (own_wf q0 (p3 &&& (2147483647 : Int32)))), .second, .val (.long (own_wf q1 (p4 &&& (2147483647 : Int32)))), .second, .val (.long (own_wf q2 (p5 &&& (2147483647 : Int32)))), .second, .val (.ref b7), .val (.ref b8), .val (.ref b15), .val (.ref b23), .val (.long v32), .second] [(.int v41)])) ?_ ?_
    · intro kt
      by_cases hc40 : ((((0 : Int64) + ((f14 0) * ((f31 0).toInt64))) + ((f14 1) * ((f31 1).toInt64))) + ((f14 2) * ((f31 2).toInt64))) = v32
      · show Steps p.tables e below (T39.setTop (mkF m 136 #[.val (.long q0), .second, .val (.long q1), .second, .val (.long q2), .second, .val (.int p3), .val (.int p4), .val (.int p5), .val (.int (p3 &&& (2147483647 : Int32))), .val (.int (p4 &&& (2147483647 : Int32))), .val (.int (p5 &&& (2147483647 : Int32))), .val (.long (own_wf q0 (p3 &&& (2147483647 : Int32)))), .second, .val (.long (own_wf q1 (p4 &&& (2147483647 : Int32)))), .second, .val (.long (own_wf q2 (p5 &&& (2147483647 : Int32)))), .second, .val (.ref b7), .val (.ref b8), .val (.ref b15), .val (.ref b23), .val (.long v32), .second] [(.int (lcmpW ((((0 : Int64) + ((f14 0) * ((f31 0).toInt64))) + ((f14 1) * ((f31 1).toInt64))) + ((f14 2) * ((f31 2).toInt64))) v32))])) _
        refine XS.ifNo X39.here hx rfl (hb hby at_136) rfl ((if0 _ _).trans (teq ((lw_eq ((((0 : Int64) + ((f14 0) * ((f31 0).toInt64))) + ((f14 1) * ((f31 1).toInt64))) + ((f14 2) * ((f31 2).toInt64))) v32).mpr hc40)).2) ?_
        show Steps p.tables e below (T39.setTop (mkF m 139 #[.val (.long q0), .second, .val (.long q1), .second, .val (.long q2), .second, .val (.int p3), .val (.int p4), .val (.int p5), .val (.int (p3 &&& (2147483647 : Int32))), .val (.int (p4 &&& (2147483647 : Int32))), .val (.int (p5 &&& (2147483647 : Int32))), .val (.long (own_wf q0 (p3 &&& (2147483647 : Int32)))), .second, .val (.long (own_wf q1 (p4 &&& (2147483647 : Int32)))), .second, .val (.long (own_wf q2 (p5 &&& (2147483647 : Int32)))), .second, .val (.ref b7), .val (.ref b8), .val (.ref b15), .val (.ref b23), .val (.long v32), .second] [])) _
        refine XS.iconst X39.here hx rfl (hb hby at_139) ?_
        show Steps p.tables e below (T39.setTop (mkF m 140 #[.val (.long q0), .second, .val (.long q1), .second, .val (.long q2), .second, .val (.int p3), .val (.int p4), .val (.int p5), .val (.int (p3 &&& (2147483647 : Int32))), .val (.int (p4 &&& (2147483647 : Int32))), .val (.int (p5 &&& (2147483647 : Int32))), .val (.long (own_wf q0 (p3 &&& (2147483647 : Int32)))), .second, .val (.long (own_wf q1 (p4 &&& (2147483647 : Int32)))), .second, .val (.long (own_wf q2 (p5 &&& (2147483647 : Int32)))), .second, .val (.ref b7), .val (.ref b8), .val (.ref b15), .val (.ref b23), .val (.long v32), .second] [(.int (1 : Int32))])) _
        refine XS.goto X39.here hx rfl (pc0 := 140) (pc' := 144) rfl (hb hby at_140) (by decide) (by decide) ?_
        exact castTop (by rw [hv41, if_pos hc40] <;> rfl) kt
      · show Steps p.tables e below (T39.setTop (mkF m 136 #[.val (.long q0), .second, .val (.long q1), .second, .val (.long q2), .second, .val (.int p3), .val (.int p4), .val (.int p5), .val (.int (p3 &&& (2147483647 : Int32))), .val (.int (p4 &&& (2147483647 : Int32))), .val (.int (p5 &&& (2147483647 : Int32))), .val (.long (own_wf q0 (p3 &&& (2147483647 : Int32)))), .second, .val (.long (own_wf q1 (p4 &&& (2147483647 : Int32)))), .second, .val (.long (own_wf q2 (p5 &&& (2147483647 : Int32)))), .second, .val (.ref b7), .val (.ref b8), .val (.ref b15), .val (.ref b23), .val (.long v32), .second] [(.int (lcmpW ((((0 : Int64) + ((f14 0) * ((f31 0).toInt64))) + ((f14 1) * ((f31 1).toInt64))) + ((f14 2) * ((f31 2).toInt64))) v32))])) _
        refine XS.ifYes X39.here hx rfl (pc0 := 136) (pc' := 143) rfl (hb hby at_136) rfl ((if0 _ _).trans (feq (fun q => hc40 ((lw_eq ((((0 : Int64) + ((f14 0) * ((f31 0).toInt64))) + ((f14 1) * ((f31 1).toInt64))) + ((f14 2) * ((f31 2).toInt64))) v32).mp q))).2) (by decide) (by decide) ?_
        show Steps p.tables e below (T39.setTop (mkF m 143 #[.val (.long q0), .second, .val (.long q1), .second, .val (.long q2), .second, .val (.int p3), .val (.int p4), .val (.int p5), .val (.int (p3 &&& (2147483647 : Int32))), .val (.int (p4 &&& (2147483647 : Int32))), .val (.int (p5 &&& (2147483647 : Int32))), .val (.long (own_wf q0 (p3 &&& (2147483647 : Int32)))), .second, .val (.long (own_wf q1 (p4 &&& (2147483647 : Int32)))), .second, .val (.long (own_wf q2 (p5 &&& (2147483647 : Int32)))), .second, .val (.ref b7), .val (.ref b8), .val (.ref b15), .val (.ref b23), .val (.long v32), .second] [])) _
        refine XS.iconst X39.here hx rfl (hb hby at_143) ?_
        exact castTop (by rw [hv41, if_neg hc40] <;> rfl) kt
    show Steps p.tables e below (T39.setTop (mkF m 144 #[.val (.long q0), .second, .val (.long q1), .second, .val (.long q2), .second, .val (.int p3), .val (.int p4), .val (.int p5), .val (.int (p3 &&& (2147483647 : Int32))), .val (.int (p4 &&& (2147483647 : Int32))), .val (.int (p5 &&& (2147483647 : Int32))), .val (.long (own_wf q0 (p3 &&& (2147483647 : Int32)))), .second, .val (.long (own_wf q1 (p4 &&& (2147483647 : Int32)))), .second, .val (.long (own_wf q2 (p5 &&& (2147483647 : Int32)))), .second, .val (.ref b7), .val (.ref b8), .val (.ref b15), .val (.ref b23), .val (.long v32), .second] [(.int v41)])) _
    exact retN X39 hx (t := .boolean) Bd.returns (by simp) (hb hby at_144) hr
  · show Q0 h0 n0 _ T39.heap _
    refine ⟨?_, N39⟩
    have hfin : (nar .boolean v41) = (1 : Int32) := by
      exact (own_law q0 q1 q2 p3 p4 p5 f10 f12 f14 f27 f29 f31 v32 v41 hf10 hf12 hf14 hf27 hf29 hf31 hv32 hv41)
    rw [hfin]
set_option maxRecDepth 65536 in
set_option maxHeartbeats 40000000 in
theorem comes_1 {Post : Tables → Env → Array Value → State → Outcome → State → Prop} (hpost : ∀ tb e args s v u, (limb_1_1.after args s (.returned v) u = true ∧ limb_1_2.after args s (.returned v) u = true ∧ True) → FrameEnd s (.returned v) u (Jvm.fieldLocs frame_1_writes args s ++ Jvm.arrayLocs frame_1_arrays args s ++ Jvm.staticLocs frame_1_statics s) 16 128 → Post tb e args s (.returned v) u) :
    ArmFor flags0 classFile x code maxLocals ret World_1 tables_1 room_1 Calls_1 rest_1 Pre_1 Post := by
  intro l hfl _ _ p e ha hc hk s m args below hf hA hF happ hP
  obtain ⟨hcalls, hrest, hpre⟩ := hP
  obtain ⟨-, -, -, hnamed, -, -, -, hat⟩ := (Spec.applies_iff hf).mp happ
  obtain ⟨hg, hn⟩ := and_e (Cond.before_iff.mp (show (Jvm.Cond.and given_1 narrow_1).before args s = true from hpre))
  obtain ⟨gg1, gg2⟩ := and_e hg
  obtain ⟨gg3, gg4⟩ := and_e gg2
  obtain ⟨gg5, gg6⟩ := and_e gg4
  obtain ⟨gg7, gg8⟩ := and_e gg6
  obtain ⟨gg9, gg10⟩ := and_e gg8
  obtain ⟨gg11, gg12⟩ := and_e gg10
  obtain ⟨w0, w1, w2, w3, w4, w5, rfl⟩ : ∃ w0 w1 w2 w3 w4 w5 : Value, args = #[w0, w1, w2, w3, w4, w5] := by
    have hs : args.size = 6 := by simpa [Cond.value, given_1] using gg1
    obtain ⟨L⟩ := args
    match L, hs with
    | [w0, w1, w2, w3, w4, w5], _ => exact ⟨w0, w1, w2, w3, w4, w5, rfl⟩
  have hw := fun d (hd : d ∈ tables_1) => atoms_spec (ws := Jvm.Cond.code x code maxLocals ret :: tables_1) hat d (List.mem_cons_of_mem _ hd)
  have hfit : Fit s := fun {y c} hc i hi => by
    obtain ⟨ha, rfl⟩ := Array.getElem?_eq_some_iff.mp hc
    have q := List.all_eq_true.mp ((Array.all_eq_true_iff_forall_mem.mp hF) _ (Array.getElem_mem ha)) i (List.mem_range.mpr hi)
    simpa [Array.getElem?_eq_getElem hi] using q
  obtain ⟨i0, ei0⟩ := isL_v gg3
  obtain rfl : w0 = (.long i0) := Option.some.inj ei0
  obtain ⟨i1, ei1⟩ := isL_v gg5
  obtain rfl : w1 = (.long i1) := Option.some.inj ei1
  obtain ⟨i2, ei2⟩ := isL_v gg7
  obtain rfl : w2 = (.long i2) := Option.some.inj ei2
  obtain ⟨i3, ei3⟩ := is_v gg9
  obtain rfl : w3 = (.int i3) := Option.some.inj ei3
  obtain ⟨i4, ei4⟩ := is_v gg11
  obtain rfl : w4 = (.int i4) := Option.some.inj ei4
  obtain ⟨i5, ei5⟩ := is_v gg12
  obtain rfl : w5 = (.int i5) := Option.some.inj ei5
  obtain ⟨n, o, h1, h2, h3, _, L, rfl, ⟨rfl, N⟩, hq⟩ := rm0 l s _ hw tables_1 i0 i1 i2 i3 i4 i5  s.heap s.heap.size (Nat.le_refl _)  p e ha hc hk s m _ below hf ((Spec.applies_iff_loose hf).mp happ).1 ⟨rfl, State.Warmed39.refl s, rfl⟩ trivial
  refine ⟨n, _, h1, h2, h3, hpost _ _ _ _ _ _ ⟨Cond.after_iff.mpr rfl, Cond.after_iff.mpr (eq_i res_at (Term.int_eval (1)) rfl), trivial⟩ ⟨hq.1, hq.2.1, (hq.2.2.sift fun y hy => Or.inr (N y hy)).mono (by decide) (by decide)⟩⟩
theorem main_1_1 : Claimed_1_1 := comes_1 fun _ _ _ _ _ _ h hF => ⟨h.1, hF⟩
theorem main_1_2 : Claimed_1_2 := comes_1 fun _ _ _ _ _ _ h hF => ⟨h.2.1, hF⟩
end Jvm.Pilot.@@N@@
namespace Jvm.Pilot.@@N@@
open Jvm Jvm.ClassFile Sem Op Lib Jvm.Free Jvm.Stand Jvm.Pilot.@@N@@.Jvm.D
/-! MADE BY PROGRAM (witnessworld.py) out of the Statement's table words and the real class files: 12 classes; the members and pool entries that the words name. The judged class is class 1, her method 1. -/
namespace start1
open Jvm.ClassFile
def u (s : String) : CpInfo := .utf8 (stringToUtf16 s)
/-- a pool by its gaps: so many unusable entries, then the entry; so many at the end -/
def gap : Nat → List CpInfo → List CpInfo
  | 0, r => r
  | n + 1, r => .unusable :: gap n r
def poolList (es : List (Nat × CpInfo)) (last : Nat) : List CpInfo := es.foldr (fun e r => gap e.1 (e.2 :: r)) (gap last [])
def pool (es : List (Nat × CpInfo)) (last : Nat) : Array CpInfo := ⟨poolList es last⟩
def fileOf (pool : Array CpInfo) (this : Nat) (attrs : Array Attribute := #[]) (ms : Array MethodInfo := #[]) (fl : Nat := 33) (sup : Nat := 0) (ifs : Array Nat := #[]) (fds : Array FieldInfo := #[]) : ClassFile where
  minorVersion := 0
  majorVersion := 65
  constantPool := pool
  accessFlags := fl
  thisClass := this
  superClass := sup
  interfaces := ifs
  fields := fds
  methods := ms
  attributes := attrs
def plain (name : String) (sup : Option ClassId) : Class where
  name := name
  kind := .ordinary
  loader := none
  accessFlags := 33
  super := sup
  interfaces := #[]
  cf := none
  fields := #[]
  methods := #[]
  instanceTypes := #[]
  staticTypes := #[]
  resolved := #[]
  callSites := []
  init := .initialized
  statics := none
  mirror := none

def pool0 : Array CpInfo := pool [(5, u "<init>"), (0, u "()V"), (1, .class_ 10), (1, u "java/lang/Object")] 113

def k0c0 : Code := { maxStack := 0, maxLocals := 1, code := object_method_1_code, exceptionTable := #[], attributes := #[] }
def k0m0 : Method := { name := "<init>", desc := "()V", sig := { parameters := [], returnType := none }, accessFlags := 1, code := some k0c0 }
/-- java/lang/Object -/
def k0 : Class := { plain "java/lang/Object" none with
  accessFlags := 33
  interfaces := #[]
  cf := some (fileOf pool0 8 #[] #[{ accessFlags := 1, nameIndex := 5, descriptorIndex := 6, attributes := #[] }] 33 0 #[] #[])
  fields := #[]
  methods := #[k0m0]
  instanceTypes := #[]
  staticTypes := #[]
  resolved := Array.replicate 124 none
  statics := none }

def pool1 : Array CpInfo := pool [(2, .class_ 4), (1, u "java/lang/Object"), (0, u "<init>"), (0, u "()V"), (0, .integer 2147483647), (0, .methodref 9 10), (0, .class_ 11), (0, .nameAndType 12 13), (0, u "com/example/paperloom/paperloom/MeanWeightPinLaw"), (0, u "weightFor"), (0, u "(JI)J"), (0, .class_ 15), (0, u "com/example/paperloom/paperloom/CountSearch$Mean"), (0, .methodref 14 17), (0, .nameAndType 5 18), (0, u "([J[J)V"), (0, .methodref 14 20), (0, .nameAndType 21 22), (0, u "weight"), (0, u "([I)J"), (0, .methodref 24 25), (0, .class_ 26), (0, .nameAndType 27 28), (0, u "java/lang/Math"), (0, u "max"), (0, u "(JJ)J"), (2, u "law"), (0, u "(JJJIII)Z")] 11

def k1m0 : Method := { name := "<init>", desc := "()V", sig := { parameters := [], returnType := none }, accessFlags := 1, code := none }
def k1c1 : Code := { maxStack := 6, maxLocals := 24, code := code, exceptionTable := #[], attributes := #[] }
def k1m1 : Method := { name := "law", desc := "(JJJIII)Z", sig := { parameters := [.long, .long, .long, .int, .int, .int], returnType := some .boolean }, accessFlags := 9, code := some k1c1 }
def k1c2 : Code := { maxStack := 8, maxLocals := 3, code := method_3_code, exceptionTable := #[], attributes := #[] }
def k1m2 : Method := { name := "weightFor", desc := "(JI)J", sig := { parameters := [.long, .int], returnType := some .long }, accessFlags := 10, code := some k1c2 }
/-- com/example/paperloom/paperloom/MeanWeightPinLaw -/
def k1 : Class := { plain "com/example/paperloom/paperloom/MeanWeightPinLaw" (some 0) with
  accessFlags := 49
  interfaces := #[]
  cf := some (fileOf pool1 9 #[] #[{ accessFlags := 1, nameIndex := 5, descriptorIndex := 6, attributes := #[] }, { accessFlags := 9, nameIndex := 31, descriptorIndex := 32, attributes := #[] }, { accessFlags := 10, nameIndex := 12, descriptorIndex := 13, attributes := #[] }] 49 2 #[] #[])
  fields := #[]
  methods := #[k1m0, k1m1, k1m2]
  instanceTypes := #[]
  staticTypes := #[]
  resolved := Array.replicate 44 none
  statics := none }

def pool2 : Array CpInfo := pool [(1, .class_ 2), (0, u "java/lang/Math"), (1, .class_ 6), (1, u "java/lang/Object"), (0, u "<init>"), (0, u "()V"), (89, .class_ 100), (1, u "java/lang/Math$RandomNumberGeneratorHolder"), (20, u "(JJ)J"), (50, u "negativeZeroFloatBits"), (0, u "J"), (2, u "negativeZeroDoubleBits"), (21, u "max"), (46, u "$assertionsDisabled"), (0, u "Z"), (91, u "twoToTheDoubleScaleDown"), (0, u "D"), (4, u "twoToTheDoubleScaleUp"), (9, u "E"), (3, u "PI"), (2, u "TAU"), (2, u "DEGREES_TO_RADIANS"), (0, u "RADIANS_TO_DEGREES")] 94

def k2m0 : Method := { name := "<init>", desc := "()V", sig := { parameters := [], returnType := none }, accessFlags := 2, code := none }
def k2c1 : Code := { maxStack := 4, maxLocals := 4, code := jdk_29_method_66_code, exceptionTable := #[], attributes := #[] }
def k2m1 : Method := { name := "max", desc := "(JJ)J", sig := { parameters := [.long, .long], returnType := some .long }, accessFlags := 9, code := some k2c1 }
/-- java/lang/Math -/
def k2 : Class := { plain "java/lang/Math" (some 0) with
  accessFlags := 49
  interfaces := #[]
  cf := some (fileOf pool2 1 #[.nestMembers #[98]] #[{ accessFlags := 2, nameIndex := 7, descriptorIndex := 8, attributes := #[] }, { accessFlags := 9, nameIndex := 198, descriptorIndex := 121, attributes := #[] }] 49 4 #[] #[{ accessFlags := 25, nameIndex := 354, descriptorIndex := 339, attributes := #[] }, { accessFlags := 25, nameIndex := 358, descriptorIndex := 339, attributes := #[] }, { accessFlags := 25, nameIndex := 361, descriptorIndex := 339, attributes := #[] }, { accessFlags := 26, nameIndex := 364, descriptorIndex := 339, attributes := #[] }, { accessFlags := 26, nameIndex := 365, descriptorIndex := 339, attributes := #[] }, { accessFlags := 26, nameIndex := 172, descriptorIndex := 173, attributes := #[] }, { accessFlags := 26, nameIndex := 176, descriptorIndex := 173, attributes := #[] }, { accessFlags := 8, nameIndex := 344, descriptorIndex := 339, attributes := #[] }, { accessFlags := 8, nameIndex := 338, descriptorIndex := 339, attributes := #[] }, { accessFlags := 4120, nameIndex := 245, descriptorIndex := 246, attributes := #[] }])
  fields := #[{ name := "E", type := .double, accessFlags := 25, slot := 0, constantValue := 0 }, { name := "PI", type := .double, accessFlags := 25, slot := 1, constantValue := 0 }, { name := "TAU", type := .double, accessFlags := 25, slot := 2, constantValue := 0 }, { name := "DEGREES_TO_RADIANS", type := .double, accessFlags := 26, slot := 3, constantValue := 0 }, { name := "RADIANS_TO_DEGREES", type := .double, accessFlags := 26, slot := 4, constantValue := 0 }, { name := "negativeZeroFloatBits", type := .long, accessFlags := 26, slot := 5, constantValue := 0 }, { name := "negativeZeroDoubleBits", type := .long, accessFlags := 26, slot := 6, constantValue := 0 }, { name := "twoToTheDoubleScaleUp", type := .double, accessFlags := 8, slot := 7, constantValue := 0 }, { name := "twoToTheDoubleScaleDown", type := .double, accessFlags := 8, slot := 8, constantValue := 0 }, { name := "$assertionsDisabled", type := .boolean, accessFlags := 4120, slot := 9, constantValue := 0 }]
  methods := #[k2m0, k2m1]
  instanceTypes := #[]
  staticTypes := #[.double, .double, .double, .double, .double, .long, .long, .double, .double, .boolean]
  resolved := Array.replicate 460 none
  statics := none }

def pool3 : Array CpInfo := pool [(1, .methodref 2 3), (0, .class_ 4), (0, .nameAndType 5 6), (0, u "com/example/paperloom/paperloom/CountSearch$Mean"), (0, u "<init>"), (0, u "([J[JJJ)V"), (0, .methodref 8 9), (0, .class_ 10), (0, .nameAndType 5 11), (0, u "java/lang/Object"), (0, u "()V"), (0, .fieldref 2 13), (0, .nameAndType 14 15), (0, u "offset"), (0, u "[J"), (0, .fieldref 2 17), (0, .nameAndType 18 15), (0, u "weight"), (0, .fieldref 2 20), (0, .nameAndType 21 22), (0, u "startOffset"), (0, u "J"), (0, .fieldref 2 24), (0, .nameAndType 25 22), (0, u "startWeight"), (17, u "([I)J"), (2, u "([J[J)V"), (14, .class_ 62), (0, u "com/example/paperloom/paperloom/CountSearch")] 2

def k3c0 : Code := { maxStack := 7, maxLocals := 3, code := prog_8_method_1_code, exceptionTable := #[], attributes := #[] }
def k3m0 : Method := { name := "<init>", desc := "([J[J)V", sig := { parameters := [(.array .long), (.array .long)], returnType := none }, accessFlags := 0, code := some k3c0 }
def k3c1 : Code := { maxStack := 3, maxLocals := 7, code := prog_8_method_2_code, exceptionTable := #[], attributes := #[] }
def k3m1 : Method := { name := "<init>", desc := "([J[JJJ)V", sig := { parameters := [(.array .long), (.array .long), .long, .long], returnType := none }, accessFlags := 2, code := some k3c1 }
def k3c2 : Code := { maxStack := 6, maxLocals := 5, code := prog_8_method_7_code, exceptionTable := #[], attributes := #[] }
def k3m2 : Method := { name := "weight", desc := "([I)J", sig := { parameters := [(.array .int)], returnType := some .long }, accessFlags := 0, code := some k3c2 }
/-- com/example/paperloom/paperloom/CountSearch$Mean -/
def k3 : Class := { plain "com/example/paperloom/paperloom/CountSearch$Mean" (some 0) with
  accessFlags := 32
  interfaces := #[]
  cf := some (fileOf pool3 2 #[.nestHost 61] #[{ accessFlags := 0, nameIndex := 5, descriptorIndex := 46, attributes := #[] }, { accessFlags := 2, nameIndex := 5, descriptorIndex := 6, attributes := #[] }, { accessFlags := 0, nameIndex := 18, descriptorIndex := 43, attributes := #[] }] 32 8 #[] #[{ accessFlags := 18, nameIndex := 14, descriptorIndex := 15, attributes := #[] }, { accessFlags := 18, nameIndex := 18, descriptorIndex := 15, attributes := #[] }, { accessFlags := 18, nameIndex := 21, descriptorIndex := 22, attributes := #[] }, { accessFlags := 18, nameIndex := 25, descriptorIndex := 22, attributes := #[] }])
  fields := #[{ name := "offset", type := (.array .long), accessFlags := 18, slot := 0, constantValue := 0 }, { name := "weight", type := (.array .long), accessFlags := 18, slot := 1, constantValue := 0 }, { name := "startOffset", type := .long, accessFlags := 18, slot := 2, constantValue := 0 }, { name := "startWeight", type := .long, accessFlags := 18, slot := 3, constantValue := 0 }]
  methods := #[k3m0, k3m1, k3m2]
  instanceTypes := #[(.array .long), (.array .long), .long, .long]
  staticTypes := #[]
  resolved := Array.replicate 65 none
  statics := none }

def pool4 : Array CpInfo := pool [(1, u "java/lang/Cloneable"), (0, .class_ 1), (0, u "java/lang/Object"), (0, .class_ 3)] 3

/-- java/lang/Cloneable -/
def k4 : Class := { plain "java/lang/Cloneable" (some 0) with
  accessFlags := 1537
  interfaces := #[]
  cf := some (fileOf pool4 2 #[] #[] 1537 4 #[] #[])
  fields := #[]
  methods := #[]
  instanceTypes := #[]
  staticTypes := #[]
  resolved := Array.replicate 8 none
  statics := none }

def pool5 : Array CpInfo := pool [(1, u "java/io/Serializable"), (0, .class_ 1), (0, u "java/lang/Object"), (0, .class_ 3)] 3

/-- java/io/Serializable -/
def k5 : Class := { plain "java/io/Serializable" (some 0) with
  accessFlags := 1537
  interfaces := #[]
  cf := some (fileOf pool5 2 #[] #[] 1537 4 #[] #[])
  fields := #[]
  methods := #[]
  instanceTypes := #[]
  staticTypes := #[]
  resolved := Array.replicate 8 none
  statics := none }

/-- the primitive byte -/
def k6 : Class := { plain "byte" none with kind := .primitive 'B', accessFlags := 0x411 }
/-- [B -/
def k7 : Class := { plain "[B" (some 0) with kind := .array 6 .byte, interfaces := #[4, 5], accessFlags := 1041 }

/-- the primitive int -/
def k8 : Class := { plain "int" none with kind := .primitive 'I', accessFlags := 0x411 }
/-- [I -/
def k9 : Class := { plain "[I" (some 0) with kind := .array 8 .int, interfaces := #[4, 5], accessFlags := 1041 }

/-- the primitive long -/
def k10 : Class := { plain "long" none with kind := .primitive 'J', accessFlags := 0x411 }
/-- [J -/
def k11 : Class := { plain "[J" (some 0) with kind := .array 10 .long, interfaces := #[4, 5], accessFlags := 1041 }

def heap : Heap := #[]
def classes : Array Class := #[k0, k1, k2, k3, k4, k5, k6, k7, k8, k9, k10, k11]
def interned : List (Array UInt16 × Addr) := []
def slotsUsed : Nat := 0
def theMethod : MethodId := ⟨1, 1⟩
def args0 : Array Value := #[.long 5, .long 5, .long 5, .int 5, .int 5, .int 5]
def aboutOver (below : List Frame) : State where
  vm := { classes := classes, interned := interned.toArray }
  heap := heap
  slotsUsed := slotsUsed
  threads := #[{ frames := .invoking theMethod args0 :: below }]
def below0 : List Frame := [.native { method := ⟨0, 0⟩, args := #[] }]
def about1 : State := aboutOver below0
def p0 : Program := .bare "" "" ""
def e0 : Env := launch0.env 0 0 0
theorem w_frames : about1.frames = Frame.invoking theMethod args0 :: below0 := rfl
set_option maxRecDepth 65536 in
theorem w_args : argsFit about1.vm theMethod args0 = true := by decide +kernel
set_option maxRecDepth 65536 in
theorem w_heap : heapFits about1 = true := by decide +kernel
set_option maxRecDepth 65536 in
theorem w_runnable : about1.curStatus? = some .runnable := by decide +kernel
set_option maxRecDepth 65536 in
theorem w_alone : about1.alone = true := by decide +kernel
set_option maxRecDepth 65536 in
theorem w_named : about1.methodNamed? x = some theMethod := by decide +kernel
set_option maxRecDepth 65536 in
theorem w_hears : about1.hears theMethod below0 = true := by decide +kernel
set_option maxRecDepth 65536 in
theorem w_ripe : about1.ripe theMethod args0 below0 = true := by decide +kernel
theorem w_running : about1.status = .running := rfl
set_option maxRecDepth 65536 in
theorem w_room : about1.hasRoom e0.platform room_1 = true :=
  launch0.hasRoom_least _ room_1 (by decide +kernel) (by decide +kernel) (by decide +kernel) (by decide +kernel) (by decide +kernel) (by decide +kernel)
theorem allAtoms_all (ts : List Jvm.Cond) (a : Array Jvm.Value) (st : Jvm.State) : (allAtoms ts).before a st = ts.all (fun c => c.before a st) := by
  induction ts with
  | nil => rfl
  | cons c t ih =>
    show (Jvm.Cond.and c (allAtoms t)).before a st = _
    rw [Jvm.Cond.before_and, ih, List.all_cons]
def words1 : List Jvm.Cond := Jvm.Cond.code x code maxLocals ret :: tables_1
/-- a 'code' word, met by the world's own term for the bytes: nothing is compared byte by byte -/
theorem code_word {y : MethodName} {bytes : ByteArray} {mx : Nat} {rt : Option FieldType} {a : Array Value} {s : State} {m : MethodId} {meth : Method} {c : Code} (h1 : s.methodNamed? y = some m) (h2 : s.vm.method? m = some meth) (h3 : meth.code = some c) (h4 : c.code = bytes)
    (h5 : (c.maxLocals == mx && c.exceptionTable.isEmpty && decide (c.maxStack ≤ mostOperands) && decide (meth.sig.returnType = rt) && !meth.locks && decide (parseMethodDescriptor y.desc = some meth.sig)) = true) : (Jvm.Cond.code y bytes mx rt).before a s = true := by
  simp only [Bool.and_eq_true, beq_iff_eq, Bool.not_eq_true', decide_eq_true_eq] at h5
  obtain ⟨⟨⟨⟨⟨g1, g2⟩, g3⟩, g4⟩, g5⟩, g6⟩ := h5
  simp [Cond.before, Cond.holds, Cond.value, h1, h2, h3, h4, g1, g2, g3, g4, g5, g6]
def isCode : Jvm.Cond → Bool
  | .code _ _ _ _ => true
  | _ => false
theorem all_split {L : List Jvm.Cond} {P : Jvm.Cond → Bool} (h1 : L.all (fun c => isCode c || P c) = true) (h2 : ∀ c ∈ L.filter isCode, P c = true) : L.all P = true := by
  refine List.all_eq_true.mpr fun c hc => ?_
  have h := List.all_eq_true.mp h1 c hc
  rcases Bool.eq_false_or_eq_true (isCode c) with hi | hi
  · exact h2 c (List.mem_filter.mpr ⟨hc, hi⟩)
  · simpa [hi] using h
set_option maxRecDepth 65536 in
theorem w_c0 : (Jvm.Cond.code x code maxLocals ret).before args0 about1 = true := code_word (m := ⟨1, 1⟩) (meth := k1m1) (c := k1c1) (by decide +kernel) rfl rfl rfl (by decide +kernel)
set_option maxRecDepth 65536 in
theorem w_c1 : (Jvm.Cond.code ({ cls := "com/example/paperloom/paperloom/MeanWeightPinLaw", name := "weightFor", desc := "(JI)J" } : Jvm.MethodName) method_3_code (3 : Nat) (Option.some Jvm.ClassFile.FieldType.long)).before args0 about1 = true := code_word (m := ⟨1, 2⟩) (meth := k1m2) (c := k1c2) (by decide +kernel) rfl rfl rfl (by decide +kernel)
set_option maxRecDepth 65536 in
theorem w_c2 : (Jvm.Cond.code ({ cls := "java/lang/Math", name := "max", desc := "(JJ)J" } : Jvm.MethodName) jdk_29_method_66_code (4 : Nat) (Option.some Jvm.ClassFile.FieldType.long)).before args0 about1 = true := code_word (m := ⟨2, 1⟩) (meth := k2m1) (c := k2c1) (by decide +kernel) rfl rfl rfl (by decide +kernel)
set_option maxRecDepth 65536 in
theorem w_c3 : (Jvm.Cond.code ({ cls := "com/example/paperloom/paperloom/CountSearch$Mean", name := "<init>", desc := "([J[J)V" } : Jvm.MethodName) prog_8_method_1_code (3 : Nat) (Option.none : Option Jvm.ClassFile.FieldType)).before args0 about1 = true := code_word (m := ⟨3, 0⟩) (meth := k3m0) (c := k3c0) (by decide +kernel) rfl rfl rfl (by decide +kernel)
set_option maxRecDepth 65536 in
theorem w_c4 : (Jvm.Cond.code ({ cls := "com/example/paperloom/paperloom/CountSearch$Mean", name := "<init>", desc := "([J[JJJ)V" } : Jvm.MethodName) prog_8_method_2_code (7 : Nat) (Option.none : Option Jvm.ClassFile.FieldType)).before args0 about1 = true := code_word (m := ⟨3, 1⟩) (meth := k3m1) (c := k3c1) (by decide +kernel) rfl rfl rfl (by decide +kernel)
set_option maxRecDepth 65536 in
theorem w_c5 : (Jvm.Cond.code ({ cls := "java/lang/Object", name := "<init>", desc := "()V" } : Jvm.MethodName) object_method_1_code (1 : Nat) (Option.none : Option Jvm.ClassFile.FieldType)).before args0 about1 = true := code_word (m := ⟨0, 0⟩) (meth := k0m0) (c := k0c0) (by decide +kernel) rfl rfl rfl (by decide +kernel)
set_option maxRecDepth 65536 in
theorem w_c6 : (Jvm.Cond.code ({ cls := "com/example/paperloom/paperloom/CountSearch$Mean", name := "weight", desc := "([I)J" } : Jvm.MethodName) prog_8_method_7_code (5 : Nat) (Option.some Jvm.ClassFile.FieldType.long)).before args0 about1 = true := code_word (m := ⟨3, 2⟩) (meth := k3m2) (c := k3c2) (by decide +kernel) rfl rfl rfl (by decide +kernel)
def codes1 : List Jvm.Cond := [Jvm.Cond.code x code maxLocals ret, Jvm.Cond.code ({ cls := "com/example/paperloom/paperloom/MeanWeightPinLaw", name := "weightFor", desc := "(JI)J" } : Jvm.MethodName) method_3_code (3 : Nat) (Option.some Jvm.ClassFile.FieldType.long), Jvm.Cond.code ({ cls := "java/lang/Math", name := "max", desc := "(JJ)J" } : Jvm.MethodName) jdk_29_method_66_code (4 : Nat) (Option.some Jvm.ClassFile.FieldType.long), Jvm.Cond.code ({ cls := "com/example/paperloom/paperloom/CountSearch$Mean", name := "<init>", desc := "([J[J)V" } : Jvm.MethodName) prog_8_method_1_code (3 : Nat) (Option.none : Option Jvm.ClassFile.FieldType), Jvm.Cond.code ({ cls := "com/example/paperloom/paperloom/CountSearch$Mean", name := "<init>", desc := "([J[JJJ)V" } : Jvm.MethodName) prog_8_method_2_code (7 : Nat) (Option.none : Option Jvm.ClassFile.FieldType), Jvm.Cond.code ({ cls := "java/lang/Object", name := "<init>", desc := "()V" } : Jvm.MethodName) object_method_1_code (1 : Nat) (Option.none : Option Jvm.ClassFile.FieldType), Jvm.Cond.code ({ cls := "com/example/paperloom/paperloom/CountSearch$Mean", name := "weight", desc := "([I)J" } : Jvm.MethodName) prog_8_method_7_code (5 : Nat) (Option.some Jvm.ClassFile.FieldType.long)]
set_option maxRecDepth 65536 in
theorem codes_eq : words1.filter isCode = codes1 := rfl
theorem w_codes : ∀ c ∈ words1.filter isCode, c.before args0 about1 = true := by
  rw [codes_eq]
  intro c hc
  simp only [codes1, List.mem_cons, List.not_mem_nil, or_false] at hc
  rcases hc with rfl | rfl | rfl | rfl | rfl | rfl | rfl
  · exact w_c0
  · exact w_c1
  · exact w_c2
  · exact w_c3
  · exact w_c4
  · exact w_c5
  · exact w_c6
set_option maxRecDepth 65536 in
theorem w_t1 : (words1.take 24).all (fun c => isCode c || c.before args0 about1) = true := by decide +kernel
set_option maxRecDepth 65536 in
theorem w_t2 : (words1.drop 24).all (fun c => isCode c || c.before args0 about1) = true := by decide +kernel
theorem w_tables : (allAtoms (Jvm.Cond.code x code maxLocals ret :: tables_1)).before args0 about1 = true := by
  rw [allAtoms_all]
  show words1.all (fun c => c.before args0 about1) = true
  refine all_split ?_ w_codes
  rw [← List.take_append_drop 24 words1, List.all_append, w_t1, w_t2]
  rfl
set_option maxRecDepth 65536 in
theorem w_case : (Jvm.Cond.and given_1 narrow_1).before args0 about1 = true := by decide +kernel
theorem w_applies : (headSpec (Jvm.Cond.code x code maxLocals ret :: tables_1) room_1).applies x e0.platform about1 = true :=
  (Spec.applies_iff w_frames).mpr ⟨w_running, w_runnable, w_alone, w_named, w_hears, w_ripe, w_room, w_tables⟩
theorem atStart : AtStart classFile x code maxLocals ret World_1 tables_1 room_1 Calls_1 rest_1 Pre_1 launch0 p0 e0 about1 theMethod args0 below0 :=
  ⟨lists_1, trivial, launch0.admits_env _ _ _, launch0.least_env, fairChoices_fair.cas, fairChoices_fair.clock, w_frames, w_args, w_heap, w_applies, trivial, trivial, w_case⟩
end start1
theorem witness_1 : WitnessClaimed_1 := ⟨start1.p0, start1.e0, start1.about1, start1.theMethod, start1.args0, start1.below0, start1.atStart⟩
end Jvm.Pilot.@@N@@
