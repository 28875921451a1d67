import JvmDerived
import JvmDerived.Pilot.@@N@@Statement
import JvmDerived.Pilot.@@N@@Code
set_option linter.unusedVariables false
set_option linter.unusedSimpArgs false
namespace Jvm.Pilot.@@N@@
open Jvm Jvm.ClassFile Sem Op Lib Jvm.Free Jvm.Stand Jvm.LawKit Jvm.RoadKit Bundle Jvm.Pilot.@@N@@.Jvm.D
section OwnKit
variable {p : Program} {l : Launch} {e : Env} {R : Room} {s : State} {m : MethodId} {args : Array Value} {below : List Frame} {meth : Method} {c : Code} {T : State} {locs : List Loc} {cells slots : Nat} {Z : State} {h h' : Heap} {a b : Addr} {ty : FieldType} {n : Nat} {f f' : Nat → Value} {sl : Nat} {v : Value} {ws : List Addr}
theorem own_dia {t : State} {B F : JFrame} (hh : Steps p.tables e below (T.setTop F) t → Steps p.tables e below (T.setTop B) t) (k : Steps p.tables e below (T.setTop F) t) : Steps p.tables e below (T.setTop B) t := hh k
/-- the place j lies in an array of n places -/
abbrev own_in (j : Int32) (n : Nat) : Prop := 0 ≤ j.toInt ∧ j.toInt < n
theorem own_in_nat {j : Int32} (hj : own_in j n) : j.toNatClampNeg < n := by simp only [Int32.toNatClampNeg]; omega
theorem own_in_arr {cl : Cell} {j : Int32} (hs : cl.slots.size = n) (hj : own_in j n) : ¬ (j < 0 ∨ cl.slots.size ≤ j.toNatClampNeg) := by
  have := own_in_nat hj
  have k0 : (0 : Int32).toInt = 0 := by decide
  rw [Int32.lt_iff_toInt_lt, hs, k0]; omega
/-- an array: its kind, its length, and what each place holds -/
def AF (Z : State) (h : Heap) (a : Addr) (ty : FieldType) (n : Nat) (f : Nat → Value) : Prop := ∃ c : Cell, Arr Z h a c ty ∧ c.slots.size = n ∧ n < 2147483648 ∧ ∀ j, j < n → c.slots[j]? = some (f j)
theorem AF.lt (F : AF Z h a ty n f) : a < h.size := by obtain ⟨c, A, -⟩ := F; exact A.lt
theorem AF.small (F : AF Z h a ty n f) : n < 2147483648 := by obtain ⟨c, -, -, q, -⟩ := F; exact q
theorem AF.ext (F : AF Z h a ty n f) (E : Ext h h') : AF Z h' a ty n f := by obtain ⟨c, A, r⟩ := F; exact ⟨c, A.ext E, r⟩
theorem AF.other (F : AF Z h b ty n f) (W : Wr h h' a sl v) (q : b ≠ a) : AF Z h' b ty n f := by obtain ⟨c, A, r⟩ := F; exact ⟨c, A.other W q, r⟩
theorem AF.keep (F : AF Z h a ty n f) (K : Keep h h' ws) (q : a ∉ ws) : AF Z h' a ty n f := by obtain ⟨c, A, r⟩ := F; exact ⟨c, ⟨K.2.1 a c A.1 q, A.2⟩, r⟩
theorem AF.cong (F : AF Z h a ty n f) (q : ∀ j, j < n → f j = f' j) : AF Z h a ty n f' := by obtain ⟨c, A, r1, r2, r3⟩ := F; exact ⟨c, A, r1, r2, fun j hj => by rw [← q j hj]; exact r3 j hj⟩
theorem AF.new {k : ClassId} {z : Int32} (A : Arr Z h a (newA k ty z) ty) (q : ¬ z < 0) : AF Z h a ty z.toNatClampNeg (fun _ => defaultValue ty) := ⟨_, A, sz_new _ _ _, (back32 q).2, fun j hj => by simp [newA, hj]⟩
theorem AF.set (F : AF Z h a ty n f) {k : Nat} (W : Wr h h' a k v) : AF Z h' a ty n (fun i => if i = k then v else f i) := by
  obtain ⟨c, A, r1, r2, r3⟩ := F
  refine ⟨_, Arr.same W A, by rw [sz_set]; exact r1, r2, fun j hj => ?_⟩
  obtain ⟨cell, h1, -, h3, -⟩ := W
  cases h1.symm.trans A.1
  by_cases q : j = k
  · subst q; simp [Cell.setSlot, h3]
  · have q' : ¬ k = j := fun z => q z.symm
    simp only [Cell.setSlot, Array.getElem?_setIfInBounds, if_neg q, if_neg q']; exact r3 j hj
theorem own_updI {g fN : Nat → Int32} {x : Int32} {J k : Nat} (hk : k = J) (hf : fN = fun i => if i = J then x else g i) : ∀ j, j < n → (if j = k then Value.int x else Value.int (g j)) = Value.int (fN j) := by
  subst hk hf; intro j _; by_cases q : j = k <;> simp [q]
theorem own_updJ {g fN : Nat → Int64} {x : Int64} {J k : Nat} (hk : k = J) (hf : fN = fun i => if i = J then x else g i) : ∀ j, j < n → (if j = k then Value.long x else Value.long (g j)) = Value.long (fN j) := by
  subst hk hf; intro j _; by_cases q : j = k <;> simp [q]
theorem AF.ldI (X : Stand p l e R s m args below meth c T locs cells slots) (hx : p.tables.exec = Jvm.exec) (hZ : Z.Warmed39 s.vm) (eT : T.heap = h) {f : Nat → Int32} (A : AF Z h a .int n (fun j => .int (f j))) {j : Int32} (hj : own_in j n) {g : JFrame} (hg : g.method = m) {rest : List Value} (hs : g.stack = .int j :: .ref a :: rest) (hd : decode c.code g.pc = .ok (.iaload, 1)) (target : State)
    (k : Steps p.tables e below (T.setTop { g with pc := g.pc + 1, stack := .int (f j.toNatClampNeg) :: rest }) target) : Steps p.tables e below (T.setTop g) target := by
  obtain ⟨cl, A, r1, r2, r3⟩ := A
  exact X.iaload hx (j := j) (v := .int (f j.toNatClampNeg)) (by rw [eT]; exact A.1) (State.isArrayOf_alike hZ.alike A.2.1) A.2.2 (own_in_arr r1 hj) (r3 _ (own_in_nat hj)) hg hs hd _ k
theorem AF.ldJ (X : Stand p l e R s m args below meth c T locs cells slots) (hx : p.tables.exec = Jvm.exec) (hZ : Z.Warmed39 s.vm) (eT : T.heap = h) {f : Nat → Int64} (A : AF Z h a .long n (fun j => .long (f j))) {j : Int32} (hj : own_in j n) {g : JFrame} (hg : g.method = m) {rest : List Value} (hs : g.stack = .int j :: .ref a :: rest) (hd : decode c.code g.pc = .ok (.laload, 1)) (target : State)
    (k : Steps p.tables e below (T.setTop { g with pc := g.pc + 1, stack := .long (f j.toNatClampNeg) :: rest }) target) : Steps p.tables e below (T.setTop g) target := by
  obtain ⟨cl, A, r1, r2, r3⟩ := A
  exact X.laload hx (j := j) (v := .long (f j.toNatClampNeg)) (by rw [eT]; exact A.1) (State.isArrayOf_alike hZ.alike A.2.1) A.2.2 (own_in_arr r1 hj) (r3 _ (own_in_nat hj)) hg hs hd _ k
theorem AF.ldB (X : Stand p l e R s m args below meth c T locs cells slots) (hx : p.tables.exec = Jvm.exec) (hZ : Z.Warmed39 s.vm) (eT : T.heap = h) {f : Nat → Int32} (A : AF Z h a .byte n (fun j => .int (f j))) {j : Int32} (hj : own_in j n) {g : JFrame} (hg : g.method = m) {rest : List Value} (hs : g.stack = .int j :: .ref a :: rest) (hd : decode c.code g.pc = .ok (.baload, 1)) (target : State)
    (k : Steps p.tables e below (T.setTop { g with pc := g.pc + 1, stack := .int (f j.toNatClampNeg) :: rest }) target) : Steps p.tables e below (T.setTop g) target := by
  obtain ⟨cl, A, r1, r2, r3⟩ := A
  exact X.baloadBytes hx (j := j) (v := .int (f j.toNatClampNeg)) (by rw [eT]; exact A.1) (State.isArrayOf_alike hZ.alike A.2.1) A.2.2 (own_in_arr r1 hj) (r3 _ (own_in_nat hj)) hg hs hd _ k
theorem AF.len (X : Stand p l e R s m args below meth c T locs cells slots) (hx : p.tables.exec = Jvm.exec) (hZ : Z.Warmed39 s.vm) (eT : T.heap = h) (A : AF Z h a ty n f) {g : JFrame} (hg : g.method = m) {rest : List Value} (hs : g.stack = .ref a :: rest) (hd : decode c.code g.pc = .ok (.arraylength, 1)) (target : State)
    (k : Steps p.tables e below (T.setTop { g with pc := g.pc + 1, stack := .int (Int32.ofNat n) :: rest }) target) : Steps p.tables e below (T.setTop g) target := by
  obtain ⟨cl, A, r1, r2, r3⟩ := A
  subst r1
  exact X.arraylength hx (by rw [eT]; exact A.1) (State.isArrayOf_alike hZ.alike A.2.1) hg hs hd _ k
theorem AF.stI (X : Stand p l e R s m args below meth c T locs cells slots) (hx : p.tables.exec = Jvm.exec) (hZ : Z.Warmed39 s.vm) (eT : T.heap = h) (A : AF Z h a .int n f) {j x : Int32} (hj : own_in j n) {g : JFrame} (hg : g.method = m) {rest : List Value} (hs : g.stack = .int x :: .int j :: .ref a :: rest) (hd : decode c.code g.pc = .ok (.iastore, 1)) :
    ∃ T' h', Stand p l e R s m args below meth c T' (locs ++ [⟨a, j.toNatClampNeg⟩]) cells slots ∧ T'.heap = h' ∧ Wr h h' a j.toNatClampNeg (.int x) ∧ AF Z h' a .int n (fun i => if i = j.toNatClampNeg then .int x else f i) ∧ ∀ target, Steps p.tables e below (T'.setTop { g with pc := g.pc + 1, stack := rest }) target → Steps p.tables e below (T.setTop g) target := by
  have A0 := A
  obtain ⟨cl, A, r1, r2, r3⟩ := A
  obtain ⟨T', h', X', e', W, st⟩ := Jvm.RoadKit.stI X hx hZ eT A (j := j) (own_in_arr r1 hj) hg hs hd
  exact ⟨T', h', X', e', W, A0.set W, st⟩
theorem AF.stJ (X : Stand p l e R s m args below meth c T locs cells slots) (hx : p.tables.exec = Jvm.exec) (hZ : Z.Warmed39 s.vm) (eT : T.heap = h) (A : AF Z h a .long n f) {j : Int32} {x : Int64} (hj : own_in j n) {g : JFrame} (hg : g.method = m) {rest : List Value} (hs : g.stack = .long x :: .int j :: .ref a :: rest) (hd : decode c.code g.pc = .ok (.lastore, 1)) :
    ∃ T' h', Stand p l e R s m args below meth c T' (locs ++ [⟨a, j.toNatClampNeg⟩]) cells slots ∧ T'.heap = h' ∧ Wr h h' a j.toNatClampNeg (.long x) ∧ AF Z h' a .long n (fun i => if i = j.toNatClampNeg then .long x else f i) ∧ ∀ target, Steps p.tables e below (T'.setTop { g with pc := g.pc + 1, stack := rest }) target → Steps p.tables e below (T.setTop g) target := by
  have A0 := A
  obtain ⟨cl, A, r1, r2, r3⟩ := A
  obtain ⟨T', h', X', e', W, st⟩ := Jvm.RoadKit.stJ X hx hZ eT A (j := j) (own_in_arr r1 hj) hg hs hd
  exact ⟨T', h', X', e', W, A0.set W, st⟩
theorem AF.stB (X : Stand p l e R s m args below meth c T locs cells slots) (hx : p.tables.exec = Jvm.exec) (hZ : Z.Warmed39 s.vm) (eT : T.heap = h) (A : AF Z h a .byte n f) {j x : Int32} (hj : own_in j n) {g : JFrame} (hg : g.method = m) {rest : List Value} (hs : g.stack = .int x :: .int j :: .ref a :: rest) (hd : decode c.code g.pc = .ok (.bastore, 1)) :
    ∃ T' h', Stand p l e R s m args below meth c T' (locs ++ [⟨a, j.toNatClampNeg⟩]) cells slots ∧ T'.heap = h' ∧ Wr h h' a j.toNatClampNeg (.int x.toInt8.toInt32) ∧ AF Z h' a .byte n (fun i => if i = j.toNatClampNeg then .int x.toInt8.toInt32 else f i) ∧ ∀ target, Steps p.tables e below (T'.setTop { g with pc := g.pc + 1, stack := rest }) target → Steps p.tables e below (T.setTop g) target := by
  have A0 := A
  obtain ⟨cl, A, r1, r2, r3⟩ := A
  obtain ⟨T', h', X', e', W, st⟩ := Jvm.RoadKit.stB X hx hZ eT A (j := j) (own_in_arr r1 hj) hg hs hd
  exact ⟨T', h', X', e', W, A0.set W, st⟩
theorem own_cpyI {f g fN : Nat → Int32} {k : Nat} (hf : fN = fun j => if j < k then f j else g j) : ∀ j, j < n → (if j < k then Value.int (f j) else Value.int (g j)) = Value.int (fN j) := by
  subst hf; intro j _; by_cases q : j < k <;> simp [q]
theorem own_cpyJ {f g fN : Nat → Int64} {k : Nat} (hf : fN = fun j => if j < k then f j else g j) : ∀ j, j < n → (if j < k then Value.long (f j) else Value.long (g j)) = Value.long (fN j) := by
  subst hf; intro j _; by_cases q : j < k <;> simp [q]
theorem own_acW {own : String} {index : Nat} (h1 : (Jvm.Cond.methodLink own index Jvm.Stand.acN).before args s = true) (h2 : (Jvm.Cond.native Jvm.Stand.acN).before args s = true) (h3 : (Jvm.Cond.static Jvm.Stand.acN).before args s = true) (h4 : (Jvm.Cond.initialized "java/lang/System").before args s = true) : ∀ w ∈ Jvm.Free.XT.acW own index, w.before args s = true := by
  intro w hw
  change w ∈ [Jvm.Cond.methodLink own index Jvm.Stand.acN, Jvm.Cond.native Jvm.Stand.acN, Jvm.Cond.static Jvm.Stand.acN, Jvm.Cond.initialized "java/lang/System"] at hw
  simp only [List.mem_cons, List.not_mem_nil, or_false] at hw
  rcases hw with rfl | rfl | rfl | rfl
  · exact h1
  · exact h2
  · exact h3
  · exact h4
theorem own_isArr {c c' : Cell} (q : Z.isArrayOf c ty) (h1 : c'.cls = c.cls) (h2 : c'.vm = c.vm) : Z.isArrayOf c' ty := by
  obtain ⟨q1, k, q2, q3⟩ := q
  exact ⟨by rw [h2]; exact q1, k, by rw [h1]; exact q2, q3⟩
theorem AF.copy (X : Stand p l e R s m args below meth c T locs cells slots) (hx : p.tables.exec = Jvm.exec) (hZ : Z.Warmed39 s.vm) {own : String} {index : Nat} (hown : s.vm.findClass own = some m.cls) (hw : ∀ w ∈ Jvm.Free.XT.acW own index, w.before args s = true)
    (eT : T.heap = h) {k : Nat} {f' : Nat → Value} (A : AF Z h a ty n f) (B : AF Z h b ty k f') (hp : ty.isReference = false) {cnt : Nat} (hfit : ∀ j, j < cnt → fits ty (f j) = true) (h1 : cnt ≤ n) (h2 : cnt ≤ k) {jn : Int32} (hn : jn = Int32.ofNat cnt)
    {g : JFrame} (hg : g.method = m) (hsize : g.locals.size = c.maxLocals) {rest : List Value} (hs : g.stack = .int jn :: .int 0 :: .ref b :: .int 0 :: .ref a :: rest) (hd : decode c.code g.pc = .ok (.invokestatic index, 3))
    {W : Nat} (hW : 2 * g.monitorRoom + (rest.map fun v => v.category).sum ≤ W) (hfr : 1 ≤ R.frames) (hlo : W + 40 ≤ R.locals) :
    ∃ (T' : State) (h' : Heap) (L' : List Loc), Stand p l e R s m args below meth c T' (locs ++ L') cells slots ∧ T'.heap = h' ∧ (∀ y ∈ L', y.base = b) ∧ Keep h h' [b] ∧ AF Z h' b ty k (fun j => if j < cnt then f j else f' j) ∧
      ∀ target, Steps p.tables e below (T'.setTop { g with pc := g.pc + 3, stack := rest }) target → Steps p.tables e below (T.setTop g) target := by
  obtain ⟨ca, A, a1, a2, a3⟩ := A
  obtain ⟨cb, B, b1, b2, b3⟩ := B
  have tA : Jvm.Free.XT.Arr ty a ca T := ⟨by rw [eT]; exact A.1, State.isArrayOf_alike X.warmed.alike (State.isArrayOf_alike hZ.alike A.2.1), A.2.2, by omega⟩
  have tB : Jvm.Free.XT.Arr ty b cb T := ⟨by rw [eT]; exact B.1, State.isArrayOf_alike X.warmed.alike (State.isArrayOf_alike hZ.alike B.2.1), B.2.2, by omega⟩
  have ga : ∀ j, j < n → ca.slots.getD j .null = f j := fun j hj => by
    have q := a3 j hj
    rw [Array.getD_eq_getD_getElem?, q]; rfl
  obtain ⟨T', B', X', P, q1, q2, q3, q4, st⟩ := X.acopy hx (o := 0) (q := 0) (n := cnt) (jo := 0) (jq := 0) hown hw tA tB (by simp) rfl rfl hn (by omega) (by omega)
    (fun i hi => ⟨by rw [Nat.zero_add, ga i (by omega)]; exact hfit i hi, fun z => by rw [hp] at z; cases z⟩) hg hsize hs hd hW hfr hlo
  refine ⟨T', _, _, X', rfl, fun y hy => ?_, ⟨by rw [P.2.2, eT]; exact Nat.le_refl _, fun x cx hx' hn' => ?_, fun x cx hx' => ?_⟩, ⟨B', ⟨P.1, own_isArr B.2.1 q1 q2, by rw [q2]; exact B.2.2⟩, q3.trans b1, b2, fun j hj => ?_⟩, st⟩
  · simp only [copyLocs, List.mem_map] at hy
    obtain ⟨i, -, rfl⟩ := hy
    rfl
  · rw [P.2.1 x (fun z => hn' (by simp [z])), eT]; exact hx'
  · by_cases z : x = b
    · subst z
      cases hx'.symm.trans B.1
      exact ⟨B', P.1, q1, q2, q3⟩
    · exact ⟨cx, by rw [P.2.1 x z, eT]; exact hx', rfl, rfl, rfl⟩
  · show _ = some (if j < cnt then f j else f' j)
    rw [q4 j]
    by_cases z : j < cnt
    · rw [if_pos (by omega), if_pos z]
      have : 0 + (j - 0) = j := by omega
      rw [this, ga j (by omega)]
    · rw [if_neg (by omega), if_neg z]; exact b3 j hj
theorem own_nb (x : Int32) : nar .boolean x = x &&& 1 := rfl
theorem own_nar1 : nar .boolean 1 = 1 := rfl
theorem own_nar0 : nar .boolean 0 = 0 := rfl
theorem own_nbyte (x : Int32) : nar .byte x = x.toInt8.toInt32 := rfl
theorem own_nar_ite (q : Prop) [Decidable q] (x y : Int32) : nar .boolean (if q then x else y) = if q then nar .boolean x else nar .boolean y := by split <;> rfl
theorem own_pos_ne {x : Int64} (q : 0 < x) : x ≠ 0 := fun z => by subst z; exact absurd q (by decide)
theorem own_cat {w : Value} (q : w.isRef = true) : w.category = 1 := by cases w <;> first | rfl | (simp [Value.isRef] at q)
/-- a static field that holds v, in a heap that keeps all that was old at the start -/
def SO (Z : State) (n0 : Nat) (h : Heap) (C n d : String) (v : Value) : Prop := Sta Z Z.heap C n d v ∧ Old Z n0 h
theorem SO.ext {n0 : Nat} {C nm d : String} (F : SO Z n0 h C nm d v) (E : Ext h h') : SO Z n0 h' C nm d v := ⟨F.1, F.2.ext E⟩
theorem SO.wr {n0 : Nat} {C nm d : String} {w : Value} (F : SO Z n0 h C nm d v) (W : Wr h h' a sl w) (q : n0 ≤ a) : SO Z n0 h' C nm d v := ⟨F.1, F.2.wr W q⟩
theorem SO.keep {n0 : Nat} {C nm d : String} (F : SO Z n0 h C nm d v) (K : Keep h h' ws) (q : ∀ x ∈ ws, n0 ≤ x) : SO Z n0 h' C nm d v := ⟨F.1, F.2.keep K q⟩
theorem SO.sta {n0 : Nat} {C nm d : String} (F : SO Z n0 h C nm d v) : Sta Z h C nm d v := F.1.ext F.2.2
theorem own_selp {y : MethodName} {n : Nat} (wi : (Jvm.Cond.instantiable y.cls n).before args s = true) (hpriv : s.PrivateAt y) (hinst : (Jvm.Cond.instanceMethod y).before args s = true) (hy : y.cls ≠ "java/lang/invoke/MethodHandle" ∧ y.cls ≠ "java/lang/invoke/VarHandle") : (Jvm.Cond.selects y.cls y y).before args s = true := by
  obtain ⟨c, k, h1, h2, -, h4, -⟩ := Cond.instantiable_spec wi
  exact Jvm.Stand.selects_self_of_private h1 h2 (by simp only [Bool.or_eq_false_iff] at h4; exact h4.1) hpriv hinst hy
end OwnKit

theorem pn_0 : plainName "copybridge/codec/decimal/ZonedFormatIsSeparateSignPinLaw" = true := by first | (simp [plainName, overriddenIn]; done) | decide +kernel
theorem d1_0 : decode prog_22_method_1_code 0 = .ok (.aload_n 0, 1) := by decide +kernel
theorem d1_1 : decode prog_22_method_1_code 1 = .ok (.invokespecial 1, 3) := by decide +kernel
theorem d1_4 : decode prog_22_method_1_code 4 = .ok (.aload_n 0, 1) := by decide +kernel
theorem d1_5 : decode prog_22_method_1_code 5 = .ok (.new 7, 3) := by decide +kernel
theorem d1_8 : decode prog_22_method_1_code 8 = .ok (.dup, 1) := by decide +kernel
theorem d1_9 : decode prog_22_method_1_code 9 = .ok (.iload_n 2, 1) := by decide +kernel
theorem d1_10 : decode prog_22_method_1_code 10 = .ok (.iload_n 3, 1) := by decide +kernel
theorem d1_11 : decode prog_22_method_1_code 11 = .ok (.iload_n 1, 1) := by decide +kernel
theorem d1_12 : decode prog_22_method_1_code 12 = .ok (.invokespecial 9, 3) := by decide +kernel
theorem d1_15 : decode prog_22_method_1_code 15 = .ok (.putfield 12, 3) := by decide +kernel
theorem d1_18 : decode prog_22_method_1_code 18 = .ok (.aload_n 0, 1) := by decide +kernel
theorem d1_19 : decode prog_22_method_1_code 19 = .ok (.iload 4, 2) := by decide +kernel
theorem d1_21 : decode prog_22_method_1_code 21 = .ok (.putfield 18, 3) := by decide +kernel
theorem d1_24 : decode prog_22_method_1_code 24 = .ok (.aload_n 0, 1) := by decide +kernel
theorem d1_25 : decode prog_22_method_1_code 25 = .ok (.iload 5, 2) := by decide +kernel
theorem d1_27 : decode prog_22_method_1_code 27 = .ok (.putfield 22, 3) := by decide +kernel
theorem d1_30 : decode prog_22_method_1_code 30 = .ok (.return_, 1) := by decide +kernel
theorem pn_1 : plainName "copybridge/codec/decimal/ZonedFormat" = true := by first | (simp [plainName, overriddenIn]; done) | decide +kernel
theorem d3_0 : decode prog_20_method_1_code 0 = .ok (.aload_n 0, 1) := by decide +kernel
theorem d3_1 : decode prog_20_method_1_code 1 = .ok (.invokespecial 1, 3) := by decide +kernel
theorem d3_4 : decode prog_20_method_1_code 4 = .ok (.aload_n 0, 1) := by decide +kernel
theorem d3_5 : decode prog_20_method_1_code 5 = .ok (.iload_n 1, 1) := by decide +kernel
theorem d3_6 : decode prog_20_method_1_code 6 = .ok (.putfield 7, 3) := by decide +kernel
theorem d3_9 : decode prog_20_method_1_code 9 = .ok (.aload_n 0, 1) := by decide +kernel
theorem d3_10 : decode prog_20_method_1_code 10 = .ok (.iload_n 2, 1) := by decide +kernel
theorem d3_11 : decode prog_20_method_1_code 11 = .ok (.putfield 13, 3) := by decide +kernel
theorem d3_14 : decode prog_20_method_1_code 14 = .ok (.aload_n 0, 1) := by decide +kernel
theorem d3_15 : decode prog_20_method_1_code 15 = .ok (.iload_n 3, 1) := by decide +kernel
theorem d3_16 : decode prog_20_method_1_code 16 = .ok (.putfield 16, 3) := by decide +kernel
theorem d3_19 : decode prog_20_method_1_code 19 = .ok (.return_, 1) := by decide +kernel
theorem pn_3 : plainName "copybridge/codec/decimal/SignHalfBytes" = true := by first | (simp [plainName, overriddenIn]; done) | decide +kernel
theorem d4_0 : decode jdk_30_method_1_code 0 = .ok (.aload_n 0, 1) := by decide +kernel
theorem d4_1 : decode jdk_30_method_1_code 1 = .ok (.invokespecial 1, 3) := by decide +kernel
theorem d4_4 : decode jdk_30_method_1_code 4 = .ok (.return_, 1) := by decide +kernel
theorem pn_4 : plainName "java/lang/Record" = true := by first | (simp [plainName, overriddenIn]; done) | decide +kernel
theorem d5_0 : decode prog_22_method_4_code 0 = .ok (.iload_n 1, 1) := by decide +kernel
theorem d5_1 : decode prog_22_method_4_code 1 = .ok (.aload_n 0, 1) := by decide +kernel
theorem d5_2 : decode prog_22_method_4_code 2 = .ok (.getfield 18, 3) := by decide +kernel
theorem d5_5 : decode prog_22_method_4_code 5 = .ok (.if_icmp .eq 11, 3) := by decide +kernel
theorem d5_8 : decode prog_22_method_4_code 8 = .ok (.iload_n 1, 1) := by decide +kernel
theorem d5_9 : decode prog_22_method_4_code 9 = .ok (.aload_n 0, 1) := by decide +kernel
theorem d5_10 : decode prog_22_method_4_code 10 = .ok (.getfield 22, 3) := by decide +kernel
theorem d5_13 : decode prog_22_method_4_code 13 = .ok (.if_icmp .ne 7, 3) := by decide +kernel
theorem d5_16 : decode prog_22_method_4_code 16 = .ok (.iconst 1, 1) := by decide +kernel
theorem d5_17 : decode prog_22_method_4_code 17 = .ok (.goto 4, 3) := by decide +kernel
theorem d5_20 : decode prog_22_method_4_code 20 = .ok (.iconst 0, 1) := by decide +kernel
theorem d5_21 : decode prog_22_method_4_code 21 = .ok (.ireturn, 1) := by decide +kernel
theorem pn_5 : plainName "copybridge/codec/decimal/ZonedFormat" = true := by first | (simp [plainName, overriddenIn]; done) | decide +kernel
theorem pd_1 : parseMethodDescriptor "()V" = some ⟨[], none⟩ := by decide +kernel
theorem pd_2 : parseMethodDescriptor "(III)V" = some ⟨[.int, .int, .int], none⟩ := by decide +kernel
theorem pd_0 : parseMethodDescriptor "(IIIBB)V" = some ⟨[.int, .int, .int, .byte, .byte], none⟩ := by decide +kernel
theorem pd_3 : parseMethodDescriptor "(B)Z" = some ⟨[.byte], some .boolean⟩ := by decide +kernel

theorem own_byte (y x : Int32) (hy : -128 ≤ y.toInt ∧ y.toInt < 128) : (y &&& (255 : Int32)) = (x &&& (255 : Int32)) ↔ y = x.toInt8.toInt32 := by
  have a := c_mask y 255 8 (by decide) (by decide)
  have b := c_mask x 255 8 (by decide) (by decide)
  have c := c_i2b x
  constructor
  · intro q
    have q' := congrArg Int32.toInt q
    apply Int32.toInt_inj.mp
    omega
  · intro q
    apply Int32.toInt_inj.mp
    subst q
    omega
theorem own_bb (x : Int32) : nar .byte (x.toInt8.toInt32) = x.toInt8.toInt32 := by
  rw [own_nbyte]
  have c := c_i2b x
  have d := c_i2b (x.toInt8.toInt32)
  apply Int32.toInt_inj.mp
  omega

theorem ef_4 (m : MethodId) (a0 : Addr) : entryFrame m #[(.ref a0)] 1 = mkF m 0 #[.val (.ref a0)] [] := by first | (simp [entryFrame, mkF, argsToLocals, Value.category]; done) | rfl
def Q4 (Z : State) (a0 : Addr) (h0 : Heap) (n0 : Nat) (v : Option Value) (h : Heap) (L : List Loc) : Prop := v = none ∧ Fr n0 L ∧ h = h0
set_option maxRecDepth 65536 in
set_option maxHeartbeats 40000000 in
theorem rm4 (l : Launch) (Z : State) (A0 : Array Value) (hw : ∀ d ∈ tables_1, d.before A0 Z = true) (ws : List Jvm.Cond) (a0 : Addr) (h0 : Heap) (n0 : Nat) (Z0 : n0 ≤ h0.size) :
    MetFree l (⟨"java/lang/Record", "<init>", "()V"⟩ : MethodName) (head1 (Jvm.Cond.code (⟨"java/lang/Record", "<init>", "()V"⟩ : MethodName) jdk_30_method_1_code 1 none :: ws) ({ frames := 1, cells := 0, slots := 0, locals := 12 } : Room)) (fun a U => a = #[(.ref a0)] ∧ Z.Warmed39 U.vm ∧ U.heap = h0) (fun _ _ _ _ _ => True) (fun _ U o U' => ∃ v L, o = .returned v ∧ Q4 Z a0 h0 n0 v U'.heap L ∧ FrameEnd U o U' L ({ frames := 1, cells := 0, slots := 0, locals := 12 } : Room).cells ({ frames := 1, cells := 0, slots := 0, locals := 12 } : Room).slots) := by
  refine MetFree.of_bodySF (plainFor_of_name pn_4) hisR ?_
  intro p e s m args below meth c s₁ Bd hml0 hP hK
  obtain ⟨rfl, hZ, hh⟩ := hP
  have hx := Bd.exec
  have hby := Bd.bytes
  have hml : c.maxLocals = 1 := hml0
  have hown : s.vm.findClass "java/lang/Record" = some m.cls := findClass_of_methodNamed Bd.named
  have hnm := (name_of_methodNamed Bd.named Bd.method).1
  have X0 : Stand p l e ({ frames := 1, cells := 0, slots := 0, locals := 12 } : Room) s m #[(.ref a0)] below meth c s₁ [] 0 0 := Stand.of_body Bd
  have e0 : s₁.heap = h0 := by rw [← hh, Bd.state]; rfl
  have N0 := Fr.nil n0
  have pre0 : ∀ t, Steps p.tables e below (s₁.setTop (mkF m 0 #[.val (.ref a0)] [])) t → Steps p.tables e below (s₁.setTop (entryFrame m #[(.ref a0)] 1)) t := fun t k => castTop (ef_4 m a0) k
  obtain ⟨T1, X1, e1, st1⟩ := initO X0 hx hZ hown (hw _ (List.mem_of_getElem? (i := 20) rfl)) (hw _ (List.mem_of_getElem? (i := 7) rfl)) (hw _ (List.mem_of_getElem? (i := 8) rfl)) e0 (g := (mkF m 1 #[.val (.ref a0)] [(.ref a0)])) rfl (by rw [hml]; rfl) rfl (hb hby d4_1) (by decide) (W := 0) (by show 2 * 0 + _ ≤ _; exact Nat.le_of_eq rfl) (by decide)
  obtain ⟨fs, hr, hrun, hended, hW, hsame⟩ := X1.leave (v := none) (fun _ => rfl)
  refine ⟨_, _, pre0 _ ?_, hrun, hended, _, _, rfl, ?_, ⟨_, rfl⟩, hW, hsame.mono (by decide) (by decide)⟩
  · show Steps p.tables e below (s₁.setTop (mkF m 0 #[.val (.ref a0)] [])) _
    refine XS.aloadN X0.here hx rfl (hb hby d4_0) rfl rfl ?_
    show Steps p.tables e below (s₁.setTop (mkF m 1 #[.val (.ref a0)] [(.ref a0)])) _
    refine st1 _ ?_
    show Steps p.tables e below (T1.setTop (mkF m 4 #[.val (.ref a0)] [])) _
    exact X1.returnOut hx Bd.returns (hb hby d4_4) hr
  · show Q4 Z a0 h0 n0 _ T1.heap _
    exact ⟨rfl, N0, e1⟩
theorem ef_3 (m : MethodId) (a0 : Addr) (p1 : Int32) (p2 : Int32) (p3 : Int32) : entryFrame m #[(.ref a0), (.int p1), (.int p2), (.int p3)] 4 = mkF m 0 #[.val (.ref a0), .val (.int p1), .val (.int p2), .val (.int p3)] [] := by first | (simp [entryFrame, mkF, argsToLocals, Value.category]; done) | rfl
def Q3 (Z : State) (a0 : Addr) (p1 : Int32) (p2 : Int32) (p3 : Int32) (w_nPositive_a0 : Int32) (w_nNegative_a0 : Int32) (w_nUnsigned_a0 : Int32) (h0 : Heap) (n0 : Nat) (v : Option Value) (h : Heap) (L : List Loc) : Prop := v = none ∧ Fr n0 L ∧ Keep h0 h [a0] ∧ Exa Z h a0 "copybridge/codec/decimal/SignHalfBytes" ∧ Fld Z h a0 "copybridge/codec/decimal/SignHalfBytes" "nPositive" "I" (.int p1) ∧ Fld Z h a0 "copybridge/codec/decimal/SignHalfBytes" "nNegative" "I" (.int p2) ∧ Fld Z h a0 "copybridge/codec/decimal/SignHalfBytes" "nUnsigned" "I" (.int p3)
set_option maxRecDepth 65536 in
set_option maxHeartbeats 40000000 in
theorem rm3 (l : Launch) (Z : State) (A0 : Array Value) (hw : ∀ d ∈ tables_1, d.before A0 Z = true) (ws : List Jvm.Cond) (a0 : Addr) (p1 : Int32) (p2 : Int32) (p3 : Int32) (w_nPositive_a0 : Int32) (w_nNegative_a0 : Int32) (w_nUnsigned_a0 : Int32) (h0 : Heap) (n0 : Nat) (Z0 : n0 ≤ h0.size) (E_a0 : Exa Z h0 a0 "copybridge/codec/decimal/SignHalfBytes") (F_nPositive_a0 : Fld Z h0 a0 "copybridge/codec/decimal/SignHalfBytes" "nPositive" "I" (.int w_nPositive_a0)) (F_nNegative_a0 : Fld Z h0 a0 "copybridge/codec/decimal/SignHalfBytes" "nNegative" "I" (.int w_nNegative_a0)) (F_nUnsigned_a0 : Fld Z h0 a0 "copybridge/codec/decimal/SignHalfBytes" "nUnsigned" "I" (.int w_nUnsigned_a0)) (nw_a0 : n0 ≤ a0) :
    MetFree l (⟨"copybridge/codec/decimal/SignHalfBytes", "<init>", "(III)V"⟩ : MethodName) (head1 (Jvm.Cond.code (⟨"copybridge/codec/decimal/SignHalfBytes", "<init>", "(III)V"⟩ : MethodName) prog_20_method_1_code 4 none :: ws) ({ frames := 2, cells := 0, slots := 0, locals := 24 } : Room)) (fun a U => a = #[(.ref a0), (.int p1), (.int p2), (.int p3)] ∧ Z.Warmed39 U.vm ∧ U.heap = h0) (fun _ _ _ _ _ => True) (fun _ U o U' => ∃ v L, o = .returned v ∧ Q3 Z a0 p1 p2 p3 w_nPositive_a0 w_nNegative_a0 w_nUnsigned_a0 h0 n0 v U'.heap L ∧ FrameEnd U o U' L ({ frames := 2, cells := 0, slots := 0, locals := 24 } : Room).cells ({ frames := 2, cells := 0, slots := 0, locals := 24 } : Room).slots) := by
  refine MetFree.of_bodySF (plainFor_of_name pn_3) hisR ?_
  intro p e s m args below meth c s₁ Bd hml0 hP hK
  obtain ⟨rfl, hZ, hh⟩ := hP
  have hx := Bd.exec
  have hby := Bd.bytes
  have hml : c.maxLocals = 4 := hml0
  have hown : s.vm.findClass "copybridge/codec/decimal/SignHalfBytes" = some m.cls := findClass_of_methodNamed Bd.named
  have hnm := (name_of_methodNamed Bd.named Bd.method).1
  have X0 : Stand p l e ({ frames := 2, cells := 0, slots := 0, locals := 24 } : Room) s m #[(.ref a0), (.int p1), (.int p2), (.int p3)] below meth c s₁ [] 0 0 := Stand.of_body Bd
  have e0 : s₁.heap = h0 := by rw [← hh, Bd.state]; rfl
  have N0 := Fr.nil n0
  have pre0 : ∀ t, Steps p.tables e below (s₁.setTop (mkF m 0 #[.val (.ref a0), .val (.int p1), .val (.int p2), .val (.int p3)] [])) t → Steps p.tables e below (s₁.setTop (entryFrame m #[(.ref a0), (.int p1), (.int p2), (.int p3)] 4)) t := fun t k => castTop (ef_3 m a0 p1 p2 p3) k
  obtain ⟨_, _, ⟨T1, L1, k1, n1⟩, -, X1, ⟨Lc1, hQ1, l1, y1, z1⟩, st1⟩ := X0.specialBack hx (y := (⟨"java/lang/Record", "<init>", "()V"⟩ : MethodName)) rfl hown (mvT hZ (hw _ (List.mem_of_getElem? (i := 15) rfl))) (mvT hZ (hw _ (List.mem_of_getElem? (i := 16) rfl))) (mvT hZ (hw _ (List.mem_of_getElem? (i := 19) rfl))) (by decide) (backOf (W := 0) (rm4 l Z A0 hw [] a0 h0 n0 (Nat.le_trans Z0 (Keep.refl h0 [a0]).1) ) hZ (hw _ (List.mem_of_getElem? (i := 19) rfl)) (hw _ (List.mem_of_getElem? (i := 18) rfl)) (by decide) (by decide)) (g := (mkF m 1 #[.val (.ref a0), .val (.int p1), .val (.int p2), .val (.int p3)] [(.ref a0)])) rfl (by rw [hml]; rfl) (Steps.refl _) (a := a0) (argsL := []) (rest := []) (lenOf pd_1 rfl) rfl (by show 2 * 0 + _ ≤ _; exact Nat.le_of_eq rfl) (hb hby d3_1) (fun _ _ => ⟨rfl, e0, (by decide : 0 + 0 ≤ _), (by decide : 0 + 0 ≤ _)⟩)
  dsimp only [Pt.U, Pt.locs, Pt.cells, Pt.slots] at X1 l1 y1 z1 st1 hQ1
  subst l1 y1 z1
  obtain ⟨rfl, N1q, e1⟩ := hQ1
  have N1 := Fr.app N0 N1q
  obtain ⟨T2, h2, X2, e2, W2, st2⟩ := putF X1 hx hZ hown (host := "") (Or.inl (hw _ (List.mem_of_getElem? (i := 21) rfl))) Via.refl e1 F_nPositive_a0 E_a0 (Or.inr ⟨(hw _ (List.mem_of_getElem? (i := 22) rfl)), rfl, hnm⟩) (hw _ (List.mem_of_getElem? (i := 10) rfl)) (ty := .int) (by decide) rfl rfl (g := (mkF m 6 #[.val (.ref a0), .val (.int p1), .val (.int p2), .val (.int p3)] [(.int p1), (.ref a0)])) rfl rfl (hb hby d3_6)
  have K2 : Keep h0 h2 [a0] := (Keep.refl h0 [a0]).wr W2 (Or.inl (by simp))
  have Fw2 : Fld Z h2 a0 "copybridge/codec/decimal/SignHalfBytes" "nPositive" "I" (.int p1) := F_nPositive_a0.same W2
  have N2 := Fr.snoc X2 N1 nw_a0
  have G3 : Exa Z h2 a0 "copybridge/codec/decimal/SignHalfBytes" := (E_a0.wr W2)
  have G4 : Fld Z h2 a0 "copybridge/codec/decimal/SignHalfBytes" "nNegative" "I" (.int w_nNegative_a0) := (F_nNegative_a0.other W2 (Or.inr (slot_ne (Or.inr (hw _ (List.mem_of_getElem? (i := 24) rfl))) (Or.inr (hw _ (List.mem_of_getElem? (i := 22) rfl))) (by decide) (t := .int) (t' := .int) (by decide) (by decide))))
  obtain ⟨T5, h5, X5, e5, W5, st5⟩ := putF X2 hx hZ hown (host := "") (Or.inl (hw _ (List.mem_of_getElem? (i := 23) rfl))) Via.refl e2 G4 G3 (Or.inr ⟨(hw _ (List.mem_of_getElem? (i := 24) rfl)), rfl, hnm⟩) (hw _ (List.mem_of_getElem? (i := 10) rfl)) (ty := .int) (by decide) rfl rfl (g := (mkF m 11 #[.val (.ref a0), .val (.int p1), .val (.int p2), .val (.int p3)] [(.int p2), (.ref a0)])) rfl rfl (hb hby d3_11)
  have K5 : Keep h0 h5 [a0] := K2.wr W5 (Or.inl (by simp))
  have Fw5 : Fld Z h5 a0 "copybridge/codec/decimal/SignHalfBytes" "nNegative" "I" (.int p2) := G4.same W5
  have N5 := Fr.snoc X5 N2 nw_a0
  have G6 : Exa Z h5 a0 "copybridge/codec/decimal/SignHalfBytes" := (G3.wr W5)
  have G7 : Fld Z h5 a0 "copybridge/codec/decimal/SignHalfBytes" "nUnsigned" "I" (.int w_nUnsigned_a0) := ((F_nUnsigned_a0.other W2 (Or.inr (slot_ne (Or.inr (hw _ (List.mem_of_getElem? (i := 26) rfl))) (Or.inr (hw _ (List.mem_of_getElem? (i := 22) rfl))) (by decide) (t := .int) (t' := .int) (by decide) (by decide)))).other W5 (Or.inr (slot_ne (Or.inr (hw _ (List.mem_of_getElem? (i := 26) rfl))) (Or.inr (hw _ (List.mem_of_getElem? (i := 24) rfl))) (by decide) (t := .int) (t' := .int) (by decide) (by decide))))
  obtain ⟨T8, h8, X8, e8, W8, st8⟩ := putF X5 hx hZ hown (host := "") (Or.inl (hw _ (List.mem_of_getElem? (i := 25) rfl))) Via.refl e5 G7 G6 (Or.inr ⟨(hw _ (List.mem_of_getElem? (i := 26) rfl)), rfl, hnm⟩) (hw _ (List.mem_of_getElem? (i := 10) rfl)) (ty := .int) (by decide) rfl rfl (g := (mkF m 16 #[.val (.ref a0), .val (.int p1), .val (.int p2), .val (.int p3)] [(.int p3), (.ref a0)])) rfl rfl (hb hby d3_16)
  have K8 : Keep h0 h8 [a0] := K5.wr W8 (Or.inl (by simp))
  have Fw8 : Fld Z h8 a0 "copybridge/codec/decimal/SignHalfBytes" "nUnsigned" "I" (.int p3) := G7.same W8
  have N8 := Fr.snoc X8 N5 nw_a0
  obtain ⟨fs, hr, hrun, hended, hW, hsame⟩ := X8.leave (v := none) (fun _ => rfl)
  refine ⟨_, _, pre0 _ ?_, hrun, hended, _, _, rfl, ?_, ⟨_, rfl⟩, hW, hsame.mono (by decide) (by decide)⟩
  · show Steps p.tables e below (s₁.setTop (mkF m 0 #[.val (.ref a0), .val (.int p1), .val (.int p2), .val (.int p3)] [])) _
    refine XS.aloadN X0.here hx rfl (hb hby d3_0) rfl rfl ?_
    show Steps p.tables e below (s₁.setTop (mkF m 1 #[.val (.ref a0), .val (.int p1), .val (.int p2), .val (.int p3)] [(.ref a0)])) _
    refine st1.trans ?_
    show Steps p.tables e below (T1.setTop (mkF m 4 #[.val (.ref a0), .val (.int p1), .val (.int p2), .val (.int p3)] [])) _
    refine XS.aloadN X1.here hx rfl (hb hby d3_4) rfl rfl ?_
    show Steps p.tables e below (T1.setTop (mkF m 5 #[.val (.ref a0), .val (.int p1), .val (.int p2), .val (.int p3)] [(.ref a0)])) _
    refine XS.iloadN X1.here hx rfl (hb hby d3_5) rfl ?_
    show Steps p.tables e below (T1.setTop (mkF m 6 #[.val (.ref a0), .val (.int p1), .val (.int p2), .val (.int p3)] [(.int p1), (.ref a0)])) _
    refine st2 _ ?_
    show Steps p.tables e below (T2.setTop (mkF m 9 #[.val (.ref a0), .val (.int p1), .val (.int p2), .val (.int p3)] [])) _
    refine XS.aloadN X2.here hx rfl (hb hby d3_9) rfl rfl ?_
    show Steps p.tables e below (T2.setTop (mkF m 10 #[.val (.ref a0), .val (.int p1), .val (.int p2), .val (.int p3)] [(.ref a0)])) _
    refine XS.iloadN X2.here hx rfl (hb hby d3_10) rfl ?_
    show Steps p.tables e below (T2.setTop (mkF m 11 #[.val (.ref a0), .val (.int p1), .val (.int p2), .val (.int p3)] [(.int p2), (.ref a0)])) _
    refine st5 _ ?_
    show Steps p.tables e below (T5.setTop (mkF m 14 #[.val (.ref a0), .val (.int p1), .val (.int p2), .val (.int p3)] [])) _
    refine XS.aloadN X5.here hx rfl (hb hby d3_14) rfl rfl ?_
    show Steps p.tables e below (T5.setTop (mkF m 15 #[.val (.ref a0), .val (.int p1), .val (.int p2), .val (.int p3)] [(.ref a0)])) _
    refine XS.iloadN X5.here hx rfl (hb hby d3_15) rfl ?_
    show Steps p.tables e below (T5.setTop (mkF m 16 #[.val (.ref a0), .val (.int p1), .val (.int p2), .val (.int p3)] [(.int p3), (.ref a0)])) _
    refine st8 _ ?_
    show Steps p.tables e below (T8.setTop (mkF m 19 #[.val (.ref a0), .val (.int p1), .val (.int p2), .val (.int p3)] [])) _
    exact X8.returnOut hx Bd.returns (hb hby d3_19) hr
  have G9 : Exa Z h8 a0 "copybridge/codec/decimal/SignHalfBytes" := (G6.wr W8)
  have G10 : Fld Z h8 a0 "copybridge/codec/decimal/SignHalfBytes" "nPositive" "I" (.int p1) := ((Fw2.other W5 (Or.inr (slot_ne (Or.inr (hw _ (List.mem_of_getElem? (i := 22) rfl))) (Or.inr (hw _ (List.mem_of_getElem? (i := 24) rfl))) (by decide) (t := .int) (t' := .int) (by decide) (by decide)))).other W8 (Or.inr (slot_ne (Or.inr (hw _ (List.mem_of_getElem? (i := 22) rfl))) (Or.inr (hw _ (List.mem_of_getElem? (i := 26) rfl))) (by decide) (t := .int) (t' := .int) (by decide) (by decide))))
  have G11 : Fld Z h8 a0 "copybridge/codec/decimal/SignHalfBytes" "nNegative" "I" (.int p2) := (Fw5.other W8 (Or.inr (slot_ne (Or.inr (hw _ (List.mem_of_getElem? (i := 24) rfl))) (Or.inr (hw _ (List.mem_of_getElem? (i := 26) rfl))) (by decide) (t := .int) (t' := .int) (by decide) (by decide))))
  · show Q3 Z a0 p1 p2 p3 w_nPositive_a0 w_nNegative_a0 w_nUnsigned_a0 h0 n0 _ T8.heap _
    rw [e8]
    exact ⟨rfl, N8, K8, G9, G10, G11, Fw8⟩
theorem ef_1 (m : MethodId) (a0 : Addr) (p1 : Int32) (p2 : Int32) (p3 : Int32) (p4 : Int32) (p5 : Int32) : entryFrame m #[(.ref a0), (.int p1), (.int p2), (.int p3), (.int p4), (.int p5)] 6 = mkF m 0 #[.val (.ref a0), .val (.int p1), .val (.int p2), .val (.int p3), .val (.int p4), .val (.int p5)] [] := by first | (simp [entryFrame, mkF, argsToLocals, Value.category]; done) | rfl
def Q1 (Z : State) (a0 : Addr) (p1 : Int32) (p2 : Int32) (p3 : Int32) (p4 : Int32) (p5 : Int32) (w_m_aZones_a0 : Value) (w_m_nPlus_a0 : Int32) (w_m_nMinus_a0 : Int32) (h0 : Heap) (n0 : Nat) (v : Option Value) (h : Heap) (L : List Loc) : Prop := ∃ b2 : Addr, v = none ∧ Fr n0 L ∧ Keep h0 h [a0] ∧ h0.size ≤ b2 ∧ Exa Z h a0 "copybridge/codec/decimal/ZonedFormat" ∧ Fld Z h a0 "copybridge/codec/decimal/ZonedFormat" "m_aZones" "Lcopybridge/codec/decimal/SignHalfBytes;" (.ref b2) ∧ Fld Z h a0 "copybridge/codec/decimal/ZonedFormat" "m_nPlus" "B" (.int (nar .byte p4)) ∧ Fld Z h a0 "copybridge/codec/decimal/ZonedFormat" "m_nMinus" "B" (.int (nar .byte p5)) ∧ Exa Z h b2 "copybridge/codec/decimal/SignHalfBytes" ∧ Fld Z h b2 "copybridge/codec/decimal/SignHalfBytes" "nPositive" "I" (.int p2) ∧ Fld Z h b2 "copybridge/codec/decimal/SignHalfBytes" "nNegative" "I" (.int p3) ∧ Fld Z h b2 "copybridge/codec/decimal/SignHalfBytes" "nUnsigned" "I" (.int p1)
set_option maxRecDepth 65536 in
set_option maxHeartbeats 40000000 in
theorem rm1 (l : Launch) (Z : State) (A0 : Array Value) (hw : ∀ d ∈ tables_1, d.before A0 Z = true) (ws : List Jvm.Cond) (a0 : Addr) (p1 : Int32) (p2 : Int32) (p3 : Int32) (p4 : Int32) (p5 : Int32) (w_m_aZones_a0 : Value) (w_m_nPlus_a0 : Int32) (w_m_nMinus_a0 : Int32) (h0 : Heap) (n0 : Nat) (Z0 : n0 ≤ h0.size) (E_a0 : Exa Z h0 a0 "copybridge/codec/decimal/ZonedFormat") (F_m_aZones_a0 : Fld Z h0 a0 "copybridge/codec/decimal/ZonedFormat" "m_aZones" "Lcopybridge/codec/decimal/SignHalfBytes;" w_m_aZones_a0) (F_m_nPlus_a0 : Fld Z h0 a0 "copybridge/codec/decimal/ZonedFormat" "m_nPlus" "B" (.int w_m_nPlus_a0)) (F_m_nMinus_a0 : Fld Z h0 a0 "copybridge/codec/decimal/ZonedFormat" "m_nMinus" "B" (.int w_m_nMinus_a0)) (nw_a0 : n0 ≤ a0) :
    MetFree l (⟨"copybridge/codec/decimal/ZonedFormat", "<init>", "(IIIBB)V"⟩ : MethodName) (head1 (Jvm.Cond.code (⟨"copybridge/codec/decimal/ZonedFormat", "<init>", "(IIIBB)V"⟩ : MethodName) prog_22_method_1_code 6 none :: ws) ({ frames := 3, cells := 1, slots := 3, locals := 41 } : Room)) (fun a U => a = #[(.ref a0), (.int p1), (.int p2), (.int p3), (.int p4), (.int p5)] ∧ Z.Warmed39 U.vm ∧ U.heap = h0) (fun _ _ _ _ _ => True) (fun _ U o U' => ∃ v L, o = .returned v ∧ Q1 Z a0 p1 p2 p3 p4 p5 w_m_aZones_a0 w_m_nPlus_a0 w_m_nMinus_a0 h0 n0 v U'.heap L ∧ FrameEnd U o U' L ({ frames := 3, cells := 1, slots := 3, locals := 41 } : Room).cells ({ frames := 3, cells := 1, slots := 3, locals := 41 } : Room).slots) := by
  refine MetFree.of_bodySF (plainFor_of_name pn_1) hisR ?_
  intro p e s m args below meth c s₁ Bd hml0 hP hK
  obtain ⟨rfl, hZ, hh⟩ := hP
  have hx := Bd.exec
  have hby := Bd.bytes
  have hml : c.maxLocals = 6 := hml0
  have hown : s.vm.findClass "copybridge/codec/decimal/ZonedFormat" = some m.cls := findClass_of_methodNamed Bd.named
  have hnm := (name_of_methodNamed Bd.named Bd.method).1
  have X0 : Stand p l e ({ frames := 3, cells := 1, slots := 3, locals := 41 } : Room) s m #[(.ref a0), (.int p1), (.int p2), (.int p3), (.int p4), (.int p5)] below meth c s₁ [] 0 0 := Stand.of_body Bd
  have e0 : s₁.heap = h0 := by rw [← hh, Bd.state]; rfl
  have N0 := Fr.nil n0
  have pre0 : ∀ t, Steps p.tables e below (s₁.setTop (mkF m 0 #[.val (.ref a0), .val (.int p1), .val (.int p2), .val (.int p3), .val (.int p4), .val (.int p5)] [])) t → Steps p.tables e below (s₁.setTop (entryFrame m #[(.ref a0), (.int p1), (.int p2), (.int p3), (.int p4), (.int p5)] 6)) t := fun t k => castTop (ef_1 m a0 p1 p2 p3 p4 p5) k
  obtain ⟨T1, X1, e1, st1⟩ := initO X0 hx hZ hown (hw _ (List.mem_of_getElem? (i := 6) rfl)) (hw _ (List.mem_of_getElem? (i := 7) rfl)) (hw _ (List.mem_of_getElem? (i := 8) rfl)) e0 (g := (mkF m 1 #[.val (.ref a0), .val (.int p1), .val (.int p2), .val (.int p3), .val (.int p4), .val (.int p5)] [(.ref a0)])) rfl (by rw [hml]; rfl) rfl (hb hby d1_1) (by decide) (W := 0) (by show 2 * 0 + _ ≤ _; exact Nat.le_of_eq rfl) (by decide)
  obtain ⟨T2, h2, X2, e2, E2, A2, D2, -, st2⟩ := newO X1 hx hZ hown (hw _ (List.mem_of_getElem? (i := 9) rfl)) (hw _ (List.mem_of_getElem? (i := 10) rfl)) (hw _ (List.mem_of_getElem? (i := 11) rfl)) e1 (g := (mkF m 5 #[.val (.ref a0), .val (.int p1), .val (.int p2), .val (.int p3), .val (.int p4), .val (.int p5)] [(.ref a0)])) rfl (hb hby d1_5) (by decide) (by decide)
  obtain ⟨b2, g2⟩ : ∃ z, z = h0.size := ⟨_, rfl⟩
  rw [← g2] at A2 D2 st2
  have ne_a0_b2 : a0 ≠ b2 := Nat.ne_of_lt (Nat.lt_of_lt_of_le E_a0.lt (Nat.le_of_eq g2.symm))
  have nw_b2 : n0 ≤ b2 := Nat.le_trans (Nat.le_trans Z0 (Keep.refl h0 [a0]).1) (Nat.le_of_eq g2.symm)
  have sz_b2 : h0.size ≤ b2 := Nat.le_trans (Keep.refl h0 [a0]).1 (Nat.le_of_eq g2.symm)
  have K2 : Keep h0 h2 [a0] := (Keep.refl h0 [a0]).ext E2
  have F_nPositive_b2 : Fld Z h2 b2 "copybridge/codec/decimal/SignHalfBytes" "nPositive" "I" (.int (0 : Int32)) := D2 (Or.inr (hw _ (List.mem_of_getElem? (i := 22) rfl))) (ty := .int) (by decide)
  have F_nNegative_b2 : Fld Z h2 b2 "copybridge/codec/decimal/SignHalfBytes" "nNegative" "I" (.int (0 : Int32)) := D2 (Or.inr (hw _ (List.mem_of_getElem? (i := 24) rfl))) (ty := .int) (by decide)
  have F_nUnsigned_b2 : Fld Z h2 b2 "copybridge/codec/decimal/SignHalfBytes" "nUnsigned" "I" (.int (0 : Int32)) := D2 (Or.inr (hw _ (List.mem_of_getElem? (i := 26) rfl))) (ty := .int) (by decide)
  obtain ⟨_, _, ⟨T3, L3, k3, n3⟩, -, X3, ⟨Lc3, hQ3, l3, y3, z3⟩, st3⟩ := X2.specialBack hx (y := (⟨"copybridge/codec/decimal/SignHalfBytes", "<init>", "(III)V"⟩ : MethodName)) rfl hown (mvT hZ (hw _ (List.mem_of_getElem? (i := 12) rfl))) (mvT hZ (hw _ (List.mem_of_getElem? (i := 13) rfl))) (mvT hZ (hw _ (List.mem_of_getElem? (i := 14) rfl))) (by decide) (backOf (W := 2) (rm3 l Z A0 hw [] b2 p2 p3 p1 (0 : Int32) (0 : Int32) (0 : Int32) h2 n0 (Nat.le_trans Z0 K2.1) A2 F_nPositive_b2 F_nNegative_b2 F_nUnsigned_b2 nw_b2) hZ (hw _ (List.mem_of_getElem? (i := 14) rfl)) (hw _ (List.mem_of_getElem? (i := 11) rfl)) (by decide) (by decide)) (g := (mkF m 12 #[.val (.ref a0), .val (.int p1), .val (.int p2), .val (.int p3), .val (.int p4), .val (.int p5)] [(.int p1), (.int p3), (.int p2), (.ref b2), (.ref b2), (.ref a0)])) rfl (by rw [hml]; rfl) (Steps.refl _) (a := b2) (argsL := [(.int p2), (.int p3), (.int p1)]) (rest := [(.ref b2), (.ref a0)]) (lenOf pd_2 rfl) rfl (by show 2 * 0 + _ ≤ _; exact Nat.le_of_eq rfl) (hb hby d1_12) (fun _ _ => ⟨rfl, e2, (by decide : 1 + 0 ≤ _), (by decide : 3 + 0 ≤ _)⟩)
  dsimp only [Pt.U, Pt.locs, Pt.cells, Pt.slots] at X3 l3 y3 z3 st3 hQ3
  subst l3 y3 z3
  obtain ⟨rfl, N3q, Kc3, P4, P5, P6, P7⟩ := hQ3
  have K3 : Keep h0 T3.heap [a0] := K2.trans Kc3 (allS (Or.inr sz_b2) all0)
  have N3 := Fr.app N0 N3q
  have G8 : Exa Z T3.heap a0 "copybridge/codec/decimal/ZonedFormat" := ((E_a0.ext E2).keep Kc3)
  have G9 : Fld Z T3.heap a0 "copybridge/codec/decimal/ZonedFormat" "m_aZones" "Lcopybridge/codec/decimal/SignHalfBytes;" w_m_aZones_a0 := ((F_m_aZones_a0.ext E2).keep Kc3 (ninS ne_a0_b2 nin0))
  obtain ⟨T10, h10, X10, e10, W10, st10⟩ := putF X3 hx hZ hown (host := "") (Or.inl (hw _ (List.mem_of_getElem? (i := 27) rfl))) Via.refl rfl G9 G8 (Or.inr ⟨(hw _ (List.mem_of_getElem? (i := 28) rfl)), rfl, hnm⟩) (hw _ (List.mem_of_getElem? (i := 1) rfl)) (ty := (.object "copybridge/codec/decimal/SignHalfBytes")) (by decide) rfl rfl (g := (mkF m 15 #[.val (.ref a0), .val (.int p1), .val (.int p2), .val (.int p3), .val (.int p4), .val (.int p5)] [(.ref b2), (.ref a0)])) rfl rfl (hb hby d1_15)
  have K10 : Keep h0 h10 [a0] := K3.wr W10 (Or.inl (by simp))
  have Fw10 : Fld Z h10 a0 "copybridge/codec/decimal/ZonedFormat" "m_aZones" "Lcopybridge/codec/decimal/SignHalfBytes;" (.ref b2) := G9.same W10
  have N10 := Fr.snoc X10 N3 nw_a0
  have G11 : Exa Z h10 a0 "copybridge/codec/decimal/ZonedFormat" := (G8.wr W10)
  have G12 : Fld Z h10 a0 "copybridge/codec/decimal/ZonedFormat" "m_nPlus" "B" (.int w_m_nPlus_a0) := (((F_m_nPlus_a0.ext E2).keep Kc3 (ninS ne_a0_b2 nin0)).other W10 (Or.inr (slot_ne (Or.inr (hw _ (List.mem_of_getElem? (i := 30) rfl))) (Or.inr (hw _ (List.mem_of_getElem? (i := 28) rfl))) (by decide) (t := .byte) (t' := (.object "copybridge/codec/decimal/SignHalfBytes")) (by decide) (by decide))))
  obtain ⟨T13, h13, X13, e13, W13, st13⟩ := putFN X10 hx hZ hown (hw _ (List.mem_of_getElem? (i := 29) rfl)) Via.refl e10 G12 G11 (Or.inr ⟨(hw _ (List.mem_of_getElem? (i := 30) rfl)), rfl, hnm⟩) (hw _ (List.mem_of_getElem? (i := 1) rfl)) (ty := .byte) (v' := .int (nar .byte p4)) (by decide) rfl (fits_nar_byte _) (g := (mkF m 21 #[.val (.ref a0), .val (.int p1), .val (.int p2), .val (.int p3), .val (.int p4), .val (.int p5)] [(.int p4), (.ref a0)])) rfl rfl (hb hby d1_21)
  have K13 : Keep h0 h13 [a0] := K10.wr W13 (Or.inl (by simp))
  have Fw13 : Fld Z h13 a0 "copybridge/codec/decimal/ZonedFormat" "m_nPlus" "B" (.int (nar .byte p4)) := G12.same W13
  have N13 := Fr.snoc X13 N10 nw_a0
  have G14 : Exa Z h13 a0 "copybridge/codec/decimal/ZonedFormat" := (G11.wr W13)
  have G15 : Fld Z h13 a0 "copybridge/codec/decimal/ZonedFormat" "m_nMinus" "B" (.int w_m_nMinus_a0) := ((((F_m_nMinus_a0.ext E2).keep Kc3 (ninS ne_a0_b2 nin0)).other W10 (Or.inr (slot_ne (Or.inr (hw _ (List.mem_of_getElem? (i := 32) rfl))) (Or.inr (hw _ (List.mem_of_getElem? (i := 28) rfl))) (by decide) (t := .byte) (t' := (.object "copybridge/codec/decimal/SignHalfBytes")) (by decide) (by decide)))).other W13 (Or.inr (slot_ne (Or.inr (hw _ (List.mem_of_getElem? (i := 32) rfl))) (Or.inr (hw _ (List.mem_of_getElem? (i := 30) rfl))) (by decide) (t := .byte) (t' := .byte) (by decide) (by decide))))
  obtain ⟨T16, h16, X16, e16, W16, st16⟩ := putFN X13 hx hZ hown (hw _ (List.mem_of_getElem? (i := 31) rfl)) Via.refl e13 G15 G14 (Or.inr ⟨(hw _ (List.mem_of_getElem? (i := 32) rfl)), rfl, hnm⟩) (hw _ (List.mem_of_getElem? (i := 1) rfl)) (ty := .byte) (v' := .int (nar .byte p5)) (by decide) rfl (fits_nar_byte _) (g := (mkF m 27 #[.val (.ref a0), .val (.int p1), .val (.int p2), .val (.int p3), .val (.int p4), .val (.int p5)] [(.int p5), (.ref a0)])) rfl rfl (hb hby d1_27)
  have K16 : Keep h0 h16 [a0] := K13.wr W16 (Or.inl (by simp))
  have Fw16 : Fld Z h16 a0 "copybridge/codec/decimal/ZonedFormat" "m_nMinus" "B" (.int (nar .byte p5)) := G15.same W16
  have N16 := Fr.snoc X16 N13 nw_a0
  obtain ⟨fs, hr, hrun, hended, hW, hsame⟩ := X16.leave (v := none) (fun _ => rfl)
  refine ⟨_, _, pre0 _ ?_, hrun, hended, _, _, rfl, ?_, ⟨_, rfl⟩, hW, hsame.mono (by decide) (by decide)⟩
  · show Steps p.tables e below (s₁.setTop (mkF m 0 #[.val (.ref a0), .val (.int p1), .val (.int p2), .val (.int p3), .val (.int p4), .val (.int p5)] [])) _
    refine XS.aloadN X0.here hx rfl (hb hby d1_0) rfl rfl ?_
    show Steps p.tables e below (s₁.setTop (mkF m 1 #[.val (.ref a0), .val (.int p1), .val (.int p2), .val (.int p3), .val (.int p4), .val (.int p5)] [(.ref a0)])) _
    refine st1 _ ?_
    show Steps p.tables e below (T1.setTop (mkF m 4 #[.val (.ref a0), .val (.int p1), .val (.int p2), .val (.int p3), .val (.int p4), .val (.int p5)] [])) _
    refine XS.aloadN X1.here hx rfl (hb hby d1_4) rfl rfl ?_
    show Steps p.tables e below (T1.setTop (mkF m 5 #[.val (.ref a0), .val (.int p1), .val (.int p2), .val (.int p3), .val (.int p4), .val (.int p5)] [(.ref a0)])) _
    refine st2 _ ?_
    show Steps p.tables e below (T2.setTop (mkF m 8 #[.val (.ref a0), .val (.int p1), .val (.int p2), .val (.int p3), .val (.int p4), .val (.int p5)] [(.ref b2), (.ref a0)])) _
    refine XS.dup X2.here hx rfl (hb hby d1_8) rfl rfl ?_
    show Steps p.tables e below (T2.setTop (mkF m 9 #[.val (.ref a0), .val (.int p1), .val (.int p2), .val (.int p3), .val (.int p4), .val (.int p5)] [(.ref b2), (.ref b2), (.ref a0)])) _
    refine XS.iloadN X2.here hx rfl (hb hby d1_9) rfl ?_
    show Steps p.tables e below (T2.setTop (mkF m 10 #[.val (.ref a0), .val (.int p1), .val (.int p2), .val (.int p3), .val (.int p4), .val (.int p5)] [(.int p2), (.ref b2), (.ref b2), (.ref a0)])) _
    refine XS.iloadN X2.here hx rfl (hb hby d1_10) rfl ?_
    show Steps p.tables e below (T2.setTop (mkF m 11 #[.val (.ref a0), .val (.int p1), .val (.int p2), .val (.int p3), .val (.int p4), .val (.int p5)] [(.int p3), (.int p2), (.ref b2), (.ref b2), (.ref a0)])) _
    refine XS.iloadN X2.here hx rfl (hb hby d1_11) rfl ?_
    show Steps p.tables e below (T2.setTop (mkF m 12 #[.val (.ref a0), .val (.int p1), .val (.int p2), .val (.int p3), .val (.int p4), .val (.int p5)] [(.int p1), (.int p3), (.int p2), (.ref b2), (.ref b2), (.ref a0)])) _
    refine st3.trans ?_
    show Steps p.tables e below (T3.setTop (mkF m 15 #[.val (.ref a0), .val (.int p1), .val (.int p2), .val (.int p3), .val (.int p4), .val (.int p5)] [(.ref b2), (.ref a0)])) _
    refine st10 _ ?_
    show Steps p.tables e below (T10.setTop (mkF m 18 #[.val (.ref a0), .val (.int p1), .val (.int p2), .val (.int p3), .val (.int p4), .val (.int p5)] [])) _
    refine XS.aloadN X10.here hx rfl (hb hby d1_18) rfl rfl ?_
    show Steps p.tables e below (T10.setTop (mkF m 19 #[.val (.ref a0), .val (.int p1), .val (.int p2), .val (.int p3), .val (.int p4), .val (.int p5)] [(.ref a0)])) _
    refine XS.iload X10.here hx rfl (hb hby d1_19) rfl ?_
    show Steps p.tables e below (T10.setTop (mkF m 21 #[.val (.ref a0), .val (.int p1), .val (.int p2), .val (.int p3), .val (.int p4), .val (.int p5)] [(.int p4), (.ref a0)])) _
    refine st13 _ ?_
    show Steps p.tables e below (T13.setTop (mkF m 24 #[.val (.ref a0), .val (.int p1), .val (.int p2), .val (.int p3), .val (.int p4), .val (.int p5)] [])) _
    refine XS.aloadN X13.here hx rfl (hb hby d1_24) rfl rfl ?_
    show Steps p.tables e below (T13.setTop (mkF m 25 #[.val (.ref a0), .val (.int p1), .val (.int p2), .val (.int p3), .val (.int p4), .val (.int p5)] [(.ref a0)])) _
    refine XS.iload X13.here hx rfl (hb hby d1_25) rfl ?_
    show Steps p.tables e below (T13.setTop (mkF m 27 #[.val (.ref a0), .val (.int p1), .val (.int p2), .val (.int p3), .val (.int p4), .val (.int p5)] [(.int p5), (.ref a0)])) _
    refine st16 _ ?_
    show Steps p.tables e below (T16.setTop (mkF m 30 #[.val (.ref a0), .val (.int p1), .val (.int p2), .val (.int p3), .val (.int p4), .val (.int p5)] [])) _
    exact X16.returnOut hx Bd.returns (hb hby d1_30) hr
  have G17 : Exa Z h16 a0 "copybridge/codec/decimal/ZonedFormat" := (G14.wr W16)
  have G18 : Fld Z h16 a0 "copybridge/codec/decimal/ZonedFormat" "m_aZones" "Lcopybridge/codec/decimal/SignHalfBytes;" (.ref b2) := ((Fw10.other W13 (Or.inr (slot_ne (Or.inr (hw _ (List.mem_of_getElem? (i := 28) rfl))) (Or.inr (hw _ (List.mem_of_getElem? (i := 30) rfl))) (by decide) (t := (.object "copybridge/codec/decimal/SignHalfBytes")) (t' := .byte) (by decide) (by decide)))).other W16 (Or.inr (slot_ne (Or.inr (hw _ (List.mem_of_getElem? (i := 28) rfl))) (Or.inr (hw _ (List.mem_of_getElem? (i := 32) rfl))) (by decide) (t := (.object "copybridge/codec/decimal/SignHalfBytes")) (t' := .byte) (by decide) (by decide))))
  have G19 : Fld Z h16 a0 "copybridge/codec/decimal/ZonedFormat" "m_nPlus" "B" (.int (nar .byte p4)) := (Fw13.other W16 (Or.inr (slot_ne (Or.inr (hw _ (List.mem_of_getElem? (i := 30) rfl))) (Or.inr (hw _ (List.mem_of_getElem? (i := 32) rfl))) (by decide) (t := .byte) (t' := .byte) (by decide) (by decide))))
  have G20 : Exa Z h16 b2 "copybridge/codec/decimal/SignHalfBytes" := (((P4.wr W10).wr W13).wr W16)
  have G21 : Fld Z h16 b2 "copybridge/codec/decimal/SignHalfBytes" "nPositive" "I" (.int p2) := (((P5.other W10 (Or.inl (Ne.symm ne_a0_b2))).other W13 (Or.inl (Ne.symm ne_a0_b2))).other W16 (Or.inl (Ne.symm ne_a0_b2)))
  have G22 : Fld Z h16 b2 "copybridge/codec/decimal/SignHalfBytes" "nNegative" "I" (.int p3) := (((P6.other W10 (Or.inl (Ne.symm ne_a0_b2))).other W13 (Or.inl (Ne.symm ne_a0_b2))).other W16 (Or.inl (Ne.symm ne_a0_b2)))
  have G23 : Fld Z h16 b2 "copybridge/codec/decimal/SignHalfBytes" "nUnsigned" "I" (.int p1) := (((P7.other W10 (Or.inl (Ne.symm ne_a0_b2))).other W13 (Or.inl (Ne.symm ne_a0_b2))).other W16 (Or.inl (Ne.symm ne_a0_b2)))
  · show Q1 Z a0 p1 p2 p3 p4 p5 w_m_aZones_a0 w_m_nPlus_a0 w_m_nMinus_a0 h0 n0 _ T16.heap _
    rw [e16]
    exact ⟨b2, rfl, N16, K16, sz_b2, G17, G18, G19, Fw16, G20, G21, G22, G23⟩
theorem ef_5 (m : MethodId) (a0 : Addr) (p1 : Int32) : entryFrame m #[(.ref a0), (.int p1)] 2 = mkF m 0 #[.val (.ref a0), .val (.int p1)] [] := by first | (simp [entryFrame, mkF, argsToLocals, Value.category]; done) | rfl
def Q5 (Z : State) (a0 : Addr) (p1 : Int32) (w_m_aZones_a0 : Value) (w_m_nPlus_a0 : Int32) (w_m_nMinus_a0 : Int32) (h0 : Heap) (n0 : Nat) (v : Option Value) (h : Heap) (L : List Loc) : Prop := v = some (.int (nar .boolean (if p1 = w_m_nPlus_a0 then (1 : Int32) else (if p1 = w_m_nMinus_a0 then (1 : Int32) else (0 : Int32))))) ∧ Fr n0 L ∧ h = h0
set_option maxRecDepth 65536 in
set_option maxHeartbeats 40000000 in
theorem rm5 (l : Launch) (Z : State) (A0 : Array Value) (hw : ∀ d ∈ tables_1, d.before A0 Z = true) (ws : List Jvm.Cond) (a0 : Addr) (p1 : Int32) (w_m_aZones_a0 : Value) (w_m_nPlus_a0 : Int32) (w_m_nMinus_a0 : Int32) (h0 : Heap) (n0 : Nat) (Z0 : n0 ≤ h0.size) (E_a0 : Exa Z h0 a0 "copybridge/codec/decimal/ZonedFormat") (F_m_aZones_a0 : Fld Z h0 a0 "copybridge/codec/decimal/ZonedFormat" "m_aZones" "Lcopybridge/codec/decimal/SignHalfBytes;" w_m_aZones_a0) (F_m_nPlus_a0 : Fld Z h0 a0 "copybridge/codec/decimal/ZonedFormat" "m_nPlus" "B" (.int w_m_nPlus_a0)) (F_m_nMinus_a0 : Fld Z h0 a0 "copybridge/codec/decimal/ZonedFormat" "m_nMinus" "B" (.int w_m_nMinus_a0)) :
    MetFree l (⟨"copybridge/codec/decimal/ZonedFormat", "isSeparateSign", "(B)Z"⟩ : MethodName) (head1 (Jvm.Cond.code (⟨"copybridge/codec/decimal/ZonedFormat", "isSeparateSign", "(B)Z"⟩ : MethodName) prog_22_method_4_code 2 (some .boolean) :: ws) ({ frames := 0, cells := 0, slots := 0, locals := 0 } : Room)) (fun a U => a = #[(.ref a0), (.int p1)] ∧ Z.Warmed39 U.vm ∧ U.heap = h0) (fun _ _ _ _ _ => True) (fun _ U o U' => ∃ v L, o = .returned v ∧ Q5 Z a0 p1 w_m_aZones_a0 w_m_nPlus_a0 w_m_nMinus_a0 h0 n0 v U'.heap L ∧ FrameEnd U o U' L ({ frames := 0, cells := 0, slots := 0, locals := 0 } : Room).cells ({ frames := 0, cells := 0, slots := 0, locals := 0 } : Room).slots) := by
  refine MetFree.of_bodySF (plainFor_of_name pn_5) hisR ?_
  intro p e s m args below meth c s₁ Bd hml0 hP hK
  obtain ⟨rfl, hZ, hh⟩ := hP
  have hx := Bd.exec
  have hby := Bd.bytes
  have hml : c.maxLocals = 2 := hml0
  have hown : s.vm.findClass "copybridge/codec/decimal/ZonedFormat" = some m.cls := findClass_of_methodNamed Bd.named
  have hnm := (name_of_methodNamed Bd.named Bd.method).1
  have X0 : Stand p l e ({ frames := 0, cells := 0, slots := 0, locals := 0 } : Room) s m #[(.ref a0), (.int p1)] below meth c s₁ [] 0 0 := Stand.of_body Bd
  have e0 : s₁.heap = h0 := by rw [← hh, Bd.state]; rfl
  have N0 := Fr.nil n0
  have pre0 : ∀ t, Steps p.tables e below (s₁.setTop (mkF m 0 #[.val (.ref a0), .val (.int p1)] [])) t → Steps p.tables e below (s₁.setTop (entryFrame m #[(.ref a0), (.int p1)] 2)) t := fun t k => castTop (ef_5 m a0 p1) k
  obtain ⟨T1, X1, e1, st1⟩ := getF X0 hx hZ hown (host := "") (Or.inl (hw _ (List.mem_of_getElem? (i := 29) rfl))) Via.refl e0 F_m_nPlus_a0 (g := (mkF m 2 #[.val (.ref a0), .val (.int p1)] [(.ref a0), (.int p1)])) rfl rfl (hb hby d5_2)
  obtain ⟨v7, hv7⟩ : ∃ z : Int32, z = if p1 = w_m_nPlus_a0 then (1 : Int32) else (if p1 = w_m_nMinus_a0 then (1 : Int32) else (0 : Int32)) := ⟨_, rfl⟩
  obtain ⟨T8, L8, X8, N8, e8, st8⟩ : ∃ (T' : State) (L' : List Loc), Stand p l e ({ frames := 0, cells := 0, slots := 0, locals := 0 } : Room) s m #[(.ref a0), (.int p1)] below meth c T' L' 0 0 ∧ Fr n0 L' ∧ T'.heap = h0 ∧ ∀ target, Steps p.tables e below (T'.setTop (mkF m 21 #[.val (.ref a0), .val (.int p1)] [(.int v7)])) target → Steps p.tables e below (T1.setTop (mkF m 5 #[.val (.ref a0), .val (.int p1)] [(.int w_m_nPlus_a0), (.int p1)])) target := by
    by_cases hc3 : p1 = w_m_nPlus_a0
    · refine ⟨T1, _, X1, N0, e1, fun target kt => ?_⟩
      show Steps p.tables e below (T1.setTop (mkF m 5 #[.val (.ref a0), .val (.int p1)] [(.int w_m_nPlus_a0), (.int p1)])) _
      refine XS.icmpYes X1.here hx rfl (pc0 := 5) (pc' := 16) rfl (hb hby d5_5) rfl (teq hc3).1 (by decide) (by decide) ?_
      show Steps p.tables e below (T1.setTop (mkF m 16 #[.val (.ref a0), .val (.int p1)] [])) _
      refine XS.iconst X1.here hx rfl (hb hby d5_16) ?_
      show Steps p.tables e below (T1.setTop (mkF m 17 #[.val (.ref a0), .val (.int p1)] [(.int (1 : Int32))])) _
      refine XS.goto X1.here hx rfl (pc0 := 17) (pc' := 21) rfl (hb hby d5_17) (by decide) (by decide) ?_
      exact castTop (by rw [hv7, if_pos hc3] <;> rfl) kt
    · obtain ⟨T4, X4, e4, st4⟩ := getF X1 hx hZ hown (host := "") (Or.inl (hw _ (List.mem_of_getElem? (i := 31) rfl))) Via.refl e1 F_m_nMinus_a0 (g := (mkF m 10 #[.val (.ref a0), .val (.int p1)] [(.ref a0), (.int p1)])) rfl rfl (hb hby d5_10)
      obtain ⟨v6, hv6⟩ : ∃ z : Int32, z = if p1 = w_m_nMinus_a0 then (1 : Int32) else (0 : Int32) := ⟨_, rfl⟩
      refine ⟨T4, _, X4, N0, e4, fun target kt => ?_⟩
      show Steps p.tables e below (T1.setTop (mkF m 5 #[.val (.ref a0), .val (.int p1)] [(.int w_m_nPlus_a0), (.int p1)])) _
      refine XS.icmpNo X1.here hx rfl (hb hby d5_5) rfl (feq hc3).1 ?_
      show Steps p.tables e below (T1.setTop (mkF m 8 #[.val (.ref a0), .val (.int p1)] [])) _
      refine XS.iloadN X1.here hx rfl (hb hby d5_8) rfl ?_
      show Steps p.tables e below (T1.setTop (mkF m 9 #[.val (.ref a0), .val (.int p1)] [(.int p1)])) _
      refine XS.aloadN X1.here hx rfl (hb hby d5_9) rfl rfl ?_
      show Steps p.tables e below (T1.setTop (mkF m 10 #[.val (.ref a0), .val (.int p1)] [(.ref a0), (.int p1)])) _
      refine st4 _ ?_
      show Steps p.tables e below (T4.setTop (mkF m 13 #[.val (.ref a0), .val (.int p1)] [(.int w_m_nMinus_a0), (.int p1)])) _
      refine own_dia (F := (mkF m 21 #[.val (.ref a0), .val (.int p1)] [(.int v6)])) ?_ ?_
      · intro kt
        by_cases hc5 : p1 = w_m_nMinus_a0
        · show Steps p.tables e below (T4.setTop (mkF m 13 #[.val (.ref a0), .val (.int p1)] [(.int w_m_nMinus_a0), (.int p1)])) _
          refine XS.icmpNo X4.here hx rfl (hb hby d5_13) rfl (teq hc5).2 ?_
          show Steps p.tables e below (T4.setTop (mkF m 16 #[.val (.ref a0), .val (.int p1)] [])) _
          refine XS.iconst X4.here hx rfl (hb hby d5_16) ?_
          show Steps p.tables e below (T4.setTop (mkF m 17 #[.val (.ref a0), .val (.int p1)] [(.int (1 : Int32))])) _
          refine XS.goto X4.here hx rfl (pc0 := 17) (pc' := 21) rfl (hb hby d5_17) (by decide) (by decide) ?_
          exact castTop (by rw [hv6, if_pos hc5] <;> rfl) kt
        · show Steps p.tables e below (T4.setTop (mkF m 13 #[.val (.ref a0), .val (.int p1)] [(.int w_m_nMinus_a0), (.int p1)])) _
          refine XS.icmpYes X4.here hx rfl (pc0 := 13) (pc' := 20) rfl (hb hby d5_13) rfl (feq hc5).2 (by decide) (by decide) ?_
          show Steps p.tables e below (T4.setTop (mkF m 20 #[.val (.ref a0), .val (.int p1)] [])) _
          refine XS.iconst X4.here hx rfl (hb hby d5_20) ?_
          exact castTop (by rw [hv6, if_neg hc5] <;> rfl) kt
      exact castTop (by subst hv6; rw [hv7, if_neg hc3] <;> rfl) kt
  obtain ⟨fs, hr, hrun, hended, hW, hsame⟩ := X8.leave (v := some (.int (nar .boolean v7))) (fun h => by rw [Bd.returns] at h; cases h)
  refine ⟨_, _, pre0 _ ?_, hrun, hended, _, _, rfl, ?_, ⟨_, rfl⟩, hW, hsame.mono (by decide) (by decide)⟩
  · show Steps p.tables e below (s₁.setTop (mkF m 0 #[.val (.ref a0), .val (.int p1)] [])) _
    refine XS.iloadN X0.here hx rfl (hb hby d5_0) rfl ?_
    show Steps p.tables e below (s₁.setTop (mkF m 1 #[.val (.ref a0), .val (.int p1)] [(.int p1)])) _
    refine XS.aloadN X0.here hx rfl (hb hby d5_1) rfl rfl ?_
    show Steps p.tables e below (s₁.setTop (mkF m 2 #[.val (.ref a0), .val (.int p1)] [(.ref a0), (.int p1)])) _
    refine st1 _ ?_
    show Steps p.tables e below (T1.setTop (mkF m 5 #[.val (.ref a0), .val (.int p1)] [(.int w_m_nPlus_a0), (.int p1)])) _
    refine st8 _ ?_
    show Steps p.tables e below (T8.setTop (mkF m 21 #[.val (.ref a0), .val (.int p1)] [(.int v7)])) _
    exact retN X8 hx (t := .boolean) Bd.returns (by simp) (hb hby d5_21) hr
  · show Q5 Z a0 p1 w_m_aZones_a0 w_m_nPlus_a0 w_m_nMinus_a0 h0 n0 _ T8.heap _
    subst hv7
    exact ⟨rfl, N8, e8⟩
theorem own_law (p0 : Int32) (p1 : Int32) (p2 : Int32) (p3 : Int32) (v14 : Int32) (v15 : Int32) (v16 : Int32) (v17 : Int32) (v20 : Int32) (v21 : Int32) (v23 : Int32) (r27 : Int32) (r28 : Int32) (r29 : Int32) (hv14 : v14 = ((p0 ^^^ ((1 : Int32) <<< ((p2 &&& (7 : Int32)) &&& 31))).toInt8.toInt32)) (hv15 : v15 = (if (p3 &&& (3 : Int32)) = (2 : Int32) then (p2.toInt8.toInt32) else v14)) (hv16 : v16 = (if (p3 &&& (3 : Int32)) = (1 : Int32) then (p1.toInt8.toInt32) else v15)) (hv17 : v17 = (if (p3 &&& (3 : Int32)) = (0 : Int32) then (p0.toInt8.toInt32) else v16)) (hv20 : v20 = (if (v17 &&& (255 : Int32)) = (p1 &&& (255 : Int32)) then (1 : Int32) else (0 : Int32))) (hv21 : v21 = (if (v17 &&& (255 : Int32)) = (p0 &&& (255 : Int32)) then (1 : Int32) else v20)) (hv23 : v23 = (nar .boolean (if v17 = (nar .byte (p0.toInt8.toInt32)) then (1 : Int32) else (if v17 = (nar .byte (p1.toInt8.toInt32)) then (1 : Int32) else (0 : Int32))))) (hr27 : r27 = (if v23 = (0 : Int32) then (0 : Int32) else (1 : Int32))) (hr28 : r28 = (if (1 : Int32) < (p3 &&& (3 : Int32)) then (1 : Int32) else r27)) (hr29 : r29 = (if v23 = v21 then r28 else (0 : Int32))) : r29 = (1 : Int32) := by
  have r : -128 ≤ v17.toInt ∧ v17.toInt < 128 := by
    rw [hv17, hv16, hv15, hv14]
    repeat' split
    all_goals exact (c_i2b _).2
  have e : v23 = v21 := by
    rw [hv23, hv21, hv20, own_bb, own_bb]
    by_cases a : v17 = p0.toInt8.toInt32
    · rw [if_pos a, if_pos ((own_byte _ _ r).mpr a), own_nar1]
    · rw [if_neg a, if_neg (fun q => a ((own_byte _ _ r).mp q))]
      by_cases b : v17 = p1.toInt8.toInt32
      · rw [if_pos b, if_pos ((own_byte _ _ r).mpr b), own_nar1]
      · rw [if_neg b, if_neg (fun q => b ((own_byte _ _ r).mp q)), own_nar0]
  rw [hr29, if_pos e, hr28]
  by_cases s1 : (1 : Int32) < (p3 &&& (3 : Int32))
  · rw [if_pos s1]
  · rw [if_neg s1, hr27]
    have n : ¬ v23 = (0 : Int32) := by
      rw [hv23, own_bb, own_bb]
      have m := c_mask p3 3 2 (by decide) (by decide)
      rw [Int32.lt_iff_toInt_lt] at s1
      have k1 : (1 : Int32).toInt = 1 := by decide
      have k0 : (0 : Int32).toInt = 0 := by decide
      by_cases z : (p3 &&& (3 : Int32)) = (0 : Int32)
      · have a : v17 = p0.toInt8.toInt32 := by rw [hv17, if_pos z]
        rw [if_pos a, own_nar1]; decide
      · have z1 : (p3 &&& (3 : Int32)) = (1 : Int32) := by
          have : ¬ (p3 &&& (3 : Int32)).toInt = 0 := fun q => z (Int32.toInt_inj.mp (q.trans k0.symm))
          apply Int32.toInt_inj.mp
          omega
        have a : v17 = p1.toInt8.toInt32 := by rw [hv17, if_neg z, hv16, if_pos z1]
        rw [if_pos a]
        split <;> rw [own_nar1] <;> decide
    rw [if_neg n]
theorem ef_0 (m : MethodId) (p0 : Int32) (p1 : Int32) (p2 : Int32) (p3 : Int32) (p4 : Int32) (p5 : Int32) : entryFrame m #[(.int p0), (.int p1), (.int p2), (.int p3), (.int p4), (.int p5)] maxLocals = mkF m 0 #[.val (.int p0), .val (.int p1), .val (.int p2), .val (.int p3), .val (.int p4), .val (.int p5), .unset, .unset, .unset, .unset, .unset, .unset, .unset, .unset] [] := by first | (simp [entryFrame, mkF, argsToLocals, Value.category, maxLocals]; done) | rfl
def Q0 (h0 : Heap) (n0 : Nat) (v : Option Value) (h : Heap) (L : List Loc) : Prop := v = some (.int 1) ∧ Fr n0 L
set_option maxRecDepth 65536 in
set_option maxHeartbeats 40000000 in
theorem rm0 (l : Launch) (Z : State) (A0 : Array Value) (hw : ∀ d ∈ tables_1, d.before A0 Z = true) (ws : List Jvm.Cond) (p0 : Int32) (p1 : Int32) (p2 : Int32) (p3 : Int32) (p4 : Int32) (p5 : Int32) (h0 : Heap) (n0 : Nat) (Z0 : n0 ≤ h0.size) :
    MetFree l x (head1 (Jvm.Cond.code x code maxLocals ret :: ws) room_1) (fun a U => a = #[(.int p0), (.int p1), (.int p2), (.int p3), (.int p4), (.int p5)] ∧ Z.Warmed39 U.vm ∧ U.heap = h0) (fun _ _ _ _ _ => True) (fun _ U o U' => ∃ v L, o = .returned v ∧ Q0 h0 n0 v U'.heap L ∧ FrameEnd U o U' L 2 6) := by
  refine MetFree.of_bodySF (plainFor_of_name pn_0) hisR ?_
  intro p e s m args below meth c s₁ Bd hml0 hP hK
  obtain ⟨rfl, hZ, hh⟩ := hP
  have hx := Bd.exec
  have hby := Bd.bytes
  have hml : c.maxLocals = 14 := hml0
  have hown : s.vm.findClass "copybridge/codec/decimal/ZonedFormatIsSeparateSignPinLaw" = some m.cls := findClass_of_methodNamed Bd.named
  have hnm := (name_of_methodNamed Bd.named Bd.method).1
  have X0 : Stand p l e room_1 s m #[(.int p0), (.int p1), (.int p2), (.int p3), (.int p4), (.int p5)] below meth c s₁ [] 0 0 := Stand.of_body Bd
  have e0 : s₁.heap = h0 := by rw [← hh, Bd.state]; rfl
  have N0 := Fr.nil n0
  have pre0 : ∀ t, Steps p.tables e below (s₁.setTop (mkF m 0 #[.val (.int p0), .val (.int p1), .val (.int p2), .val (.int p3), .val (.int p4), .val (.int p5), .unset, .unset, .unset, .unset, .unset, .unset, .unset, .unset] [])) t → Steps p.tables e below (s₁.setTop (entryFrame m #[(.int p0), (.int p1), (.int p2), (.int p3), (.int p4), (.int p5)] maxLocals)) t := fun t k => castTop (ef_0 m p0 p1 p2 p3 p4 p5) k
  obtain ⟨T1, h1, X1, e1, E1, A1, D1, -, st1⟩ := newO X0 hx hZ hown (hw _ (List.mem_of_getElem? (i := 0) rfl)) (hw _ (List.mem_of_getElem? (i := 1) rfl)) (hw _ (List.mem_of_getElem? (i := 2) rfl)) e0 (g := (mkF m 8 #[.val (.int p0), .val (.int p1), .val (.int p2), .val (.int p3), .val (.int p4), .val (.int p5), .val (.int (p0.toInt8.toInt32)), .val (.int (p1.toInt8.toInt32)), .unset, .unset, .unset, .unset, .unset, .unset] [])) rfl (hb hby at_8) (by decide) (by decide)
  obtain ⟨b1, g1⟩ : ∃ z, z = h0.size := ⟨_, rfl⟩
  rw [← g1] at A1 D1 st1
  have nw_b1 : n0 ≤ b1 := Nat.le_trans (Nat.le_trans Z0 (Keep.refl h0 []).1) (Nat.le_of_eq g1.symm)
  have sz_b1 : h0.size ≤ b1 := Nat.le_trans (Keep.refl h0 []).1 (Nat.le_of_eq g1.symm)
  have K1 : Keep h0 h1 [] := (Keep.refl h0 []).ext E1
  have F_m_aZones_b1 : Fld Z h1 b1 "copybridge/codec/decimal/ZonedFormat" "m_aZones" "Lcopybridge/codec/decimal/SignHalfBytes;" .null := D1 (Or.inr (hw _ (List.mem_of_getElem? (i := 28) rfl))) (ty := (.object "copybridge/codec/decimal/SignHalfBytes")) (by decide)
  have F_m_nPlus_b1 : Fld Z h1 b1 "copybridge/codec/decimal/ZonedFormat" "m_nPlus" "B" (.int (0 : Int32)) := D1 (Or.inr (hw _ (List.mem_of_getElem? (i := 30) rfl))) (ty := .byte) (by decide)
  have F_m_nMinus_b1 : Fld Z h1 b1 "copybridge/codec/decimal/ZonedFormat" "m_nMinus" "B" (.int (0 : Int32)) := D1 (Or.inr (hw _ (List.mem_of_getElem? (i := 32) rfl))) (ty := .byte) (by decide)
  obtain ⟨_, _, ⟨T2, L2, k2, n2⟩, -, X2, ⟨Lc2, hQ2, l2, y2, z2⟩, st2⟩ := X1.specialBack hx (y := (⟨"copybridge/codec/decimal/ZonedFormat", "<init>", "(IIIBB)V"⟩ : MethodName)) rfl hown (mvT hZ (hw _ (List.mem_of_getElem? (i := 3) rfl))) (mvT hZ (hw _ (List.mem_of_getElem? (i := 4) rfl))) (mvT hZ (hw _ (List.mem_of_getElem? (i := 5) rfl))) (by decide) (backOf (W := 1) (rm1 l Z A0 hw [] b1 p4 p5 (p4 ^^^ p5) (p0.toInt8.toInt32) (p1.toInt8.toInt32) .null (0 : Int32) (0 : Int32) h1 n0 (Nat.le_trans Z0 K1.1) A1 F_m_aZones_b1 F_m_nPlus_b1 F_m_nMinus_b1 nw_b1) hZ (hw _ (List.mem_of_getElem? (i := 5) rfl)) (hw _ (List.mem_of_getElem? (i := 2) rfl)) (by decide) (by decide)) (g := (mkF m 25 #[.val (.int p0), .val (.int p1), .val (.int p2), .val (.int p3), .val (.int p4), .val (.int p5), .val (.int (p0.toInt8.toInt32)), .val (.int (p1.toInt8.toInt32)), .unset, .unset, .unset, .unset, .unset, .unset] [(.int (p1.toInt8.toInt32)), (.int (p0.toInt8.toInt32)), (.int (p4 ^^^ p5)), (.int p5), (.int p4), (.ref b1), (.ref b1)])) rfl (by rw [hml]; rfl) (Steps.refl _) (a := b1) (argsL := [(.int p4), (.int p5), (.int (p4 ^^^ p5)), (.int (p0.toInt8.toInt32)), (.int (p1.toInt8.toInt32))]) (rest := [(.ref b1)]) (lenOf pd_0 rfl) rfl (by show 2 * 0 + _ ≤ _; exact Nat.le_of_eq rfl) (hb hby at_25) (fun _ _ => ⟨rfl, e1, (by decide : 1 + 1 ≤ _), (by decide : 3 + 3 ≤ _)⟩)
  dsimp only [Pt.U, Pt.locs, Pt.cells, Pt.slots] at X2 l2 y2 z2 st2 hQ2
  subst l2 y2 z2
  obtain ⟨b2_b2, rfl, N2q, Kc2, szb2_b2, P3, P4, P5, P6, P7, P8, P9, P10⟩ := hQ2
  have ne_b1_b2_b2 : b1 ≠ b2_b2 := Nat.ne_of_lt (Nat.lt_of_lt_of_le A1.lt szb2_b2)
  have nw_b2_b2 : n0 ≤ b2_b2 := Nat.le_trans (Nat.le_trans Z0 K1.1) szb2_b2
  have sq_b2_b2 : h0.size ≤ b2_b2 := Nat.le_trans K1.1 szb2_b2
  have K2 : Keep h0 T2.heap [] := K1.trans Kc2 (allS (Or.inr sz_b1) all0)
  have N2 := Fr.app N0 N2q
  obtain ⟨v14, hv14⟩ : ∃ z : Int32, z = ((p0 ^^^ ((1 : Int32) <<< ((p2 &&& (7 : Int32)) &&& 31))).toInt8.toInt32) := ⟨_, rfl⟩
  obtain ⟨v15, hv15⟩ : ∃ z : Int32, z = if (p3 &&& (3 : Int32)) = (2 : Int32) then (p2.toInt8.toInt32) else v14 := ⟨_, rfl⟩
  obtain ⟨v16, hv16⟩ : ∃ z : Int32, z = if (p3 &&& (3 : Int32)) = (1 : Int32) then (p1.toInt8.toInt32) else v15 := ⟨_, rfl⟩
  obtain ⟨v17, hv17⟩ : ∃ z : Int32, z = if (p3 &&& (3 : Int32)) = (0 : Int32) then (p0.toInt8.toInt32) else v16 := ⟨_, rfl⟩
  obtain ⟨v20, hv20⟩ : ∃ z : Int32, z = if (v17 &&& (255 : Int32)) = (p1 &&& (255 : Int32)) then (1 : Int32) else (0 : Int32) := ⟨_, rfl⟩
  obtain ⟨v21, hv21⟩ : ∃ z : Int32, z = if (v17 &&& (255 : Int32)) = (p0 &&& (255 : Int32)) then (1 : Int32) else v20 := ⟨_, rfl⟩
  obtain ⟨cq22, kq22, q22a, q22b, q22c⟩ := isOf hZ rfl P3
  obtain ⟨_, _, ⟨T22, L22, k22, n22⟩, -, X22, ⟨Lc22, hQ22, l22, y22, z22⟩, st22⟩ := X2.virtualBack hx (y := (⟨"copybridge/codec/decimal/ZonedFormat", "isSeparateSign", "(B)Z"⟩ : MethodName)) (z := (⟨"copybridge/codec/decimal/ZonedFormat", "isSeparateSign", "(B)Z"⟩ : MethodName)) hown (mvT hZ (hw _ (List.mem_of_getElem? (i := 33) rfl))) (mvT hZ (hw _ (List.mem_of_getElem? (i := 34) rfl))) (notFace_of_selects (args := #[]) (mvT hZ (hw _ (List.mem_of_getElem? (i := 36) rfl)))) (mvT hZ (hw _ (List.mem_of_getElem? (i := 36) rfl))) (mvT hZ (hw _ (List.mem_of_getElem? (i := 35) rfl))) (by decide) (backOf (W := 0) (rm5 l Z A0 hw [] b1 v17 (.ref b2_b2) (nar .byte (p0.toInt8.toInt32)) (nar .byte (p1.toInt8.toInt32)) T2.heap n0 (Nat.le_trans Z0 K2.1) P3 P4 P5 P6) hZ (hw _ (List.mem_of_getElem? (i := 37) rfl)) (hw _ (List.mem_of_getElem? (i := 2) rfl)) (by decide) (by decide)) q22a q22c (g := (mkF m 123 #[.val (.int p0), .val (.int p1), .val (.int p2), .val (.int p3), .val (.int p4), .val (.int p5), .val (.int (p0.toInt8.toInt32)), .val (.int (p1.toInt8.toInt32)), .val (.ref b1), .val (.int (p3 &&& (3 : Int32))), .val (.int v17), .val (.int (v17 &&& (255 : Int32))), .val (.int v21), .unset] [(.int v17), (.ref b1)])) rfl (by rw [hml]; rfl) (Steps.refl _) (argsL := [(.int v17)]) (rest := []) (lenOf pd_3 rfl) rfl (by show 2 * 0 + _ ≤ _; exact Nat.le_of_eq rfl) (hb hby at_123) (fun _ _ => ⟨rfl, rfl, (by decide : 2 + 0 ≤ _), (by decide : 6 + 0 ≤ _)⟩)
  dsimp only [Pt.U, Pt.locs, Pt.cells, Pt.slots] at X22 l22 y22 z22 st22 hQ22
  subst l22 y22 z22
  obtain ⟨rfl, N22q, e22⟩ := hQ22
  have N22 := Fr.app N2 N22q
  obtain ⟨v23, hv23⟩ : ∃ z : Int32, z = (nar .boolean (if v17 = (nar .byte (p0.toInt8.toInt32)) then (1 : Int32) else (if v17 = (nar .byte (p1.toInt8.toInt32)) then (1 : Int32) else (0 : Int32)))) := ⟨_, rfl⟩
  obtain ⟨r27, hr27⟩ : ∃ z : Int32, z = if v23 = (0 : Int32) then (0 : Int32) else (1 : Int32) := ⟨_, rfl⟩
  obtain ⟨r28, hr28⟩ : ∃ z : Int32, z = if (1 : Int32) < (p3 &&& (3 : Int32)) then (1 : Int32) else r27 := ⟨_, rfl⟩
  obtain ⟨r29, hr29⟩ : ∃ z : Int32, z = if v23 = v21 then r28 else (0 : Int32) := ⟨_, rfl⟩
  obtain ⟨fs, hr, hrun, hended, hW, hsame⟩ := X22.leave (v := some (.int r29)) (fun h => by rw [Bd.returns] at h; cases h)
  refine ⟨_, _, pre0 _ ?_, hrun, hended, _, _, rfl, ?_, ⟨_, rfl⟩, hW, hsame.mono (by decide) (by decide)⟩
  · show Steps p.tables e below (s₁.setTop (mkF m 0 #[.val (.int p0), .val (.int p1), .val (.int p2), .val (.int p3), .val (.int p4), .val (.int p5), .unset, .unset, .unset, .unset, .unset, .unset, .unset, .unset] [])) _
    refine XS.iloadN X0.here hx rfl (hb hby at_0) rfl ?_
    show Steps p.tables e below (s₁.setTop (mkF m 1 #[.val (.int p0), .val (.int p1), .val (.int p2), .val (.int p3), .val (.int p4), .val (.int p5), .unset, .unset, .unset, .unset, .unset, .unset, .unset, .unset] [(.int p0)])) _
    refine XS.i2b X0.here hx rfl (hb hby at_1) rfl ?_
    show Steps p.tables e below (s₁.setTop (mkF m 2 #[.val (.int p0), .val (.int p1), .val (.int p2), .val (.int p3), .val (.int p4), .val (.int p5), .unset, .unset, .unset, .unset, .unset, .unset, .unset, .unset] [(.int (p0.toInt8.toInt32))])) _
    refine XS.istore X0.here hx rfl (hb hby at_2) rfl (l' := #[.val (.int p0), .val (.int p1), .val (.int p2), .val (.int p3), .val (.int p4), .val (.int p5), .val (.int (p0.toInt8.toInt32)), .unset, .unset, .unset, .unset, .unset, .unset, .unset]) rfl ?_
    show Steps p.tables e below (s₁.setTop (mkF m 4 #[.val (.int p0), .val (.int p1), .val (.int p2), .val (.int p3), .val (.int p4), .val (.int p5), .val (.int (p0.toInt8.toInt32)), .unset, .unset, .unset, .unset, .unset, .unset, .unset] [])) _
    refine XS.iloadN X0.here hx rfl (hb hby at_4) rfl ?_
    show Steps p.tables e below (s₁.setTop (mkF m 5 #[.val (.int p0), .val (.int p1), .val (.int p2), .val (.int p3), .val (.int p4), .val (.int p5), .val (.int (p0.toInt8.toInt32)), .unset, .unset, .unset, .unset, .unset, .unset, .unset] [(.int p1)])) _
    refine XS.i2b X0.here hx rfl (hb hby at_5) rfl ?_
    show Steps p.tables e below (s₁.setTop (mkF m 6 #[.val (.int p0), .val (.int p1), .val (.int p2), .val (.int p3), .val (.int p4), .val (.int p5), .val (.int (p0.toInt8.toInt32)), .unset, .unset, .unset, .unset, .unset, .unset, .unset] [(.int (p1.toInt8.toInt32))])) _
    refine XS.istore X0.here hx rfl (hb hby at_6) rfl (l' := #[.val (.int p0), .val (.int p1), .val (.int p2), .val (.int p3), .val (.int p4), .val (.int p5), .val (.int (p0.toInt8.toInt32)), .val (.int (p1.toInt8.toInt32)), .unset, .unset, .unset, .unset, .unset, .unset]) rfl ?_
    show Steps p.tables e below (s₁.setTop (mkF m 8 #[.val (.int p0), .val (.int p1), .val (.int p2), .val (.int p3), .val (.int p4), .val (.int p5), .val (.int (p0.toInt8.toInt32)), .val (.int (p1.toInt8.toInt32)), .unset, .unset, .unset, .unset, .unset, .unset] [])) _
    refine st1 _ ?_
    show Steps p.tables e below (T1.setTop (mkF m 11 #[.val (.int p0), .val (.int p1), .val (.int p2), .val (.int p3), .val (.int p4), .val (.int p5), .val (.int (p0.toInt8.toInt32)), .val (.int (p1.toInt8.toInt32)), .unset, .unset, .unset, .unset, .unset, .unset] [(.ref b1)])) _
    refine XS.dup X1.here hx rfl (hb hby at_11) rfl rfl ?_
    show Steps p.tables e below (T1.setTop (mkF m 12 #[.val (.int p0), .val (.int p1), .val (.int p2), .val (.int p3), .val (.int p4), .val (.int p5), .val (.int (p0.toInt8.toInt32)), .val (.int (p1.toInt8.toInt32)), .unset, .unset, .unset, .unset, .unset, .unset] [(.ref b1), (.ref b1)])) _
    refine XS.iload X1.here hx rfl (hb hby at_12) rfl ?_
    show Steps p.tables e below (T1.setTop (mkF m 14 #[.val (.int p0), .val (.int p1), .val (.int p2), .val (.int p3), .val (.int p4), .val (.int p5), .val (.int (p0.toInt8.toInt32)), .val (.int (p1.toInt8.toInt32)), .unset, .unset, .unset, .unset, .unset, .unset] [(.int p4), (.ref b1), (.ref b1)])) _
    refine XS.iload X1.here hx rfl (hb hby at_14) rfl ?_
    show Steps p.tables e below (T1.setTop (mkF m 16 #[.val (.int p0), .val (.int p1), .val (.int p2), .val (.int p3), .val (.int p4), .val (.int p5), .val (.int (p0.toInt8.toInt32)), .val (.int (p1.toInt8.toInt32)), .unset, .unset, .unset, .unset, .unset, .unset] [(.int p5), (.int p4), (.ref b1), (.ref b1)])) _
    refine XS.iload X1.here hx rfl (hb hby at_16) rfl ?_
    show Steps p.tables e below (T1.setTop (mkF m 18 #[.val (.int p0), .val (.int p1), .val (.int p2), .val (.int p3), .val (.int p4), .val (.int p5), .val (.int (p0.toInt8.toInt32)), .val (.int (p1.toInt8.toInt32)), .unset, .unset, .unset, .unset, .unset, .unset] [(.int p4), (.int p5), (.int p4), (.ref b1), (.ref b1)])) _
    refine XS.iload X1.here hx rfl (hb hby at_18) rfl ?_
    show Steps p.tables e below (T1.setTop (mkF m 20 #[.val (.int p0), .val (.int p1), .val (.int p2), .val (.int p3), .val (.int p4), .val (.int p5), .val (.int (p0.toInt8.toInt32)), .val (.int (p1.toInt8.toInt32)), .unset, .unset, .unset, .unset, .unset, .unset] [(.int p5), (.int p4), (.int p5), (.int p4), (.ref b1), (.ref b1)])) _
    refine XS.ixor X1.here hx rfl (hb hby at_20) rfl ?_
    show Steps p.tables e below (T1.setTop (mkF m 21 #[.val (.int p0), .val (.int p1), .val (.int p2), .val (.int p3), .val (.int p4), .val (.int p5), .val (.int (p0.toInt8.toInt32)), .val (.int (p1.toInt8.toInt32)), .unset, .unset, .unset, .unset, .unset, .unset] [(.int (p4 ^^^ p5)), (.int p5), (.int p4), (.ref b1), (.ref b1)])) _
    refine XS.iload X1.here hx rfl (hb hby at_21) rfl ?_
    show Steps p.tables e below (T1.setTop (mkF m 23 #[.val (.int p0), .val (.int p1), .val (.int p2), .val (.int p3), .val (.int p4), .val (.int p5), .val (.int (p0.toInt8.toInt32)), .val (.int (p1.toInt8.toInt32)), .unset, .unset, .unset, .unset, .unset, .unset] [(.int (p0.toInt8.toInt32)), (.int (p4 ^^^ p5)), (.int p5), (.int p4), (.ref b1), (.ref b1)])) _
    refine XS.iload X1.here hx rfl (hb hby at_23) rfl ?_
    show Steps p.tables e below (T1.setTop (mkF m 25 #[.val (.int p0), .val (.int p1), .val (.int p2), .val (.int p3), .val (.int p4), .val (.int p5), .val (.int (p0.toInt8.toInt32)), .val (.int (p1.toInt8.toInt32)), .unset, .unset, .unset, .unset, .unset, .unset] [(.int (p1.toInt8.toInt32)), (.int (p0.toInt8.toInt32)), (.int (p4 ^^^ p5)), (.int p5), (.int p4), (.ref b1), (.ref b1)])) _
    refine st2.trans ?_
    show Steps p.tables e below (T2.setTop (mkF m 28 #[.val (.int p0), .val (.int p1), .val (.int p2), .val (.int p3), .val (.int p4), .val (.int p5), .val (.int (p0.toInt8.toInt32)), .val (.int (p1.toInt8.toInt32)), .unset, .unset, .unset, .unset, .unset, .unset] [(.ref b1)])) _
    refine XS.astore X2.here hx rfl (hb hby at_28) rfl rfl (l' := #[.val (.int p0), .val (.int p1), .val (.int p2), .val (.int p3), .val (.int p4), .val (.int p5), .val (.int (p0.toInt8.toInt32)), .val (.int (p1.toInt8.toInt32)), .val (.ref b1), .unset, .unset, .unset, .unset, .unset]) rfl ?_
    show Steps p.tables e below (T2.setTop (mkF m 30 #[.val (.int p0), .val (.int p1), .val (.int p2), .val (.int p3), .val (.int p4), .val (.int p5), .val (.int (p0.toInt8.toInt32)), .val (.int (p1.toInt8.toInt32)), .val (.ref b1), .unset, .unset, .unset, .unset, .unset] [])) _
    refine XS.iloadN X2.here hx rfl (hb hby at_30) rfl ?_
    show Steps p.tables e below (T2.setTop (mkF m 31 #[.val (.int p0), .val (.int p1), .val (.int p2), .val (.int p3), .val (.int p4), .val (.int p5), .val (.int (p0.toInt8.toInt32)), .val (.int (p1.toInt8.toInt32)), .val (.ref b1), .unset, .unset, .unset, .unset, .unset] [(.int p3)])) _
    refine XS.iconst X2.here hx rfl (hb hby at_31) ?_
    show Steps p.tables e below (T2.setTop (mkF m 32 #[.val (.int p0), .val (.int p1), .val (.int p2), .val (.int p3), .val (.int p4), .val (.int p5), .val (.int (p0.toInt8.toInt32)), .val (.int (p1.toInt8.toInt32)), .val (.ref b1), .unset, .unset, .unset, .unset, .unset] [(.int (3 : Int32)), (.int p3)])) _
    refine XS.iand X2.here hx rfl (hb hby at_32) rfl ?_
    show Steps p.tables e below (T2.setTop (mkF m 33 #[.val (.int p0), .val (.int p1), .val (.int p2), .val (.int p3), .val (.int p4), .val (.int p5), .val (.int (p0.toInt8.toInt32)), .val (.int (p1.toInt8.toInt32)), .val (.ref b1), .unset, .unset, .unset, .unset, .unset] [(.int (p3 &&& (3 : Int32)))])) _
    refine XS.istore X2.here hx rfl (hb hby at_33) rfl (l' := #[.val (.int p0), .val (.int p1), .val (.int p2), .val (.int p3), .val (.int p4), .val (.int p5), .val (.int (p0.toInt8.toInt32)), .val (.int (p1.toInt8.toInt32)), .val (.ref b1), .val (.int (p3 &&& (3 : Int32))), .unset, .unset, .unset, .unset]) rfl ?_
    show Steps p.tables e below (T2.setTop (mkF m 35 #[.val (.int p0), .val (.int p1), .val (.int p2), .val (.int p3), .val (.int p4), .val (.int p5), .val (.int (p0.toInt8.toInt32)), .val (.int (p1.toInt8.toInt32)), .val (.ref b1), .val (.int (p3 &&& (3 : Int32))), .unset, .unset, .unset, .unset] [])) _
    refine XS.iload X2.here hx rfl (hb hby at_35) rfl ?_
    show Steps p.tables e below (T2.setTop (mkF m 37 #[.val (.int p0), .val (.int p1), .val (.int p2), .val (.int p3), .val (.int p4), .val (.int p5), .val (.int (p0.toInt8.toInt32)), .val (.int (p1.toInt8.toInt32)), .val (.ref b1), .val (.int (p3 &&& (3 : Int32))), .unset, .unset, .unset, .unset] [(.int (p3 &&& (3 : Int32)))])) _
    refine own_dia (F := (mkF m 84 #[.val (.int p0), .val (.int p1), .val (.int p2), .val (.int p3), .val (.int p4), .val (.int p5), .val (.int (p0.toInt8.toInt32)), .val (.int (p1.toInt8.toInt32)), .val (.ref b1), .val (.int (p3 &&& (3 : Int32))), .val (.int v17), .unset, .unset, .unset] [])) ?_ ?_
    · intro kt
      by_cases hc11 : (p3 &&& (3 : Int32)) = (0 : Int32)
      · show Steps p.tables e below (T2.setTop (mkF m 37 #[.val (.int p0), .val (.int p1), .val (.int p2), .val (.int p3), .val (.int p4), .val (.int p5), .val (.int (p0.toInt8.toInt32)), .val (.int (p1.toInt8.toInt32)), .val (.ref b1), .val (.int (p3 &&& (3 : Int32))), .unset, .unset, .unset, .unset] [(.int (p3 &&& (3 : Int32)))])) _
        refine XS.ifNo X2.here hx rfl (hb hby at_37) rfl ((if0 _ _).trans (teq hc11).2) ?_
        show Steps p.tables e below (T2.setTop (mkF m 40 #[.val (.int p0), .val (.int p1), .val (.int p2), .val (.int p3), .val (.int p4), .val (.int p5), .val (.int (p0.toInt8.toInt32)), .val (.int (p1.toInt8.toInt32)), .val (.ref b1), .val (.int (p3 &&& (3 : Int32))), .unset, .unset, .unset, .unset] [])) _
        refine XS.iload X2.here hx rfl (hb hby at_40) rfl ?_
        show Steps p.tables e below (T2.setTop (mkF m 42 #[.val (.int p0), .val (.int p1), .val (.int p2), .val (.int p3), .val (.int p4), .val (.int p5), .val (.int (p0.toInt8.toInt32)), .val (.int (p1.toInt8.toInt32)), .val (.ref b1), .val (.int (p3 &&& (3 : Int32))), .unset, .unset, .unset, .unset] [(.int (p0.toInt8.toInt32))])) _
        refine XS.istore X2.here hx rfl (hb hby at_42) rfl (l' := #[.val (.int p0), .val (.int p1), .val (.int p2), .val (.int p3), .val (.int p4), .val (.int p5), .val (.int (p0.toInt8.toInt32)), .val (.int (p1.toInt8.toInt32)), .val (.ref b1), .val (.int (p3 &&& (3 : Int32))), .val (.int (p0.toInt8.toInt32)), .unset, .unset, .unset]) rfl ?_
        show Steps p.tables e below (T2.setTop (mkF m 44 #[.val (.int p0), .val (.int p1), .val (.int p2), .val (.int p3), .val (.int p4), .val (.int p5), .val (.int (p0.toInt8.toInt32)), .val (.int (p1.toInt8.toInt32)), .val (.ref b1), .val (.int (p3 &&& (3 : Int32))), .val (.int (p0.toInt8.toInt32)), .unset, .unset, .unset] [])) _
        refine XS.goto X2.here hx rfl (pc0 := 44) (pc' := 84) rfl (hb hby at_44) (by decide) (by decide) ?_
        exact castTop (by rw [hv17, if_pos hc11] <;> rfl) kt
      · show Steps p.tables e below (T2.setTop (mkF m 37 #[.val (.int p0), .val (.int p1), .val (.int p2), .val (.int p3), .val (.int p4), .val (.int p5), .val (.int (p0.toInt8.toInt32)), .val (.int (p1.toInt8.toInt32)), .val (.ref b1), .val (.int (p3 &&& (3 : Int32))), .unset, .unset, .unset, .unset] [(.int (p3 &&& (3 : Int32)))])) _
        refine XS.ifYes X2.here hx rfl (pc0 := 37) (pc' := 47) rfl (hb hby at_37) rfl ((if0 _ _).trans (feq hc11).2) (by decide) (by decide) ?_
        show Steps p.tables e below (T2.setTop (mkF m 47 #[.val (.int p0), .val (.int p1), .val (.int p2), .val (.int p3), .val (.int p4), .val (.int p5), .val (.int (p0.toInt8.toInt32)), .val (.int (p1.toInt8.toInt32)), .val (.ref b1), .val (.int (p3 &&& (3 : Int32))), .unset, .unset, .unset, .unset] [])) _
        refine XS.iload X2.here hx rfl (hb hby at_47) rfl ?_
        show Steps p.tables e below (T2.setTop (mkF m 49 #[.val (.int p0), .val (.int p1), .val (.int p2), .val (.int p3), .val (.int p4), .val (.int p5), .val (.int (p0.toInt8.toInt32)), .val (.int (p1.toInt8.toInt32)), .val (.ref b1), .val (.int (p3 &&& (3 : Int32))), .unset, .unset, .unset, .unset] [(.int (p3 &&& (3 : Int32)))])) _
        refine XS.iconst X2.here hx rfl (hb hby at_49) ?_
        show Steps p.tables e below (T2.setTop (mkF m 50 #[.val (.int p0), .val (.int p1), .val (.int p2), .val (.int p3), .val (.int p4), .val (.int p5), .val (.int (p0.toInt8.toInt32)), .val (.int (p1.toInt8.toInt32)), .val (.ref b1), .val (.int (p3 &&& (3 : Int32))), .unset, .unset, .unset, .unset] [(.int (1 : Int32)), (.int (p3 &&& (3 : Int32)))])) _
        refine own_dia (F := (mkF m 84 #[.val (.int p0), .val (.int p1), .val (.int p2), .val (.int p3), .val (.int p4), .val (.int p5), .val (.int (p0.toInt8.toInt32)), .val (.int (p1.toInt8.toInt32)), .val (.ref b1), .val (.int (p3 &&& (3 : Int32))), .val (.int v16), .unset, .unset, .unset] [])) ?_ ?_
        · intro kt
          by_cases hc12 : (p3 &&& (3 : Int32)) = (1 : Int32)
          · show Steps p.tables e below (T2.setTop (mkF m 50 #[.val (.int p0), .val (.int p1), .val (.int p2), .val (.int p3), .val (.int p4), .val (.int p5), .val (.int (p0.toInt8.toInt32)), .val (.int (p1.toInt8.toInt32)), .val (.ref b1), .val (.int (p3 &&& (3 : Int32))), .unset, .unset, .unset, .unset] [(.int (1 : Int32)), (.int (p3 &&& (3 : Int32)))])) _
            refine XS.icmpNo X2.here hx rfl (hb hby at_50) rfl (teq hc12).2 ?_
            show Steps p.tables e below (T2.setTop (mkF m 53 #[.val (.int p0), .val (.int p1), .val (.int p2), .val (.int p3), .val (.int p4), .val (.int p5), .val (.int (p0.toInt8.toInt32)), .val (.int (p1.toInt8.toInt32)), .val (.ref b1), .val (.int (p3 &&& (3 : Int32))), .unset, .unset, .unset, .unset] [])) _
            refine XS.iload X2.here hx rfl (hb hby at_53) rfl ?_
            show Steps p.tables e below (T2.setTop (mkF m 55 #[.val (.int p0), .val (.int p1), .val (.int p2), .val (.int p3), .val (.int p4), .val (.int p5), .val (.int (p0.toInt8.toInt32)), .val (.int (p1.toInt8.toInt32)), .val (.ref b1), .val (.int (p3 &&& (3 : Int32))), .unset, .unset, .unset, .unset] [(.int (p1.toInt8.toInt32))])) _
            refine XS.istore X2.here hx rfl (hb hby at_55) rfl (l' := #[.val (.int p0), .val (.int p1), .val (.int p2), .val (.int p3), .val (.int p4), .val (.int p5), .val (.int (p0.toInt8.toInt32)), .val (.int (p1.toInt8.toInt32)), .val (.ref b1), .val (.int (p3 &&& (3 : Int32))), .val (.int (p1.toInt8.toInt32)), .unset, .unset, .unset]) rfl ?_
            show Steps p.tables e below (T2.setTop (mkF m 57 #[.val (.int p0), .val (.int p1), .val (.int p2), .val (.int p3), .val (.int p4), .val (.int p5), .val (.int (p0.toInt8.toInt32)), .val (.int (p1.toInt8.toInt32)), .val (.ref b1), .val (.int (p3 &&& (3 : Int32))), .val (.int (p1.toInt8.toInt32)), .unset, .unset, .unset] [])) _
            refine XS.goto X2.here hx rfl (pc0 := 57) (pc' := 84) rfl (hb hby at_57) (by decide) (by decide) ?_
            exact castTop (by rw [hv16, if_pos hc12] <;> rfl) kt
          · show Steps p.tables e below (T2.setTop (mkF m 50 #[.val (.int p0), .val (.int p1), .val (.int p2), .val (.int p3), .val (.int p4), .val (.int p5), .val (.int (p0.toInt8.toInt32)), .val (.int (p1.toInt8.toInt32)), .val (.ref b1), .val (.int (p3 &&& (3 : Int32))), .unset, .unset, .unset, .unset] [(.int (1 : Int32)), (.int (p3 &&& (3 : Int32)))])) _
            refine XS.icmpYes X2.here hx rfl (pc0 := 50) (pc' := 60) rfl (hb hby at_50) rfl (feq hc12).2 (by decide) (by decide) ?_
            show Steps p.tables e below (T2.setTop (mkF m 60 #[.val (.int p0), .val (.int p1), .val (.int p2), .val (.int p3), .val (.int p4), .val (.int p5), .val (.int (p0.toInt8.toInt32)), .val (.int (p1.toInt8.toInt32)), .val (.ref b1), .val (.int (p3 &&& (3 : Int32))), .unset, .unset, .unset, .unset] [])) _
            refine XS.iload X2.here hx rfl (hb hby at_60) rfl ?_
            show Steps p.tables e below (T2.setTop (mkF m 62 #[.val (.int p0), .val (.int p1), .val (.int p2), .val (.int p3), .val (.int p4), .val (.int p5), .val (.int (p0.toInt8.toInt32)), .val (.int (p1.toInt8.toInt32)), .val (.ref b1), .val (.int (p3 &&& (3 : Int32))), .unset, .unset, .unset, .unset] [(.int (p3 &&& (3 : Int32)))])) _
            refine XS.iconst X2.here hx rfl (hb hby at_62) ?_
            show Steps p.tables e below (T2.setTop (mkF m 63 #[.val (.int p0), .val (.int p1), .val (.int p2), .val (.int p3), .val (.int p4), .val (.int p5), .val (.int (p0.toInt8.toInt32)), .val (.int (p1.toInt8.toInt32)), .val (.ref b1), .val (.int (p3 &&& (3 : Int32))), .unset, .unset, .unset, .unset] [(.int (2 : Int32)), (.int (p3 &&& (3 : Int32)))])) _
            refine own_dia (F := (mkF m 84 #[.val (.int p0), .val (.int p1), .val (.int p2), .val (.int p3), .val (.int p4), .val (.int p5), .val (.int (p0.toInt8.toInt32)), .val (.int (p1.toInt8.toInt32)), .val (.ref b1), .val (.int (p3 &&& (3 : Int32))), .val (.int v15), .unset, .unset, .unset] [])) ?_ ?_
            · intro kt
              by_cases hc13 : (p3 &&& (3 : Int32)) = (2 : Int32)
              · show Steps p.tables e below (T2.setTop (mkF m 63 #[.val (.int p0), .val (.int p1), .val (.int p2), .val (.int p3), .val (.int p4), .val (.int p5), .val (.int (p0.toInt8.toInt32)), .val (.int (p1.toInt8.toInt32)), .val (.ref b1), .val (.int (p3 &&& (3 : Int32))), .unset, .unset, .unset, .unset] [(.int (2 : Int32)), (.int (p3 &&& (3 : Int32)))])) _
                refine XS.icmpNo X2.here hx rfl (hb hby at_63) rfl (teq hc13).2 ?_
                show Steps p.tables e below (T2.setTop (mkF m 66 #[.val (.int p0), .val (.int p1), .val (.int p2), .val (.int p3), .val (.int p4), .val (.int p5), .val (.int (p0.toInt8.toInt32)), .val (.int (p1.toInt8.toInt32)), .val (.ref b1), .val (.int (p3 &&& (3 : Int32))), .unset, .unset, .unset, .unset] [])) _
                refine XS.iloadN X2.here hx rfl (hb hby at_66) rfl ?_
                show Steps p.tables e below (T2.setTop (mkF m 67 #[.val (.int p0), .val (.int p1), .val (.int p2), .val (.int p3), .val (.int p4), .val (.int p5), .val (.int (p0.toInt8.toInt32)), .val (.int (p1.toInt8.toInt32)), .val (.ref b1), .val (.int (p3 &&& (3 : Int32))), .unset, .unset, .unset, .unset] [(.int p2)])) _
                refine XS.i2b X2.here hx rfl (hb hby at_67) rfl ?_
                show Steps p.tables e below (T2.setTop (mkF m 68 #[.val (.int p0), .val (.int p1), .val (.int p2), .val (.int p3), .val (.int p4), .val (.int p5), .val (.int (p0.toInt8.toInt32)), .val (.int (p1.toInt8.toInt32)), .val (.ref b1), .val (.int (p3 &&& (3 : Int32))), .unset, .unset, .unset, .unset] [(.int (p2.toInt8.toInt32))])) _
                refine XS.istore X2.here hx rfl (hb hby at_68) rfl (l' := #[.val (.int p0), .val (.int p1), .val (.int p2), .val (.int p3), .val (.int p4), .val (.int p5), .val (.int (p0.toInt8.toInt32)), .val (.int (p1.toInt8.toInt32)), .val (.ref b1), .val (.int (p3 &&& (3 : Int32))), .val (.int (p2.toInt8.toInt32)), .unset, .unset, .unset]) rfl ?_
                show Steps p.tables e below (T2.setTop (mkF m 70 #[.val (.int p0), .val (.int p1), .val (.int p2), .val (.int p3), .val (.int p4), .val (.int p5), .val (.int (p0.toInt8.toInt32)), .val (.int (p1.toInt8.toInt32)), .val (.ref b1), .val (.int (p3 &&& (3 : Int32))), .val (.int (p2.toInt8.toInt32)), .unset, .unset, .unset] [])) _
                refine XS.goto X2.here hx rfl (pc0 := 70) (pc' := 84) rfl (hb hby at_70) (by decide) (by decide) ?_
                exact castTop (by rw [hv15, if_pos hc13] <;> rfl) kt
              · show Steps p.tables e below (T2.setTop (mkF m 63 #[.val (.int p0), .val (.int p1), .val (.int p2), .val (.int p3), .val (.int p4), .val (.int p5), .val (.int (p0.toInt8.toInt32)), .val (.int (p1.toInt8.toInt32)), .val (.ref b1), .val (.int (p3 &&& (3 : Int32))), .unset, .unset, .unset, .unset] [(.int (2 : Int32)), (.int (p3 &&& (3 : Int32)))])) _
                refine XS.icmpYes X2.here hx rfl (pc0 := 63) (pc' := 73) rfl (hb hby at_63) rfl (feq hc13).2 (by decide) (by decide) ?_
                show Steps p.tables e below (T2.setTop (mkF m 73 #[.val (.int p0), .val (.int p1), .val (.int p2), .val (.int p3), .val (.int p4), .val (.int p5), .val (.int (p0.toInt8.toInt32)), .val (.int (p1.toInt8.toInt32)), .val (.ref b1), .val (.int (p3 &&& (3 : Int32))), .unset, .unset, .unset, .unset] [])) _
                refine XS.iloadN X2.here hx rfl (hb hby at_73) rfl ?_
                show Steps p.tables e below (T2.setTop (mkF m 74 #[.val (.int p0), .val (.int p1), .val (.int p2), .val (.int p3), .val (.int p4), .val (.int p5), .val (.int (p0.toInt8.toInt32)), .val (.int (p1.toInt8.toInt32)), .val (.ref b1), .val (.int (p3 &&& (3 : Int32))), .unset, .unset, .unset, .unset] [(.int p0)])) _
                refine XS.iconst X2.here hx rfl (hb hby at_74) ?_
                show Steps p.tables e below (T2.setTop (mkF m 75 #[.val (.int p0), .val (.int p1), .val (.int p2), .val (.int p3), .val (.int p4), .val (.int p5), .val (.int (p0.toInt8.toInt32)), .val (.int (p1.toInt8.toInt32)), .val (.ref b1), .val (.int (p3 &&& (3 : Int32))), .unset, .unset, .unset, .unset] [(.int (1 : Int32)), (.int p0)])) _
                refine XS.iloadN X2.here hx rfl (hb hby at_75) rfl ?_
                show Steps p.tables e below (T2.setTop (mkF m 76 #[.val (.int p0), .val (.int p1), .val (.int p2), .val (.int p3), .val (.int p4), .val (.int p5), .val (.int (p0.toInt8.toInt32)), .val (.int (p1.toInt8.toInt32)), .val (.ref b1), .val (.int (p3 &&& (3 : Int32))), .unset, .unset, .unset, .unset] [(.int p2), (.int (1 : Int32)), (.int p0)])) _
                refine XS.bipush X2.here hx rfl (hb hby at_76) ?_
                show Steps p.tables e below (T2.setTop (mkF m 78 #[.val (.int p0), .val (.int p1), .val (.int p2), .val (.int p3), .val (.int p4), .val (.int p5), .val (.int (p0.toInt8.toInt32)), .val (.int (p1.toInt8.toInt32)), .val (.ref b1), .val (.int (p3 &&& (3 : Int32))), .unset, .unset, .unset, .unset] [(.int (7 : Int32)), (.int p2), (.int (1 : Int32)), (.int p0)])) _
                refine XS.iand X2.here hx rfl (hb hby at_78) rfl ?_
                show Steps p.tables e below (T2.setTop (mkF m 79 #[.val (.int p0), .val (.int p1), .val (.int p2), .val (.int p3), .val (.int p4), .val (.int p5), .val (.int (p0.toInt8.toInt32)), .val (.int (p1.toInt8.toInt32)), .val (.ref b1), .val (.int (p3 &&& (3 : Int32))), .unset, .unset, .unset, .unset] [(.int (p2 &&& (7 : Int32))), (.int (1 : Int32)), (.int p0)])) _
                refine XS.ishl X2.here hx rfl (hb hby at_79) rfl ?_
                show Steps p.tables e below (T2.setTop (mkF m 80 #[.val (.int p0), .val (.int p1), .val (.int p2), .val (.int p3), .val (.int p4), .val (.int p5), .val (.int (p0.toInt8.toInt32)), .val (.int (p1.toInt8.toInt32)), .val (.ref b1), .val (.int (p3 &&& (3 : Int32))), .unset, .unset, .unset, .unset] [(.int ((1 : Int32) <<< ((p2 &&& (7 : Int32)) &&& 31))), (.int p0)])) _
                refine XS.ixor X2.here hx rfl (hb hby at_80) rfl ?_
                show Steps p.tables e below (T2.setTop (mkF m 81 #[.val (.int p0), .val (.int p1), .val (.int p2), .val (.int p3), .val (.int p4), .val (.int p5), .val (.int (p0.toInt8.toInt32)), .val (.int (p1.toInt8.toInt32)), .val (.ref b1), .val (.int (p3 &&& (3 : Int32))), .unset, .unset, .unset, .unset] [(.int (p0 ^^^ ((1 : Int32) <<< ((p2 &&& (7 : Int32)) &&& 31))))])) _
                refine XS.i2b X2.here hx rfl (hb hby at_81) rfl ?_
                show Steps p.tables e below (T2.setTop (mkF m 82 #[.val (.int p0), .val (.int p1), .val (.int p2), .val (.int p3), .val (.int p4), .val (.int p5), .val (.int (p0.toInt8.toInt32)), .val (.int (p1.toInt8.toInt32)), .val (.ref b1), .val (.int (p3 &&& (3 : Int32))), .unset, .unset, .unset, .unset] [(.int ((p0 ^^^ ((1 : Int32) <<< ((p2 &&& (7 : Int32)) &&& 31))).toInt8.toInt32))])) _
                refine castTop (g' := (mkF m 82 #[.val (.int p0), .val (.int p1), .val (.int p2), .val (.int p3), .val (.int p4), .val (.int p5), .val (.int (p0.toInt8.toInt32)), .val (.int (p1.toInt8.toInt32)), .val (.ref b1), .val (.int (p3 &&& (3 : Int32))), .unset, .unset, .unset, .unset] [(.int v14)])) (by rw [hv14] <;> rfl) ?_
                show Steps p.tables e below (T2.setTop (mkF m 82 #[.val (.int p0), .val (.int p1), .val (.int p2), .val (.int p3), .val (.int p4), .val (.int p5), .val (.int (p0.toInt8.toInt32)), .val (.int (p1.toInt8.toInt32)), .val (.ref b1), .val (.int (p3 &&& (3 : Int32))), .unset, .unset, .unset, .unset] [(.int v14)])) _
                refine XS.istore X2.here hx rfl (hb hby at_82) rfl (l' := #[.val (.int p0), .val (.int p1), .val (.int p2), .val (.int p3), .val (.int p4), .val (.int p5), .val (.int (p0.toInt8.toInt32)), .val (.int (p1.toInt8.toInt32)), .val (.ref b1), .val (.int (p3 &&& (3 : Int32))), .val (.int v14), .unset, .unset, .unset]) rfl ?_
                exact castTop (by rw [hv15, if_neg hc13] <;> rfl) kt
            exact castTop (by rw [hv16, if_neg hc12] <;> rfl) kt
        exact castTop (by rw [hv17, if_neg hc11] <;> rfl) kt
    show Steps p.tables e below (T2.setTop (mkF m 84 #[.val (.int p0), .val (.int p1), .val (.int p2), .val (.int p3), .val (.int p4), .val (.int p5), .val (.int (p0.toInt8.toInt32)), .val (.int (p1.toInt8.toInt32)), .val (.ref b1), .val (.int (p3 &&& (3 : Int32))), .val (.int v17), .unset, .unset, .unset] [])) _
    refine XS.iload X2.here hx rfl (hb hby at_84) rfl ?_
    show Steps p.tables e below (T2.setTop (mkF m 86 #[.val (.int p0), .val (.int p1), .val (.int p2), .val (.int p3), .val (.int p4), .val (.int p5), .val (.int (p0.toInt8.toInt32)), .val (.int (p1.toInt8.toInt32)), .val (.ref b1), .val (.int (p3 &&& (3 : Int32))), .val (.int v17), .unset, .unset, .unset] [(.int v17)])) _
    refine XS.sipush X2.here hx rfl (hb hby at_86) ?_
    show Steps p.tables e below (T2.setTop (mkF m 89 #[.val (.int p0), .val (.int p1), .val (.int p2), .val (.int p3), .val (.int p4), .val (.int p5), .val (.int (p0.toInt8.toInt32)), .val (.int (p1.toInt8.toInt32)), .val (.ref b1), .val (.int (p3 &&& (3 : Int32))), .val (.int v17), .unset, .unset, .unset] [(.int (255 : Int32)), (.int v17)])) _
    refine XS.iand X2.here hx rfl (hb hby at_89) rfl ?_
    show Steps p.tables e below (T2.setTop (mkF m 90 #[.val (.int p0), .val (.int p1), .val (.int p2), .val (.int p3), .val (.int p4), .val (.int p5), .val (.int (p0.toInt8.toInt32)), .val (.int (p1.toInt8.toInt32)), .val (.ref b1), .val (.int (p3 &&& (3 : Int32))), .val (.int v17), .unset, .unset, .unset] [(.int (v17 &&& (255 : Int32)))])) _
    refine XS.istore X2.here hx rfl (hb hby at_90) rfl (l' := #[.val (.int p0), .val (.int p1), .val (.int p2), .val (.int p3), .val (.int p4), .val (.int p5), .val (.int (p0.toInt8.toInt32)), .val (.int (p1.toInt8.toInt32)), .val (.ref b1), .val (.int (p3 &&& (3 : Int32))), .val (.int v17), .val (.int (v17 &&& (255 : Int32))), .unset, .unset]) rfl ?_
    show Steps p.tables e below (T2.setTop (mkF m 92 #[.val (.int p0), .val (.int p1), .val (.int p2), .val (.int p3), .val (.int p4), .val (.int p5), .val (.int (p0.toInt8.toInt32)), .val (.int (p1.toInt8.toInt32)), .val (.ref b1), .val (.int (p3 &&& (3 : Int32))), .val (.int v17), .val (.int (v17 &&& (255 : Int32))), .unset, .unset] [])) _
    refine XS.iload X2.here hx rfl (hb hby at_92) rfl ?_
    show Steps p.tables e below (T2.setTop (mkF m 94 #[.val (.int p0), .val (.int p1), .val (.int p2), .val (.int p3), .val (.int p4), .val (.int p5), .val (.int (p0.toInt8.toInt32)), .val (.int (p1.toInt8.toInt32)), .val (.ref b1), .val (.int (p3 &&& (3 : Int32))), .val (.int v17), .val (.int (v17 &&& (255 : Int32))), .unset, .unset] [(.int (v17 &&& (255 : Int32)))])) _
    refine XS.iloadN X2.here hx rfl (hb hby at_94) rfl ?_
    show Steps p.tables e below (T2.setTop (mkF m 95 #[.val (.int p0), .val (.int p1), .val (.int p2), .val (.int p3), .val (.int p4), .val (.int p5), .val (.int (p0.toInt8.toInt32)), .val (.int (p1.toInt8.toInt32)), .val (.ref b1), .val (.int (p3 &&& (3 : Int32))), .val (.int v17), .val (.int (v17 &&& (255 : Int32))), .unset, .unset] [(.int p0), (.int (v17 &&& (255 : Int32)))])) _
    refine XS.sipush X2.here hx rfl (hb hby at_95) ?_
    show Steps p.tables e below (T2.setTop (mkF m 98 #[.val (.int p0), .val (.int p1), .val (.int p2), .val (.int p3), .val (.int p4), .val (.int p5), .val (.int (p0.toInt8.toInt32)), .val (.int (p1.toInt8.toInt32)), .val (.ref b1), .val (.int (p3 &&& (3 : Int32))), .val (.int v17), .val (.int (v17 &&& (255 : Int32))), .unset, .unset] [(.int (255 : Int32)), (.int p0), (.int (v17 &&& (255 : Int32)))])) _
    refine XS.iand X2.here hx rfl (hb hby at_98) rfl ?_
    show Steps p.tables e below (T2.setTop (mkF m 99 #[.val (.int p0), .val (.int p1), .val (.int p2), .val (.int p3), .val (.int p4), .val (.int p5), .val (.int (p0.toInt8.toInt32)), .val (.int (p1.toInt8.toInt32)), .val (.ref b1), .val (.int (p3 &&& (3 : Int32))), .val (.int v17), .val (.int (v17 &&& (255 : Int32))), .unset, .unset] [(.int (p0 &&& (255 : Int32))), (.int (v17 &&& (255 : Int32)))])) _
    refine own_dia (F := (mkF m 117 #[.val (.int p0), .val (.int p1), .val (.int p2), .val (.int p3), .val (.int p4), .val (.int p5), .val (.int (p0.toInt8.toInt32)), .val (.int (p1.toInt8.toInt32)), .val (.ref b1), .val (.int (p3 &&& (3 : Int32))), .val (.int v17), .val (.int (v17 &&& (255 : Int32))), .unset, .unset] [(.int v21)])) ?_ ?_
    · intro kt
      by_cases hc18 : (v17 &&& (255 : Int32)) = (p0 &&& (255 : Int32))
      · show Steps p.tables e below (T2.setTop (mkF m 99 #[.val (.int p0), .val (.int p1), .val (.int p2), .val (.int p3), .val (.int p4), .val (.int p5), .val (.int (p0.toInt8.toInt32)), .val (.int (p1.toInt8.toInt32)), .val (.ref b1), .val (.int (p3 &&& (3 : Int32))), .val (.int v17), .val (.int (v17 &&& (255 : Int32))), .unset, .unset] [(.int (p0 &&& (255 : Int32))), (.int (v17 &&& (255 : Int32)))])) _
        refine XS.icmpYes X2.here hx rfl (pc0 := 99) (pc' := 112) rfl (hb hby at_99) rfl (teq hc18).1 (by decide) (by decide) ?_
        show Steps p.tables e below (T2.setTop (mkF m 112 #[.val (.int p0), .val (.int p1), .val (.int p2), .val (.int p3), .val (.int p4), .val (.int p5), .val (.int (p0.toInt8.toInt32)), .val (.int (p1.toInt8.toInt32)), .val (.ref b1), .val (.int (p3 &&& (3 : Int32))), .val (.int v17), .val (.int (v17 &&& (255 : Int32))), .unset, .unset] [])) _
        refine XS.iconst X2.here hx rfl (hb hby at_112) ?_
        show Steps p.tables e below (T2.setTop (mkF m 113 #[.val (.int p0), .val (.int p1), .val (.int p2), .val (.int p3), .val (.int p4), .val (.int p5), .val (.int (p0.toInt8.toInt32)), .val (.int (p1.toInt8.toInt32)), .val (.ref b1), .val (.int (p3 &&& (3 : Int32))), .val (.int v17), .val (.int (v17 &&& (255 : Int32))), .unset, .unset] [(.int (1 : Int32))])) _
        refine XS.goto X2.here hx rfl (pc0 := 113) (pc' := 117) rfl (hb hby at_113) (by decide) (by decide) ?_
        exact castTop (by rw [hv21, if_pos hc18] <;> rfl) kt
      · show Steps p.tables e below (T2.setTop (mkF m 99 #[.val (.int p0), .val (.int p1), .val (.int p2), .val (.int p3), .val (.int p4), .val (.int p5), .val (.int (p0.toInt8.toInt32)), .val (.int (p1.toInt8.toInt32)), .val (.ref b1), .val (.int (p3 &&& (3 : Int32))), .val (.int v17), .val (.int (v17 &&& (255 : Int32))), .unset, .unset] [(.int (p0 &&& (255 : Int32))), (.int (v17 &&& (255 : Int32)))])) _
        refine XS.icmpNo X2.here hx rfl (hb hby at_99) rfl (feq hc18).1 ?_
        show Steps p.tables e below (T2.setTop (mkF m 102 #[.val (.int p0), .val (.int p1), .val (.int p2), .val (.int p3), .val (.int p4), .val (.int p5), .val (.int (p0.toInt8.toInt32)), .val (.int (p1.toInt8.toInt32)), .val (.ref b1), .val (.int (p3 &&& (3 : Int32))), .val (.int v17), .val (.int (v17 &&& (255 : Int32))), .unset, .unset] [])) _
        refine XS.iload X2.here hx rfl (hb hby at_102) rfl ?_
        show Steps p.tables e below (T2.setTop (mkF m 104 #[.val (.int p0), .val (.int p1), .val (.int p2), .val (.int p3), .val (.int p4), .val (.int p5), .val (.int (p0.toInt8.toInt32)), .val (.int (p1.toInt8.toInt32)), .val (.ref b1), .val (.int (p3 &&& (3 : Int32))), .val (.int v17), .val (.int (v17 &&& (255 : Int32))), .unset, .unset] [(.int (v17 &&& (255 : Int32)))])) _
        refine XS.iloadN X2.here hx rfl (hb hby at_104) rfl ?_
        show Steps p.tables e below (T2.setTop (mkF m 105 #[.val (.int p0), .val (.int p1), .val (.int p2), .val (.int p3), .val (.int p4), .val (.int p5), .val (.int (p0.toInt8.toInt32)), .val (.int (p1.toInt8.toInt32)), .val (.ref b1), .val (.int (p3 &&& (3 : Int32))), .val (.int v17), .val (.int (v17 &&& (255 : Int32))), .unset, .unset] [(.int p1), (.int (v17 &&& (255 : Int32)))])) _
        refine XS.sipush X2.here hx rfl (hb hby at_105) ?_
        show Steps p.tables e below (T2.setTop (mkF m 108 #[.val (.int p0), .val (.int p1), .val (.int p2), .val (.int p3), .val (.int p4), .val (.int p5), .val (.int (p0.toInt8.toInt32)), .val (.int (p1.toInt8.toInt32)), .val (.ref b1), .val (.int (p3 &&& (3 : Int32))), .val (.int v17), .val (.int (v17 &&& (255 : Int32))), .unset, .unset] [(.int (255 : Int32)), (.int p1), (.int (v17 &&& (255 : Int32)))])) _
        refine XS.iand X2.here hx rfl (hb hby at_108) rfl ?_
        show Steps p.tables e below (T2.setTop (mkF m 109 #[.val (.int p0), .val (.int p1), .val (.int p2), .val (.int p3), .val (.int p4), .val (.int p5), .val (.int (p0.toInt8.toInt32)), .val (.int (p1.toInt8.toInt32)), .val (.ref b1), .val (.int (p3 &&& (3 : Int32))), .val (.int v17), .val (.int (v17 &&& (255 : Int32))), .unset, .unset] [(.int (p1 &&& (255 : Int32))), (.int (v17 &&& (255 : Int32)))])) _
        refine own_dia (F := (mkF m 117 #[.val (.int p0), .val (.int p1), .val (.int p2), .val (.int p3), .val (.int p4), .val (.int p5), .val (.int (p0.toInt8.toInt32)), .val (.int (p1.toInt8.toInt32)), .val (.ref b1), .val (.int (p3 &&& (3 : Int32))), .val (.int v17), .val (.int (v17 &&& (255 : Int32))), .unset, .unset] [(.int v20)])) ?_ ?_
        · intro kt
          by_cases hc19 : (v17 &&& (255 : Int32)) = (p1 &&& (255 : Int32))
          · show Steps p.tables e below (T2.setTop (mkF m 109 #[.val (.int p0), .val (.int p1), .val (.int p2), .val (.int p3), .val (.int p4), .val (.int p5), .val (.int (p0.toInt8.toInt32)), .val (.int (p1.toInt8.toInt32)), .val (.ref b1), .val (.int (p3 &&& (3 : Int32))), .val (.int v17), .val (.int (v17 &&& (255 : Int32))), .unset, .unset] [(.int (p1 &&& (255 : Int32))), (.int (v17 &&& (255 : Int32)))])) _
            refine XS.icmpNo X2.here hx rfl (hb hby at_109) rfl (teq hc19).2 ?_
            show Steps p.tables e below (T2.setTop (mkF m 112 #[.val (.int p0), .val (.int p1), .val (.int p2), .val (.int p3), .val (.int p4), .val (.int p5), .val (.int (p0.toInt8.toInt32)), .val (.int (p1.toInt8.toInt32)), .val (.ref b1), .val (.int (p3 &&& (3 : Int32))), .val (.int v17), .val (.int (v17 &&& (255 : Int32))), .unset, .unset] [])) _
            refine XS.iconst X2.here hx rfl (hb hby at_112) ?_
            show Steps p.tables e below (T2.setTop (mkF m 113 #[.val (.int p0), .val (.int p1), .val (.int p2), .val (.int p3), .val (.int p4), .val (.int p5), .val (.int (p0.toInt8.toInt32)), .val (.int (p1.toInt8.toInt32)), .val (.ref b1), .val (.int (p3 &&& (3 : Int32))), .val (.int v17), .val (.int (v17 &&& (255 : Int32))), .unset, .unset] [(.int (1 : Int32))])) _
            refine XS.goto X2.here hx rfl (pc0 := 113) (pc' := 117) rfl (hb hby at_113) (by decide) (by decide) ?_
            exact castTop (by rw [hv20, if_pos hc19] <;> rfl) kt
          · show Steps p.tables e below (T2.setTop (mkF m 109 #[.val (.int p0), .val (.int p1), .val (.int p2), .val (.int p3), .val (.int p4), .val (.int p5), .val (.int (p0.toInt8.toInt32)), .val (.int (p1.toInt8.toInt32)), .val (.ref b1), .val (.int (p3 &&& (3 : Int32))), .val (.int v17), .val (.int (v17 &&& (255 : Int32))), .unset, .unset] [(.int (p1 &&& (255 : Int32))), (.int (v17 &&& (255 : Int32)))])) _
            refine XS.icmpYes X2.here hx rfl (pc0 := 109) (pc' := 116) rfl (hb hby at_109) rfl (feq hc19).2 (by decide) (by decide) ?_
            show Steps p.tables e below (T2.setTop (mkF m 116 #[.val (.int p0), .val (.int p1), .val (.int p2), .val (.int p3), .val (.int p4), .val (.int p5), .val (.int (p0.toInt8.toInt32)), .val (.int (p1.toInt8.toInt32)), .val (.ref b1), .val (.int (p3 &&& (3 : Int32))), .val (.int v17), .val (.int (v17 &&& (255 : Int32))), .unset, .unset] [])) _
            refine XS.iconst X2.here hx rfl (hb hby at_116) ?_
            exact castTop (by rw [hv20, if_neg hc19] <;> rfl) kt
        exact castTop (by rw [hv21, if_neg hc18] <;> rfl) kt
    show Steps p.tables e below (T2.setTop (mkF m 117 #[.val (.int p0), .val (.int p1), .val (.int p2), .val (.int p3), .val (.int p4), .val (.int p5), .val (.int (p0.toInt8.toInt32)), .val (.int (p1.toInt8.toInt32)), .val (.ref b1), .val (.int (p3 &&& (3 : Int32))), .val (.int v17), .val (.int (v17 &&& (255 : Int32))), .unset, .unset] [(.int v21)])) _
    refine XS.istore X2.here hx rfl (hb hby at_117) rfl (l' := #[.val (.int p0), .val (.int p1), .val (.int p2), .val (.int p3), .val (.int p4), .val (.int p5), .val (.int (p0.toInt8.toInt32)), .val (.int (p1.toInt8.toInt32)), .val (.ref b1), .val (.int (p3 &&& (3 : Int32))), .val (.int v17), .val (.int (v17 &&& (255 : Int32))), .val (.int v21), .unset]) rfl ?_
    show Steps p.tables e below (T2.setTop (mkF m 119 #[.val (.int p0), .val (.int p1), .val (.int p2), .val (.int p3), .val (.int p4), .val (.int p5), .val (.int (p0.toInt8.toInt32)), .val (.int (p1.toInt8.toInt32)), .val (.ref b1), .val (.int (p3 &&& (3 : Int32))), .val (.int v17), .val (.int (v17 &&& (255 : Int32))), .val (.int v21), .unset] [])) _
    refine XS.aload X2.here hx rfl (hb hby at_119) rfl rfl ?_
    show Steps p.tables e below (T2.setTop (mkF m 121 #[.val (.int p0), .val (.int p1), .val (.int p2), .val (.int p3), .val (.int p4), .val (.int p5), .val (.int (p0.toInt8.toInt32)), .val (.int (p1.toInt8.toInt32)), .val (.ref b1), .val (.int (p3 &&& (3 : Int32))), .val (.int v17), .val (.int (v17 &&& (255 : Int32))), .val (.int v21), .unset] [(.ref b1)])) _
    refine XS.iload X2.here hx rfl (hb hby at_121) rfl ?_
    show Steps p.tables e below (T2.setTop (mkF m 123 #[.val (.int p0), .val (.int p1), .val (.int p2), .val (.int p3), .val (.int p4), .val (.int p5), .val (.int (p0.toInt8.toInt32)), .val (.int (p1.toInt8.toInt32)), .val (.ref b1), .val (.int (p3 &&& (3 : Int32))), .val (.int v17), .val (.int (v17 &&& (255 : Int32))), .val (.int v21), .unset] [(.int v17), (.ref b1)])) _
    refine st22.trans ?_
    show Steps p.tables e below (T22.setTop (mkF m 126 #[.val (.int p0), .val (.int p1), .val (.int p2), .val (.int p3), .val (.int p4), .val (.int p5), .val (.int (p0.toInt8.toInt32)), .val (.int (p1.toInt8.toInt32)), .val (.ref b1), .val (.int (p3 &&& (3 : Int32))), .val (.int v17), .val (.int (v17 &&& (255 : Int32))), .val (.int v21), .unset] [(.int (nar .boolean (if v17 = (nar .byte (p0.toInt8.toInt32)) then (1 : Int32) else (if v17 = (nar .byte (p1.toInt8.toInt32)) then (1 : Int32) else (0 : Int32)))))])) _
    refine castTop (g' := (mkF m 126 #[.val (.int p0), .val (.int p1), .val (.int p2), .val (.int p3), .val (.int p4), .val (.int p5), .val (.int (p0.toInt8.toInt32)), .val (.int (p1.toInt8.toInt32)), .val (.ref b1), .val (.int (p3 &&& (3 : Int32))), .val (.int v17), .val (.int (v17 &&& (255 : Int32))), .val (.int v21), .unset] [(.int v23)])) (by rw [hv23] <;> rfl) ?_
    show Steps p.tables e below (T22.setTop (mkF m 126 #[.val (.int p0), .val (.int p1), .val (.int p2), .val (.int p3), .val (.int p4), .val (.int p5), .val (.int (p0.toInt8.toInt32)), .val (.int (p1.toInt8.toInt32)), .val (.ref b1), .val (.int (p3 &&& (3 : Int32))), .val (.int v17), .val (.int (v17 &&& (255 : Int32))), .val (.int v21), .unset] [(.int v23)])) _
    refine XS.istore X22.here hx rfl (hb hby at_126) rfl (l' := #[.val (.int p0), .val (.int p1), .val (.int p2), .val (.int p3), .val (.int p4), .val (.int p5), .val (.int (p0.toInt8.toInt32)), .val (.int (p1.toInt8.toInt32)), .val (.ref b1), .val (.int (p3 &&& (3 : Int32))), .val (.int v17), .val (.int (v17 &&& (255 : Int32))), .val (.int v21), .val (.int v23)]) rfl ?_
    show Steps p.tables e below (T22.setTop (mkF m 128 #[.val (.int p0), .val (.int p1), .val (.int p2), .val (.int p3), .val (.int p4), .val (.int p5), .val (.int (p0.toInt8.toInt32)), .val (.int (p1.toInt8.toInt32)), .val (.ref b1), .val (.int (p3 &&& (3 : Int32))), .val (.int v17), .val (.int (v17 &&& (255 : Int32))), .val (.int v21), .val (.int v23)] [])) _
    refine XS.iload X22.here hx rfl (hb hby at_128) rfl ?_
    show Steps p.tables e below (T22.setTop (mkF m 130 #[.val (.int p0), .val (.int p1), .val (.int p2), .val (.int p3), .val (.int p4), .val (.int p5), .val (.int (p0.toInt8.toInt32)), .val (.int (p1.toInt8.toInt32)), .val (.ref b1), .val (.int (p3 &&& (3 : Int32))), .val (.int v17), .val (.int (v17 &&& (255 : Int32))), .val (.int v21), .val (.int v23)] [(.int v23)])) _
    refine XS.iload X22.here hx rfl (hb hby at_130) rfl ?_
    by_cases hc24 : v23 = v21
    · show Steps p.tables e below (T22.setTop (mkF m 132 #[.val (.int p0), .val (.int p1), .val (.int p2), .val (.int p3), .val (.int p4), .val (.int p5), .val (.int (p0.toInt8.toInt32)), .val (.int (p1.toInt8.toInt32)), .val (.ref b1), .val (.int (p3 &&& (3 : Int32))), .val (.int v17), .val (.int (v17 &&& (255 : Int32))), .val (.int v21), .val (.int v23)] [(.int v21), (.int v23)])) _
      refine XS.icmpYes X22.here hx rfl (pc0 := 132) (pc' := 137) rfl (hb hby at_132) rfl (teq hc24).1 (by decide) (by decide) ?_
      show Steps p.tables e below (T22.setTop (mkF m 137 #[.val (.int p0), .val (.int p1), .val (.int p2), .val (.int p3), .val (.int p4), .val (.int p5), .val (.int (p0.toInt8.toInt32)), .val (.int (p1.toInt8.toInt32)), .val (.ref b1), .val (.int (p3 &&& (3 : Int32))), .val (.int v17), .val (.int (v17 &&& (255 : Int32))), .val (.int v21), .val (.int v23)] [])) _
      refine XS.iload X22.here hx rfl (hb hby at_137) rfl ?_
      show Steps p.tables e below (T22.setTop (mkF m 139 #[.val (.int p0), .val (.int p1), .val (.int p2), .val (.int p3), .val (.int p4), .val (.int p5), .val (.int (p0.toInt8.toInt32)), .val (.int (p1.toInt8.toInt32)), .val (.ref b1), .val (.int (p3 &&& (3 : Int32))), .val (.int v17), .val (.int (v17 &&& (255 : Int32))), .val (.int v21), .val (.int v23)] [(.int (p3 &&& (3 : Int32)))])) _
      refine XS.iconst X22.here hx rfl (hb hby at_139) ?_
      by_cases hc25 : (1 : Int32) < (p3 &&& (3 : Int32))
      · show Steps p.tables e below (T22.setTop (mkF m 140 #[.val (.int p0), .val (.int p1), .val (.int p2), .val (.int p3), .val (.int p4), .val (.int p5), .val (.int (p0.toInt8.toInt32)), .val (.int (p1.toInt8.toInt32)), .val (.ref b1), .val (.int (p3 &&& (3 : Int32))), .val (.int v17), .val (.int (v17 &&& (255 : Int32))), .val (.int v21), .val (.int v23)] [(.int (1 : Int32)), (.int (p3 &&& (3 : Int32)))])) _
        refine XS.icmpYes X22.here hx rfl (pc0 := 140) (pc' := 150) rfl (hb hby at_140) rfl (tlt hc25).2.2.1 (by decide) (by decide) ?_
        show Steps p.tables e below (T22.setTop (mkF m 150 #[.val (.int p0), .val (.int p1), .val (.int p2), .val (.int p3), .val (.int p4), .val (.int p5), .val (.int (p0.toInt8.toInt32)), .val (.int (p1.toInt8.toInt32)), .val (.ref b1), .val (.int (p3 &&& (3 : Int32))), .val (.int v17), .val (.int (v17 &&& (255 : Int32))), .val (.int v21), .val (.int v23)] [])) _
        refine XS.iconst X22.here hx rfl (hb hby at_150) ?_
        rw [hr29, if_pos hc24, hr28, if_pos hc25] at hr
        show Steps p.tables e below (T22.setTop (mkF m 151 #[.val (.int p0), .val (.int p1), .val (.int p2), .val (.int p3), .val (.int p4), .val (.int p5), .val (.int (p0.toInt8.toInt32)), .val (.int (p1.toInt8.toInt32)), .val (.ref b1), .val (.int (p3 &&& (3 : Int32))), .val (.int v17), .val (.int (v17 &&& (255 : Int32))), .val (.int v21), .val (.int v23)] [(.int (1 : Int32))])) _
        exact retN X22 hx (t := .boolean) Bd.returns (by simp) (hb hby at_151) hr
      · show Steps p.tables e below (T22.setTop (mkF m 140 #[.val (.int p0), .val (.int p1), .val (.int p2), .val (.int p3), .val (.int p4), .val (.int p5), .val (.int (p0.toInt8.toInt32)), .val (.int (p1.toInt8.toInt32)), .val (.ref b1), .val (.int (p3 &&& (3 : Int32))), .val (.int v17), .val (.int (v17 &&& (255 : Int32))), .val (.int v21), .val (.int v23)] [(.int (1 : Int32)), (.int (p3 &&& (3 : Int32)))])) _
        refine XS.icmpNo X22.here hx rfl (hb hby at_140) rfl (flt hc25).2.2.1 ?_
        show Steps p.tables e below (T22.setTop (mkF m 143 #[.val (.int p0), .val (.int p1), .val (.int p2), .val (.int p3), .val (.int p4), .val (.int p5), .val (.int (p0.toInt8.toInt32)), .val (.int (p1.toInt8.toInt32)), .val (.ref b1), .val (.int (p3 &&& (3 : Int32))), .val (.int v17), .val (.int (v17 &&& (255 : Int32))), .val (.int v21), .val (.int v23)] [])) _
        refine XS.iload X22.here hx rfl (hb hby at_143) rfl ?_
        by_cases hc26 : v23 = (0 : Int32)
        · show Steps p.tables e below (T22.setTop (mkF m 145 #[.val (.int p0), .val (.int p1), .val (.int p2), .val (.int p3), .val (.int p4), .val (.int p5), .val (.int (p0.toInt8.toInt32)), .val (.int (p1.toInt8.toInt32)), .val (.ref b1), .val (.int (p3 &&& (3 : Int32))), .val (.int v17), .val (.int (v17 &&& (255 : Int32))), .val (.int v21), .val (.int v23)] [(.int v23)])) _
          refine XS.ifNo X22.here hx rfl (hb hby at_145) rfl ((if0 _ _).trans (teq hc26).2) ?_
          show Steps p.tables e below (T22.setTop (mkF m 148 #[.val (.int p0), .val (.int p1), .val (.int p2), .val (.int p3), .val (.int p4), .val (.int p5), .val (.int (p0.toInt8.toInt32)), .val (.int (p1.toInt8.toInt32)), .val (.ref b1), .val (.int (p3 &&& (3 : Int32))), .val (.int v17), .val (.int (v17 &&& (255 : Int32))), .val (.int v21), .val (.int v23)] [])) _
          refine XS.iconst X22.here hx rfl (hb hby at_148) ?_
          rw [hr29, if_pos hc24, hr28, if_neg hc25, hr27, if_pos hc26] at hr
          show Steps p.tables e below (T22.setTop (mkF m 149 #[.val (.int p0), .val (.int p1), .val (.int p2), .val (.int p3), .val (.int p4), .val (.int p5), .val (.int (p0.toInt8.toInt32)), .val (.int (p1.toInt8.toInt32)), .val (.ref b1), .val (.int (p3 &&& (3 : Int32))), .val (.int v17), .val (.int (v17 &&& (255 : Int32))), .val (.int v21), .val (.int v23)] [(.int (0 : Int32))])) _
          exact retN X22 hx (t := .boolean) Bd.returns (by simp) (hb hby at_149) hr
        · show Steps p.tables e below (T22.setTop (mkF m 145 #[.val (.int p0), .val (.int p1), .val (.int p2), .val (.int p3), .val (.int p4), .val (.int p5), .val (.int (p0.toInt8.toInt32)), .val (.int (p1.toInt8.toInt32)), .val (.ref b1), .val (.int (p3 &&& (3 : Int32))), .val (.int v17), .val (.int (v17 &&& (255 : Int32))), .val (.int v21), .val (.int v23)] [(.int v23)])) _
          refine XS.ifYes X22.here hx rfl (pc0 := 145) (pc' := 150) rfl (hb hby at_145) rfl ((if0 _ _).trans (feq hc26).2) (by decide) (by decide) ?_
          show Steps p.tables e below (T22.setTop (mkF m 150 #[.val (.int p0), .val (.int p1), .val (.int p2), .val (.int p3), .val (.int p4), .val (.int p5), .val (.int (p0.toInt8.toInt32)), .val (.int (p1.toInt8.toInt32)), .val (.ref b1), .val (.int (p3 &&& (3 : Int32))), .val (.int v17), .val (.int (v17 &&& (255 : Int32))), .val (.int v21), .val (.int v23)] [])) _
          refine XS.iconst X22.here hx rfl (hb hby at_150) ?_
          rw [hr29, if_pos hc24, hr28, if_neg hc25, hr27, if_neg hc26] at hr
          show Steps p.tables e below (T22.setTop (mkF m 151 #[.val (.int p0), .val (.int p1), .val (.int p2), .val (.int p3), .val (.int p4), .val (.int p5), .val (.int (p0.toInt8.toInt32)), .val (.int (p1.toInt8.toInt32)), .val (.ref b1), .val (.int (p3 &&& (3 : Int32))), .val (.int v17), .val (.int (v17 &&& (255 : Int32))), .val (.int v21), .val (.int v23)] [(.int (1 : Int32))])) _
          exact retN X22 hx (t := .boolean) Bd.returns (by simp) (hb hby at_151) hr
    · show Steps p.tables e below (T22.setTop (mkF m 132 #[.val (.int p0), .val (.int p1), .val (.int p2), .val (.int p3), .val (.int p4), .val (.int p5), .val (.int (p0.toInt8.toInt32)), .val (.int (p1.toInt8.toInt32)), .val (.ref b1), .val (.int (p3 &&& (3 : Int32))), .val (.int v17), .val (.int (v17 &&& (255 : Int32))), .val (.int v21), .val (.int v23)] [(.int v21), (.int v23)])) _
      refine XS.icmpNo X22.here hx rfl (hb hby at_132) rfl (feq hc24).1 ?_
      show Steps p.tables e below (T22.setTop (mkF m 135 #[.val (.int p0), .val (.int p1), .val (.int p2), .val (.int p3), .val (.int p4), .val (.int p5), .val (.int (p0.toInt8.toInt32)), .val (.int (p1.toInt8.toInt32)), .val (.ref b1), .val (.int (p3 &&& (3 : Int32))), .val (.int v17), .val (.int (v17 &&& (255 : Int32))), .val (.int v21), .val (.int v23)] [])) _
      refine XS.iconst X22.here hx rfl (hb hby at_135) ?_
      rw [hr29, if_neg hc24] at hr
      show Steps p.tables e below (T22.setTop (mkF m 136 #[.val (.int p0), .val (.int p1), .val (.int p2), .val (.int p3), .val (.int p4), .val (.int p5), .val (.int (p0.toInt8.toInt32)), .val (.int (p1.toInt8.toInt32)), .val (.ref b1), .val (.int (p3 &&& (3 : Int32))), .val (.int v17), .val (.int (v17 &&& (255 : Int32))), .val (.int v21), .val (.int v23)] [(.int (0 : Int32))])) _
      exact retN X22 hx (t := .boolean) Bd.returns (by simp) (hb hby at_136) hr
  · show Q0 h0 n0 _ T22.heap _
    refine ⟨?_, N22⟩
    have hfin : r29 = (1 : Int32) := by
      exact (own_law p0 p1 p2 p3 v14 v15 v16 v17 v20 v21 v23 r27 r28 r29 hv14 hv15 hv16 hv17 hv20 hv21 hv23 hr27 hr28 hr29)
    rw [hfin]
set_option maxRecDepth 65536 in
set_option maxHeartbeats 40000000 in
theorem comes_1 {Post : Tables → Env → Array Value → State → Outcome → State → Prop} (hpost : ∀ tb e args s v u, (limb_1_1.after args s (.returned v) u = true ∧ limb_1_2.after args s (.returned v) u = true ∧ True) → FrameEnd s (.returned v) u (Jvm.fieldLocs frame_1_writes args s ++ Jvm.arrayLocs frame_1_arrays args s ++ Jvm.staticLocs frame_1_statics s) 16 128 → Post tb e args s (.returned v) u) :
    ArmFor flags0 classFile x code maxLocals ret World_1 tables_1 room_1 Calls_1 rest_1 Pre_1 Post := by
  intro l hfl _ _ p e ha hc hk s m args below hf hA hF happ hP
  obtain ⟨hcalls, hrest, hpre⟩ := hP
  obtain ⟨-, -, -, hnamed, -, -, -, hat⟩ := (Spec.applies_iff hf).mp happ
  obtain ⟨hg, hn⟩ := and_e (Cond.before_iff.mp (show (Jvm.Cond.and given_1 narrow_1).before args s = true from hpre))
  obtain ⟨gg1, gg2⟩ := and_e hg
  obtain ⟨gg3, gg4⟩ := and_e gg2
  obtain ⟨gg5, gg6⟩ := and_e gg4
  obtain ⟨gg7, gg8⟩ := and_e gg6
  obtain ⟨gg9, gg10⟩ := and_e gg8
  obtain ⟨gg11, gg12⟩ := and_e gg10
  obtain ⟨w0, w1, w2, w3, w4, w5, rfl⟩ : ∃ w0 w1 w2 w3 w4 w5 : Value, args = #[w0, w1, w2, w3, w4, w5] := by
    have hs : args.size = 6 := by simpa [Cond.value, given_1] using gg1
    obtain ⟨L⟩ := args
    match L, hs with
    | [w0, w1, w2, w3, w4, w5], _ => exact ⟨w0, w1, w2, w3, w4, w5, rfl⟩
  have hw := fun d (hd : d ∈ tables_1) => atoms_spec (ws := Jvm.Cond.code x code maxLocals ret :: tables_1) hat d (List.mem_cons_of_mem _ hd)
  have hfit : Fit s := fun {y c} hc i hi => by
    obtain ⟨ha, rfl⟩ := Array.getElem?_eq_some_iff.mp hc
    have q := List.all_eq_true.mp ((Array.all_eq_true_iff_forall_mem.mp hF) _ (Array.getElem_mem ha)) i (List.mem_range.mpr hi)
    simpa [Array.getElem?_eq_getElem hi] using q
  obtain ⟨i0, ei0⟩ := is_v gg3
  obtain rfl : w0 = (.int i0) := Option.some.inj ei0
  obtain ⟨i1, ei1⟩ := is_v gg5
  obtain rfl : w1 = (.int i1) := Option.some.inj ei1
  obtain ⟨i2, ei2⟩ := is_v gg7
  obtain rfl : w2 = (.int i2) := Option.some.inj ei2
  obtain ⟨i3, ei3⟩ := is_v gg9
  obtain rfl : w3 = (.int i3) := Option.some.inj ei3
  obtain ⟨i4, ei4⟩ := is_v gg11
  obtain rfl : w4 = (.int i4) := Option.some.inj ei4
  obtain ⟨i5, ei5⟩ := is_v gg12
  obtain rfl : w5 = (.int i5) := Option.some.inj ei5
  obtain ⟨n, o, h1, h2, h3, _, L, rfl, ⟨rfl, N⟩, hq⟩ := rm0 l s _ hw tables_1 i0 i1 i2 i3 i4 i5  s.heap s.heap.size (Nat.le_refl _)  p e ha hc hk s m _ below hf ((Spec.applies_iff_loose hf).mp happ).1 ⟨rfl, State.Warmed39.refl s, rfl⟩ trivial
  refine ⟨n, _, h1, h2, h3, hpost _ _ _ _ _ _ ⟨Cond.after_iff.mpr rfl, Cond.after_iff.mpr (eq_i res_at (Term.int_eval (1)) rfl), trivial⟩ ⟨hq.1, hq.2.1, (hq.2.2.sift fun y hy => Or.inr (N y hy)).mono (by decide) (by decide)⟩⟩
theorem main_1_1 : Claimed_1_1 := comes_1 fun _ _ _ _ _ _ h hF => ⟨h.1, hF⟩
theorem main_1_2 : Claimed_1_2 := comes_1 fun _ _ _ _ _ _ h hF => ⟨h.2.1, hF⟩
end Jvm.Pilot.@@N@@
namespace Jvm.Pilot.@@N@@
open Jvm Jvm.ClassFile Sem Op Lib Jvm.Free Jvm.Stand Jvm.Pilot.@@N@@.Jvm.D
/-! MADE BY PROGRAM (witnessworld.py) out of the Statement's table words and the real class files: 11 classes; the members and pool entries that the words name. The judged class is class 1, her method 1. -/
namespace start1
open Jvm.ClassFile
def u (s : String) : CpInfo := .utf8 (stringToUtf16 s)
/-- a pool by its gaps: so many unusable entries, then the entry; so many at the end -/
def gap : Nat → List CpInfo → List CpInfo
  | 0, r => r
  | n + 1, r => .unusable :: gap n r
def poolList (es : List (Nat × CpInfo)) (last : Nat) : List CpInfo := es.foldr (fun e r => gap e.1 (e.2 :: r)) (gap last [])
def pool (es : List (Nat × CpInfo)) (last : Nat) : Array CpInfo := ⟨poolList es last⟩
def fileOf (pool : Array CpInfo) (this : Nat) (attrs : Array Attribute := #[]) (ms : Array MethodInfo := #[]) (fl : Nat := 33) (sup : Nat := 0) (ifs : Array Nat := #[]) (fds : Array FieldInfo := #[]) : ClassFile where
  minorVersion := 0
  majorVersion := 65
  constantPool := pool
  accessFlags := fl
  thisClass := this
  superClass := sup
  interfaces := ifs
  fields := fds
  methods := ms
  attributes := attrs
def plain (name : String) (sup : Option ClassId) : Class where
  name := name
  kind := .ordinary
  loader := none
  accessFlags := 33
  super := sup
  interfaces := #[]
  cf := none
  fields := #[]
  methods := #[]
  instanceTypes := #[]
  staticTypes := #[]
  resolved := #[]
  callSites := []
  init := .initialized
  statics := none
  mirror := none

def pool0 : Array CpInfo := pool [(5, u "<init>"), (0, u "()V"), (1, .class_ 10), (1, u "java/lang/Object")] 113

def k0c0 : Code := { maxStack := 0, maxLocals := 1, code := object_method_1_code, exceptionTable := #[], attributes := #[] }
def k0m0 : Method := { name := "<init>", desc := "()V", sig := { parameters := [], returnType := none }, accessFlags := 1, code := some k0c0 }
/-- java/lang/Object -/
def k0 : Class := { plain "java/lang/Object" none with
  accessFlags := 33
  interfaces := #[]
  cf := some (fileOf pool0 8 #[] #[{ accessFlags := 1, nameIndex := 5, descriptorIndex := 6, attributes := #[] }] 33 0 #[] #[])
  fields := #[]
  methods := #[k0m0]
  instanceTypes := #[]
  staticTypes := #[]
  resolved := Array.replicate 124 none
  statics := none }

def pool1 : Array CpInfo := pool [(2, .class_ 4), (1, u "java/lang/Object"), (0, u "<init>"), (0, u "()V"), (0, .class_ 8), (0, u "copybridge/codec/decimal/ZonedFormat"), (0, .methodref 7 10), (0, .nameAndType 5 11), (0, u "(IIIBB)V"), (0, .methodref 7 13), (0, .nameAndType 14 15), (0, u "isSeparateSign"), (0, u "(B)Z"), (0, .class_ 17), (0, u "copybridge/codec/decimal/ZonedFormatIsSeparateSignPinLaw"), (2, u "law"), (0, u "(IIIIII)Z")] 3

def k1m0 : Method := { name := "<init>", desc := "()V", sig := { parameters := [], returnType := none }, accessFlags := 1, code := none }
def k1c1 : Code := { maxStack := 7, maxLocals := 14, code := code, exceptionTable := #[], attributes := #[] }
def k1m1 : Method := { name := "law", desc := "(IIIIII)Z", sig := { parameters := [.int, .int, .int, .int, .int, .int], returnType := some .boolean }, accessFlags := 9, code := some k1c1 }
/-- copybridge/codec/decimal/ZonedFormatIsSeparateSignPinLaw -/
def k1 : Class := { plain "copybridge/codec/decimal/ZonedFormatIsSeparateSignPinLaw" (some 0) with
  accessFlags := 49
  interfaces := #[]
  cf := some (fileOf pool1 16 #[] #[{ accessFlags := 1, nameIndex := 5, descriptorIndex := 6, attributes := #[] }, { accessFlags := 9, nameIndex := 20, descriptorIndex := 21, attributes := #[] }] 49 2 #[] #[])
  fields := #[]
  methods := #[k1m0, k1m1]
  instanceTypes := #[]
  staticTypes := #[]
  resolved := Array.replicate 25 none
  statics := none }

def pool2 : Array CpInfo := pool [(1, .methodref 2 3), (0, .class_ 4), (0, .nameAndType 5 6), (0, u "java/lang/Object"), (0, u "<init>"), (0, u "()V"), (0, .class_ 8), (0, u "copybridge/codec/decimal/SignHalfBytes"), (0, .methodref 7 10), (0, .nameAndType 5 11), (0, u "(III)V"), (0, .fieldref 13 14), (0, .class_ 15), (0, .nameAndType 16 17), (0, u "copybridge/codec/decimal/ZonedFormat"), (0, u "m_aZones"), (0, u "Lcopybridge/codec/decimal/SignHalfBytes;"), (0, .fieldref 13 19), (0, .nameAndType 20 21), (0, u "m_nPlus"), (0, u "B"), (0, .fieldref 13 23), (0, .nameAndType 24 21), (0, u "m_nMinus"), (0, u "(IIIBB)V"), (7, u "isSeparateSign"), (0, u "(B)Z")] 2

def k2c0 : Code := { maxStack := 6, maxLocals := 6, code := prog_22_method_1_code, exceptionTable := #[], attributes := #[] }
def k2m0 : Method := { name := "<init>", desc := "(IIIBB)V", sig := { parameters := [.int, .int, .int, .byte, .byte], returnType := none }, accessFlags := 1, code := some k2c0 }
def k2c1 : Code := { maxStack := 2, maxLocals := 2, code := prog_22_method_4_code, exceptionTable := #[], attributes := #[] }
def k2m1 : Method := { name := "isSeparateSign", desc := "(B)Z", sig := { parameters := [.byte], returnType := some .boolean }, accessFlags := 0, code := some k2c1 }
/-- copybridge/codec/decimal/ZonedFormat -/
def k2 : Class := { plain "copybridge/codec/decimal/ZonedFormat" (some 0) with
  accessFlags := 49
  interfaces := #[]
  cf := some (fileOf pool2 13 #[] #[{ accessFlags := 1, nameIndex := 5, descriptorIndex := 25, attributes := #[] }, { accessFlags := 0, nameIndex := 33, descriptorIndex := 34, attributes := #[] }] 49 2 #[] #[{ accessFlags := 18, nameIndex := 16, descriptorIndex := 17, attributes := #[] }, { accessFlags := 18, nameIndex := 20, descriptorIndex := 21, attributes := #[] }, { accessFlags := 18, nameIndex := 24, descriptorIndex := 21, attributes := #[] }])
  fields := #[{ name := "m_aZones", type := (.object "copybridge/codec/decimal/SignHalfBytes"), accessFlags := 18, slot := 0, constantValue := 0 }, { name := "m_nPlus", type := .byte, accessFlags := 18, slot := 1, constantValue := 0 }, { name := "m_nMinus", type := .byte, accessFlags := 18, slot := 2, constantValue := 0 }]
  methods := #[k2m0, k2m1]
  instanceTypes := #[(.object "copybridge/codec/decimal/SignHalfBytes"), .byte, .byte]
  staticTypes := #[]
  resolved := Array.replicate 37 none
  statics := none }

def pool3 : Array CpInfo := pool [(1, .methodref 2 3), (0, .class_ 4), (0, .nameAndType 5 6), (0, u "java/lang/Object"), (0, u "<init>"), (0, u "()V"), (0, .class_ 8), (0, u "java/lang/Record")] 13

def k3c0 : Code := { maxStack := 1, maxLocals := 1, code := jdk_30_method_1_code, exceptionTable := #[], attributes := #[] }
def k3m0 : Method := { name := "<init>", desc := "()V", sig := { parameters := [], returnType := none }, accessFlags := 4, code := some k3c0 }
/-- java/lang/Record -/
def k3 : Class := { plain "java/lang/Record" (some 0) with
  accessFlags := 1057
  interfaces := #[]
  cf := some (fileOf pool3 7 #[] #[{ accessFlags := 4, nameIndex := 5, descriptorIndex := 6, attributes := #[] }] 1057 2 #[] #[])
  fields := #[]
  methods := #[k3m0]
  instanceTypes := #[]
  staticTypes := #[]
  resolved := Array.replicate 22 none
  statics := none }

def pool4 : Array CpInfo := pool [(1, .methodref 2 3), (0, .class_ 4), (0, .nameAndType 5 6), (0, u "java/lang/Record"), (0, u "<init>"), (0, u "()V"), (0, .fieldref 8 9), (0, .class_ 10), (0, .nameAndType 11 12), (0, u "copybridge/codec/decimal/SignHalfBytes"), (0, u "nPositive"), (0, u "I"), (0, .fieldref 8 14), (0, .nameAndType 15 12), (0, u "nNegative"), (0, .fieldref 8 17), (0, .nameAndType 18 12), (0, u "nUnsigned"), (80, u "(III)V")] 55

def k4c0 : Code := { maxStack := 2, maxLocals := 4, code := prog_20_method_1_code, exceptionTable := #[], attributes := #[] }
def k4m0 : Method := { name := "<init>", desc := "(III)V", sig := { parameters := [.int, .int, .int], returnType := none }, accessFlags := 0, code := some k4c0 }
/-- copybridge/codec/decimal/SignHalfBytes -/
def k4 : Class := { plain "copybridge/codec/decimal/SignHalfBytes" (some 3) with
  accessFlags := 48
  interfaces := #[]
  cf := some (fileOf pool4 8 #[] #[{ accessFlags := 0, nameIndex := 5, descriptorIndex := 99, attributes := #[] }] 48 2 #[] #[{ accessFlags := 18, nameIndex := 11, descriptorIndex := 12, attributes := #[] }, { accessFlags := 18, nameIndex := 15, descriptorIndex := 12, attributes := #[] }, { accessFlags := 18, nameIndex := 18, descriptorIndex := 12, attributes := #[] }])
  fields := #[{ name := "nPositive", type := .int, accessFlags := 18, slot := 0, constantValue := 0 }, { name := "nNegative", type := .int, accessFlags := 18, slot := 1, constantValue := 0 }, { name := "nUnsigned", type := .int, accessFlags := 18, slot := 2, constantValue := 0 }]
  methods := #[k4m0]
  instanceTypes := #[.int, .int, .int]
  staticTypes := #[]
  resolved := Array.replicate 155 none
  statics := none }

def pool5 : Array CpInfo := pool [(1, u "java/lang/Cloneable"), (0, .class_ 1), (0, u "java/lang/Object"), (0, .class_ 3)] 3

/-- java/lang/Cloneable -/
def k5 : Class := { plain "java/lang/Cloneable" (some 0) with
  accessFlags := 1537
  interfaces := #[]
  cf := some (fileOf pool5 2 #[] #[] 1537 4 #[] #[])
  fields := #[]
  methods := #[]
  instanceTypes := #[]
  staticTypes := #[]
  resolved := Array.replicate 8 none
  statics := none }

def pool6 : Array CpInfo := pool [(1, u "java/io/Serializable"), (0, .class_ 1), (0, u "java/lang/Object"), (0, .class_ 3)] 3

/-- java/io/Serializable -/
def k6 : Class := { plain "java/io/Serializable" (some 0) with
  accessFlags := 1537
  interfaces := #[]
  cf := some (fileOf pool6 2 #[] #[] 1537 4 #[] #[])
  fields := #[]
  methods := #[]
  instanceTypes := #[]
  staticTypes := #[]
  resolved := Array.replicate 8 none
  statics := none }

/-- the primitive byte -/
def k7 : Class := { plain "byte" none with kind := .primitive 'B', accessFlags := 0x411 }
/-- [B -/
def k8 : Class := { plain "[B" (some 0) with kind := .array 7 .byte, interfaces := #[5, 6], accessFlags := 1041 }

/-- the primitive int -/
def k9 : Class := { plain "int" none with kind := .primitive 'I', accessFlags := 0x411 }
/-- [I -/
def k10 : Class := { plain "[I" (some 0) with kind := .array 9 .int, interfaces := #[5, 6], accessFlags := 1041 }

def heap : Heap := #[]
def classes : Array Class := #[k0, k1, k2, k3, k4, k5, k6, k7, k8, k9, k10]
def interned : List (Array UInt16 × Addr) := []
def slotsUsed : Nat := 0
def theMethod : MethodId := ⟨1, 1⟩
def args0 : Array Value := #[.int 5, .int 5, .int 5, .int 5, .int 5, .int 5]
def aboutOver (below : List Frame) : State where
  vm := { classes := classes, interned := interned.toArray }
  heap := heap
  slotsUsed := slotsUsed
  threads := #[{ frames := .invoking theMethod args0 :: below }]
def below0 : List Frame := [.native { method := ⟨0, 0⟩, args := #[] }]
def about1 : State := aboutOver below0
def p0 : Program := .bare "" "" ""
def e0 : Env := launch0.env 0 0 0
theorem w_frames : about1.frames = Frame.invoking theMethod args0 :: below0 := rfl
set_option maxRecDepth 65536 in
theorem w_args : argsFit about1.vm theMethod args0 = true := by decide +kernel
set_option maxRecDepth 65536 in
theorem w_heap : heapFits about1 = true := by decide +kernel
set_option maxRecDepth 65536 in
theorem w_runnable : about1.curStatus? = some .runnable := by decide +kernel
set_option maxRecDepth 65536 in
theorem w_alone : about1.alone = true := by decide +kernel
set_option maxRecDepth 65536 in
theorem w_named : about1.methodNamed? x = some theMethod := by decide +kernel
set_option maxRecDepth 65536 in
theorem w_hears : about1.hears theMethod below0 = true := by decide +kernel
set_option maxRecDepth 65536 in
theorem w_ripe : about1.ripe theMethod args0 below0 = true := by decide +kernel
theorem w_running : about1.status = .running := rfl
set_option maxRecDepth 65536 in
theorem w_room : about1.hasRoom e0.platform room_1 = true :=
  launch0.hasRoom_least _ room_1 (by decide +kernel) (by decide +kernel) (by decide +kernel) (by decide +kernel) (by decide +kernel) (by decide +kernel)
theorem allAtoms_all (ts : List Jvm.Cond) (a : Array Jvm.Value) (st : Jvm.State) : (allAtoms ts).before a st = ts.all (fun c => c.before a st) := by
  induction ts with
  | nil => rfl
  | cons c t ih =>
    show (Jvm.Cond.and c (allAtoms t)).before a st = _
    rw [Jvm.Cond.before_and, ih, List.all_cons]
def words1 : List Jvm.Cond := Jvm.Cond.code x code maxLocals ret :: tables_1
/-- a 'code' word, met by the world's own term for the bytes: nothing is compared byte by byte -/
theorem code_word {y : MethodName} {bytes : ByteArray} {mx : Nat} {rt : Option FieldType} {a : Array Value} {s : State} {m : MethodId} {meth : Method} {c : Code} (h1 : s.methodNamed? y = some m) (h2 : s.vm.method? m = some meth) (h3 : meth.code = some c) (h4 : c.code = bytes)
    (h5 : (c.maxLocals == mx && c.exceptionTable.isEmpty && decide (c.maxStack ≤ mostOperands) && decide (meth.sig.returnType = rt) && !meth.locks && decide (parseMethodDescriptor y.desc = some meth.sig)) = true) : (Jvm.Cond.code y bytes mx rt).before a s = true := by
  simp only [Bool.and_eq_true, beq_iff_eq, Bool.not_eq_true', decide_eq_true_eq] at h5
  obtain ⟨⟨⟨⟨⟨g1, g2⟩, g3⟩, g4⟩, g5⟩, g6⟩ := h5
  simp [Cond.before, Cond.holds, Cond.value, h1, h2, h3, h4, g1, g2, g3, g4, g5, g6]
def isCode : Jvm.Cond → Bool
  | .code _ _ _ _ => true
  | _ => false
theorem all_split {L : List Jvm.Cond} {P : Jvm.Cond → Bool} (h1 : L.all (fun c => isCode c || P c) = true) (h2 : ∀ c ∈ L.filter isCode, P c = true) : L.all P = true := by
  refine List.all_eq_true.mpr fun c hc => ?_
  have h := List.all_eq_true.mp h1 c hc
  rcases Bool.eq_false_or_eq_true (isCode c) with hi | hi
  · exact h2 c (List.mem_filter.mpr ⟨hc, hi⟩)
  · simpa [hi] using h
set_option maxRecDepth 65536 in
theorem w_c0 : (Jvm.Cond.code x code maxLocals ret).before args0 about1 = true := code_word (m := ⟨1, 1⟩) (meth := k1m1) (c := k1c1) (by decide +kernel) rfl rfl rfl (by decide +kernel)
set_option maxRecDepth 65536 in
theorem w_c1 : (Jvm.Cond.code ({ cls := "copybridge/codec/decimal/ZonedFormat", name := "<init>", desc := "(IIIBB)V" } : Jvm.MethodName) prog_22_method_1_code (6 : Nat) (Option.none : Option Jvm.ClassFile.FieldType)).before args0 about1 = true := code_word (m := ⟨2, 0⟩) (meth := k2m0) (c := k2c0) (by decide +kernel) rfl rfl rfl (by decide +kernel)
set_option maxRecDepth 65536 in
theorem w_c2 : (Jvm.Cond.code ({ cls := "java/lang/Object", name := "<init>", desc := "()V" } : Jvm.MethodName) object_method_1_code (1 : Nat) (Option.none : Option Jvm.ClassFile.FieldType)).before args0 about1 = true := code_word (m := ⟨0, 0⟩) (meth := k0m0) (c := k0c0) (by decide +kernel) rfl rfl rfl (by decide +kernel)
set_option maxRecDepth 65536 in
theorem w_c3 : (Jvm.Cond.code ({ cls := "copybridge/codec/decimal/SignHalfBytes", name := "<init>", desc := "(III)V" } : Jvm.MethodName) prog_20_method_1_code (4 : Nat) (Option.none : Option Jvm.ClassFile.FieldType)).before args0 about1 = true := code_word (m := ⟨4, 0⟩) (meth := k4m0) (c := k4c0) (by decide +kernel) rfl rfl rfl (by decide +kernel)
set_option maxRecDepth 65536 in
theorem w_c4 : (Jvm.Cond.code ({ cls := "java/lang/Record", name := "<init>", desc := "()V" } : Jvm.MethodName) jdk_30_method_1_code (1 : Nat) (Option.none : Option Jvm.ClassFile.FieldType)).before args0 about1 = true := code_word (m := ⟨3, 0⟩) (meth := k3m0) (c := k3c0) (by decide +kernel) rfl rfl rfl (by decide +kernel)
set_option maxRecDepth 65536 in
theorem w_c5 : (Jvm.Cond.code ({ cls := "copybridge/codec/decimal/ZonedFormat", name := "isSeparateSign", desc := "(B)Z" } : Jvm.MethodName) prog_22_method_4_code (2 : Nat) (Option.some Jvm.ClassFile.FieldType.boolean)).before args0 about1 = true := code_word (m := ⟨2, 1⟩) (meth := k2m1) (c := k2c1) (by decide +kernel) rfl rfl rfl (by decide +kernel)
def codes1 : List Jvm.Cond := [Jvm.Cond.code x code maxLocals ret, Jvm.Cond.code ({ cls := "copybridge/codec/decimal/ZonedFormat", name := "<init>", desc := "(IIIBB)V" } : Jvm.MethodName) prog_22_method_1_code (6 : Nat) (Option.none : Option Jvm.ClassFile.FieldType), Jvm.Cond.code ({ cls := "java/lang/Object", name := "<init>", desc := "()V" } : Jvm.MethodName) object_method_1_code (1 : Nat) (Option.none : Option Jvm.ClassFile.FieldType), Jvm.Cond.code ({ cls := "copybridge/codec/decimal/SignHalfBytes", name := "<init>", desc := "(III)V" } : Jvm.MethodName) prog_20_method_1_code (4 : Nat) (Option.none : Option Jvm.ClassFile.FieldType), Jvm.Cond.code ({ cls := "java/lang/Record", name := "<init>", desc := "()V" } : Jvm.MethodName) jdk_30_method_1_code (1 : Nat) (Option.none : Option Jvm.ClassFile.FieldType), Jvm.Cond.code ({ cls := "copybridge/codec/decimal/ZonedFormat", name := "isSeparateSign", desc := "(B)Z" } : Jvm.MethodName) prog_22_method_4_code (2 : Nat) (Option.some Jvm.ClassFile.FieldType.boolean)]
set_option maxRecDepth 65536 in
theorem codes_eq : words1.filter isCode = codes1 := rfl
theorem w_codes : ∀ c ∈ words1.filter isCode, c.before args0 about1 = true := by
  rw [codes_eq]
  intro c hc
  simp only [codes1, List.mem_cons, List.not_mem_nil, or_false] at hc
  rcases hc with rfl | rfl | rfl | rfl | rfl | rfl
  · exact w_c0
  · exact w_c1
  · exact w_c2
  · exact w_c3
  · exact w_c4
  · exact w_c5
set_option maxRecDepth 65536 in
theorem w_t1 : (words1.take 24).all (fun c => isCode c || c.before args0 about1) = true := by decide +kernel
set_option maxRecDepth 65536 in
theorem w_t2 : (words1.drop 24).all (fun c => isCode c || c.before args0 about1) = true := by decide +kernel
theorem w_tables : (allAtoms (Jvm.Cond.code x code maxLocals ret :: tables_1)).before args0 about1 = true := by
  rw [allAtoms_all]
  show words1.all (fun c => c.before args0 about1) = true
  refine all_split ?_ w_codes
  rw [← List.take_append_drop 24 words1, List.all_append, w_t1, w_t2]
  rfl
set_option maxRecDepth 65536 in
theorem w_case : (Jvm.Cond.and given_1 narrow_1).before args0 about1 = true := by decide +kernel
theorem w_applies : (headSpec (Jvm.Cond.code x code maxLocals ret :: tables_1) room_1).applies x e0.platform about1 = true :=
  (Spec.applies_iff w_frames).mpr ⟨w_running, w_runnable, w_alone, w_named, w_hears, w_ripe, w_room, w_tables⟩
theorem atStart : AtStart classFile x code maxLocals ret World_1 tables_1 room_1 Calls_1 rest_1 Pre_1 launch0 p0 e0 about1 theMethod args0 below0 :=
  ⟨lists_1, trivial, launch0.admits_env _ _ _, launch0.least_env, fairChoices_fair.cas, fairChoices_fair.clock, w_frames, w_args, w_heap, w_applies, trivial, trivial, w_case⟩
end start1
theorem witness_1 : WitnessClaimed_1 := ⟨start1.p0, start1.e0, start1.about1, start1.theMethod, start1.args0, start1.below0, start1.atStart⟩
end Jvm.Pilot.@@N@@
