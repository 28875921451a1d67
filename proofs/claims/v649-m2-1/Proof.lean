import JvmDerived
import JvmDerived.Pilot.@@N@@Statement
import JvmDerived.Pilot.@@N@@Code
set_option linter.unusedVariables false
set_option linter.unusedSimpArgs false
namespace Jvm.Pilot.@@N@@
open Jvm Jvm.ClassFile Sem Op Lib Jvm.Free Jvm.Stand Jvm.LawKit Jvm.RoadKit Bundle Jvm.Pilot.@@N@@.Jvm.D
section OwnKit
variable {p : Program} {l : Launch} {e : Env} {R : Room} {s : State} {m : MethodId} {args : Array Value} {below : List Frame} {meth : Method} {c : Code} {T : State} {locs : List Loc} {cells slots : Nat} {Z : State} {h h' : Heap} {a b : Addr} {ty : FieldType} {n : Nat} {f f' : Nat → Value} {sl : Nat} {v : Value} {ws : List Addr}
theorem own_dia {t : State} {B F : JFrame} (hh : Steps p.tables e below (T.setTop F) t → Steps p.tables e below (T.setTop B) t) (k : Steps p.tables e below (T.setTop F) t) : Steps p.tables e below (T.setTop B) t := hh k
/-- the place j lies in an array of n places -/
abbrev own_in (j : Int32) (n : Nat) : Prop := 0 ≤ j.toInt ∧ j.toInt < n
theorem own_in_nat {j : Int32} (hj : own_in j n) : j.toNatClampNeg < n := by simp only [Int32.toNatClampNeg]; omega
theorem own_in_arr {cl : Cell} {j : Int32} (hs : cl.slots.size = n) (hj : own_in j n) : ¬ (j < 0 ∨ cl.slots.size ≤ j.toNatClampNeg) := by
  have := own_in_nat hj
  have k0 : (0 : Int32).toInt = 0 := by decide
  rw [Int32.lt_iff_toInt_lt, hs, k0]; omega
/-- an array: its kind, its length, and what each place holds -/
def AF (Z : State) (h : Heap) (a : Addr) (ty : FieldType) (n : Nat) (f : Nat → Value) : Prop := ∃ c : Cell, Arr Z h a c ty ∧ c.slots.size = n ∧ n < 2147483648 ∧ ∀ j, j < n → c.slots[j]? = some (f j)
theorem AF.lt (F : AF Z h a ty n f) : a < h.size := by obtain ⟨c, A, -⟩ := F; exact A.lt
theorem AF.small (F : AF Z h a ty n f) : n < 2147483648 := by obtain ⟨c, -, -, q, -⟩ := F; exact q
theorem AF.ext (F : AF Z h a ty n f) (E : Ext h h') : AF Z h' a ty n f := by obtain ⟨c, A, r⟩ := F; exact ⟨c, A.ext E, r⟩
theorem AF.other (F : AF Z h b ty n f) (W : Wr h h' a sl v) (q : b ≠ a) : AF Z h' b ty n f := by obtain ⟨c, A, r⟩ := F; exact ⟨c, A.other W q, r⟩
theorem AF.keep (F : AF Z h a ty n f) (K : Keep h h' ws) (q : a ∉ ws) : AF Z h' a ty n f := by obtain ⟨c, A, r⟩ := F; exact ⟨c, ⟨K.2.1 a c A.1 q, A.2⟩, r⟩
theorem AF.cong (F : AF Z h a ty n f) (q : ∀ j, j < n → f j = f' j) : AF Z h a ty n f' := by obtain ⟨c, A, r1, r2, r3⟩ := F; exact ⟨c, A, r1, r2, fun j hj => by rw [← q j hj]; exact r3 j hj⟩
theorem AF.new {k : ClassId} {z : Int32} (A : Arr Z h a (newA k ty z) ty) (q : ¬ z < 0) : AF Z h a ty z.toNatClampNeg (fun _ => defaultValue ty) := ⟨_, A, sz_new _ _ _, (back32 q).2, fun j hj => by simp [newA, hj]⟩
theorem AF.set (F : AF Z h a ty n f) {k : Nat} (W : Wr h h' a k v) : AF Z h' a ty n (fun i => if i = k then v else f i) := by
  obtain ⟨c, A, r1, r2, r3⟩ := F
  refine ⟨_, Arr.same W A, by rw [sz_set]; exact r1, r2, fun j hj => ?_⟩
  obtain ⟨cell, h1, -, h3, -⟩ := W
  cases h1.symm.trans A.1
  by_cases q : j = k
  · subst q; simp [Cell.setSlot, h3]
  · have q' : ¬ k = j := fun z => q z.symm
    simp only [Cell.setSlot, Array.getElem?_setIfInBounds, if_neg q, if_neg q']; exact r3 j hj
theorem own_updI {g fN : Nat → Int32} {x : Int32} {J k : Nat} (hk : k = J) (hf : fN = fun i => if i = J then x else g i) : ∀ j, j < n → (if j = k then Value.int x else Value.int (g j)) = Value.int (fN j) := by
  subst hk hf; intro j _; by_cases q : j = k <;> simp [q]
theorem own_updJ {g fN : Nat → Int64} {x : Int64} {J k : Nat} (hk : k = J) (hf : fN = fun i => if i = J then x else g i) : ∀ j, j < n → (if j = k then Value.long x else Value.long (g j)) = Value.long (fN j) := by
  subst hk hf; intro j _; by_cases q : j = k <;> simp [q]
theorem AF.ldI (X : Stand p l e R s m args below meth c T locs cells slots) (hx : p.tables.exec = Jvm.exec) (hZ : Z.Warmed39 s.vm) (eT : T.heap = h) {f : Nat → Int32} (A : AF Z h a .int n (fun j => .int (f j))) {j : Int32} (hj : own_in j n) {g : JFrame} (hg : g.method = m) {rest : List Value} (hs : g.stack = .int j :: .ref a :: rest) (hd : decode c.code g.pc = .ok (.iaload, 1)) (target : State)
    (k : Steps p.tables e below (T.setTop { g with pc := g.pc + 1, stack := .int (f j.toNatClampNeg) :: rest }) target) : Steps p.tables e below (T.setTop g) target := by
  obtain ⟨cl, A, r1, r2, r3⟩ := A
  exact X.iaload hx (j := j) (v := .int (f j.toNatClampNeg)) (by rw [eT]; exact A.1) (State.isArrayOf_alike hZ.alike A.2.1) A.2.2 (own_in_arr r1 hj) (r3 _ (own_in_nat hj)) hg hs hd _ k
theorem AF.ldJ (X : Stand p l e R s m args below meth c T locs cells slots) (hx : p.tables.exec = Jvm.exec) (hZ : Z.Warmed39 s.vm) (eT : T.heap = h) {f : Nat → Int64} (A : AF Z h a .long n (fun j => .long (f j))) {j : Int32} (hj : own_in j n) {g : JFrame} (hg : g.method = m) {rest : List Value} (hs : g.stack = .int j :: .ref a :: rest) (hd : decode c.code g.pc = .ok (.laload, 1)) (target : State)
    (k : Steps p.tables e below (T.setTop { g with pc := g.pc + 1, stack := .long (f j.toNatClampNeg) :: rest }) target) : Steps p.tables e below (T.setTop g) target := by
  obtain ⟨cl, A, r1, r2, r3⟩ := A
  exact X.laload hx (j := j) (v := .long (f j.toNatClampNeg)) (by rw [eT]; exact A.1) (State.isArrayOf_alike hZ.alike A.2.1) A.2.2 (own_in_arr r1 hj) (r3 _ (own_in_nat hj)) hg hs hd _ k
theorem AF.ldB (X : Stand p l e R s m args below meth c T locs cells slots) (hx : p.tables.exec = Jvm.exec) (hZ : Z.Warmed39 s.vm) (eT : T.heap = h) {f : Nat → Int32} (A : AF Z h a .byte n (fun j => .int (f j))) {j : Int32} (hj : own_in j n) {g : JFrame} (hg : g.method = m) {rest : List Value} (hs : g.stack = .int j :: .ref a :: rest) (hd : decode c.code g.pc = .ok (.baload, 1)) (target : State)
    (k : Steps p.tables e below (T.setTop { g with pc := g.pc + 1, stack := .int (f j.toNatClampNeg) :: rest }) target) : Steps p.tables e below (T.setTop g) target := by
  obtain ⟨cl, A, r1, r2, r3⟩ := A
  exact X.baloadBytes hx (j := j) (v := .int (f j.toNatClampNeg)) (by rw [eT]; exact A.1) (State.isArrayOf_alike hZ.alike A.2.1) A.2.2 (own_in_arr r1 hj) (r3 _ (own_in_nat hj)) hg hs hd _ k
theorem AF.len (X : Stand p l e R s m args below meth c T locs cells slots) (hx : p.tables.exec = Jvm.exec) (hZ : Z.Warmed39 s.vm) (eT : T.heap = h) (A : AF Z h a ty n f) {g : JFrame} (hg : g.method = m) {rest : List Value} (hs : g.stack = .ref a :: rest) (hd : decode c.code g.pc = .ok (.arraylength, 1)) (target : State)
    (k : Steps p.tables e below (T.setTop { g with pc := g.pc + 1, stack := .int (Int32.ofNat n) :: rest }) target) : Steps p.tables e below (T.setTop g) target := by
  obtain ⟨cl, A, r1, r2, r3⟩ := A
  subst r1
  exact X.arraylength hx (by rw [eT]; exact A.1) (State.isArrayOf_alike hZ.alike A.2.1) hg hs hd _ k
theorem AF.stI (X : Stand p l e R s m args below meth c T locs cells slots) (hx : p.tables.exec = Jvm.exec) (hZ : Z.Warmed39 s.vm) (eT : T.heap = h) (A : AF Z h a .int n f) {j x : Int32} (hj : own_in j n) {g : JFrame} (hg : g.method = m) {rest : List Value} (hs : g.stack = .int x :: .int j :: .ref a :: rest) (hd : decode c.code g.pc = .ok (.iastore, 1)) :
    ∃ T' h', Stand p l e R s m args below meth c T' (locs ++ [⟨a, j.toNatClampNeg⟩]) cells slots ∧ T'.heap = h' ∧ Wr h h' a j.toNatClampNeg (.int x) ∧ AF Z h' a .int n (fun i => if i = j.toNatClampNeg then .int x else f i) ∧ ∀ target, Steps p.tables e below (T'.setTop { g with pc := g.pc + 1, stack := rest }) target → Steps p.tables e below (T.setTop g) target := by
  have A0 := A
  obtain ⟨cl, A, r1, r2, r3⟩ := A
  obtain ⟨T', h', X', e', W, st⟩ := Jvm.RoadKit.stI X hx hZ eT A (j := j) (own_in_arr r1 hj) hg hs hd
  exact ⟨T', h', X', e', W, A0.set W, st⟩
theorem AF.stJ (X : Stand p l e R s m args below meth c T locs cells slots) (hx : p.tables.exec = Jvm.exec) (hZ : Z.Warmed39 s.vm) (eT : T.heap = h) (A : AF Z h a .long n f) {j : Int32} {x : Int64} (hj : own_in j n) {g : JFrame} (hg : g.method = m) {rest : List Value} (hs : g.stack = .long x :: .int j :: .ref a :: rest) (hd : decode c.code g.pc = .ok (.lastore, 1)) :
    ∃ T' h', Stand p l e R s m args below meth c T' (locs ++ [⟨a, j.toNatClampNeg⟩]) cells slots ∧ T'.heap = h' ∧ Wr h h' a j.toNatClampNeg (.long x) ∧ AF Z h' a .long n (fun i => if i = j.toNatClampNeg then .long x else f i) ∧ ∀ target, Steps p.tables e below (T'.setTop { g with pc := g.pc + 1, stack := rest }) target → Steps p.tables e below (T.setTop g) target := by
  have A0 := A
  obtain ⟨cl, A, r1, r2, r3⟩ := A
  obtain ⟨T', h', X', e', W, st⟩ := Jvm.RoadKit.stJ X hx hZ eT A (j := j) (own_in_arr r1 hj) hg hs hd
  exact ⟨T', h', X', e', W, A0.set W, st⟩
theorem AF.stB (X : Stand p l e R s m args below meth c T locs cells slots) (hx : p.tables.exec = Jvm.exec) (hZ : Z.Warmed39 s.vm) (eT : T.heap = h) (A : AF Z h a .byte n f) {j x : Int32} (hj : own_in j n) {g : JFrame} (hg : g.method = m) {rest : List Value} (hs : g.stack = .int x :: .int j :: .ref a :: rest) (hd : decode c.code g.pc = .ok (.bastore, 1)) :
    ∃ T' h', Stand p l e R s m args below meth c T' (locs ++ [⟨a, j.toNatClampNeg⟩]) cells slots ∧ T'.heap = h' ∧ Wr h h' a j.toNatClampNeg (.int x.toInt8.toInt32) ∧ AF Z h' a .byte n (fun i => if i = j.toNatClampNeg then .int x.toInt8.toInt32 else f i) ∧ ∀ target, Steps p.tables e below (T'.setTop { g with pc := g.pc + 1, stack := rest }) target → Steps p.tables e below (T.setTop g) target := by
  have A0 := A
  obtain ⟨cl, A, r1, r2, r3⟩ := A
  obtain ⟨T', h', X', e', W, st⟩ := Jvm.RoadKit.stB X hx hZ eT A (j := j) (own_in_arr r1 hj) hg hs hd
  exact ⟨T', h', X', e', W, A0.set W, st⟩
theorem own_cpyI {f g fN : Nat → Int32} {k : Nat} (hf : fN = fun j => if j < k then f j else g j) : ∀ j, j < n → (if j < k then Value.int (f j) else Value.int (g j)) = Value.int (fN j) := by
  subst hf; intro j _; by_cases q : j < k <;> simp [q]
theorem own_cpyJ {f g fN : Nat → Int64} {k : Nat} (hf : fN = fun j => if j < k then f j else g j) : ∀ j, j < n → (if j < k then Value.long (f j) else Value.long (g j)) = Value.long (fN j) := by
  subst hf; intro j _; by_cases q : j < k <;> simp [q]
theorem own_acW {own : String} {index : Nat} (h1 : (Jvm.Cond.methodLink own index Jvm.Stand.acN).before args s = true) (h2 : (Jvm.Cond.native Jvm.Stand.acN).before args s = true) (h3 : (Jvm.Cond.static Jvm.Stand.acN).before args s = true) (h4 : (Jvm.Cond.initialized "java/lang/System").before args s = true) : ∀ w ∈ Jvm.Free.XT.acW own index, w.before args s = true := by
  intro w hw
  change w ∈ [Jvm.Cond.methodLink own index Jvm.Stand.acN, Jvm.Cond.native Jvm.Stand.acN, Jvm.Cond.static Jvm.Stand.acN, Jvm.Cond.initialized "java/lang/System"] at hw
  simp only [List.mem_cons, List.not_mem_nil, or_false] at hw
  rcases hw with rfl | rfl | rfl | rfl
  · exact h1
  · exact h2
  · exact h3
  · exact h4
theorem own_isArr {c c' : Cell} (q : Z.isArrayOf c ty) (h1 : c'.cls = c.cls) (h2 : c'.vm = c.vm) : Z.isArrayOf c' ty := by
  obtain ⟨q1, k, q2, q3⟩ := q
  exact ⟨by rw [h2]; exact q1, k, by rw [h1]; exact q2, q3⟩
theorem AF.copy (X : Stand p l e R s m args below meth c T locs cells slots) (hx : p.tables.exec = Jvm.exec) (hZ : Z.Warmed39 s.vm) {own : String} {index : Nat} (hown : s.vm.findClass own = some m.cls) (hw : ∀ w ∈ Jvm.Free.XT.acW own index, w.before args s = true)
    (eT : T.heap = h) {k : Nat} {f' : Nat → Value} (A : AF Z h a ty n f) (B : AF Z h b ty k f') (hp : ty.isReference = false) {cnt : Nat} (hfit : ∀ j, j < cnt → fits ty (f j) = true) (h1 : cnt ≤ n) (h2 : cnt ≤ k) {jn : Int32} (hn : jn = Int32.ofNat cnt)
    {g : JFrame} (hg : g.method = m) (hsize : g.locals.size = c.maxLocals) {rest : List Value} (hs : g.stack = .int jn :: .int 0 :: .ref b :: .int 0 :: .ref a :: rest) (hd : decode c.code g.pc = .ok (.invokestatic index, 3))
    {W : Nat} (hW : 2 * g.monitorRoom + (rest.map fun v => v.category).sum ≤ W) (hfr : 1 ≤ R.frames) (hlo : W + 40 ≤ R.locals) :
    ∃ (T' : State) (h' : Heap) (L' : List Loc), Stand p l e R s m args below meth c T' (locs ++ L') cells slots ∧ T'.heap = h' ∧ (∀ y ∈ L', y.base = b) ∧ Keep h h' [b] ∧ AF Z h' b ty k (fun j => if j < cnt then f j else f' j) ∧
      ∀ target, Steps p.tables e below (T'.setTop { g with pc := g.pc + 3, stack := rest }) target → Steps p.tables e below (T.setTop g) target := by
  obtain ⟨ca, A, a1, a2, a3⟩ := A
  obtain ⟨cb, B, b1, b2, b3⟩ := B
  have tA : Jvm.Free.XT.Arr ty a ca T := ⟨by rw [eT]; exact A.1, State.isArrayOf_alike X.warmed.alike (State.isArrayOf_alike hZ.alike A.2.1), A.2.2, by omega⟩
  have tB : Jvm.Free.XT.Arr ty b cb T := ⟨by rw [eT]; exact B.1, State.isArrayOf_alike X.warmed.alike (State.isArrayOf_alike hZ.alike B.2.1), B.2.2, by omega⟩
  have ga : ∀ j, j < n → ca.slots.getD j .null = f j := fun j hj => by
    have q := a3 j hj
    rw [Array.getD_eq_getD_getElem?, q]; rfl
  obtain ⟨T', B', X', P, q1, q2, q3, q4, st⟩ := X.acopy hx (o := 0) (q := 0) (n := cnt) (jo := 0) (jq := 0) hown hw tA tB (by simp) rfl rfl hn (by omega) (by omega)
    (fun i hi => ⟨by rw [Nat.zero_add, ga i (by omega)]; exact hfit i hi, fun z => by rw [hp] at z; cases z⟩) hg hsize hs hd hW hfr hlo
  refine ⟨T', _, _, X', rfl, fun y hy => ?_, ⟨by rw [P.2.2, eT]; exact Nat.le_refl _, fun x cx hx' hn' => ?_, fun x cx hx' => ?_⟩, ⟨B', ⟨P.1, own_isArr B.2.1 q1 q2, by rw [q2]; exact B.2.2⟩, q3.trans b1, b2, fun j hj => ?_⟩, st⟩
  · simp only [copyLocs, List.mem_map] at hy
    obtain ⟨i, -, rfl⟩ := hy
    rfl
  · rw [P.2.1 x (fun z => hn' (by simp [z])), eT]; exact hx'
  · by_cases z : x = b
    · subst z
      cases hx'.symm.trans B.1
      exact ⟨B', P.1, q1, q2, q3⟩
    · exact ⟨cx, by rw [P.2.1 x z, eT]; exact hx', rfl, rfl, rfl⟩
  · show _ = some (if j < cnt then f j else f' j)
    rw [q4 j]
    by_cases z : j < cnt
    · rw [if_pos (by omega), if_pos z]
      have : 0 + (j - 0) = j := by omega
      rw [this, ga j (by omega)]
    · rw [if_neg (by omega), if_neg z]; exact b3 j hj
theorem own_nb (x : Int32) : nar .boolean x = x &&& 1 := rfl
theorem own_nar1 : nar .boolean 1 = 1 := rfl
theorem own_nar0 : nar .boolean 0 = 0 := rfl
theorem own_nbyte (x : Int32) : nar .byte x = x.toInt8.toInt32 := rfl
theorem own_nar_ite (q : Prop) [Decidable q] (x y : Int32) : nar .boolean (if q then x else y) = if q then nar .boolean x else nar .boolean y := by split <;> rfl
theorem own_pos_ne {x : Int64} (q : 0 < x) : x ≠ 0 := fun z => by subst z; exact absurd q (by decide)
theorem own_cat {w : Value} (q : w.isRef = true) : w.category = 1 := by cases w <;> first | rfl | (simp [Value.isRef] at q)
/-- a static field that holds v, in a heap that keeps all that was old at the start -/
def SO (Z : State) (n0 : Nat) (h : Heap) (C n d : String) (v : Value) : Prop := Sta Z Z.heap C n d v ∧ Old Z n0 h
theorem SO.ext {n0 : Nat} {C nm d : String} (F : SO Z n0 h C nm d v) (E : Ext h h') : SO Z n0 h' C nm d v := ⟨F.1, F.2.ext E⟩
theorem SO.wr {n0 : Nat} {C nm d : String} {w : Value} (F : SO Z n0 h C nm d v) (W : Wr h h' a sl w) (q : n0 ≤ a) : SO Z n0 h' C nm d v := ⟨F.1, F.2.wr W q⟩
theorem SO.keep {n0 : Nat} {C nm d : String} (F : SO Z n0 h C nm d v) (K : Keep h h' ws) (q : ∀ x ∈ ws, n0 ≤ x) : SO Z n0 h' C nm d v := ⟨F.1, F.2.keep K q⟩
theorem SO.sta {n0 : Nat} {C nm d : String} (F : SO Z n0 h C nm d v) : Sta Z h C nm d v := F.1.ext F.2.2
theorem own_selp {y : MethodName} {n : Nat} (wi : (Jvm.Cond.instantiable y.cls n).before args s = true) (hpriv : s.PrivateAt y) (hinst : (Jvm.Cond.instanceMethod y).before args s = true) (hy : y.cls ≠ "java/lang/invoke/MethodHandle" ∧ y.cls ≠ "java/lang/invoke/VarHandle") : (Jvm.Cond.selects y.cls y y).before args s = true := by
  obtain ⟨c, k, h1, h2, -, h4, -⟩ := Cond.instantiable_spec wi
  exact Jvm.Stand.selects_self_of_private h1 h2 (by simp only [Bool.or_eq_false_iff] at h4; exact h4.1) hpriv hinst hy
end OwnKit

theorem pn_0 : plainName "com/example/paperloom/paperloom/MeanOffsetPinLaw" = true := by first | (simp [plainName, overriddenIn]; done) | decide +kernel
theorem d1_0 : decode prog_8_method_1_code 0 = .ok (.aload_n 0, 1) := by decide +kernel
theorem d1_1 : decode prog_8_method_1_code 1 = .ok (.aload_n 1, 1) := by decide +kernel
theorem d1_2 : decode prog_8_method_1_code 2 = .ok (.aload_n 2, 1) := by decide +kernel
theorem d1_3 : decode prog_8_method_1_code 3 = .ok (.lconst 0, 1) := by decide +kernel
theorem d1_4 : decode prog_8_method_1_code 4 = .ok (.lconst 0, 1) := by decide +kernel
theorem d1_5 : decode prog_8_method_1_code 5 = .ok (.invokespecial 1, 3) := by decide +kernel
theorem d1_8 : decode prog_8_method_1_code 8 = .ok (.return_, 1) := by decide +kernel
theorem pn_1 : plainName "com/example/paperloom/paperloom/CountSearch$Mean" = true := by first | (simp [plainName, overriddenIn]; done) | decide +kernel
theorem d2_0 : decode prog_8_method_2_code 0 = .ok (.aload_n 0, 1) := by decide +kernel
theorem d2_1 : decode prog_8_method_2_code 1 = .ok (.invokespecial 7, 3) := by decide +kernel
theorem d2_4 : decode prog_8_method_2_code 4 = .ok (.aload_n 0, 1) := by decide +kernel
theorem d2_5 : decode prog_8_method_2_code 5 = .ok (.aload_n 1, 1) := by decide +kernel
theorem d2_6 : decode prog_8_method_2_code 6 = .ok (.putfield 12, 3) := by decide +kernel
theorem d2_9 : decode prog_8_method_2_code 9 = .ok (.aload_n 0, 1) := by decide +kernel
theorem d2_10 : decode prog_8_method_2_code 10 = .ok (.aload_n 2, 1) := by decide +kernel
theorem d2_11 : decode prog_8_method_2_code 11 = .ok (.putfield 16, 3) := by decide +kernel
theorem d2_14 : decode prog_8_method_2_code 14 = .ok (.aload_n 0, 1) := by decide +kernel
theorem d2_15 : decode prog_8_method_2_code 15 = .ok (.lload_n 3, 1) := by decide +kernel
theorem d2_16 : decode prog_8_method_2_code 16 = .ok (.putfield 19, 3) := by decide +kernel
theorem d2_19 : decode prog_8_method_2_code 19 = .ok (.aload_n 0, 1) := by decide +kernel
theorem d2_20 : decode prog_8_method_2_code 20 = .ok (.lload 5, 2) := by decide +kernel
theorem d2_22 : decode prog_8_method_2_code 22 = .ok (.putfield 23, 3) := by decide +kernel
theorem d2_25 : decode prog_8_method_2_code 25 = .ok (.return_, 1) := by decide +kernel
theorem pn_2 : plainName "com/example/paperloom/paperloom/CountSearch$Mean" = true := by first | (simp [plainName, overriddenIn]; done) | decide +kernel
theorem d4_0 : decode prog_8_method_6_code 0 = .ok (.aload_n 0, 1) := by decide +kernel
theorem d4_1 : decode prog_8_method_6_code 1 = .ok (.getfield 19, 3) := by decide +kernel
theorem d4_4 : decode prog_8_method_6_code 4 = .ok (.lstore_n 2, 1) := by decide +kernel
theorem d4_5 : decode prog_8_method_6_code 5 = .ok (.iconst 0, 1) := by decide +kernel
theorem d4_6 : decode prog_8_method_6_code 6 = .ok (.istore 4, 2) := by decide +kernel
theorem d4_8 : decode prog_8_method_6_code 8 = .ok (.iload 4, 2) := by decide +kernel
theorem d4_10 : decode prog_8_method_6_code 10 = .ok (.aload_n 1, 1) := by decide +kernel
theorem d4_11 : decode prog_8_method_6_code 11 = .ok (.arraylength, 1) := by decide +kernel
theorem d4_12 : decode prog_8_method_6_code 12 = .ok (.if_icmp .ge 25, 3) := by decide +kernel
theorem d4_15 : decode prog_8_method_6_code 15 = .ok (.lload_n 2, 1) := by decide +kernel
theorem d4_16 : decode prog_8_method_6_code 16 = .ok (.aload_n 0, 1) := by decide +kernel
theorem d4_17 : decode prog_8_method_6_code 17 = .ok (.getfield 12, 3) := by decide +kernel
theorem d4_20 : decode prog_8_method_6_code 20 = .ok (.iload 4, 2) := by decide +kernel
theorem d4_22 : decode prog_8_method_6_code 22 = .ok (.laload, 1) := by decide +kernel
theorem d4_23 : decode prog_8_method_6_code 23 = .ok (.aload_n 1, 1) := by decide +kernel
theorem d4_24 : decode prog_8_method_6_code 24 = .ok (.iload 4, 2) := by decide +kernel
theorem d4_26 : decode prog_8_method_6_code 26 = .ok (.iaload, 1) := by decide +kernel
theorem d4_27 : decode prog_8_method_6_code 27 = .ok (.i2l, 1) := by decide +kernel
theorem d4_28 : decode prog_8_method_6_code 28 = .ok (.lmul, 1) := by decide +kernel
theorem d4_29 : decode prog_8_method_6_code 29 = .ok (.ladd, 1) := by decide +kernel
theorem d4_30 : decode prog_8_method_6_code 30 = .ok (.lstore_n 2, 1) := by decide +kernel
theorem d4_31 : decode prog_8_method_6_code 31 = .ok (.iinc 4 1, 3) := by decide +kernel
theorem d4_34 : decode prog_8_method_6_code 34 = .ok (.goto (-26), 3) := by decide +kernel
theorem d4_37 : decode prog_8_method_6_code 37 = .ok (.lload_n 2, 1) := by decide +kernel
theorem d4_38 : decode prog_8_method_6_code 38 = .ok (.lreturn, 1) := by decide +kernel
theorem pn_4 : plainName "com/example/paperloom/paperloom/CountSearch$Mean" = true := by first | (simp [plainName, overriddenIn]; done) | decide +kernel
theorem pd_1 : parseMethodDescriptor "([J[JJJ)V" = some ⟨[(.array .long), (.array .long), .long, .long], none⟩ := by decide +kernel
theorem pd_0 : parseMethodDescriptor "([J[J)V" = some ⟨[(.array .long), (.array .long)], none⟩ := by decide +kernel
theorem pd_3 : parseMethodDescriptor "([I)J" = some ⟨[(.array .int)], some .long⟩ := by decide +kernel

theorem own_and3 {v q : Int32} (hv : v = (q &&& (3 : Int32))) : v = 0 ∨ v = 1 ∨ v = 2 ∨ v = 3 := by
  have e1 := c_mask q 3 2 (by decide) (by decide)
  rw [← hv] at e1
  have k0 : (0 : Int32).toInt = 0 := by decide
  have k1 : (1 : Int32).toInt = 1 := by decide
  have k2 : (2 : Int32).toInt = 2 := by decide
  have k3 : (3 : Int32).toInt = 3 := by decide
  have : v.toInt = 0 ∨ v.toInt = 1 ∨ v.toInt = 2 ∨ v.toInt = 3 := by omega
  rcases this with h | h | h | h
  · exact Or.inl (Int32.toInt_inj.mp (h.trans k0.symm))
  · exact Or.inr (Or.inl (Int32.toInt_inj.mp (h.trans k1.symm)))
  · exact Or.inr (Or.inr (Or.inl (Int32.toInt_inj.mp (h.trans k2.symm))))
  · exact Or.inr (Or.inr (Or.inr (Int32.toInt_inj.mp (h.trans k3.symm))))

theorem ef_2 (m : MethodId) (a0 : Addr) (a1 : Addr) (a2 : Addr) (q3 : Int64) (q4 : Int64) : entryFrame m #[(.ref a0), (.ref a1), (.ref a2), (.long q3), (.long q4)] 7 = mkF m 0 #[.val (.ref a0), .val (.ref a1), .val (.ref a2), .val (.long q3), .second, .val (.long q4), .second] [] := by first | (simp [entryFrame, mkF, argsToLocals, Value.category]; done) | rfl
def Q2 (Z : State) (a0 : Addr) (a1 : Addr) (a2 : Addr) (q3 : Int64) (q4 : Int64) (w_offset_a0 : Value) (w_weight_a0 : Value) (w_startOffset_a0 : Int64) (w_startWeight_a0 : Int64) (h0 : Heap) (n0 : Nat) (v : Option Value) (h : Heap) (L : List Loc) : Prop := v = none ∧ Fr n0 L ∧ Keep h0 h [a0] ∧ Exa Z h a0 "com/example/paperloom/paperloom/CountSearch$Mean" ∧ Fld Z h a0 "com/example/paperloom/paperloom/CountSearch$Mean" "offset" "[J" (.ref a1) ∧ Fld Z h a0 "com/example/paperloom/paperloom/CountSearch$Mean" "weight" "[J" (.ref a2) ∧ Fld Z h a0 "com/example/paperloom/paperloom/CountSearch$Mean" "startOffset" "J" (.long q3) ∧ Fld Z h a0 "com/example/paperloom/paperloom/CountSearch$Mean" "startWeight" "J" (.long q4)
set_option maxRecDepth 65536 in
set_option maxHeartbeats 40000000 in
theorem rm2 (l : Launch) (Z : State) (A0 : Array Value) (hw : ∀ d ∈ tables_1, d.before A0 Z = true) (ws : List Jvm.Cond) (a0 : Addr) (a1 : Addr) (a2 : Addr) (q3 : Int64) (q4 : Int64) (w_offset_a0 : Value) (w_weight_a0 : Value) (w_startOffset_a0 : Int64) (w_startWeight_a0 : Int64) (h0 : Heap) (n0 : Nat) (Z0 : n0 ≤ h0.size) (E_a0 : Exa Z h0 a0 "com/example/paperloom/paperloom/CountSearch$Mean") (F_offset_a0 : Fld Z h0 a0 "com/example/paperloom/paperloom/CountSearch$Mean" "offset" "[J" w_offset_a0) (F_weight_a0 : Fld Z h0 a0 "com/example/paperloom/paperloom/CountSearch$Mean" "weight" "[J" w_weight_a0) (F_startOffset_a0 : Fld Z h0 a0 "com/example/paperloom/paperloom/CountSearch$Mean" "startOffset" "J" (.long w_startOffset_a0)) (F_startWeight_a0 : Fld Z h0 a0 "com/example/paperloom/paperloom/CountSearch$Mean" "startWeight" "J" (.long w_startWeight_a0)) (nw_a0 : n0 ≤ a0) :
    MetFree l (⟨"com/example/paperloom/paperloom/CountSearch$Mean", "<init>", "([J[JJJ)V"⟩ : MethodName) (head1 (Jvm.Cond.code (⟨"com/example/paperloom/paperloom/CountSearch$Mean", "<init>", "([J[JJJ)V"⟩ : MethodName) prog_8_method_2_code 7 none :: ws) ({ frames := 1, cells := 0, slots := 0, locals := 12 } : Room)) (fun a U => a = #[(.ref a0), (.ref a1), (.ref a2), (.long q3), (.long q4)] ∧ Z.Warmed39 U.vm ∧ U.heap = h0) (fun _ _ _ _ _ => True) (fun _ U o U' => ∃ v L, o = .returned v ∧ Q2 Z a0 a1 a2 q3 q4 w_offset_a0 w_weight_a0 w_startOffset_a0 w_startWeight_a0 h0 n0 v U'.heap L ∧ FrameEnd U o U' L ({ frames := 1, cells := 0, slots := 0, locals := 12 } : Room).cells ({ frames := 1, cells := 0, slots := 0, locals := 12 } : Room).slots) := by
  refine MetFree.of_bodySF (plainFor_of_name pn_2) hisR ?_
  intro p e s m args below meth c s₁ Bd hml0 hP hK
  obtain ⟨rfl, hZ, hh⟩ := hP
  have hx := Bd.exec
  have hby := Bd.bytes
  have hml : c.maxLocals = 7 := hml0
  have hown : s.vm.findClass "com/example/paperloom/paperloom/CountSearch$Mean" = some m.cls := findClass_of_methodNamed Bd.named
  have hnm := (name_of_methodNamed Bd.named Bd.method).1
  have X0 : Stand p l e ({ frames := 1, cells := 0, slots := 0, locals := 12 } : Room) s m #[(.ref a0), (.ref a1), (.ref a2), (.long q3), (.long q4)] below meth c s₁ [] 0 0 := Stand.of_body Bd
  have e0 : s₁.heap = h0 := by rw [← hh, Bd.state]; rfl
  have N0 := Fr.nil n0
  have pre0 : ∀ t, Steps p.tables e below (s₁.setTop (mkF m 0 #[.val (.ref a0), .val (.ref a1), .val (.ref a2), .val (.long q3), .second, .val (.long q4), .second] [])) t → Steps p.tables e below (s₁.setTop (entryFrame m #[(.ref a0), (.ref a1), (.ref a2), (.long q3), (.long q4)] 7)) t := fun t k => castTop (ef_2 m a0 a1 a2 q3 q4) k
  obtain ⟨T1, X1, e1, st1⟩ := initO X0 hx hZ hown (hw _ (List.mem_of_getElem? (i := 10) rfl)) (hw _ (List.mem_of_getElem? (i := 11) rfl)) (hw _ (List.mem_of_getElem? (i := 12) rfl)) e0 (g := (mkF m 1 #[.val (.ref a0), .val (.ref a1), .val (.ref a2), .val (.long q3), .second, .val (.long q4), .second] [(.ref a0)])) rfl (by rw [hml]; rfl) rfl (hb hby d2_1) (by decide) (W := 0) (by show 2 * 0 + _ ≤ _; exact Nat.le_of_eq rfl) (by decide)
  obtain ⟨T2, h2, X2, e2, W2, st2⟩ := putF X1 hx hZ hown (host := "") (Or.inl (hw _ (List.mem_of_getElem? (i := 13) rfl))) Via.refl e1 F_offset_a0 E_a0 (Or.inr ⟨(hw _ (List.mem_of_getElem? (i := 14) rfl)), rfl, hnm⟩) (hw _ (List.mem_of_getElem? (i := 2) rfl)) (ty := (.array .long)) (by decide) rfl rfl (g := (mkF m 6 #[.val (.ref a0), .val (.ref a1), .val (.ref a2), .val (.long q3), .second, .val (.long q4), .second] [(.ref a1), (.ref a0)])) rfl rfl (hb hby d2_6)
  have K2 : Keep h0 h2 [a0] := (Keep.refl h0 [a0]).wr W2 (Or.inl (by simp))
  have Fw2 : Fld Z h2 a0 "com/example/paperloom/paperloom/CountSearch$Mean" "offset" "[J" (.ref a1) := F_offset_a0.same W2
  have N2 := Fr.snoc X2 N0 nw_a0
  have G3 : Exa Z h2 a0 "com/example/paperloom/paperloom/CountSearch$Mean" := (E_a0.wr W2)
  have G4 : Fld Z h2 a0 "com/example/paperloom/paperloom/CountSearch$Mean" "weight" "[J" w_weight_a0 := (F_weight_a0.other W2 (Or.inr (slot_ne (Or.inr (hw _ (List.mem_of_getElem? (i := 16) rfl))) (Or.inr (hw _ (List.mem_of_getElem? (i := 14) rfl))) (by decide) (t := (.array .long)) (t' := (.array .long)) (by decide) (by decide))))
  obtain ⟨T5, h5, X5, e5, W5, st5⟩ := putF X2 hx hZ hown (host := "") (Or.inl (hw _ (List.mem_of_getElem? (i := 15) rfl))) Via.refl e2 G4 G3 (Or.inr ⟨(hw _ (List.mem_of_getElem? (i := 16) rfl)), rfl, hnm⟩) (hw _ (List.mem_of_getElem? (i := 2) rfl)) (ty := (.array .long)) (by decide) rfl rfl (g := (mkF m 11 #[.val (.ref a0), .val (.ref a1), .val (.ref a2), .val (.long q3), .second, .val (.long q4), .second] [(.ref a2), (.ref a0)])) rfl rfl (hb hby d2_11)
  have K5 : Keep h0 h5 [a0] := K2.wr W5 (Or.inl (by simp))
  have Fw5 : Fld Z h5 a0 "com/example/paperloom/paperloom/CountSearch$Mean" "weight" "[J" (.ref a2) := G4.same W5
  have N5 := Fr.snoc X5 N2 nw_a0
  have G6 : Exa Z h5 a0 "com/example/paperloom/paperloom/CountSearch$Mean" := (G3.wr W5)
  have G7 : Fld Z h5 a0 "com/example/paperloom/paperloom/CountSearch$Mean" "startOffset" "J" (.long w_startOffset_a0) := ((F_startOffset_a0.other W2 (Or.inr (slot_ne (Or.inr (hw _ (List.mem_of_getElem? (i := 18) rfl))) (Or.inr (hw _ (List.mem_of_getElem? (i := 14) rfl))) (by decide) (t := .long) (t' := (.array .long)) (by decide) (by decide)))).other W5 (Or.inr (slot_ne (Or.inr (hw _ (List.mem_of_getElem? (i := 18) rfl))) (Or.inr (hw _ (List.mem_of_getElem? (i := 16) rfl))) (by decide) (t := .long) (t' := (.array .long)) (by decide) (by decide))))
  obtain ⟨T8, h8, X8, e8, W8, st8⟩ := putF X5 hx hZ hown (host := "") (Or.inl (hw _ (List.mem_of_getElem? (i := 17) rfl))) Via.refl e5 G7 G6 (Or.inr ⟨(hw _ (List.mem_of_getElem? (i := 18) rfl)), rfl, hnm⟩) (hw _ (List.mem_of_getElem? (i := 2) rfl)) (ty := .long) (by decide) rfl rfl (g := (mkF m 16 #[.val (.ref a0), .val (.ref a1), .val (.ref a2), .val (.long q3), .second, .val (.long q4), .second] [(.long q3), (.ref a0)])) rfl rfl (hb hby d2_16)
  have K8 : Keep h0 h8 [a0] := K5.wr W8 (Or.inl (by simp))
  have Fw8 : Fld Z h8 a0 "com/example/paperloom/paperloom/CountSearch$Mean" "startOffset" "J" (.long q3) := G7.same W8
  have N8 := Fr.snoc X8 N5 nw_a0
  have G9 : Exa Z h8 a0 "com/example/paperloom/paperloom/CountSearch$Mean" := (G6.wr W8)
  have G10 : Fld Z h8 a0 "com/example/paperloom/paperloom/CountSearch$Mean" "startWeight" "J" (.long w_startWeight_a0) := (((F_startWeight_a0.other W2 (Or.inr (slot_ne (Or.inr (hw _ (List.mem_of_getElem? (i := 20) rfl))) (Or.inr (hw _ (List.mem_of_getElem? (i := 14) rfl))) (by decide) (t := .long) (t' := (.array .long)) (by decide) (by decide)))).other W5 (Or.inr (slot_ne (Or.inr (hw _ (List.mem_of_getElem? (i := 20) rfl))) (Or.inr (hw _ (List.mem_of_getElem? (i := 16) rfl))) (by decide) (t := .long) (t' := (.array .long)) (by decide) (by decide)))).other W8 (Or.inr (slot_ne (Or.inr (hw _ (List.mem_of_getElem? (i := 20) rfl))) (Or.inr (hw _ (List.mem_of_getElem? (i := 18) rfl))) (by decide) (t := .long) (t' := .long) (by decide) (by decide))))
  obtain ⟨T11, h11, X11, e11, W11, st11⟩ := putF X8 hx hZ hown (host := "") (Or.inl (hw _ (List.mem_of_getElem? (i := 19) rfl))) Via.refl e8 G10 G9 (Or.inr ⟨(hw _ (List.mem_of_getElem? (i := 20) rfl)), rfl, hnm⟩) (hw _ (List.mem_of_getElem? (i := 2) rfl)) (ty := .long) (by decide) rfl rfl (g := (mkF m 22 #[.val (.ref a0), .val (.ref a1), .val (.ref a2), .val (.long q3), .second, .val (.long q4), .second] [(.long q4), (.ref a0)])) rfl rfl (hb hby d2_22)
  have K11 : Keep h0 h11 [a0] := K8.wr W11 (Or.inl (by simp))
  have Fw11 : Fld Z h11 a0 "com/example/paperloom/paperloom/CountSearch$Mean" "startWeight" "J" (.long q4) := G10.same W11
  have N11 := Fr.snoc X11 N8 nw_a0
  obtain ⟨fs, hr, hrun, hended, hW, hsame⟩ := X11.leave (v := none) (fun _ => rfl)
  refine ⟨_, _, pre0 _ ?_, hrun, hended, _, _, rfl, ?_, ⟨_, rfl⟩, hW, hsame.mono (by decide) (by decide)⟩
  · show Steps p.tables e below (s₁.setTop (mkF m 0 #[.val (.ref a0), .val (.ref a1), .val (.ref a2), .val (.long q3), .second, .val (.long q4), .second] [])) _
    refine XS.aloadN X0.here hx rfl (hb hby d2_0) rfl rfl ?_
    show Steps p.tables e below (s₁.setTop (mkF m 1 #[.val (.ref a0), .val (.ref a1), .val (.ref a2), .val (.long q3), .second, .val (.long q4), .second] [(.ref a0)])) _
    refine st1 _ ?_
    show Steps p.tables e below (T1.setTop (mkF m 4 #[.val (.ref a0), .val (.ref a1), .val (.ref a2), .val (.long q3), .second, .val (.long q4), .second] [])) _
    refine XS.aloadN X1.here hx rfl (hb hby d2_4) rfl rfl ?_
    show Steps p.tables e below (T1.setTop (mkF m 5 #[.val (.ref a0), .val (.ref a1), .val (.ref a2), .val (.long q3), .second, .val (.long q4), .second] [(.ref a0)])) _
    refine XS.aloadN X1.here hx rfl (hb hby d2_5) rfl rfl ?_
    show Steps p.tables e below (T1.setTop (mkF m 6 #[.val (.ref a0), .val (.ref a1), .val (.ref a2), .val (.long q3), .second, .val (.long q4), .second] [(.ref a1), (.ref a0)])) _
    refine st2 _ ?_
    show Steps p.tables e below (T2.setTop (mkF m 9 #[.val (.ref a0), .val (.ref a1), .val (.ref a2), .val (.long q3), .second, .val (.long q4), .second] [])) _
    refine XS.aloadN X2.here hx rfl (hb hby d2_9) rfl rfl ?_
    show Steps p.tables e below (T2.setTop (mkF m 10 #[.val (.ref a0), .val (.ref a1), .val (.ref a2), .val (.long q3), .second, .val (.long q4), .second] [(.ref a0)])) _
    refine XS.aloadN X2.here hx rfl (hb hby d2_10) rfl rfl ?_
    show Steps p.tables e below (T2.setTop (mkF m 11 #[.val (.ref a0), .val (.ref a1), .val (.ref a2), .val (.long q3), .second, .val (.long q4), .second] [(.ref a2), (.ref a0)])) _
    refine st5 _ ?_
    show Steps p.tables e below (T5.setTop (mkF m 14 #[.val (.ref a0), .val (.ref a1), .val (.ref a2), .val (.long q3), .second, .val (.long q4), .second] [])) _
    refine XS.aloadN X5.here hx rfl (hb hby d2_14) rfl rfl ?_
    show Steps p.tables e below (T5.setTop (mkF m 15 #[.val (.ref a0), .val (.ref a1), .val (.ref a2), .val (.long q3), .second, .val (.long q4), .second] [(.ref a0)])) _
    refine XS.lloadN X5.here hx rfl (hb hby d2_15) rfl ?_
    show Steps p.tables e below (T5.setTop (mkF m 16 #[.val (.ref a0), .val (.ref a1), .val (.ref a2), .val (.long q3), .second, .val (.long q4), .second] [(.long q3), (.ref a0)])) _
    refine st8 _ ?_
    show Steps p.tables e below (T8.setTop (mkF m 19 #[.val (.ref a0), .val (.ref a1), .val (.ref a2), .val (.long q3), .second, .val (.long q4), .second] [])) _
    refine XS.aloadN X8.here hx rfl (hb hby d2_19) rfl rfl ?_
    show Steps p.tables e below (T8.setTop (mkF m 20 #[.val (.ref a0), .val (.ref a1), .val (.ref a2), .val (.long q3), .second, .val (.long q4), .second] [(.ref a0)])) _
    refine XS.lload X8.here hx rfl (hb hby d2_20) rfl ?_
    show Steps p.tables e below (T8.setTop (mkF m 22 #[.val (.ref a0), .val (.ref a1), .val (.ref a2), .val (.long q3), .second, .val (.long q4), .second] [(.long q4), (.ref a0)])) _
    refine st11 _ ?_
    show Steps p.tables e below (T11.setTop (mkF m 25 #[.val (.ref a0), .val (.ref a1), .val (.ref a2), .val (.long q3), .second, .val (.long q4), .second] [])) _
    exact X11.returnOut hx Bd.returns (hb hby d2_25) hr
  have G12 : Exa Z h11 a0 "com/example/paperloom/paperloom/CountSearch$Mean" := (G9.wr W11)
  have G13 : Fld Z h11 a0 "com/example/paperloom/paperloom/CountSearch$Mean" "offset" "[J" (.ref a1) := (((Fw2.other W5 (Or.inr (slot_ne (Or.inr (hw _ (List.mem_of_getElem? (i := 14) rfl))) (Or.inr (hw _ (List.mem_of_getElem? (i := 16) rfl))) (by decide) (t := (.array .long)) (t' := (.array .long)) (by decide) (by decide)))).other W8 (Or.inr (slot_ne (Or.inr (hw _ (List.mem_of_getElem? (i := 14) rfl))) (Or.inr (hw _ (List.mem_of_getElem? (i := 18) rfl))) (by decide) (t := (.array .long)) (t' := .long) (by decide) (by decide)))).other W11 (Or.inr (slot_ne (Or.inr (hw _ (List.mem_of_getElem? (i := 14) rfl))) (Or.inr (hw _ (List.mem_of_getElem? (i := 20) rfl))) (by decide) (t := (.array .long)) (t' := .long) (by decide) (by decide))))
  have G14 : Fld Z h11 a0 "com/example/paperloom/paperloom/CountSearch$Mean" "weight" "[J" (.ref a2) := ((Fw5.other W8 (Or.inr (slot_ne (Or.inr (hw _ (List.mem_of_getElem? (i := 16) rfl))) (Or.inr (hw _ (List.mem_of_getElem? (i := 18) rfl))) (by decide) (t := (.array .long)) (t' := .long) (by decide) (by decide)))).other W11 (Or.inr (slot_ne (Or.inr (hw _ (List.mem_of_getElem? (i := 16) rfl))) (Or.inr (hw _ (List.mem_of_getElem? (i := 20) rfl))) (by decide) (t := (.array .long)) (t' := .long) (by decide) (by decide))))
  have G15 : Fld Z h11 a0 "com/example/paperloom/paperloom/CountSearch$Mean" "startOffset" "J" (.long q3) := (Fw8.other W11 (Or.inr (slot_ne (Or.inr (hw _ (List.mem_of_getElem? (i := 18) rfl))) (Or.inr (hw _ (List.mem_of_getElem? (i := 20) rfl))) (by decide) (t := .long) (t' := .long) (by decide) (by decide))))
  · show Q2 Z a0 a1 a2 q3 q4 w_offset_a0 w_weight_a0 w_startOffset_a0 w_startWeight_a0 h0 n0 _ T11.heap _
    rw [e11]
    exact ⟨rfl, N11, K11, G12, G13, G14, G15, Fw11⟩
theorem ef_1 (m : MethodId) (a0 : Addr) (a1 : Addr) (a2 : Addr) : entryFrame m #[(.ref a0), (.ref a1), (.ref a2)] 3 = mkF m 0 #[.val (.ref a0), .val (.ref a1), .val (.ref a2)] [] := by first | (simp [entryFrame, mkF, argsToLocals, Value.category]; done) | rfl
def Q1 (Z : State) (a0 : Addr) (a1 : Addr) (a2 : Addr) (w_offset_a0 : Value) (w_weight_a0 : Value) (w_startOffset_a0 : Int64) (w_startWeight_a0 : Int64) (h0 : Heap) (n0 : Nat) (v : Option Value) (h : Heap) (L : List Loc) : Prop := v = none ∧ Fr n0 L ∧ Keep h0 h [a0] ∧ Exa Z h a0 "com/example/paperloom/paperloom/CountSearch$Mean" ∧ Fld Z h a0 "com/example/paperloom/paperloom/CountSearch$Mean" "offset" "[J" (.ref a1) ∧ Fld Z h a0 "com/example/paperloom/paperloom/CountSearch$Mean" "weight" "[J" (.ref a2) ∧ Fld Z h a0 "com/example/paperloom/paperloom/CountSearch$Mean" "startOffset" "J" (.long (0 : Int64)) ∧ Fld Z h a0 "com/example/paperloom/paperloom/CountSearch$Mean" "startWeight" "J" (.long (0 : Int64))
set_option maxRecDepth 65536 in
set_option maxHeartbeats 40000000 in
theorem rm1 (l : Launch) (Z : State) (A0 : Array Value) (hw : ∀ d ∈ tables_1, d.before A0 Z = true) (ws : List Jvm.Cond) (a0 : Addr) (a1 : Addr) (a2 : Addr) (w_offset_a0 : Value) (w_weight_a0 : Value) (w_startOffset_a0 : Int64) (w_startWeight_a0 : Int64) (h0 : Heap) (n0 : Nat) (Z0 : n0 ≤ h0.size) (E_a0 : Exa Z h0 a0 "com/example/paperloom/paperloom/CountSearch$Mean") (F_offset_a0 : Fld Z h0 a0 "com/example/paperloom/paperloom/CountSearch$Mean" "offset" "[J" w_offset_a0) (F_weight_a0 : Fld Z h0 a0 "com/example/paperloom/paperloom/CountSearch$Mean" "weight" "[J" w_weight_a0) (F_startOffset_a0 : Fld Z h0 a0 "com/example/paperloom/paperloom/CountSearch$Mean" "startOffset" "J" (.long w_startOffset_a0)) (F_startWeight_a0 : Fld Z h0 a0 "com/example/paperloom/paperloom/CountSearch$Mean" "startWeight" "J" (.long w_startWeight_a0)) (nw_a0 : n0 ≤ a0) :
    MetFree l (⟨"com/example/paperloom/paperloom/CountSearch$Mean", "<init>", "([J[J)V"⟩ : MethodName) (head1 (Jvm.Cond.code (⟨"com/example/paperloom/paperloom/CountSearch$Mean", "<init>", "([J[J)V"⟩ : MethodName) prog_8_method_1_code 3 none :: ws) ({ frames := 2, cells := 0, slots := 0, locals := 30 } : Room)) (fun a U => a = #[(.ref a0), (.ref a1), (.ref a2)] ∧ Z.Warmed39 U.vm ∧ U.heap = h0) (fun _ _ _ _ _ => True) (fun _ U o U' => ∃ v L, o = .returned v ∧ Q1 Z a0 a1 a2 w_offset_a0 w_weight_a0 w_startOffset_a0 w_startWeight_a0 h0 n0 v U'.heap L ∧ FrameEnd U o U' L ({ frames := 2, cells := 0, slots := 0, locals := 30 } : Room).cells ({ frames := 2, cells := 0, slots := 0, locals := 30 } : Room).slots) := by
  refine MetFree.of_bodySF (plainFor_of_name pn_1) hisR ?_
  intro p e s m args below meth c s₁ Bd hml0 hP hK
  obtain ⟨rfl, hZ, hh⟩ := hP
  have hx := Bd.exec
  have hby := Bd.bytes
  have hml : c.maxLocals = 3 := hml0
  have hown : s.vm.findClass "com/example/paperloom/paperloom/CountSearch$Mean" = some m.cls := findClass_of_methodNamed Bd.named
  have hnm := (name_of_methodNamed Bd.named Bd.method).1
  have X0 : Stand p l e ({ frames := 2, cells := 0, slots := 0, locals := 30 } : Room) s m #[(.ref a0), (.ref a1), (.ref a2)] below meth c s₁ [] 0 0 := Stand.of_body Bd
  have e0 : s₁.heap = h0 := by rw [← hh, Bd.state]; rfl
  have N0 := Fr.nil n0
  have pre0 : ∀ t, Steps p.tables e below (s₁.setTop (mkF m 0 #[.val (.ref a0), .val (.ref a1), .val (.ref a2)] [])) t → Steps p.tables e below (s₁.setTop (entryFrame m #[(.ref a0), (.ref a1), (.ref a2)] 3)) t := fun t k => castTop (ef_1 m a0 a1 a2) k
  obtain ⟨_, _, ⟨T1, L1, k1, n1⟩, -, X1, ⟨Lc1, hQ1, l1, y1, z1⟩, st1⟩ := X0.specialBack hx (y := (⟨"com/example/paperloom/paperloom/CountSearch$Mean", "<init>", "([J[JJJ)V"⟩ : MethodName)) rfl hown (mvT hZ (hw _ (List.mem_of_getElem? (i := 7) rfl))) (mvT hZ (hw _ (List.mem_of_getElem? (i := 8) rfl))) (mvT hZ (hw _ (List.mem_of_getElem? (i := 9) rfl))) (by decide) (backOf (W := 0) (rm2 l Z A0 hw [] a0 a1 a2 (0 : Int64) (0 : Int64) w_offset_a0 w_weight_a0 w_startOffset_a0 w_startWeight_a0 h0 n0 (Nat.le_trans Z0 (Keep.refl h0 [a0]).1) E_a0 F_offset_a0 F_weight_a0 F_startOffset_a0 F_startWeight_a0 nw_a0) hZ (hw _ (List.mem_of_getElem? (i := 9) rfl)) (hw _ (List.mem_of_getElem? (i := 3) rfl)) (by decide) (by decide)) (g := (mkF m 5 #[.val (.ref a0), .val (.ref a1), .val (.ref a2)] [(.long (0 : Int64)), (.long (0 : Int64)), (.ref a2), (.ref a1), (.ref a0)])) rfl (by rw [hml]; rfl) (Steps.refl _) (a := a0) (argsL := [(.ref a1), (.ref a2), (.long (0 : Int64)), (.long (0 : Int64))]) (rest := []) (lenOf pd_1 rfl) rfl (by show 2 * 0 + _ ≤ _; exact Nat.le_of_eq rfl) (hb hby d1_5) (fun _ _ => ⟨rfl, e0, (by decide : 0 + 0 ≤ _), (by decide : 0 + 0 ≤ _)⟩)
  dsimp only [Pt.U, Pt.locs, Pt.cells, Pt.slots] at X1 l1 y1 z1 st1 hQ1
  subst l1 y1 z1
  obtain ⟨rfl, N1q, Kc1, P2, P3, P4, P5, P6⟩ := hQ1
  have K1 : Keep h0 T1.heap [a0] := (Keep.refl h0 [a0]).trans Kc1 (allS (Or.inl (by simp)) all0)
  have N1 := Fr.app N0 N1q
  obtain ⟨fs, hr, hrun, hended, hW, hsame⟩ := X1.leave (v := none) (fun _ => rfl)
  refine ⟨_, _, pre0 _ ?_, hrun, hended, _, _, rfl, ?_, ⟨_, rfl⟩, hW, hsame.mono (by decide) (by decide)⟩
  · show Steps p.tables e below (s₁.setTop (mkF m 0 #[.val (.ref a0), .val (.ref a1), .val (.ref a2)] [])) _
    refine XS.aloadN X0.here hx rfl (hb hby d1_0) rfl rfl ?_
    show Steps p.tables e below (s₁.setTop (mkF m 1 #[.val (.ref a0), .val (.ref a1), .val (.ref a2)] [(.ref a0)])) _
    refine XS.aloadN X0.here hx rfl (hb hby d1_1) rfl rfl ?_
    show Steps p.tables e below (s₁.setTop (mkF m 2 #[.val (.ref a0), .val (.ref a1), .val (.ref a2)] [(.ref a1), (.ref a0)])) _
    refine XS.aloadN X0.here hx rfl (hb hby d1_2) rfl rfl ?_
    show Steps p.tables e below (s₁.setTop (mkF m 3 #[.val (.ref a0), .val (.ref a1), .val (.ref a2)] [(.ref a2), (.ref a1), (.ref a0)])) _
    refine XS.lconst X0.here hx rfl (hb hby d1_3) ?_
    show Steps p.tables e below (s₁.setTop (mkF m 4 #[.val (.ref a0), .val (.ref a1), .val (.ref a2)] [(.long (0 : Int64)), (.ref a2), (.ref a1), (.ref a0)])) _
    refine XS.lconst X0.here hx rfl (hb hby d1_4) ?_
    show Steps p.tables e below (s₁.setTop (mkF m 5 #[.val (.ref a0), .val (.ref a1), .val (.ref a2)] [(.long (0 : Int64)), (.long (0 : Int64)), (.ref a2), (.ref a1), (.ref a0)])) _
    refine st1.trans ?_
    show Steps p.tables e below (T1.setTop (mkF m 8 #[.val (.ref a0), .val (.ref a1), .val (.ref a2)] [])) _
    exact X1.returnOut hx Bd.returns (hb hby d1_8) hr
  · show Q1 Z a0 a1 a2 w_offset_a0 w_weight_a0 w_startOffset_a0 w_startWeight_a0 h0 n0 _ T1.heap _
    exact ⟨rfl, N1, K1, P2, P3, P4, P5, P6⟩
theorem ef_4_0 (m : MethodId) (a0 : Addr) (a1 : Addr) : entryFrame m #[(.ref a0), (.ref a1)] 5 = mkF m 0 #[.val (.ref a0), .val (.ref a1), .unset, .unset, .unset] [] := by first | (simp [entryFrame, mkF, argsToLocals, Value.category]; done) | rfl
def Q4_0 (Z : State) (a0 : Addr) (a1 : Addr) (w_offset_a0 : Value) (w_weight_a0 : Value) (w_startOffset_a0 : Int64) (w_startWeight_a0 : Int64) (g_a1 : Nat → Int32) (h0 : Heap) (n0 : Nat) (v : Option Value) (h : Heap) (L : List Loc) : Prop := v = some (.long w_startOffset_a0) ∧ Fr n0 L ∧ h = h0
set_option maxRecDepth 65536 in
set_option maxHeartbeats 40000000 in
theorem rm4_0 (l : Launch) (Z : State) (A0 : Array Value) (hw : ∀ d ∈ tables_1, d.before A0 Z = true) (ws : List Jvm.Cond) (a0 : Addr) (a1 : Addr) (w_offset_a0 : Value) (w_weight_a0 : Value) (w_startOffset_a0 : Int64) (w_startWeight_a0 : Int64) (g_a1 : Nat → Int32) (h0 : Heap) (n0 : Nat) (Z0 : n0 ≤ h0.size) (E_a0 : Exa Z h0 a0 "com/example/paperloom/paperloom/CountSearch$Mean") (F_offset_a0 : Fld Z h0 a0 "com/example/paperloom/paperloom/CountSearch$Mean" "offset" "[J" w_offset_a0) (F_weight_a0 : Fld Z h0 a0 "com/example/paperloom/paperloom/CountSearch$Mean" "weight" "[J" w_weight_a0) (F_startOffset_a0 : Fld Z h0 a0 "com/example/paperloom/paperloom/CountSearch$Mean" "startOffset" "J" (.long w_startOffset_a0)) (F_startWeight_a0 : Fld Z h0 a0 "com/example/paperloom/paperloom/CountSearch$Mean" "startWeight" "J" (.long w_startWeight_a0)) (A_a1 : AF Z h0 a1 .int 0 (fun j => .int (g_a1 j))) :
    MetFree l (⟨"com/example/paperloom/paperloom/CountSearch$Mean", "offset", "([I)J"⟩ : MethodName) (head1 (Jvm.Cond.code (⟨"com/example/paperloom/paperloom/CountSearch$Mean", "offset", "([I)J"⟩ : MethodName) prog_8_method_6_code 5 (some .long) :: ws) ({ frames := 0, cells := 0, slots := 0, locals := 0 } : Room)) (fun a U => a = #[(.ref a0), (.ref a1)] ∧ Z.Warmed39 U.vm ∧ U.heap = h0) (fun _ _ _ _ _ => True) (fun _ U o U' => ∃ v L, o = .returned v ∧ Q4_0 Z a0 a1 w_offset_a0 w_weight_a0 w_startOffset_a0 w_startWeight_a0 g_a1 h0 n0 v U'.heap L ∧ FrameEnd U o U' L ({ frames := 0, cells := 0, slots := 0, locals := 0 } : Room).cells ({ frames := 0, cells := 0, slots := 0, locals := 0 } : Room).slots) := by
  refine MetFree.of_bodySF (plainFor_of_name pn_4) hisR ?_
  intro p e s m args below meth c s₁ Bd hml0 hP hK
  obtain ⟨rfl, hZ, hh⟩ := hP
  have hx := Bd.exec
  have hby := Bd.bytes
  have hml : c.maxLocals = 5 := hml0
  have hown : s.vm.findClass "com/example/paperloom/paperloom/CountSearch$Mean" = some m.cls := findClass_of_methodNamed Bd.named
  have hnm := (name_of_methodNamed Bd.named Bd.method).1
  have X0 : Stand p l e ({ frames := 0, cells := 0, slots := 0, locals := 0 } : Room) s m #[(.ref a0), (.ref a1)] below meth c s₁ [] 0 0 := Stand.of_body Bd
  have e0 : s₁.heap = h0 := by rw [← hh, Bd.state]; rfl
  have N0 := Fr.nil n0
  have pre0 : ∀ t, Steps p.tables e below (s₁.setTop (mkF m 0 #[.val (.ref a0), .val (.ref a1), .unset, .unset, .unset] [])) t → Steps p.tables e below (s₁.setTop (entryFrame m #[(.ref a0), (.ref a1)] 5)) t := fun t k => castTop (ef_4_0 m a0 a1) k
  obtain ⟨T1, X1, e1, st1⟩ := getF X0 hx hZ hown (host := "") (Or.inl (hw _ (List.mem_of_getElem? (i := 17) rfl))) Via.refl e0 F_startOffset_a0 (g := (mkF m 1 #[.val (.ref a0), .val (.ref a1), .unset, .unset, .unset] [(.ref a0)])) rfl rfl (hb hby d4_1)
  obtain ⟨fs, hr, hrun, hended, hW, hsame⟩ := X1.leave (v := some (.long w_startOffset_a0)) (fun h => by rw [Bd.returns] at h; cases h)
  refine ⟨_, _, pre0 _ ?_, hrun, hended, _, _, rfl, ?_, ⟨_, rfl⟩, hW, hsame.mono (by decide) (by decide)⟩
  · show Steps p.tables e below (s₁.setTop (mkF m 0 #[.val (.ref a0), .val (.ref a1), .unset, .unset, .unset] [])) _
    refine XS.aloadN X0.here hx rfl (hb hby d4_0) rfl rfl ?_
    show Steps p.tables e below (s₁.setTop (mkF m 1 #[.val (.ref a0), .val (.ref a1), .unset, .unset, .unset] [(.ref a0)])) _
    refine st1 _ ?_
    show Steps p.tables e below (T1.setTop (mkF m 4 #[.val (.ref a0), .val (.ref a1), .unset, .unset, .unset] [(.long w_startOffset_a0)])) _
    refine XS.lstoreN X1.here hx rfl (hb hby d4_4) rfl (l' := #[.val (.ref a0), .val (.ref a1), .val (.long w_startOffset_a0), .second, .unset]) rfl ?_
    show Steps p.tables e below (T1.setTop (mkF m 5 #[.val (.ref a0), .val (.ref a1), .val (.long w_startOffset_a0), .second, .unset] [])) _
    refine XS.iconst X1.here hx rfl (hb hby d4_5) ?_
    show Steps p.tables e below (T1.setTop (mkF m 6 #[.val (.ref a0), .val (.ref a1), .val (.long w_startOffset_a0), .second, .unset] [(.int (0 : Int32))])) _
    refine XS.istore X1.here hx rfl (hb hby d4_6) rfl (l' := #[.val (.ref a0), .val (.ref a1), .val (.long w_startOffset_a0), .second, .val (.int (0 : Int32))]) rfl ?_
    show Steps p.tables e below (T1.setTop (mkF m 8 #[.val (.ref a0), .val (.ref a1), .val (.long w_startOffset_a0), .second, .val (.int (0 : Int32))] [])) _
    refine XS.iload X1.here hx rfl (hb hby d4_8) rfl ?_
    show Steps p.tables e below (T1.setTop (mkF m 10 #[.val (.ref a0), .val (.ref a1), .val (.long w_startOffset_a0), .second, .val (.int (0 : Int32))] [(.int (0 : Int32))])) _
    refine XS.aloadN X1.here hx rfl (hb hby d4_10) rfl rfl ?_
    show Steps p.tables e below (T1.setTop (mkF m 11 #[.val (.ref a0), .val (.ref a1), .val (.long w_startOffset_a0), .second, .val (.int (0 : Int32))] [(.ref a1), (.int (0 : Int32))])) _
    refine AF.len X1 hx hZ e1 A_a1 (g := (mkF m 11 #[.val (.ref a0), .val (.ref a1), .val (.long w_startOffset_a0), .second, .val (.int (0 : Int32))] [(.ref a1), (.int (0 : Int32))])) rfl rfl (hb hby d4_11) _ ?_
    show Steps p.tables e below (T1.setTop (mkF m 12 #[.val (.ref a0), .val (.ref a1), .val (.long w_startOffset_a0), .second, .val (.int (0 : Int32))] [(.int (0 : Int32)), (.int (0 : Int32))])) _
    refine XS.icmpYes X1.here hx rfl (pc0 := 12) (pc' := 37) rfl (hb hby d4_12) rfl (flt (by decide)).2.1 (by decide) (by decide) ?_
    show Steps p.tables e below (T1.setTop (mkF m 37 #[.val (.ref a0), .val (.ref a1), .val (.long w_startOffset_a0), .second, .val (.int (0 : Int32))] [])) _
    refine XS.lloadN X1.here hx rfl (hb hby d4_37) rfl ?_
    show Steps p.tables e below (T1.setTop (mkF m 38 #[.val (.ref a0), .val (.ref a1), .val (.long w_startOffset_a0), .second, .val (.int (0 : Int32))] [(.long w_startOffset_a0)])) _
    exact retOut X1 hx Bd.returns rfl (Or.inr (Or.inl ⟨rfl, rfl, _, rfl⟩)) (hb hby d4_38) hr
  · show Q4_0 Z a0 a1 w_offset_a0 w_weight_a0 w_startOffset_a0 w_startWeight_a0 g_a1 h0 n0 _ T1.heap _
    exact ⟨rfl, N0, e1⟩
theorem ef_4_1 (m : MethodId) (a0 : Addr) (a1 : Addr) : entryFrame m #[(.ref a0), (.ref a1)] 5 = mkF m 0 #[.val (.ref a0), .val (.ref a1), .unset, .unset, .unset] [] := by first | (simp [entryFrame, mkF, argsToLocals, Value.category]; done) | rfl
def Q4_1 (Z : State) (a0 : Addr) (a1 : Addr) (w_offset_a0 : Addr) (w_weight_a0 : Value) (w_startOffset_a0 : Int64) (w_startWeight_a0 : Int64) (g_a1 : Nat → Int32) (g_w_offset_a0 : Nat → Int64) (h0 : Heap) (n0 : Nat) (v : Option Value) (h : Heap) (L : List Loc) : Prop := v = some (.long (w_startOffset_a0 + ((g_w_offset_a0 0) * ((g_a1 0).toInt64)))) ∧ Fr n0 L ∧ h = h0
set_option maxRecDepth 65536 in
set_option maxHeartbeats 40000000 in
theorem rm4_1 (l : Launch) (Z : State) (A0 : Array Value) (hw : ∀ d ∈ tables_1, d.before A0 Z = true) (ws : List Jvm.Cond) (a0 : Addr) (a1 : Addr) (w_offset_a0 : Addr) (w_weight_a0 : Value) (w_startOffset_a0 : Int64) (w_startWeight_a0 : Int64) (g_a1 : Nat → Int32) (g_w_offset_a0 : Nat → Int64) (h0 : Heap) (n0 : Nat) (Z0 : n0 ≤ h0.size) (E_a0 : Exa Z h0 a0 "com/example/paperloom/paperloom/CountSearch$Mean") (F_offset_a0 : Fld Z h0 a0 "com/example/paperloom/paperloom/CountSearch$Mean" "offset" "[J" (.ref w_offset_a0)) (F_weight_a0 : Fld Z h0 a0 "com/example/paperloom/paperloom/CountSearch$Mean" "weight" "[J" w_weight_a0) (F_startOffset_a0 : Fld Z h0 a0 "com/example/paperloom/paperloom/CountSearch$Mean" "startOffset" "J" (.long w_startOffset_a0)) (F_startWeight_a0 : Fld Z h0 a0 "com/example/paperloom/paperloom/CountSearch$Mean" "startWeight" "J" (.long w_startWeight_a0)) (A_a1 : AF Z h0 a1 .int 1 (fun j => .int (g_a1 j))) (A_w_offset_a0 : AF Z h0 w_offset_a0 .long 3 (fun j => .long (g_w_offset_a0 j))) :
    MetFree l (⟨"com/example/paperloom/paperloom/CountSearch$Mean", "offset", "([I)J"⟩ : MethodName) (head1 (Jvm.Cond.code (⟨"com/example/paperloom/paperloom/CountSearch$Mean", "offset", "([I)J"⟩ : MethodName) prog_8_method_6_code 5 (some .long) :: ws) ({ frames := 0, cells := 0, slots := 0, locals := 0 } : Room)) (fun a U => a = #[(.ref a0), (.ref a1)] ∧ Z.Warmed39 U.vm ∧ U.heap = h0) (fun _ _ _ _ _ => True) (fun _ U o U' => ∃ v L, o = .returned v ∧ Q4_1 Z a0 a1 w_offset_a0 w_weight_a0 w_startOffset_a0 w_startWeight_a0 g_a1 g_w_offset_a0 h0 n0 v U'.heap L ∧ FrameEnd U o U' L ({ frames := 0, cells := 0, slots := 0, locals := 0 } : Room).cells ({ frames := 0, cells := 0, slots := 0, locals := 0 } : Room).slots) := by
  refine MetFree.of_bodySF (plainFor_of_name pn_4) hisR ?_
  intro p e s m args below meth c s₁ Bd hml0 hP hK
  obtain ⟨rfl, hZ, hh⟩ := hP
  have hx := Bd.exec
  have hby := Bd.bytes
  have hml : c.maxLocals = 5 := hml0
  have hown : s.vm.findClass "com/example/paperloom/paperloom/CountSearch$Mean" = some m.cls := findClass_of_methodNamed Bd.named
  have hnm := (name_of_methodNamed Bd.named Bd.method).1
  have X0 : Stand p l e ({ frames := 0, cells := 0, slots := 0, locals := 0 } : Room) s m #[(.ref a0), (.ref a1)] below meth c s₁ [] 0 0 := Stand.of_body Bd
  have e0 : s₁.heap = h0 := by rw [← hh, Bd.state]; rfl
  have N0 := Fr.nil n0
  have pre0 : ∀ t, Steps p.tables e below (s₁.setTop (mkF m 0 #[.val (.ref a0), .val (.ref a1), .unset, .unset, .unset] [])) t → Steps p.tables e below (s₁.setTop (entryFrame m #[(.ref a0), (.ref a1)] 5)) t := fun t k => castTop (ef_4_1 m a0 a1) k
  obtain ⟨T1, X1, e1, st1⟩ := getF X0 hx hZ hown (host := "") (Or.inl (hw _ (List.mem_of_getElem? (i := 17) rfl))) Via.refl e0 F_startOffset_a0 (g := (mkF m 1 #[.val (.ref a0), .val (.ref a1), .unset, .unset, .unset] [(.ref a0)])) rfl rfl (hb hby d4_1)
  obtain ⟨T2, X2, e2, st2⟩ := getF X1 hx hZ hown (host := "") (Or.inl (hw _ (List.mem_of_getElem? (i := 13) rfl))) Via.refl e1 F_offset_a0 (g := (mkF m 17 #[.val (.ref a0), .val (.ref a1), .val (.long w_startOffset_a0), .second, .val (.int (0 : Int32))] [(.ref a0), (.long w_startOffset_a0)])) rfl rfl (hb hby d4_17)
  obtain ⟨v3, hv3⟩ : ∃ z : Int64, z = (w_startOffset_a0 + ((g_w_offset_a0 0) * ((g_a1 0).toInt64))) := ⟨_, rfl⟩
  obtain ⟨fs, hr, hrun, hended, hW, hsame⟩ := X2.leave (v := some (.long v3)) (fun h => by rw [Bd.returns] at h; cases h)
  refine ⟨_, _, pre0 _ ?_, hrun, hended, _, _, rfl, ?_, ⟨_, rfl⟩, hW, hsame.mono (by decide) (by decide)⟩
  · show Steps p.tables e below (s₁.setTop (mkF m 0 #[.val (.ref a0), .val (.ref a1), .unset, .unset, .unset] [])) _
    refine XS.aloadN X0.here hx rfl (hb hby d4_0) rfl rfl ?_
    show Steps p.tables e below (s₁.setTop (mkF m 1 #[.val (.ref a0), .val (.ref a1), .unset, .unset, .unset] [(.ref a0)])) _
    refine st1 _ ?_
    show Steps p.tables e below (T1.setTop (mkF m 4 #[.val (.ref a0), .val (.ref a1), .unset, .unset, .unset] [(.long w_startOffset_a0)])) _
    refine XS.lstoreN X1.here hx rfl (hb hby d4_4) rfl (l' := #[.val (.ref a0), .val (.ref a1), .val (.long w_startOffset_a0), .second, .unset]) rfl ?_
    show Steps p.tables e below (T1.setTop (mkF m 5 #[.val (.ref a0), .val (.ref a1), .val (.long w_startOffset_a0), .second, .unset] [])) _
    refine XS.iconst X1.here hx rfl (hb hby d4_5) ?_
    show Steps p.tables e below (T1.setTop (mkF m 6 #[.val (.ref a0), .val (.ref a1), .val (.long w_startOffset_a0), .second, .unset] [(.int (0 : Int32))])) _
    refine XS.istore X1.here hx rfl (hb hby d4_6) rfl (l' := #[.val (.ref a0), .val (.ref a1), .val (.long w_startOffset_a0), .second, .val (.int (0 : Int32))]) rfl ?_
    show Steps p.tables e below (T1.setTop (mkF m 8 #[.val (.ref a0), .val (.ref a1), .val (.long w_startOffset_a0), .second, .val (.int (0 : Int32))] [])) _
    refine XS.iload X1.here hx rfl (hb hby d4_8) rfl ?_
    show Steps p.tables e below (T1.setTop (mkF m 10 #[.val (.ref a0), .val (.ref a1), .val (.long w_startOffset_a0), .second, .val (.int (0 : Int32))] [(.int (0 : Int32))])) _
    refine XS.aloadN X1.here hx rfl (hb hby d4_10) rfl rfl ?_
    show Steps p.tables e below (T1.setTop (mkF m 11 #[.val (.ref a0), .val (.ref a1), .val (.long w_startOffset_a0), .second, .val (.int (0 : Int32))] [(.ref a1), (.int (0 : Int32))])) _
    refine AF.len X1 hx hZ e1 A_a1 (g := (mkF m 11 #[.val (.ref a0), .val (.ref a1), .val (.long w_startOffset_a0), .second, .val (.int (0 : Int32))] [(.ref a1), (.int (0 : Int32))])) rfl rfl (hb hby d4_11) _ ?_
    show Steps p.tables e below (T1.setTop (mkF m 12 #[.val (.ref a0), .val (.ref a1), .val (.long w_startOffset_a0), .second, .val (.int (0 : Int32))] [(.int (1 : Int32)), (.int (0 : Int32))])) _
    refine XS.icmpNo X1.here hx rfl (hb hby d4_12) rfl (tlt (by decide)).2.1 ?_
    show Steps p.tables e below (T1.setTop (mkF m 15 #[.val (.ref a0), .val (.ref a1), .val (.long w_startOffset_a0), .second, .val (.int (0 : Int32))] [])) _
    refine XS.lloadN X1.here hx rfl (hb hby d4_15) rfl ?_
    show Steps p.tables e below (T1.setTop (mkF m 16 #[.val (.ref a0), .val (.ref a1), .val (.long w_startOffset_a0), .second, .val (.int (0 : Int32))] [(.long w_startOffset_a0)])) _
    refine XS.aloadN X1.here hx rfl (hb hby d4_16) rfl rfl ?_
    show Steps p.tables e below (T1.setTop (mkF m 17 #[.val (.ref a0), .val (.ref a1), .val (.long w_startOffset_a0), .second, .val (.int (0 : Int32))] [(.ref a0), (.long w_startOffset_a0)])) _
    refine st2 _ ?_
    show Steps p.tables e below (T2.setTop (mkF m 20 #[.val (.ref a0), .val (.ref a1), .val (.long w_startOffset_a0), .second, .val (.int (0 : Int32))] [(.ref w_offset_a0), (.long w_startOffset_a0)])) _
    refine XS.iload X2.here hx rfl (hb hby d4_20) rfl ?_
    show Steps p.tables e below (T2.setTop (mkF m 22 #[.val (.ref a0), .val (.ref a1), .val (.long w_startOffset_a0), .second, .val (.int (0 : Int32))] [(.int (0 : Int32)), (.ref w_offset_a0), (.long w_startOffset_a0)])) _
    refine AF.ldJ X2 hx hZ e2 A_w_offset_a0 (by decide : own_in (0 : Int32) 3) (g := (mkF m 22 #[.val (.ref a0), .val (.ref a1), .val (.long w_startOffset_a0), .second, .val (.int (0 : Int32))] [(.int (0 : Int32)), (.ref w_offset_a0), (.long w_startOffset_a0)])) rfl rfl (hb hby d4_22) _ ?_
    show Steps p.tables e below (T2.setTop (mkF m 23 #[.val (.ref a0), .val (.ref a1), .val (.long w_startOffset_a0), .second, .val (.int (0 : Int32))] [(.long (g_w_offset_a0 0)), (.long w_startOffset_a0)])) _
    refine XS.aloadN X2.here hx rfl (hb hby d4_23) rfl rfl ?_
    show Steps p.tables e below (T2.setTop (mkF m 24 #[.val (.ref a0), .val (.ref a1), .val (.long w_startOffset_a0), .second, .val (.int (0 : Int32))] [(.ref a1), (.long (g_w_offset_a0 0)), (.long w_startOffset_a0)])) _
    refine XS.iload X2.here hx rfl (hb hby d4_24) rfl ?_
    show Steps p.tables e below (T2.setTop (mkF m 26 #[.val (.ref a0), .val (.ref a1), .val (.long w_startOffset_a0), .second, .val (.int (0 : Int32))] [(.int (0 : Int32)), (.ref a1), (.long (g_w_offset_a0 0)), (.long w_startOffset_a0)])) _
    refine AF.ldI X2 hx hZ e2 A_a1 (by decide : own_in (0 : Int32) 1) (g := (mkF m 26 #[.val (.ref a0), .val (.ref a1), .val (.long w_startOffset_a0), .second, .val (.int (0 : Int32))] [(.int (0 : Int32)), (.ref a1), (.long (g_w_offset_a0 0)), (.long w_startOffset_a0)])) rfl rfl (hb hby d4_26) _ ?_
    show Steps p.tables e below (T2.setTop (mkF m 27 #[.val (.ref a0), .val (.ref a1), .val (.long w_startOffset_a0), .second, .val (.int (0 : Int32))] [(.int (g_a1 0)), (.long (g_w_offset_a0 0)), (.long w_startOffset_a0)])) _
    refine XS.i2l X2.here hx rfl (hb hby d4_27) rfl ?_
    show Steps p.tables e below (T2.setTop (mkF m 28 #[.val (.ref a0), .val (.ref a1), .val (.long w_startOffset_a0), .second, .val (.int (0 : Int32))] [(.long ((g_a1 0).toInt64)), (.long (g_w_offset_a0 0)), (.long w_startOffset_a0)])) _
    refine XS.lmul X2.here hx rfl (hb hby d4_28) rfl ?_
    show Steps p.tables e below (T2.setTop (mkF m 29 #[.val (.ref a0), .val (.ref a1), .val (.long w_startOffset_a0), .second, .val (.int (0 : Int32))] [(.long ((g_w_offset_a0 0) * ((g_a1 0).toInt64))), (.long w_startOffset_a0)])) _
    refine XS.ladd X2.here hx rfl (hb hby d4_29) rfl ?_
    show Steps p.tables e below (T2.setTop (mkF m 30 #[.val (.ref a0), .val (.ref a1), .val (.long w_startOffset_a0), .second, .val (.int (0 : Int32))] [(.long (w_startOffset_a0 + ((g_w_offset_a0 0) * ((g_a1 0).toInt64))))])) _
    refine castTop (g' := (mkF m 30 #[.val (.ref a0), .val (.ref a1), .val (.long w_startOffset_a0), .second, .val (.int (0 : Int32))] [(.long v3)])) (by rw [hv3] <;> rfl) ?_
    show Steps p.tables e below (T2.setTop (mkF m 30 #[.val (.ref a0), .val (.ref a1), .val (.long w_startOffset_a0), .second, .val (.int (0 : Int32))] [(.long v3)])) _
    refine XS.lstoreN X2.here hx rfl (hb hby d4_30) rfl (l' := #[.val (.ref a0), .val (.ref a1), .val (.long v3), .second, .val (.int (0 : Int32))]) rfl ?_
    show Steps p.tables e below (T2.setTop (mkF m 31 #[.val (.ref a0), .val (.ref a1), .val (.long v3), .second, .val (.int (0 : Int32))] [])) _
    refine XS.iinc X2.here hx rfl (hb hby d4_31) rfl (l' := #[.val (.ref a0), .val (.ref a1), .val (.long v3), .second, .val (.int (1 : Int32))]) rfl ?_
    show Steps p.tables e below (T2.setTop (mkF m 34 #[.val (.ref a0), .val (.ref a1), .val (.long v3), .second, .val (.int (1 : Int32))] [])) _
    refine XS.goto X2.here hx rfl (pc0 := 34) (pc' := 8) rfl (hb hby d4_34) (by decide) (by decide) ?_
    show Steps p.tables e below (T2.setTop (mkF m 8 #[.val (.ref a0), .val (.ref a1), .val (.long v3), .second, .val (.int (1 : Int32))] [])) _
    refine XS.iload X2.here hx rfl (hb hby d4_8) rfl ?_
    show Steps p.tables e below (T2.setTop (mkF m 10 #[.val (.ref a0), .val (.ref a1), .val (.long v3), .second, .val (.int (1 : Int32))] [(.int (1 : Int32))])) _
    refine XS.aloadN X2.here hx rfl (hb hby d4_10) rfl rfl ?_
    show Steps p.tables e below (T2.setTop (mkF m 11 #[.val (.ref a0), .val (.ref a1), .val (.long v3), .second, .val (.int (1 : Int32))] [(.ref a1), (.int (1 : Int32))])) _
    refine AF.len X2 hx hZ e2 A_a1 (g := (mkF m 11 #[.val (.ref a0), .val (.ref a1), .val (.long v3), .second, .val (.int (1 : Int32))] [(.ref a1), (.int (1 : Int32))])) rfl rfl (hb hby d4_11) _ ?_
    show Steps p.tables e below (T2.setTop (mkF m 12 #[.val (.ref a0), .val (.ref a1), .val (.long v3), .second, .val (.int (1 : Int32))] [(.int (1 : Int32)), (.int (1 : Int32))])) _
    refine XS.icmpYes X2.here hx rfl (pc0 := 12) (pc' := 37) rfl (hb hby d4_12) rfl (flt (by decide)).2.1 (by decide) (by decide) ?_
    show Steps p.tables e below (T2.setTop (mkF m 37 #[.val (.ref a0), .val (.ref a1), .val (.long v3), .second, .val (.int (1 : Int32))] [])) _
    refine XS.lloadN X2.here hx rfl (hb hby d4_37) rfl ?_
    show Steps p.tables e below (T2.setTop (mkF m 38 #[.val (.ref a0), .val (.ref a1), .val (.long v3), .second, .val (.int (1 : Int32))] [(.long v3)])) _
    exact retOut X2 hx Bd.returns rfl (Or.inr (Or.inl ⟨rfl, rfl, _, rfl⟩)) (hb hby d4_38) hr
  · show Q4_1 Z a0 a1 w_offset_a0 w_weight_a0 w_startOffset_a0 w_startWeight_a0 g_a1 g_w_offset_a0 h0 n0 _ T2.heap _
    subst hv3
    exact ⟨rfl, N0, e2⟩
theorem ef_4_2 (m : MethodId) (a0 : Addr) (a1 : Addr) : entryFrame m #[(.ref a0), (.ref a1)] 5 = mkF m 0 #[.val (.ref a0), .val (.ref a1), .unset, .unset, .unset] [] := by first | (simp [entryFrame, mkF, argsToLocals, Value.category]; done) | rfl
def Q4_2 (Z : State) (a0 : Addr) (a1 : Addr) (w_offset_a0 : Addr) (w_weight_a0 : Value) (w_startOffset_a0 : Int64) (w_startWeight_a0 : Int64) (g_a1 : Nat → Int32) (g_w_offset_a0 : Nat → Int64) (h0 : Heap) (n0 : Nat) (v : Option Value) (h : Heap) (L : List Loc) : Prop := v = some (.long ((w_startOffset_a0 + ((g_w_offset_a0 0) * ((g_a1 0).toInt64))) + ((g_w_offset_a0 1) * ((g_a1 1).toInt64)))) ∧ Fr n0 L ∧ h = h0
set_option maxRecDepth 65536 in
set_option maxHeartbeats 40000000 in
theorem rm4_2 (l : Launch) (Z : State) (A0 : Array Value) (hw : ∀ d ∈ tables_1, d.before A0 Z = true) (ws : List Jvm.Cond) (a0 : Addr) (a1 : Addr) (w_offset_a0 : Addr) (w_weight_a0 : Value) (w_startOffset_a0 : Int64) (w_startWeight_a0 : Int64) (g_a1 : Nat → Int32) (g_w_offset_a0 : Nat → Int64) (h0 : Heap) (n0 : Nat) (Z0 : n0 ≤ h0.size) (E_a0 : Exa Z h0 a0 "com/example/paperloom/paperloom/CountSearch$Mean") (F_offset_a0 : Fld Z h0 a0 "com/example/paperloom/paperloom/CountSearch$Mean" "offset" "[J" (.ref w_offset_a0)) (F_weight_a0 : Fld Z h0 a0 "com/example/paperloom/paperloom/CountSearch$Mean" "weight" "[J" w_weight_a0) (F_startOffset_a0 : Fld Z h0 a0 "com/example/paperloom/paperloom/CountSearch$Mean" "startOffset" "J" (.long w_startOffset_a0)) (F_startWeight_a0 : Fld Z h0 a0 "com/example/paperloom/paperloom/CountSearch$Mean" "startWeight" "J" (.long w_startWeight_a0)) (A_a1 : AF Z h0 a1 .int 2 (fun j => .int (g_a1 j))) (A_w_offset_a0 : AF Z h0 w_offset_a0 .long 3 (fun j => .long (g_w_offset_a0 j))) :
    MetFree l (⟨"com/example/paperloom/paperloom/CountSearch$Mean", "offset", "([I)J"⟩ : MethodName) (head1 (Jvm.Cond.code (⟨"com/example/paperloom/paperloom/CountSearch$Mean", "offset", "([I)J"⟩ : MethodName) prog_8_method_6_code 5 (some .long) :: ws) ({ frames := 0, cells := 0, slots := 0, locals := 0 } : Room)) (fun a U => a = #[(.ref a0), (.ref a1)] ∧ Z.Warmed39 U.vm ∧ U.heap = h0) (fun _ _ _ _ _ => True) (fun _ U o U' => ∃ v L, o = .returned v ∧ Q4_2 Z a0 a1 w_offset_a0 w_weight_a0 w_startOffset_a0 w_startWeight_a0 g_a1 g_w_offset_a0 h0 n0 v U'.heap L ∧ FrameEnd U o U' L ({ frames := 0, cells := 0, slots := 0, locals := 0 } : Room).cells ({ frames := 0, cells := 0, slots := 0, locals := 0 } : Room).slots) := by
  refine MetFree.of_bodySF (plainFor_of_name pn_4) hisR ?_
  intro p e s m args below meth c s₁ Bd hml0 hP hK
  obtain ⟨rfl, hZ, hh⟩ := hP
  have hx := Bd.exec
  have hby := Bd.bytes
  have hml : c.maxLocals = 5 := hml0
  have hown : s.vm.findClass "com/example/paperloom/paperloom/CountSearch$Mean" = some m.cls := findClass_of_methodNamed Bd.named
  have hnm := (name_of_methodNamed Bd.named Bd.method).1
  have X0 : Stand p l e ({ frames := 0, cells := 0, slots := 0, locals := 0 } : Room) s m #[(.ref a0), (.ref a1)] below meth c s₁ [] 0 0 := Stand.of_body Bd
  have e0 : s₁.heap = h0 := by rw [← hh, Bd.state]; rfl
  have N0 := Fr.nil n0
  have pre0 : ∀ t, Steps p.tables e below (s₁.setTop (mkF m 0 #[.val (.ref a0), .val (.ref a1), .unset, .unset, .unset] [])) t → Steps p.tables e below (s₁.setTop (entryFrame m #[(.ref a0), (.ref a1)] 5)) t := fun t k => castTop (ef_4_2 m a0 a1) k
  obtain ⟨T1, X1, e1, st1⟩ := getF X0 hx hZ hown (host := "") (Or.inl (hw _ (List.mem_of_getElem? (i := 17) rfl))) Via.refl e0 F_startOffset_a0 (g := (mkF m 1 #[.val (.ref a0), .val (.ref a1), .unset, .unset, .unset] [(.ref a0)])) rfl rfl (hb hby d4_1)
  obtain ⟨T2, X2, e2, st2⟩ := getF X1 hx hZ hown (host := "") (Or.inl (hw _ (List.mem_of_getElem? (i := 13) rfl))) Via.refl e1 F_offset_a0 (g := (mkF m 17 #[.val (.ref a0), .val (.ref a1), .val (.long w_startOffset_a0), .second, .val (.int (0 : Int32))] [(.ref a0), (.long w_startOffset_a0)])) rfl rfl (hb hby d4_17)
  obtain ⟨v3, hv3⟩ : ∃ z : Int64, z = (w_startOffset_a0 + ((g_w_offset_a0 0) * ((g_a1 0).toInt64))) := ⟨_, rfl⟩
  obtain ⟨T4, X4, e4, st4⟩ := getF X2 hx hZ hown (host := "") (Or.inl (hw _ (List.mem_of_getElem? (i := 13) rfl))) Via.refl e2 F_offset_a0 (g := (mkF m 17 #[.val (.ref a0), .val (.ref a1), .val (.long v3), .second, .val (.int (1 : Int32))] [(.ref a0), (.long v3)])) rfl rfl (hb hby d4_17)
  obtain ⟨v5, hv5⟩ : ∃ z : Int64, z = (v3 + ((g_w_offset_a0 1) * ((g_a1 1).toInt64))) := ⟨_, rfl⟩
  obtain ⟨fs, hr, hrun, hended, hW, hsame⟩ := X4.leave (v := some (.long v5)) (fun h => by rw [Bd.returns] at h; cases h)
  refine ⟨_, _, pre0 _ ?_, hrun, hended, _, _, rfl, ?_, ⟨_, rfl⟩, hW, hsame.mono (by decide) (by decide)⟩
  · show Steps p.tables e below (s₁.setTop (mkF m 0 #[.val (.ref a0), .val (.ref a1), .unset, .unset, .unset] [])) _
    refine XS.aloadN X0.here hx rfl (hb hby d4_0) rfl rfl ?_
    show Steps p.tables e below (s₁.setTop (mkF m 1 #[.val (.ref a0), .val (.ref a1), .unset, .unset, .unset] [(.ref a0)])) _
    refine st1 _ ?_
    show Steps p.tables e below (T1.setTop (mkF m 4 #[.val (.ref a0), .val (.ref a1), .unset, .unset, .unset] [(.long w_startOffset_a0)])) _
    refine XS.lstoreN X1.here hx rfl (hb hby d4_4) rfl (l' := #[.val (.ref a0), .val (.ref a1), .val (.long w_startOffset_a0), .second, .unset]) rfl ?_
    show Steps p.tables e below (T1.setTop (mkF m 5 #[.val (.ref a0), .val (.ref a1), .val (.long w_startOffset_a0), .second, .unset] [])) _
    refine XS.iconst X1.here hx rfl (hb hby d4_5) ?_
    show Steps p.tables e below (T1.setTop (mkF m 6 #[.val (.ref a0), .val (.ref a1), .val (.long w_startOffset_a0), .second, .unset] [(.int (0 : Int32))])) _
    refine XS.istore X1.here hx rfl (hb hby d4_6) rfl (l' := #[.val (.ref a0), .val (.ref a1), .val (.long w_startOffset_a0), .second, .val (.int (0 : Int32))]) rfl ?_
    show Steps p.tables e below (T1.setTop (mkF m 8 #[.val (.ref a0), .val (.ref a1), .val (.long w_startOffset_a0), .second, .val (.int (0 : Int32))] [])) _
    refine XS.iload X1.here hx rfl (hb hby d4_8) rfl ?_
    show Steps p.tables e below (T1.setTop (mkF m 10 #[.val (.ref a0), .val (.ref a1), .val (.long w_startOffset_a0), .second, .val (.int (0 : Int32))] [(.int (0 : Int32))])) _
    refine XS.aloadN X1.here hx rfl (hb hby d4_10) rfl rfl ?_
    show Steps p.tables e below (T1.setTop (mkF m 11 #[.val (.ref a0), .val (.ref a1), .val (.long w_startOffset_a0), .second, .val (.int (0 : Int32))] [(.ref a1), (.int (0 : Int32))])) _
    refine AF.len X1 hx hZ e1 A_a1 (g := (mkF m 11 #[.val (.ref a0), .val (.ref a1), .val (.long w_startOffset_a0), .second, .val (.int (0 : Int32))] [(.ref a1), (.int (0 : Int32))])) rfl rfl (hb hby d4_11) _ ?_
    show Steps p.tables e below (T1.setTop (mkF m 12 #[.val (.ref a0), .val (.ref a1), .val (.long w_startOffset_a0), .second, .val (.int (0 : Int32))] [(.int (2 : Int32)), (.int (0 : Int32))])) _
    refine XS.icmpNo X1.here hx rfl (hb hby d4_12) rfl (tlt (by decide)).2.1 ?_
    show Steps p.tables e below (T1.setTop (mkF m 15 #[.val (.ref a0), .val (.ref a1), .val (.long w_startOffset_a0), .second, .val (.int (0 : Int32))] [])) _
    refine XS.lloadN X1.here hx rfl (hb hby d4_15) rfl ?_
    show Steps p.tables e below (T1.setTop (mkF m 16 #[.val (.ref a0), .val (.ref a1), .val (.long w_startOffset_a0), .second, .val (.int (0 : Int32))] [(.long w_startOffset_a0)])) _
    refine XS.aloadN X1.here hx rfl (hb hby d4_16) rfl rfl ?_
    show Steps p.tables e below (T1.setTop (mkF m 17 #[.val (.ref a0), .val (.ref a1), .val (.long w_startOffset_a0), .second, .val (.int (0 : Int32))] [(.ref a0), (.long w_startOffset_a0)])) _
    refine st2 _ ?_
    show Steps p.tables e below (T2.setTop (mkF m 20 #[.val (.ref a0), .val (.ref a1), .val (.long w_startOffset_a0), .second, .val (.int (0 : Int32))] [(.ref w_offset_a0), (.long w_startOffset_a0)])) _
    refine XS.iload X2.here hx rfl (hb hby d4_20) rfl ?_
    show Steps p.tables e below (T2.setTop (mkF m 22 #[.val (.ref a0), .val (.ref a1), .val (.long w_startOffset_a0), .second, .val (.int (0 : Int32))] [(.int (0 : Int32)), (.ref w_offset_a0), (.long w_startOffset_a0)])) _
    refine AF.ldJ X2 hx hZ e2 A_w_offset_a0 (by decide : own_in (0 : Int32) 3) (g := (mkF m 22 #[.val (.ref a0), .val (.ref a1), .val (.long w_startOffset_a0), .second, .val (.int (0 : Int32))] [(.int (0 : Int32)), (.ref w_offset_a0), (.long w_startOffset_a0)])) rfl rfl (hb hby d4_22) _ ?_
    show Steps p.tables e below (T2.setTop (mkF m 23 #[.val (.ref a0), .val (.ref a1), .val (.long w_startOffset_a0), .second, .val (.int (0 : Int32))] [(.long (g_w_offset_a0 0)), (.long w_startOffset_a0)])) _
    refine XS.aloadN X2.here hx rfl (hb hby d4_23) rfl rfl ?_
    show Steps p.tables e below (T2.setTop (mkF m 24 #[.val (.ref a0), .val (.ref a1), .val (.long w_startOffset_a0), .second, .val (.int (0 : Int32))] [(.ref a1), (.long (g_w_offset_a0 0)), (.long w_startOffset_a0)])) _
    refine XS.iload X2.here hx rfl (hb hby d4_24) rfl ?_
    show Steps p.tables e below (T2.setTop (mkF m 26 #[.val (.ref a0), .val (.ref a1), .val (.long w_startOffset_a0), .second, .val (.int (0 : Int32))] [(.int (0 : Int32)), (.ref a1), (.long (g_w_offset_a0 0)), (.long w_startOffset_a0)])) _
    refine AF.ldI X2 hx hZ e2 A_a1 (by decide : own_in (0 : Int32) 2) (g := (mkF m 26 #[.val (.ref a0), .val (.ref a1), .val (.long w_startOffset_a0), .second, .val (.int (0 : Int32))] [(.int (0 : Int32)), (.ref a1), (.long (g_w_offset_a0 0)), (.long w_startOffset_a0)])) rfl rfl (hb hby d4_26) _ ?_
    show Steps p.tables e below (T2.setTop (mkF m 27 #[.val (.ref a0), .val (.ref a1), .val (.long w_startOffset_a0), .second, .val (.int (0 : Int32))] [(.int (g_a1 0)), (.long (g_w_offset_a0 0)), (.long w_startOffset_a0)])) _
    refine XS.i2l X2.here hx rfl (hb hby d4_27) rfl ?_
    show Steps p.tables e below (T2.setTop (mkF m 28 #[.val (.ref a0), .val (.ref a1), .val (.long w_startOffset_a0), .second, .val (.int (0 : Int32))] [(.long ((g_a1 0).toInt64)), (.long (g_w_offset_a0 0)), (.long w_startOffset_a0)])) _
    refine XS.lmul X2.here hx rfl (hb hby d4_28) rfl ?_
    show Steps p.tables e below (T2.setTop (mkF m 29 #[.val (.ref a0), .val (.ref a1), .val (.long w_startOffset_a0), .second, .val (.int (0 : Int32))] [(.long ((g_w_offset_a0 0) * ((g_a1 0).toInt64))), (.long w_startOffset_a0)])) _
    refine XS.ladd X2.here hx rfl (hb hby d4_29) rfl ?_
    show Steps p.tables e below (T2.setTop (mkF m 30 #[.val (.ref a0), .val (.ref a1), .val (.long w_startOffset_a0), .second, .val (.int (0 : Int32))] [(.long (w_startOffset_a0 + ((g_w_offset_a0 0) * ((g_a1 0).toInt64))))])) _
    refine castTop (g' := (mkF m 30 #[.val (.ref a0), .val (.ref a1), .val (.long w_startOffset_a0), .second, .val (.int (0 : Int32))] [(.long v3)])) (by rw [hv3] <;> rfl) ?_
    show Steps p.tables e below (T2.setTop (mkF m 30 #[.val (.ref a0), .val (.ref a1), .val (.long w_startOffset_a0), .second, .val (.int (0 : Int32))] [(.long v3)])) _
    refine XS.lstoreN X2.here hx rfl (hb hby d4_30) rfl (l' := #[.val (.ref a0), .val (.ref a1), .val (.long v3), .second, .val (.int (0 : Int32))]) rfl ?_
    show Steps p.tables e below (T2.setTop (mkF m 31 #[.val (.ref a0), .val (.ref a1), .val (.long v3), .second, .val (.int (0 : Int32))] [])) _
    refine XS.iinc X2.here hx rfl (hb hby d4_31) rfl (l' := #[.val (.ref a0), .val (.ref a1), .val (.long v3), .second, .val (.int (1 : Int32))]) rfl ?_
    show Steps p.tables e below (T2.setTop (mkF m 34 #[.val (.ref a0), .val (.ref a1), .val (.long v3), .second, .val (.int (1 : Int32))] [])) _
    refine XS.goto X2.here hx rfl (pc0 := 34) (pc' := 8) rfl (hb hby d4_34) (by decide) (by decide) ?_
    show Steps p.tables e below (T2.setTop (mkF m 8 #[.val (.ref a0), .val (.ref a1), .val (.long v3), .second, .val (.int (1 : Int32))] [])) _
    refine XS.iload X2.here hx rfl (hb hby d4_8) rfl ?_
    show Steps p.tables e below (T2.setTop (mkF m 10 #[.val (.ref a0), .val (.ref a1), .val (.long v3), .second, .val (.int (1 : Int32))] [(.int (1 : Int32))])) _
    refine XS.aloadN X2.here hx rfl (hb hby d4_10) rfl rfl ?_
    show Steps p.tables e below (T2.setTop (mkF m 11 #[.val (.ref a0), .val (.ref a1), .val (.long v3), .second, .val (.int (1 : Int32))] [(.ref a1), (.int (1 : Int32))])) _
    refine AF.len X2 hx hZ e2 A_a1 (g := (mkF m 11 #[.val (.ref a0), .val (.ref a1), .val (.long v3), .second, .val (.int (1 : Int32))] [(.ref a1), (.int (1 : Int32))])) rfl rfl (hb hby d4_11) _ ?_
    show Steps p.tables e below (T2.setTop (mkF m 12 #[.val (.ref a0), .val (.ref a1), .val (.long v3), .second, .val (.int (1 : Int32))] [(.int (2 : Int32)), (.int (1 : Int32))])) _
    refine XS.icmpNo X2.here hx rfl (hb hby d4_12) rfl (tlt (by decide)).2.1 ?_
    show Steps p.tables e below (T2.setTop (mkF m 15 #[.val (.ref a0), .val (.ref a1), .val (.long v3), .second, .val (.int (1 : Int32))] [])) _
    refine XS.lloadN X2.here hx rfl (hb hby d4_15) rfl ?_
    show Steps p.tables e below (T2.setTop (mkF m 16 #[.val (.ref a0), .val (.ref a1), .val (.long v3), .second, .val (.int (1 : Int32))] [(.long v3)])) _
    refine XS.aloadN X2.here hx rfl (hb hby d4_16) rfl rfl ?_
    show Steps p.tables e below (T2.setTop (mkF m 17 #[.val (.ref a0), .val (.ref a1), .val (.long v3), .second, .val (.int (1 : Int32))] [(.ref a0), (.long v3)])) _
    refine st4 _ ?_
    show Steps p.tables e below (T4.setTop (mkF m 20 #[.val (.ref a0), .val (.ref a1), .val (.long v3), .second, .val (.int (1 : Int32))] [(.ref w_offset_a0), (.long v3)])) _
    refine XS.iload X4.here hx rfl (hb hby d4_20) rfl ?_
    show Steps p.tables e below (T4.setTop (mkF m 22 #[.val (.ref a0), .val (.ref a1), .val (.long v3), .second, .val (.int (1 : Int32))] [(.int (1 : Int32)), (.ref w_offset_a0), (.long v3)])) _
    refine AF.ldJ X4 hx hZ e4 A_w_offset_a0 (by decide : own_in (1 : Int32) 3) (g := (mkF m 22 #[.val (.ref a0), .val (.ref a1), .val (.long v3), .second, .val (.int (1 : Int32))] [(.int (1 : Int32)), (.ref w_offset_a0), (.long v3)])) rfl rfl (hb hby d4_22) _ ?_
    show Steps p.tables e below (T4.setTop (mkF m 23 #[.val (.ref a0), .val (.ref a1), .val (.long v3), .second, .val (.int (1 : Int32))] [(.long (g_w_offset_a0 1)), (.long v3)])) _
    refine XS.aloadN X4.here hx rfl (hb hby d4_23) rfl rfl ?_
    show Steps p.tables e below (T4.setTop (mkF m 24 #[.val (.ref a0), .val (.ref a1), .val (.long v3), .second, .val (.int (1 : Int32))] [(.ref a1), (.long (g_w_offset_a0 1)), (.long v3)])) _
    refine XS.iload X4.here hx rfl (hb hby d4_24) rfl ?_
    show Steps p.tables e below (T4.setTop (mkF m 26 #[.val (.ref a0), .val (.ref a1), .val (.long v3), .second, .val (.int (1 : Int32))] [(.int (1 : Int32)), (.ref a1), (.long (g_w_offset_a0 1)), (.long v3)])) _
    refine AF.ldI X4 hx hZ e4 A_a1 (by decide : own_in (1 : Int32) 2) (g := (mkF m 26 #[.val (.ref a0), .val (.ref a1), .val (.long v3), .second, .val (.int (1 : Int32))] [(.int (1 : Int32)), (.ref a1), (.long (g_w_offset_a0 1)), (.long v3)])) rfl rfl (hb hby d4_26) _ ?_
    show Steps p.tables e below (T4.setTop (mkF m 27 #[.val (.ref a0), .val (.ref a1), .val (.long v3), .second, .val (.int (1 : Int32))] [(.int (g_a1 1)), (.long (g_w_offset_a0 1)), (.long v3)])) _
    refine XS.i2l X4.here hx rfl (hb hby d4_27) rfl ?_
    show Steps p.tables e below (T4.setTop (mkF m 28 #[.val (.ref a0), .val (.ref a1), .val (.long v3), .second, .val (.int (1 : Int32))] [(.long ((g_a1 1).toInt64)), (.long (g_w_offset_a0 1)), (.long v3)])) _
    refine XS.lmul X4.here hx rfl (hb hby d4_28) rfl ?_
    show Steps p.tables e below (T4.setTop (mkF m 29 #[.val (.ref a0), .val (.ref a1), .val (.long v3), .second, .val (.int (1 : Int32))] [(.long ((g_w_offset_a0 1) * ((g_a1 1).toInt64))), (.long v3)])) _
    refine XS.ladd X4.here hx rfl (hb hby d4_29) rfl ?_
    show Steps p.tables e below (T4.setTop (mkF m 30 #[.val (.ref a0), .val (.ref a1), .val (.long v3), .second, .val (.int (1 : Int32))] [(.long (v3 + ((g_w_offset_a0 1) * ((g_a1 1).toInt64))))])) _
    refine castTop (g' := (mkF m 30 #[.val (.ref a0), .val (.ref a1), .val (.long v3), .second, .val (.int (1 : Int32))] [(.long v5)])) (by rw [hv5] <;> rfl) ?_
    show Steps p.tables e below (T4.setTop (mkF m 30 #[.val (.ref a0), .val (.ref a1), .val (.long v3), .second, .val (.int (1 : Int32))] [(.long v5)])) _
    refine XS.lstoreN X4.here hx rfl (hb hby d4_30) rfl (l' := #[.val (.ref a0), .val (.ref a1), .val (.long v5), .second, .val (.int (1 : Int32))]) rfl ?_
    show Steps p.tables e below (T4.setTop (mkF m 31 #[.val (.ref a0), .val (.ref a1), .val (.long v5), .second, .val (.int (1 : Int32))] [])) _
    refine XS.iinc X4.here hx rfl (hb hby d4_31) rfl (l' := #[.val (.ref a0), .val (.ref a1), .val (.long v5), .second, .val (.int (2 : Int32))]) rfl ?_
    show Steps p.tables e below (T4.setTop (mkF m 34 #[.val (.ref a0), .val (.ref a1), .val (.long v5), .second, .val (.int (2 : Int32))] [])) _
    refine XS.goto X4.here hx rfl (pc0 := 34) (pc' := 8) rfl (hb hby d4_34) (by decide) (by decide) ?_
    show Steps p.tables e below (T4.setTop (mkF m 8 #[.val (.ref a0), .val (.ref a1), .val (.long v5), .second, .val (.int (2 : Int32))] [])) _
    refine XS.iload X4.here hx rfl (hb hby d4_8) rfl ?_
    show Steps p.tables e below (T4.setTop (mkF m 10 #[.val (.ref a0), .val (.ref a1), .val (.long v5), .second, .val (.int (2 : Int32))] [(.int (2 : Int32))])) _
    refine XS.aloadN X4.here hx rfl (hb hby d4_10) rfl rfl ?_
    show Steps p.tables e below (T4.setTop (mkF m 11 #[.val (.ref a0), .val (.ref a1), .val (.long v5), .second, .val (.int (2 : Int32))] [(.ref a1), (.int (2 : Int32))])) _
    refine AF.len X4 hx hZ e4 A_a1 (g := (mkF m 11 #[.val (.ref a0), .val (.ref a1), .val (.long v5), .second, .val (.int (2 : Int32))] [(.ref a1), (.int (2 : Int32))])) rfl rfl (hb hby d4_11) _ ?_
    show Steps p.tables e below (T4.setTop (mkF m 12 #[.val (.ref a0), .val (.ref a1), .val (.long v5), .second, .val (.int (2 : Int32))] [(.int (2 : Int32)), (.int (2 : Int32))])) _
    refine XS.icmpYes X4.here hx rfl (pc0 := 12) (pc' := 37) rfl (hb hby d4_12) rfl (flt (by decide)).2.1 (by decide) (by decide) ?_
    show Steps p.tables e below (T4.setTop (mkF m 37 #[.val (.ref a0), .val (.ref a1), .val (.long v5), .second, .val (.int (2 : Int32))] [])) _
    refine XS.lloadN X4.here hx rfl (hb hby d4_37) rfl ?_
    show Steps p.tables e below (T4.setTop (mkF m 38 #[.val (.ref a0), .val (.ref a1), .val (.long v5), .second, .val (.int (2 : Int32))] [(.long v5)])) _
    exact retOut X4 hx Bd.returns rfl (Or.inr (Or.inl ⟨rfl, rfl, _, rfl⟩)) (hb hby d4_38) hr
  · show Q4_2 Z a0 a1 w_offset_a0 w_weight_a0 w_startOffset_a0 w_startWeight_a0 g_a1 g_w_offset_a0 h0 n0 _ T4.heap _
    subst hv3 hv5
    exact ⟨rfl, N0, e4⟩
theorem ef_4_3 (m : MethodId) (a0 : Addr) (a1 : Addr) : entryFrame m #[(.ref a0), (.ref a1)] 5 = mkF m 0 #[.val (.ref a0), .val (.ref a1), .unset, .unset, .unset] [] := by first | (simp [entryFrame, mkF, argsToLocals, Value.category]; done) | rfl
def Q4_3 (Z : State) (a0 : Addr) (a1 : Addr) (w_offset_a0 : Addr) (w_weight_a0 : Value) (w_startOffset_a0 : Int64) (w_startWeight_a0 : Int64) (g_a1 : Nat → Int32) (g_w_offset_a0 : Nat → Int64) (h0 : Heap) (n0 : Nat) (v : Option Value) (h : Heap) (L : List Loc) : Prop := v = some (.long (((w_startOffset_a0 + ((g_w_offset_a0 0) * ((g_a1 0).toInt64))) + ((g_w_offset_a0 1) * ((g_a1 1).toInt64))) + ((g_w_offset_a0 2) * ((g_a1 2).toInt64)))) ∧ Fr n0 L ∧ h = h0
set_option maxRecDepth 65536 in
set_option maxHeartbeats 40000000 in
theorem rm4_3 (l : Launch) (Z : State) (A0 : Array Value) (hw : ∀ d ∈ tables_1, d.before A0 Z = true) (ws : List Jvm.Cond) (a0 : Addr) (a1 : Addr) (w_offset_a0 : Addr) (w_weight_a0 : Value) (w_startOffset_a0 : Int64) (w_startWeight_a0 : Int64) (g_a1 : Nat → Int32) (g_w_offset_a0 : Nat → Int64) (h0 : Heap) (n0 : Nat) (Z0 : n0 ≤ h0.size) (E_a0 : Exa Z h0 a0 "com/example/paperloom/paperloom/CountSearch$Mean") (F_offset_a0 : Fld Z h0 a0 "com/example/paperloom/paperloom/CountSearch$Mean" "offset" "[J" (.ref w_offset_a0)) (F_weight_a0 : Fld Z h0 a0 "com/example/paperloom/paperloom/CountSearch$Mean" "weight" "[J" w_weight_a0) (F_startOffset_a0 : Fld Z h0 a0 "com/example/paperloom/paperloom/CountSearch$Mean" "startOffset" "J" (.long w_startOffset_a0)) (F_startWeight_a0 : Fld Z h0 a0 "com/example/paperloom/paperloom/CountSearch$Mean" "startWeight" "J" (.long w_startWeight_a0)) (A_a1 : AF Z h0 a1 .int 3 (fun j => .int (g_a1 j))) (A_w_offset_a0 : AF Z h0 w_offset_a0 .long 3 (fun j => .long (g_w_offset_a0 j))) :
    MetFree l (⟨"com/example/paperloom/paperloom/CountSearch$Mean", "offset", "([I)J"⟩ : MethodName) (head1 (Jvm.Cond.code (⟨"com/example/paperloom/paperloom/CountSearch$Mean", "offset", "([I)J"⟩ : MethodName) prog_8_method_6_code 5 (some .long) :: ws) ({ frames := 0, cells := 0, slots := 0, locals := 0 } : Room)) (fun a U => a = #[(.ref a0), (.ref a1)] ∧ Z.Warmed39 U.vm ∧ U.heap = h0) (fun _ _ _ _ _ => True) (fun _ U o U' => ∃ v L, o = .returned v ∧ Q4_3 Z a0 a1 w_offset_a0 w_weight_a0 w_startOffset_a0 w_startWeight_a0 g_a1 g_w_offset_a0 h0 n0 v U'.heap L ∧ FrameEnd U o U' L ({ frames := 0, cells := 0, slots := 0, locals := 0 } : Room).cells ({ frames := 0, cells := 0, slots := 0, locals := 0 } : Room).slots) := by
  refine MetFree.of_bodySF (plainFor_of_name pn_4) hisR ?_
  intro p e s m args below meth c s₁ Bd hml0 hP hK
  obtain ⟨rfl, hZ, hh⟩ := hP
  have hx := Bd.exec
  have hby := Bd.bytes
  have hml : c.maxLocals = 5 := hml0
  have hown : s.vm.findClass "com/example/paperloom/paperloom/CountSearch$Mean" = some m.cls := findClass_of_methodNamed Bd.named
  have hnm := (name_of_methodNamed Bd.named Bd.method).1
  have X0 : Stand p l e ({ frames := 0, cells := 0, slots := 0, locals := 0 } : Room) s m #[(.ref a0), (.ref a1)] below meth c s₁ [] 0 0 := Stand.of_body Bd
  have e0 : s₁.heap = h0 := by rw [← hh, Bd.state]; rfl
  have N0 := Fr.nil n0
  have pre0 : ∀ t, Steps p.tables e below (s₁.setTop (mkF m 0 #[.val (.ref a0), .val (.ref a1), .unset, .unset, .unset] [])) t → Steps p.tables e below (s₁.setTop (entryFrame m #[(.ref a0), (.ref a1)] 5)) t := fun t k => castTop (ef_4_3 m a0 a1) k
  obtain ⟨T1, X1, e1, st1⟩ := getF X0 hx hZ hown (host := "") (Or.inl (hw _ (List.mem_of_getElem? (i := 17) rfl))) Via.refl e0 F_startOffset_a0 (g := (mkF m 1 #[.val (.ref a0), .val (.ref a1), .unset, .unset, .unset] [(.ref a0)])) rfl rfl (hb hby d4_1)
  obtain ⟨T2, X2, e2, st2⟩ := getF X1 hx hZ hown (host := "") (Or.inl (hw _ (List.mem_of_getElem? (i := 13) rfl))) Via.refl e1 F_offset_a0 (g := (mkF m 17 #[.val (.ref a0), .val (.ref a1), .val (.long w_startOffset_a0), .second, .val (.int (0 : Int32))] [(.ref a0), (.long w_startOffset_a0)])) rfl rfl (hb hby d4_17)
  obtain ⟨v3, hv3⟩ : ∃ z : Int64, z = (w_startOffset_a0 + ((g_w_offset_a0 0) * ((g_a1 0).toInt64))) := ⟨_, rfl⟩
  obtain ⟨T4, X4, e4, st4⟩ := getF X2 hx hZ hown (host := "") (Or.inl (hw _ (List.mem_of_getElem? (i := 13) rfl))) Via.refl e2 F_offset_a0 (g := (mkF m 17 #[.val (.ref a0), .val (.ref a1), .val (.long v3), .second, .val (.int (1 : Int32))] [(.ref a0), (.long v3)])) rfl rfl (hb hby d4_17)
  obtain ⟨v5, hv5⟩ : ∃ z : Int64, z = (v3 + ((g_w_offset_a0 1) * ((g_a1 1).toInt64))) := ⟨_, rfl⟩
  obtain ⟨T6, X6, e6, st6⟩ := getF X4 hx hZ hown (host := "") (Or.inl (hw _ (List.mem_of_getElem? (i := 13) rfl))) Via.refl e4 F_offset_a0 (g := (mkF m 17 #[.val (.ref a0), .val (.ref a1), .val (.long v5), .second, .val (.int (2 : Int32))] [(.ref a0), (.long v5)])) rfl rfl (hb hby d4_17)
  obtain ⟨v7, hv7⟩ : ∃ z : Int64, z = (v5 + ((g_w_offset_a0 2) * ((g_a1 2).toInt64))) := ⟨_, rfl⟩
  obtain ⟨fs, hr, hrun, hended, hW, hsame⟩ := X6.leave (v := some (.long v7)) (fun h => by rw [Bd.returns] at h; cases h)
  refine ⟨_, _, pre0 _ ?_, hrun, hended, _, _, rfl, ?_, ⟨_, rfl⟩, hW, hsame.mono (by decide) (by decide)⟩
  · show Steps p.tables e below (s₁.setTop (mkF m 0 #[.val (.ref a0), .val (.ref a1), .unset, .unset, .unset] [])) _
    refine XS.aloadN X0.here hx rfl (hb hby d4_0) rfl rfl ?_
    show Steps p.tables e below (s₁.setTop (mkF m 1 #[.val (.ref a0), .val (.ref a1), .unset, .unset, .unset] [(.ref a0)])) _
    refine st1 _ ?_
    show Steps p.tables e below (T1.setTop (mkF m 4 #[.val (.ref a0), .val (.ref a1), .unset, .unset, .unset] [(.long w_startOffset_a0)])) _
    refine XS.lstoreN X1.here hx rfl (hb hby d4_4) rfl (l' := #[.val (.ref a0), .val (.ref a1), .val (.long w_startOffset_a0), .second, .unset]) rfl ?_
    show Steps p.tables e below (T1.setTop (mkF m 5 #[.val (.ref a0), .val (.ref a1), .val (.long w_startOffset_a0), .second, .unset] [])) _
    refine XS.iconst X1.here hx rfl (hb hby d4_5) ?_
    show Steps p.tables e below (T1.setTop (mkF m 6 #[.val (.ref a0), .val (.ref a1), .val (.long w_startOffset_a0), .second, .unset] [(.int (0 : Int32))])) _
    refine XS.istore X1.here hx rfl (hb hby d4_6) rfl (l' := #[.val (.ref a0), .val (.ref a1), .val (.long w_startOffset_a0), .second, .val (.int (0 : Int32))]) rfl ?_
    show Steps p.tables e below (T1.setTop (mkF m 8 #[.val (.ref a0), .val (.ref a1), .val (.long w_startOffset_a0), .second, .val (.int (0 : Int32))] [])) _
    refine XS.iload X1.here hx rfl (hb hby d4_8) rfl ?_
    show Steps p.tables e below (T1.setTop (mkF m 10 #[.val (.ref a0), .val (.ref a1), .val (.long w_startOffset_a0), .second, .val (.int (0 : Int32))] [(.int (0 : Int32))])) _
    refine XS.aloadN X1.here hx rfl (hb hby d4_10) rfl rfl ?_
    show Steps p.tables e below (T1.setTop (mkF m 11 #[.val (.ref a0), .val (.ref a1), .val (.long w_startOffset_a0), .second, .val (.int (0 : Int32))] [(.ref a1), (.int (0 : Int32))])) _
    refine AF.len X1 hx hZ e1 A_a1 (g := (mkF m 11 #[.val (.ref a0), .val (.ref a1), .val (.long w_startOffset_a0), .second, .val (.int (0 : Int32))] [(.ref a1), (.int (0 : Int32))])) rfl rfl (hb hby d4_11) _ ?_
    show Steps p.tables e below (T1.setTop (mkF m 12 #[.val (.ref a0), .val (.ref a1), .val (.long w_startOffset_a0), .second, .val (.int (0 : Int32))] [(.int (3 : Int32)), (.int (0 : Int32))])) _
    refine XS.icmpNo X1.here hx rfl (hb hby d4_12) rfl (tlt (by decide)).2.1 ?_
    show Steps p.tables e below (T1.setTop (mkF m 15 #[.val (.ref a0), .val (.ref a1), .val (.long w_startOffset_a0), .second, .val (.int (0 : Int32))] [])) _
    refine XS.lloadN X1.here hx rfl (hb hby d4_15) rfl ?_
    show Steps p.tables e below (T1.setTop (mkF m 16 #[.val (.ref a0), .val (.ref a1), .val (.long w_startOffset_a0), .second, .val (.int (0 : Int32))] [(.long w_startOffset_a0)])) _
    refine XS.aloadN X1.here hx rfl (hb hby d4_16) rfl rfl ?_
    show Steps p.tables e below (T1.setTop (mkF m 17 #[.val (.ref a0), .val (.ref a1), .val (.long w_startOffset_a0), .second, .val (.int (0 : Int32))] [(.ref a0), (.long w_startOffset_a0)])) _
    refine st2 _ ?_
    show Steps p.tables e below (T2.setTop (mkF m 20 #[.val (.ref a0), .val (.ref a1), .val (.long w_startOffset_a0), .second, .val (.int (0 : Int32))] [(.ref w_offset_a0), (.long w_startOffset_a0)])) _
    refine XS.iload X2.here hx rfl (hb hby d4_20) rfl ?_
    show Steps p.tables e below (T2.setTop (mkF m 22 #[.val (.ref a0), .val (.ref a1), .val (.long w_startOffset_a0), .second, .val (.int (0 : Int32))] [(.int (0 : Int32)), (.ref w_offset_a0), (.long w_startOffset_a0)])) _
    refine AF.ldJ X2 hx hZ e2 A_w_offset_a0 (by decide : own_in (0 : Int32) 3) (g := (mkF m 22 #[.val (.ref a0), .val (.ref a1), .val (.long w_startOffset_a0), .second, .val (.int (0 : Int32))] [(.int (0 : Int32)), (.ref w_offset_a0), (.long w_startOffset_a0)])) rfl rfl (hb hby d4_22) _ ?_
    show Steps p.tables e below (T2.setTop (mkF m 23 #[.val (.ref a0), .val (.ref a1), .val (.long w_startOffset_a0), .second, .val (.int (0 : Int32))] [(.long (g_w_offset_a0 0)), (.long w_startOffset_a0)])) _
    refine XS.aloadN X2.here hx rfl (hb hby d4_23) rfl rfl ?_
    show Steps p.tables e below (T2.setTop (mkF m 24 #[.val (.ref a0), .val (.ref a1), .val (.long w_startOffset_a0), .second, .val (.int (0 : Int32))] [(.ref a1), (.long (g_w_offset_a0 0)), (.long w_startOffset_a0)])) _
    refine XS.iload X2.here hx rfl (hb hby d4_24) rfl ?_
    show Steps p.tables e below (T2.setTop (mkF m 26 #[.val (.ref a0), .val (.ref a1), .val (.long w_startOffset_a0), .second, .val (.int (0 : Int32))] [(.int (0 : Int32)), (.ref a1), (.long (g_w_offset_a0 0)), (.long w_startOffset_a0)])) _
    refine AF.ldI X2 hx hZ e2 A_a1 (by decide : own_in (0 : Int32) 3) (g := (mkF m 26 #[.val (.ref a0), .val (.ref a1), .val (.long w_startOffset_a0), .second, .val (.int (0 : Int32))] [(.int (0 : Int32)), (.ref a1), (.long (g_w_offset_a0 0)), (.long w_startOffset_a0)])) rfl rfl (hb hby d4_26) _ ?_
    show Steps p.tables e below (T2.setTop (mkF m 27 #[.val (.ref a0), .val (.ref a1), .val (.long w_startOffset_a0), .second, .val (.int (0 : Int32))] [(.int (g_a1 0)), (.long (g_w_offset_a0 0)), (.long w_startOffset_a0)])) _
    refine XS.i2l X2.here hx rfl (hb hby d4_27) rfl ?_
    show Steps p.tables e below (T2.setTop (mkF m 28 #[.val (.ref a0), .val (.ref a1), .val (.long w_startOffset_a0), .second, .val (.int (0 : Int32))] [(.long ((g_a1 0).toInt64)), (.long (g_w_offset_a0 0)), (.long w_startOffset_a0)])) _
    refine XS.lmul X2.here hx rfl (hb hby d4_28) rfl ?_
    show Steps p.tables e below (T2.setTop (mkF m 29 #[.val (.ref a0), .val (.ref a1), .val (.long w_startOffset_a0), .second, .val (.int (0 : Int32))] [(.long ((g_w_offset_a0 0) * ((g_a1 0).toInt64))), (.long w_startOffset_a0)])) _
    refine XS.ladd X2.here hx rfl (hb hby d4_29) rfl ?_
    show Steps p.tables e below (T2.setTop (mkF m 30 #[.val (.ref a0), .val (.ref a1), .val (.long w_startOffset_a0), .second, .val (.int (0 : Int32))] [(.long (w_startOffset_a0 + ((g_w_offset_a0 0) * ((g_a1 0).toInt64))))])) _
    refine castTop (g' := (mkF m 30 #[.val (.ref a0), .val (.ref a1), .val (.long w_startOffset_a0), .second, .val (.int (0 : Int32))] [(.long v3)])) (by rw [hv3] <;> rfl) ?_
    show Steps p.tables e below (T2.setTop (mkF m 30 #[.val (.ref a0), .val (.ref a1), .val (.long w_startOffset_a0), .second, .val (.int (0 : Int32))] [(.long v3)])) _
    refine XS.lstoreN X2.here hx rfl (hb hby d4_30) rfl (l' := #[.val (.ref a0), .val (.ref a1), .val (.long v3), .second, .val (.int (0 : Int32))]) rfl ?_
    show Steps p.tables e below (T2.setTop (mkF m 31 #[.val (.ref a0), .val (.ref a1), .val (.long v3), .second, .val (.int (0 : Int32))] [])) _
    refine XS.iinc X2.here hx rfl (hb hby d4_31) rfl (l' := #[.val (.ref a0), .val (.ref a1), .val (.long v3), .second, .val (.int (1 : Int32))]) rfl ?_
    show Steps p.tables e below (T2.setTop (mkF m 34 #[.val (.ref a0), .val (.ref a1), .val (.long v3), .second, .val (.int (1 : Int32))] [])) _
    refine XS.goto X2.here hx rfl (pc0 := 34) (pc' := 8) rfl (hb hby d4_34) (by decide) (by decide) ?_
    show Steps p.tables e below (T2.setTop (mkF m 8 #[.val (.ref a0), .val (.ref a1), .val (.long v3), .second, .val (.int (1 : Int32))] [])) _
    refine XS.iload X2.here hx rfl (hb hby d4_8) rfl ?_
    show Steps p.tables e below (T2.setTop (mkF m 10 #[.val (.ref a0), .val (.ref a1), .val (.long v3), .second, .val (.int (1 : Int32))] [(.int (1 : Int32))])) _
    refine XS.aloadN X2.here hx rfl (hb hby d4_10) rfl rfl ?_
    show Steps p.tables e below (T2.setTop (mkF m 11 #[.val (.ref a0), .val (.ref a1), .val (.long v3), .second, .val (.int (1 : Int32))] [(.ref a1), (.int (1 : Int32))])) _
    refine AF.len X2 hx hZ e2 A_a1 (g := (mkF m 11 #[.val (.ref a0), .val (.ref a1), .val (.long v3), .second, .val (.int (1 : Int32))] [(.ref a1), (.int (1 : Int32))])) rfl rfl (hb hby d4_11) _ ?_
    show Steps p.tables e below (T2.setTop (mkF m 12 #[.val (.ref a0), .val (.ref a1), .val (.long v3), .second, .val (.int (1 : Int32))] [(.int (3 : Int32)), (.int (1 : Int32))])) _
    refine XS.icmpNo X2.here hx rfl (hb hby d4_12) rfl (tlt (by decide)).2.1 ?_
    show Steps p.tables e below (T2.setTop (mkF m 15 #[.val (.ref a0), .val (.ref a1), .val (.long v3), .second, .val (.int (1 : Int32))] [])) _
    refine XS.lloadN X2.here hx rfl (hb hby d4_15) rfl ?_
    show Steps p.tables e below (T2.setTop (mkF m 16 #[.val (.ref a0), .val (.ref a1), .val (.long v3), .second, .val (.int (1 : Int32))] [(.long v3)])) _
    refine XS.aloadN X2.here hx rfl (hb hby d4_16) rfl rfl ?_
    show Steps p.tables e below (T2.setTop (mkF m 17 #[.val (.ref a0), .val (.ref a1), .val (.long v3), .second, .val (.int (1 : Int32))] [(.ref a0), (.long v3)])) _
    refine st4 _ ?_
    show Steps p.tables e below (T4.setTop (mkF m 20 #[.val (.ref a0), .val (.ref a1), .val (.long v3), .second, .val (.int (1 : Int32))] [(.ref w_offset_a0), (.long v3)])) _
    refine XS.iload X4.here hx rfl (hb hby d4_20) rfl ?_
    show Steps p.tables e below (T4.setTop (mkF m 22 #[.val (.ref a0), .val (.ref a1), .val (.long v3), .second, .val (.int (1 : Int32))] [(.int (1 : Int32)), (.ref w_offset_a0), (.long v3)])) _
    refine AF.ldJ X4 hx hZ e4 A_w_offset_a0 (by decide : own_in (1 : Int32) 3) (g := (mkF m 22 #[.val (.ref a0), .val (.ref a1), .val (.long v3), .second, .val (.int (1 : Int32))] [(.int (1 : Int32)), (.ref w_offset_a0), (.long v3)])) rfl rfl (hb hby d4_22) _ ?_
    show Steps p.tables e below (T4.setTop (mkF m 23 #[.val (.ref a0), .val (.ref a1), .val (.long v3), .second, .val (.int (1 : Int32))] [(.long (g_w_offset_a0 1)), (.long v3)])) _
    refine XS.aloadN X4.here hx rfl (hb hby d4_23) rfl rfl ?_
    show Steps p.tables e below (T4.setTop (mkF m 24 #[.val (.ref a0), .val (.ref a1), .val (.long v3), .second, .val (.int (1 : Int32))] [(.ref a1), (.long (g_w_offset_a0 1)), (.long v3)])) _
    refine XS.iload X4.here hx rfl (hb hby d4_24) rfl ?_
    show Steps p.tables e below (T4.setTop (mkF m 26 #[.val (.ref a0), .val (.ref a1), .val (.long v3), .second, .val (.int (1 : Int32))] [(.int (1 : Int32)), (.ref a1), (.long (g_w_offset_a0 1)), (.long v3)])) _
    refine AF.ldI X4 hx hZ e4 A_a1 (by decide : own_in (1 : Int32) 3) (g := (mkF m 26 #[.val (.ref a0), .val (.ref a1), .val (.long v3), .second, .val (.int (1 : Int32))] [(.int (1 : Int32)), (.ref a1), (.long (g_w_offset_a0 1)), (.long v3)])) rfl rfl (hb hby d4_26) _ ?_
    show Steps p.tables e below (T4.setTop (mkF m 27 #[.val (.ref a0), .val (.ref a1), .val (.long v3), .second, .val (.int (1 : Int32))] [(.int (g_a1 1)), (.long (g_w_offset_a0 1)), (.long v3)])) _
    refine XS.i2l X4.here hx rfl (hb hby d4_27) rfl ?_
    show Steps p.tables e below (T4.setTop (mkF m 28 #[.val (.ref a0), .val (.ref a1), .val (.long v3), .second, .val (.int (1 : Int32))] [(.long ((g_a1 1).toInt64)), (.long (g_w_offset_a0 1)), (.long v3)])) _
    refine XS.lmul X4.here hx rfl (hb hby d4_28) rfl ?_
    show Steps p.tables e below (T4.setTop (mkF m 29 #[.val (.ref a0), .val (.ref a1), .val (.long v3), .second, .val (.int (1 : Int32))] [(.long ((g_w_offset_a0 1) * ((g_a1 1).toInt64))), (.long v3)])) _
    refine XS.ladd X4.here hx rfl (hb hby d4_29) rfl ?_
    show Steps p.tables e below (T4.setTop (mkF m 30 #[.val (.ref a0), .val (.ref a1), .val (.long v3), .second, .val (.int (1 : Int32))] [(.long (v3 + ((g_w_offset_a0 1) * ((g_a1 1).toInt64))))])) _
    refine castTop (g' := (mkF m 30 #[.val (.ref a0), .val (.ref a1), .val (.long v3), .second, .val (.int (1 : Int32))] [(.long v5)])) (by rw [hv5] <;> rfl) ?_
    show Steps p.tables e below (T4.setTop (mkF m 30 #[.val (.ref a0), .val (.ref a1), .val (.long v3), .second, .val (.int (1 : Int32))] [(.long v5)])) _
    refine XS.lstoreN X4.here hx rfl (hb hby d4_30) rfl (l' := #[.val (.ref a0), .val (.ref a1), .val (.long v5), .second, .val (.int (1 : Int32))]) rfl ?_
    show Steps p.tables e below (T4.setTop (mkF m 31 #[.val (.ref a0), .val (.ref a1), .val (.long v5), .second, .val (.int (1 : Int32))] [])) _
    refine XS.iinc X4.here hx rfl (hb hby d4_31) rfl (l' := #[.val (.ref a0), .val (.ref a1), .val (.long v5), .second, .val (.int (2 : Int32))]) rfl ?_
    show Steps p.tables e below (T4.setTop (mkF m 34 #[.val (.ref a0), .val (.ref a1), .val (.long v5), .second, .val (.int (2 : Int32))] [])) _
    refine XS.goto X4.here hx rfl (pc0 := 34) (pc' := 8) rfl (hb hby d4_34) (by decide) (by decide) ?_
    show Steps p.tables e below (T4.setTop (mkF m 8 #[.val (.ref a0), .val (.ref a1), .val (.long v5), .second, .val (.int (2 : Int32))] [])) _
    refine XS.iload X4.here hx rfl (hb hby d4_8) rfl ?_
    show Steps p.tables e below (T4.setTop (mkF m 10 #[.val (.ref a0), .val (.ref a1), .val (.long v5), .second, .val (.int (2 : Int32))] [(.int (2 : Int32))])) _
    refine XS.aloadN X4.here hx rfl (hb hby d4_10) rfl rfl ?_
    show Steps p.tables e below (T4.setTop (mkF m 11 #[.val (.ref a0), .val (.ref a1), .val (.long v5), .second, .val (.int (2 : Int32))] [(.ref a1), (.int (2 : Int32))])) _
    refine AF.len X4 hx hZ e4 A_a1 (g := (mkF m 11 #[.val (.ref a0), .val (.ref a1), .val (.long v5), .second, .val (.int (2 : Int32))] [(.ref a1), (.int (2 : Int32))])) rfl rfl (hb hby d4_11) _ ?_
    show Steps p.tables e below (T4.setTop (mkF m 12 #[.val (.ref a0), .val (.ref a1), .val (.long v5), .second, .val (.int (2 : Int32))] [(.int (3 : Int32)), (.int (2 : Int32))])) _
    refine XS.icmpNo X4.here hx rfl (hb hby d4_12) rfl (tlt (by decide)).2.1 ?_
    show Steps p.tables e below (T4.setTop (mkF m 15 #[.val (.ref a0), .val (.ref a1), .val (.long v5), .second, .val (.int (2 : Int32))] [])) _
    refine XS.lloadN X4.here hx rfl (hb hby d4_15) rfl ?_
    show Steps p.tables e below (T4.setTop (mkF m 16 #[.val (.ref a0), .val (.ref a1), .val (.long v5), .second, .val (.int (2 : Int32))] [(.long v5)])) _
    refine XS.aloadN X4.here hx rfl (hb hby d4_16) rfl rfl ?_
    show Steps p.tables e below (T4.setTop (mkF m 17 #[.val (.ref a0), .val (.ref a1), .val (.long v5), .second, .val (.int (2 : Int32))] [(.ref a0), (.long v5)])) _
    refine st6 _ ?_
    show Steps p.tables e below (T6.setTop (mkF m 20 #[.val (.ref a0), .val (.ref a1), .val (.long v5), .second, .val (.int (2 : Int32))] [(.ref w_offset_a0), (.long v5)])) _
    refine XS.iload X6.here hx rfl (hb hby d4_20) rfl ?_
    show Steps p.tables e below (T6.setTop (mkF m 22 #[.val (.ref a0), .val (.ref a1), .val (.long v5), .second, .val (.int (2 : Int32))] [(.int (2 : Int32)), (.ref w_offset_a0), (.long v5)])) _
    refine AF.ldJ X6 hx hZ e6 A_w_offset_a0 (by decide : own_in (2 : Int32) 3) (g := (mkF m 22 #[.val (.ref a0), .val (.ref a1), .val (.long v5), .second, .val (.int (2 : Int32))] [(.int (2 : Int32)), (.ref w_offset_a0), (.long v5)])) rfl rfl (hb hby d4_22) _ ?_
    show Steps p.tables e below (T6.setTop (mkF m 23 #[.val (.ref a0), .val (.ref a1), .val (.long v5), .second, .val (.int (2 : Int32))] [(.long (g_w_offset_a0 2)), (.long v5)])) _
    refine XS.aloadN X6.here hx rfl (hb hby d4_23) rfl rfl ?_
    show Steps p.tables e below (T6.setTop (mkF m 24 #[.val (.ref a0), .val (.ref a1), .val (.long v5), .second, .val (.int (2 : Int32))] [(.ref a1), (.long (g_w_offset_a0 2)), (.long v5)])) _
    refine XS.iload X6.here hx rfl (hb hby d4_24) rfl ?_
    show Steps p.tables e below (T6.setTop (mkF m 26 #[.val (.ref a0), .val (.ref a1), .val (.long v5), .second, .val (.int (2 : Int32))] [(.int (2 : Int32)), (.ref a1), (.long (g_w_offset_a0 2)), (.long v5)])) _
    refine AF.ldI X6 hx hZ e6 A_a1 (by decide : own_in (2 : Int32) 3) (g := (mkF m 26 #[.val (.ref a0), .val (.ref a1), .val (.long v5), .second, .val (.int (2 : Int32))] [(.int (2 : Int32)), (.ref a1), (.long (g_w_offset_a0 2)), (.long v5)])) rfl rfl (hb hby d4_26) _ ?_
    show Steps p.tables e below (T6.setTop (mkF m 27 #[.val (.ref a0), .val (.ref a1), .val (.long v5), .second, .val (.int (2 : Int32))] [(.int (g_a1 2)), (.long (g_w_offset_a0 2)), (.long v5)])) _
    refine XS.i2l X6.here hx rfl (hb hby d4_27) rfl ?_
    show Steps p.tables e below (T6.setTop (mkF m 28 #[.val (.ref a0), .val (.ref a1), .val (.long v5), .second, .val (.int (2 : Int32))] [(.long ((g_a1 2).toInt64)), (.long (g_w_offset_a0 2)), (.long v5)])) _
    refine XS.lmul X6.here hx rfl (hb hby d4_28) rfl ?_
    show Steps p.tables e below (T6.setTop (mkF m 29 #[.val (.ref a0), .val (.ref a1), .val (.long v5), .second, .val (.int (2 : Int32))] [(.long ((g_w_offset_a0 2) * ((g_a1 2).toInt64))), (.long v5)])) _
    refine XS.ladd X6.here hx rfl (hb hby d4_29) rfl ?_
    show Steps p.tables e below (T6.setTop (mkF m 30 #[.val (.ref a0), .val (.ref a1), .val (.long v5), .second, .val (.int (2 : Int32))] [(.long (v5 + ((g_w_offset_a0 2) * ((g_a1 2).toInt64))))])) _
    refine castTop (g' := (mkF m 30 #[.val (.ref a0), .val (.ref a1), .val (.long v5), .second, .val (.int (2 : Int32))] [(.long v7)])) (by rw [hv7] <;> rfl) ?_
    show Steps p.tables e below (T6.setTop (mkF m 30 #[.val (.ref a0), .val (.ref a1), .val (.long v5), .second, .val (.int (2 : Int32))] [(.long v7)])) _
    refine XS.lstoreN X6.here hx rfl (hb hby d4_30) rfl (l' := #[.val (.ref a0), .val (.ref a1), .val (.long v7), .second, .val (.int (2 : Int32))]) rfl ?_
    show Steps p.tables e below (T6.setTop (mkF m 31 #[.val (.ref a0), .val (.ref a1), .val (.long v7), .second, .val (.int (2 : Int32))] [])) _
    refine XS.iinc X6.here hx rfl (hb hby d4_31) rfl (l' := #[.val (.ref a0), .val (.ref a1), .val (.long v7), .second, .val (.int (3 : Int32))]) rfl ?_
    show Steps p.tables e below (T6.setTop (mkF m 34 #[.val (.ref a0), .val (.ref a1), .val (.long v7), .second, .val (.int (3 : Int32))] [])) _
    refine XS.goto X6.here hx rfl (pc0 := 34) (pc' := 8) rfl (hb hby d4_34) (by decide) (by decide) ?_
    show Steps p.tables e below (T6.setTop (mkF m 8 #[.val (.ref a0), .val (.ref a1), .val (.long v7), .second, .val (.int (3 : Int32))] [])) _
    refine XS.iload X6.here hx rfl (hb hby d4_8) rfl ?_
    show Steps p.tables e below (T6.setTop (mkF m 10 #[.val (.ref a0), .val (.ref a1), .val (.long v7), .second, .val (.int (3 : Int32))] [(.int (3 : Int32))])) _
    refine XS.aloadN X6.here hx rfl (hb hby d4_10) rfl rfl ?_
    show Steps p.tables e below (T6.setTop (mkF m 11 #[.val (.ref a0), .val (.ref a1), .val (.long v7), .second, .val (.int (3 : Int32))] [(.ref a1), (.int (3 : Int32))])) _
    refine AF.len X6 hx hZ e6 A_a1 (g := (mkF m 11 #[.val (.ref a0), .val (.ref a1), .val (.long v7), .second, .val (.int (3 : Int32))] [(.ref a1), (.int (3 : Int32))])) rfl rfl (hb hby d4_11) _ ?_
    show Steps p.tables e below (T6.setTop (mkF m 12 #[.val (.ref a0), .val (.ref a1), .val (.long v7), .second, .val (.int (3 : Int32))] [(.int (3 : Int32)), (.int (3 : Int32))])) _
    refine XS.icmpYes X6.here hx rfl (pc0 := 12) (pc' := 37) rfl (hb hby d4_12) rfl (flt (by decide)).2.1 (by decide) (by decide) ?_
    show Steps p.tables e below (T6.setTop (mkF m 37 #[.val (.ref a0), .val (.ref a1), .val (.long v7), .second, .val (.int (3 : Int32))] [])) _
    refine XS.lloadN X6.here hx rfl (hb hby d4_37) rfl ?_
    show Steps p.tables e below (T6.setTop (mkF m 38 #[.val (.ref a0), .val (.ref a1), .val (.long v7), .second, .val (.int (3 : Int32))] [(.long v7)])) _
    exact retOut X6 hx Bd.returns rfl (Or.inr (Or.inl ⟨rfl, rfl, _, rfl⟩)) (hb hby d4_38) hr
  · show Q4_3 Z a0 a1 w_offset_a0 w_weight_a0 w_startOffset_a0 w_startWeight_a0 g_a1 g_w_offset_a0 h0 n0 _ T6.heap _
    subst hv3 hv5 hv7
    exact ⟨rfl, N0, e6⟩
theorem own_law_0 (q0 : Int64) (q1 : Int64) (q2 : Int64) (f4 : Nat → Int64) (f6 : Nat → Int64) (f8 : Nat → Int64) (v39 : Int32) (v40 : Int32) (v41 : Int32) (v43 : Int32) (hf4 : f4 = (fun i => if i = 0 then q0 else (fun _ => (0 : Int64)) i)) (hf6 : f6 = (fun i => if i = 1 then q1 else f4 i)) (hf8 : f8 = (fun i => if i = 2 then q2 else f6 i)) (hv39 : v39 = (if (f8 2) = q2 then (1 : Int32) else (0 : Int32))) (hv40 : v40 = (if (f8 1) = q1 then v39 else (0 : Int32))) (hv41 : v41 = (if (f8 0) = q0 then v40 else (0 : Int32))) (hv43 : v43 = (if v41 = (0 : Int32) then (0 : Int32) else (1 : Int32))) : (nar .boolean v43) = (1 : Int32) := by
  subst hf4 hf6 hf8 hv39 hv40 hv41 hv43
  simp +decide [own_nar_ite, own_nar0, own_nar1]
theorem own_law_1 (q0 : Int64) (q1 : Int64) (q2 : Int64) (q3 : Int64) (f4 : Nat → Int64) (f6 : Nat → Int64) (f8 : Nat → Int64) (f48 : Nat → Int32) (v57 : Int32) (v61 : Int32) (v62 : Int32) (v63 : Int32) (v67 : Int32) (v68 : Int32) (v69 : Int32) (hf4 : f4 = (fun i => if i = 0 then q0 else (fun _ => (0 : Int64)) i)) (hf6 : f6 = (fun i => if i = 1 then q1 else f4 i)) (hf8 : f8 = (fun i => if i = 2 then q2 else f6 i)) (hf48 : f48 = (fun i => if i = 0 then (q3.toInt32) else (fun _ => (0 : Int32)) i)) (hv57 : v57 = (if (f48 0) = (q3.toInt32) then (1 : Int32) else (0 : Int32))) (hv61 : v61 = (if (f8 2) = q2 then (1 : Int32) else (0 : Int32))) (hv62 : v62 = (if (f8 1) = q1 then v61 else (0 : Int32))) (hv63 : v63 = (if (f8 0) = q0 then v62 else (0 : Int32))) (hv67 : v67 = (if v63 = (0 : Int32) then (0 : Int32) else (1 : Int32))) (hv68 : v68 = (if v57 = (0 : Int32) then (0 : Int32) else v67)) (hv69 : v69 = (if ((0 : Int64) + ((f8 0) * ((f48 0).toInt64))) = ((0 : Int64) + (q0 * ((q3.toInt32).toInt64))) then v68 else (0 : Int32))) : (nar .boolean v69) = (1 : Int32) := by
  subst hf4 hf6 hf8 hf48 hv57 hv61 hv62 hv63 hv67 hv68 hv69
  simp +decide [own_nar_ite, own_nar0, own_nar1]
theorem own_law_2 (q0 : Int64) (q1 : Int64) (q2 : Int64) (q3 : Int64) (v1 : Int32) (f4 : Nat → Int64) (f6 : Nat → Int64) (f8 : Nat → Int64) (f74 : Nat → Int32) (f76 : Nat → Int32) (v84 : Int64) (v85 : Int64) (v88 : Int32) (v89 : Int32) (v93 : Int32) (v94 : Int32) (v95 : Int32) (v99 : Int32) (v100 : Int32) (v101 : Int32) (hv1 : v1 = (((q3.toUInt64 >>> ((32 : Int32) &&& 0x3f).toInt64.toUInt64).toInt64).toInt32)) (hf4 : f4 = (fun i => if i = 0 then q0 else (fun _ => (0 : Int64)) i)) (hf6 : f6 = (fun i => if i = 1 then q1 else f4 i)) (hf8 : f8 = (fun i => if i = 2 then q2 else f6 i)) (hf74 : f74 = (fun i => if i = 0 then (q3.toInt32) else (fun _ => (0 : Int32)) i)) (hf76 : f76 = (fun i => if i = 1 then v1 else f74 i)) (hv84 : v84 = (((0 : Int64) + ((f8 0) * ((f76 0).toInt64))) + ((f8 1) * ((f76 1).toInt64)))) (hv85 : v85 = (((0 : Int64) + (q0 * ((q3.toInt32).toInt64))) + (q1 * (v1.toInt64)))) (hv88 : v88 = (if (f76 1) = v1 then (1 : Int32) else (0 : Int32))) (hv89 : v89 = (if (f76 0) = (q3.toInt32) then v88 else (0 : Int32))) (hv93 : v93 = (if (f8 2) = q2 then (1 : Int32) else (0 : Int32))) (hv94 : v94 = (if (f8 1) = q1 then v93 else (0 : Int32))) (hv95 : v95 = (if (f8 0) = q0 then v94 else (0 : Int32))) (hv99 : v99 = (if v95 = (0 : Int32) then (0 : Int32) else (1 : Int32))) (hv100 : v100 = (if v89 = (0 : Int32) then (0 : Int32) else v99)) (hv101 : v101 = (if v84 = v85 then v100 else (0 : Int32))) : (nar .boolean v101) = (1 : Int32) := by
  subst hv1 hf4 hf6 hf8 hf74 hf76 hv84 hv85 hv88 hv89 hv93 hv94 hv95 hv99 hv100 hv101
  simp +decide [own_nar_ite, own_nar0, own_nar1]
theorem own_law_3 (q0 : Int64) (q1 : Int64) (q2 : Int64) (q3 : Int64) (p4 : Int32) (v1 : Int32) (f4 : Nat → Int64) (f6 : Nat → Int64) (f8 : Nat → Int64) (f106 : Nat → Int32) (f108 : Nat → Int32) (f110 : Nat → Int32) (v118 : Int64) (v119 : Int64) (v123 : Int32) (v124 : Int32) (v125 : Int32) (v129 : Int32) (v130 : Int32) (v131 : Int32) (v135 : Int32) (v136 : Int32) (v137 : Int32) (hv1 : v1 = (((q3.toUInt64 >>> ((32 : Int32) &&& 0x3f).toInt64.toUInt64).toInt64).toInt32)) (hf4 : f4 = (fun i => if i = 0 then q0 else (fun _ => (0 : Int64)) i)) (hf6 : f6 = (fun i => if i = 1 then q1 else f4 i)) (hf8 : f8 = (fun i => if i = 2 then q2 else f6 i)) (hf106 : f106 = (fun i => if i = 0 then (q3.toInt32) else (fun _ => (0 : Int32)) i)) (hf108 : f108 = (fun i => if i = 1 then v1 else f106 i)) (hf110 : f110 = (fun i => if i = 2 then p4 else f108 i)) (hv118 : v118 = ((((0 : Int64) + ((f8 0) * ((f110 0).toInt64))) + ((f8 1) * ((f110 1).toInt64))) + ((f8 2) * ((f110 2).toInt64)))) (hv119 : v119 = (((0 : Int64) + (q0 * ((q3.toInt32).toInt64))) + (q1 * (v1.toInt64)))) (hv123 : v123 = (if (f110 2) = p4 then (1 : Int32) else (0 : Int32))) (hv124 : v124 = (if (f110 1) = v1 then v123 else (0 : Int32))) (hv125 : v125 = (if (f110 0) = (q3.toInt32) then v124 else (0 : Int32))) (hv129 : v129 = (if (f8 2) = q2 then (1 : Int32) else (0 : Int32))) (hv130 : v130 = (if (f8 1) = q1 then v129 else (0 : Int32))) (hv131 : v131 = (if (f8 0) = q0 then v130 else (0 : Int32))) (hv135 : v135 = (if v131 = (0 : Int32) then (0 : Int32) else (1 : Int32))) (hv136 : v136 = (if v125 = (0 : Int32) then (0 : Int32) else v135)) (hv137 : v137 = (if v118 = (v119 + (q2 * (p4.toInt64))) then v136 else (0 : Int32))) : (nar .boolean v137) = (1 : Int32) := by
  subst hv1 hf4 hf6 hf8 hf106 hf108 hf110 hv118 hv119 hv123 hv124 hv125 hv129 hv130 hv131 hv135 hv136 hv137
  simp +decide [own_nar_ite, own_nar0, own_nar1]
theorem ef_0 (m : MethodId) (q0 : Int64) (q1 : Int64) (q2 : Int64) (q3 : Int64) (p4 : Int32) (p5 : Int32) : entryFrame m #[(.long q0), (.long q1), (.long q2), (.long q3), (.int p4), (.int p5)] maxLocals = mkF m 0 #[.val (.long q0), .second, .val (.long q1), .second, .val (.long q2), .second, .val (.long q3), .second, .val (.int p4), .val (.int p5), .unset, .unset, .unset, .unset, .unset, .unset, .unset, .unset, .unset, .unset, .unset, .unset, .unset] [] := by first | (simp [entryFrame, mkF, argsToLocals, Value.category, maxLocals]; done) | rfl
def Q0 (h0 : Heap) (n0 : Nat) (v : Option Value) (h : Heap) (L : List Loc) : Prop := v = some (.int 1) ∧ Fr n0 L
set_option maxRecDepth 65536 in
set_option maxHeartbeats 40000000 in
theorem rm0 (l : Launch) (Z : State) (A0 : Array Value) (hw : ∀ d ∈ tables_1, d.before A0 Z = true) (ws : List Jvm.Cond) (q0 : Int64) (q1 : Int64) (q2 : Int64) (q3 : Int64) (p4 : Int32) (p5 : Int32) (h0 : Heap) (n0 : Nat) (Z0 : n0 ≤ h0.size) :
    MetFree l x (head1 (Jvm.Cond.code x code maxLocals ret :: ws) room_1) (fun a U => a = #[(.long q0), (.long q1), (.long q2), (.long q3), (.int p4), (.int p5)] ∧ Z.Warmed39 U.vm ∧ U.heap = h0) (fun _ _ _ _ _ => True) (fun _ U o U' => ∃ v L, o = .returned v ∧ Q0 h0 n0 v U'.heap L ∧ FrameEnd U o U' L 4 13) := by
  refine MetFree.of_bodySF (plainFor_of_name pn_0) hisR ?_
  intro p e s m args below meth c s₁ Bd hml0 hP hK
  obtain ⟨rfl, hZ, hh⟩ := hP
  have hx := Bd.exec
  have hby := Bd.bytes
  have hml : c.maxLocals = 23 := hml0
  have hown : s.vm.findClass "com/example/paperloom/paperloom/MeanOffsetPinLaw" = some m.cls := findClass_of_methodNamed Bd.named
  have hnm := (name_of_methodNamed Bd.named Bd.method).1
  have X0 : Stand p l e room_1 s m #[(.long q0), (.long q1), (.long q2), (.long q3), (.int p4), (.int p5)] below meth c s₁ [] 0 0 := Stand.of_body Bd
  have e0 : s₁.heap = h0 := by rw [← hh, Bd.state]; rfl
  have N0 := Fr.nil n0
  have pre0 : ∀ t, Steps p.tables e below (s₁.setTop (mkF m 0 #[.val (.long q0), .second, .val (.long q1), .second, .val (.long q2), .second, .val (.long q3), .second, .val (.int p4), .val (.int p5), .unset, .unset, .unset, .unset, .unset, .unset, .unset, .unset, .unset, .unset, .unset, .unset, .unset] [])) t → Steps p.tables e below (s₁.setTop (entryFrame m #[(.long q0), (.long q1), (.long q2), (.long q3), (.int p4), (.int p5)] maxLocals)) t := fun t k => castTop (ef_0 m q0 q1 q2 q3 p4 p5) k
  obtain ⟨v1, hv1⟩ : ∃ z : Int32, z = (((q3.toUInt64 >>> ((32 : Int32) &&& 0x3f).toInt64.toUInt64).toInt64).toInt32) := ⟨_, rfl⟩
  obtain ⟨T2, h2, k2, X2, e2, E2, A2, st2⟩ := newP X0 hx hZ (hw _ (List.mem_of_getElem? (i := 0) rfl)) e0 (g := (mkF m 20 #[.val (.long q0), .second, .val (.long q1), .second, .val (.long q2), .second, .val (.long q3), .second, .val (.int p4), .val (.int p5), .val (.int (p5 &&& (3 : Int32))), .val (.int (q3.toInt32)), .val (.int v1), .unset, .unset, .unset, .unset, .unset, .unset, .unset, .unset, .unset, .unset] [(.int (3 : Int32))])) rfl (hb hby at_20) rfl (by decide) (cap := 3) (by decide) (by decide) (by decide) (by decide)
  obtain ⟨b2, g2⟩ : ∃ z, z = h0.size := ⟨_, rfl⟩
  rw [← g2] at A2 st2
  have nw_b2 : n0 ≤ b2 := Nat.le_trans (Nat.le_trans Z0 (Keep.refl h0 []).1) (Nat.le_of_eq g2.symm)
  have sz_b2 : h0.size ≤ b2 := Nat.le_trans (Keep.refl h0 []).1 (Nat.le_of_eq g2.symm)
  have K2 : Keep h0 h2 [] := (Keep.refl h0 []).ext E2
  have V2 : AF Z h2 b2 .long 3 (fun j => .long ((fun _ => (0 : Int64)) j)) := AF.new A2 (by decide)
  obtain ⟨T3, h3, X3, e3, W3, A3, st3⟩ := AF.stJ X2 hx hZ e2 V2 (by decide : own_in (0 : Int32) 3) (g := (mkF m 28 #[.val (.long q0), .second, .val (.long q1), .second, .val (.long q2), .second, .val (.long q3), .second, .val (.int p4), .val (.int p5), .val (.int (p5 &&& (3 : Int32))), .val (.int (q3.toInt32)), .val (.int v1), .val (.ref b2), .unset, .unset, .unset, .unset, .unset, .unset, .unset, .unset, .unset] [(.long q0), (.int (0 : Int32)), (.ref b2)])) rfl rfl (hb hby at_28)
  have K3 : Keep h0 h3 [] := K2.wr W3 (Or.inr sz_b2)
  obtain ⟨f4, hf4⟩ : ∃ f : Nat → Int64, f = (fun i => if i = 0 then q0 else (fun _ => (0 : Int64)) i) := ⟨_, rfl⟩
  have V3 : AF Z h3 b2 .long 3 (fun j => .long (f4 j)) := AF.cong A3 (own_updJ rfl hf4)
  have N3 := Fr.snoc X3 N0 nw_b2
  obtain ⟨T5, h5, X5, e5, W5, A5, st5⟩ := AF.stJ X3 hx hZ e3 V3 (by decide : own_in (1 : Int32) 3) (g := (mkF m 33 #[.val (.long q0), .second, .val (.long q1), .second, .val (.long q2), .second, .val (.long q3), .second, .val (.int p4), .val (.int p5), .val (.int (p5 &&& (3 : Int32))), .val (.int (q3.toInt32)), .val (.int v1), .val (.ref b2), .unset, .unset, .unset, .unset, .unset, .unset, .unset, .unset, .unset] [(.long q1), (.int (1 : Int32)), (.ref b2)])) rfl rfl (hb hby at_33)
  have K5 : Keep h0 h5 [] := K3.wr W5 (Or.inr sz_b2)
  obtain ⟨f6, hf6⟩ : ∃ f : Nat → Int64, f = (fun i => if i = 1 then q1 else f4 i) := ⟨_, rfl⟩
  have V5 : AF Z h5 b2 .long 3 (fun j => .long (f6 j)) := AF.cong A5 (own_updJ rfl hf6)
  have N5 := Fr.snoc X5 N3 nw_b2
  obtain ⟨T7, h7, X7, e7, W7, A7, st7⟩ := AF.stJ X5 hx hZ e5 V5 (by decide : own_in (2 : Int32) 3) (g := (mkF m 39 #[.val (.long q0), .second, .val (.long q1), .second, .val (.long q2), .second, .val (.long q3), .second, .val (.int p4), .val (.int p5), .val (.int (p5 &&& (3 : Int32))), .val (.int (q3.toInt32)), .val (.int v1), .val (.ref b2), .unset, .unset, .unset, .unset, .unset, .unset, .unset, .unset, .unset] [(.long q2), (.int (2 : Int32)), (.ref b2)])) rfl rfl (hb hby at_39)
  have K7 : Keep h0 h7 [] := K5.wr W7 (Or.inr sz_b2)
  obtain ⟨f8, hf8⟩ : ∃ f : Nat → Int64, f = (fun i => if i = 2 then q2 else f6 i) := ⟨_, rfl⟩
  have V7 : AF Z h7 b2 .long 3 (fun j => .long (f8 j)) := AF.cong A7 (own_updJ rfl hf8)
  have N7 := Fr.snoc X7 N5 nw_b2
  obtain ⟨T9, h9, k9, X9, e9, E9, A9, st9⟩ := newP X7 hx hZ (hw _ (List.mem_of_getElem? (i := 0) rfl)) e7 (g := (mkF m 41 #[.val (.long q0), .second, .val (.long q1), .second, .val (.long q2), .second, .val (.long q3), .second, .val (.int p4), .val (.int p5), .val (.int (p5 &&& (3 : Int32))), .val (.int (q3.toInt32)), .val (.int v1), .val (.ref b2), .unset, .unset, .unset, .unset, .unset, .unset, .unset, .unset, .unset] [(.int (3 : Int32))])) rfl (hb hby at_41) rfl (by decide) (cap := 3) (by decide) (by decide) (by decide) (by decide)
  obtain ⟨b9, g9⟩ : ∃ z, z = h7.size := ⟨_, rfl⟩
  rw [← g9] at A9 st9
  have ne_b2_b9 : b2 ≠ b9 := Nat.ne_of_lt (Nat.lt_of_lt_of_le V7.lt (Nat.le_of_eq g9.symm))
  have nw_b9 : n0 ≤ b9 := Nat.le_trans (Nat.le_trans Z0 K7.1) (Nat.le_of_eq g9.symm)
  have sz_b9 : h0.size ≤ b9 := Nat.le_trans K7.1 (Nat.le_of_eq g9.symm)
  have K9 : Keep h0 h9 [] := K7.ext E9
  have V9 : AF Z h9 b9 .long 3 (fun j => .long ((fun _ => (0 : Int64)) j)) := AF.new A9 (by decide)
  obtain ⟨T10, h10, X10, e10, W10, A10, st10⟩ := AF.stJ X9 hx hZ e9 V9 (by decide : own_in (0 : Int32) 3) (g := (mkF m 51 #[.val (.long q0), .second, .val (.long q1), .second, .val (.long q2), .second, .val (.long q3), .second, .val (.int p4), .val (.int p5), .val (.int (p5 &&& (3 : Int32))), .val (.int (q3.toInt32)), .val (.int v1), .val (.ref b2), .val (.ref b9), .unset, .unset, .unset, .unset, .unset, .unset, .unset, .unset] [(.long (q0 + (1 : Int64))), (.int (0 : Int32)), (.ref b9)])) rfl rfl (hb hby at_51)
  have K10 : Keep h0 h10 [] := K9.wr W10 (Or.inr sz_b9)
  obtain ⟨f11, hf11⟩ : ∃ f : Nat → Int64, f = (fun i => if i = 0 then (q0 + (1 : Int64)) else (fun _ => (0 : Int64)) i) := ⟨_, rfl⟩
  have V10 : AF Z h10 b9 .long 3 (fun j => .long (f11 j)) := AF.cong A10 (own_updJ rfl hf11)
  have N10 := Fr.snoc X10 N7 nw_b9
  obtain ⟨T12, h12, X12, e12, W12, A12, st12⟩ := AF.stJ X10 hx hZ e10 V10 (by decide : own_in (1 : Int32) 3) (g := (mkF m 58 #[.val (.long q0), .second, .val (.long q1), .second, .val (.long q2), .second, .val (.long q3), .second, .val (.int p4), .val (.int p5), .val (.int (p5 &&& (3 : Int32))), .val (.int (q3.toInt32)), .val (.int v1), .val (.ref b2), .val (.ref b9), .unset, .unset, .unset, .unset, .unset, .unset, .unset, .unset] [(.long (q1 + (1 : Int64))), (.int (1 : Int32)), (.ref b9)])) rfl rfl (hb hby at_58)
  have K12 : Keep h0 h12 [] := K10.wr W12 (Or.inr sz_b9)
  obtain ⟨f13, hf13⟩ : ∃ f : Nat → Int64, f = (fun i => if i = 1 then (q1 + (1 : Int64)) else f11 i) := ⟨_, rfl⟩
  have V12 : AF Z h12 b9 .long 3 (fun j => .long (f13 j)) := AF.cong A12 (own_updJ rfl hf13)
  have N12 := Fr.snoc X12 N10 nw_b9
  obtain ⟨T14, h14, X14, e14, W14, A14, st14⟩ := AF.stJ X12 hx hZ e12 V12 (by decide : own_in (2 : Int32) 3) (g := (mkF m 66 #[.val (.long q0), .second, .val (.long q1), .second, .val (.long q2), .second, .val (.long q3), .second, .val (.int p4), .val (.int p5), .val (.int (p5 &&& (3 : Int32))), .val (.int (q3.toInt32)), .val (.int v1), .val (.ref b2), .val (.ref b9), .unset, .unset, .unset, .unset, .unset, .unset, .unset, .unset] [(.long (q2 + (1 : Int64))), (.int (2 : Int32)), (.ref b9)])) rfl rfl (hb hby at_66)
  have K14 : Keep h0 h14 [] := K12.wr W14 (Or.inr sz_b9)
  obtain ⟨f15, hf15⟩ : ∃ f : Nat → Int64, f = (fun i => if i = 2 then (q2 + (1 : Int64)) else f13 i) := ⟨_, rfl⟩
  have V14 : AF Z h14 b9 .long 3 (fun j => .long (f15 j)) := AF.cong A14 (own_updJ rfl hf15)
  have N14 := Fr.snoc X14 N12 nw_b9
  obtain ⟨T16, h16, X16, e16, E16, A16, D16, -, st16⟩ := newO X14 hx hZ hown (hw _ (List.mem_of_getElem? (i := 1) rfl)) (hw _ (List.mem_of_getElem? (i := 2) rfl)) (hw _ (List.mem_of_getElem? (i := 3) rfl)) e14 (g := (mkF m 67 #[.val (.long q0), .second, .val (.long q1), .second, .val (.long q2), .second, .val (.long q3), .second, .val (.int p4), .val (.int p5), .val (.int (p5 &&& (3 : Int32))), .val (.int (q3.toInt32)), .val (.int v1), .val (.ref b2), .val (.ref b9), .unset, .unset, .unset, .unset, .unset, .unset, .unset, .unset] [])) rfl (hb hby at_67) (by decide) (by decide)
  obtain ⟨b16, g16⟩ : ∃ z, z = h14.size := ⟨_, rfl⟩
  rw [← g16] at A16 D16 st16
  have G17 : AF Z h14 b2 .long 3 (fun j => .long (f8 j)) := ((((V7.ext E9).other W10 ne_b2_b9).other W12 ne_b2_b9).other W14 ne_b2_b9)
  have ne_b2_b16 : b2 ≠ b16 := Nat.ne_of_lt (Nat.lt_of_lt_of_le G17.lt (Nat.le_of_eq g16.symm))
  have ne_b9_b16 : b9 ≠ b16 := Nat.ne_of_lt (Nat.lt_of_lt_of_le V14.lt (Nat.le_of_eq g16.symm))
  have nw_b16 : n0 ≤ b16 := Nat.le_trans (Nat.le_trans Z0 K14.1) (Nat.le_of_eq g16.symm)
  have sz_b16 : h0.size ≤ b16 := Nat.le_trans K14.1 (Nat.le_of_eq g16.symm)
  have K16 : Keep h0 h16 [] := K14.ext E16
  have F_offset_b16 : Fld Z h16 b16 "com/example/paperloom/paperloom/CountSearch$Mean" "offset" "[J" .null := D16 (Or.inr (hw _ (List.mem_of_getElem? (i := 14) rfl))) (ty := (.array .long)) (by decide)
  have F_weight_b16 : Fld Z h16 b16 "com/example/paperloom/paperloom/CountSearch$Mean" "weight" "[J" .null := D16 (Or.inr (hw _ (List.mem_of_getElem? (i := 16) rfl))) (ty := (.array .long)) (by decide)
  have F_startOffset_b16 : Fld Z h16 b16 "com/example/paperloom/paperloom/CountSearch$Mean" "startOffset" "J" (.long (0 : Int64)) := D16 (Or.inr (hw _ (List.mem_of_getElem? (i := 18) rfl))) (ty := .long) (by decide)
  have F_startWeight_b16 : Fld Z h16 b16 "com/example/paperloom/paperloom/CountSearch$Mean" "startWeight" "J" (.long (0 : Int64)) := D16 (Or.inr (hw _ (List.mem_of_getElem? (i := 20) rfl))) (ty := .long) (by decide)
  obtain ⟨_, _, ⟨T18, L18, k18, n18⟩, -, X18, ⟨Lc18, hQ18, l18, y18, z18⟩, st18⟩ := X16.specialBack hx (y := (⟨"com/example/paperloom/paperloom/CountSearch$Mean", "<init>", "([J[J)V"⟩ : MethodName)) rfl hown (mvT hZ (hw _ (List.mem_of_getElem? (i := 4) rfl))) (mvT hZ (hw _ (List.mem_of_getElem? (i := 5) rfl))) (mvT hZ (hw _ (List.mem_of_getElem? (i := 6) rfl))) (by decide) (backOf (W := 1) (rm1 l Z A0 hw [] b16 b2 b9 .null .null (0 : Int64) (0 : Int64) h16 n0 (Nat.le_trans Z0 K16.1) A16 F_offset_b16 F_weight_b16 F_startOffset_b16 F_startWeight_b16 nw_b16) hZ (hw _ (List.mem_of_getElem? (i := 6) rfl)) (hw _ (List.mem_of_getElem? (i := 3) rfl)) (by decide) (by decide)) (g := (mkF m 75 #[.val (.long q0), .second, .val (.long q1), .second, .val (.long q2), .second, .val (.long q3), .second, .val (.int p4), .val (.int p5), .val (.int (p5 &&& (3 : Int32))), .val (.int (q3.toInt32)), .val (.int v1), .val (.ref b2), .val (.ref b9), .unset, .unset, .unset, .unset, .unset, .unset, .unset, .unset] [(.ref b9), (.ref b2), (.ref b16), (.ref b16)])) rfl (by rw [hml]; rfl) (Steps.refl _) (a := b16) (argsL := [(.ref b2), (.ref b9)]) (rest := [(.ref b16)]) (lenOf pd_0 rfl) rfl (by show 2 * 0 + _ ≤ _; exact Nat.le_of_eq rfl) (hb hby at_75) (fun _ _ => ⟨rfl, e16, (by decide : 3 + 0 ≤ _), (by decide : 10 + 0 ≤ _)⟩)
  dsimp only [Pt.U, Pt.locs, Pt.cells, Pt.slots] at X18 l18 y18 z18 st18 hQ18
  subst l18 y18 z18
  obtain ⟨rfl, N18q, Kc18, P19, P20, P21, P22, P23⟩ := hQ18
  have K18 : Keep h0 T18.heap [] := K16.trans Kc18 (allS (Or.inr sz_b16) all0)
  have N18 := Fr.app N14 N18q
  obtain ⟨v24, hv24⟩ : ∃ z : Int32, z = (p5 &&& (3 : Int32)) := ⟨_, rfl⟩
  have ck25 : ∀ t, Steps p.tables e below (T18.setTop (mkF m 80 #[.val (.long q0), .second, .val (.long q1), .second, .val (.long q2), .second, .val (.long q3), .second, .val (.int p4), .val (.int p5), .val (.int v24), .val (.int (q3.toInt32)), .val (.int v1), .val (.ref b2), .val (.ref b9), .val (.ref b16), .unset, .unset, .unset, .unset, .unset, .unset, .unset] [])) t → Steps p.tables e below (s₁.setTop (mkF m 0 #[.val (.long q0), .second, .val (.long q1), .second, .val (.long q2), .second, .val (.long q3), .second, .val (.int p4), .val (.int p5), .unset, .unset, .unset, .unset, .unset, .unset, .unset, .unset, .unset, .unset, .unset, .unset, .unset] [])) t := by
    intro t kt
    show Steps p.tables e below (s₁.setTop (mkF m 0 #[.val (.long q0), .second, .val (.long q1), .second, .val (.long q2), .second, .val (.long q3), .second, .val (.int p4), .val (.int p5), .unset, .unset, .unset, .unset, .unset, .unset, .unset, .unset, .unset, .unset, .unset, .unset, .unset] [])) _
    refine XS.iload X0.here hx rfl (hb hby at_0) rfl ?_
    show Steps p.tables e below (s₁.setTop (mkF m 2 #[.val (.long q0), .second, .val (.long q1), .second, .val (.long q2), .second, .val (.long q3), .second, .val (.int p4), .val (.int p5), .unset, .unset, .unset, .unset, .unset, .unset, .unset, .unset, .unset, .unset, .unset, .unset, .unset] [(.int p5)])) _
    refine XS.iconst X0.here hx rfl (hb hby at_2) ?_
    show Steps p.tables e below (s₁.setTop (mkF m 3 #[.val (.long q0), .second, .val (.long q1), .second, .val (.long q2), .second, .val (.long q3), .second, .val (.int p4), .val (.int p5), .unset, .unset, .unset, .unset, .unset, .unset, .unset, .unset, .unset, .unset, .unset, .unset, .unset] [(.int (3 : Int32)), (.int p5)])) _
    refine XS.iand X0.here hx rfl (hb hby at_3) rfl ?_
    show Steps p.tables e below (s₁.setTop (mkF m 4 #[.val (.long q0), .second, .val (.long q1), .second, .val (.long q2), .second, .val (.long q3), .second, .val (.int p4), .val (.int p5), .unset, .unset, .unset, .unset, .unset, .unset, .unset, .unset, .unset, .unset, .unset, .unset, .unset] [(.int (p5 &&& (3 : Int32)))])) _
    refine XS.istore X0.here hx rfl (hb hby at_4) rfl (l' := #[.val (.long q0), .second, .val (.long q1), .second, .val (.long q2), .second, .val (.long q3), .second, .val (.int p4), .val (.int p5), .val (.int (p5 &&& (3 : Int32))), .unset, .unset, .unset, .unset, .unset, .unset, .unset, .unset, .unset, .unset, .unset, .unset]) rfl ?_
    show Steps p.tables e below (s₁.setTop (mkF m 6 #[.val (.long q0), .second, .val (.long q1), .second, .val (.long q2), .second, .val (.long q3), .second, .val (.int p4), .val (.int p5), .val (.int (p5 &&& (3 : Int32))), .unset, .unset, .unset, .unset, .unset, .unset, .unset, .unset, .unset, .unset, .unset, .unset] [])) _
    refine XS.lload X0.here hx rfl (hb hby at_6) rfl ?_
    show Steps p.tables e below (s₁.setTop (mkF m 8 #[.val (.long q0), .second, .val (.long q1), .second, .val (.long q2), .second, .val (.long q3), .second, .val (.int p4), .val (.int p5), .val (.int (p5 &&& (3 : Int32))), .unset, .unset, .unset, .unset, .unset, .unset, .unset, .unset, .unset, .unset, .unset, .unset] [(.long q3)])) _
    refine XS.l2i X0.here hx rfl (hb hby at_8) rfl ?_
    show Steps p.tables e below (s₁.setTop (mkF m 9 #[.val (.long q0), .second, .val (.long q1), .second, .val (.long q2), .second, .val (.long q3), .second, .val (.int p4), .val (.int p5), .val (.int (p5 &&& (3 : Int32))), .unset, .unset, .unset, .unset, .unset, .unset, .unset, .unset, .unset, .unset, .unset, .unset] [(.int (q3.toInt32))])) _
    refine XS.istore X0.here hx rfl (hb hby at_9) rfl (l' := #[.val (.long q0), .second, .val (.long q1), .second, .val (.long q2), .second, .val (.long q3), .second, .val (.int p4), .val (.int p5), .val (.int (p5 &&& (3 : Int32))), .val (.int (q3.toInt32)), .unset, .unset, .unset, .unset, .unset, .unset, .unset, .unset, .unset, .unset, .unset]) rfl ?_
    show Steps p.tables e below (s₁.setTop (mkF m 11 #[.val (.long q0), .second, .val (.long q1), .second, .val (.long q2), .second, .val (.long q3), .second, .val (.int p4), .val (.int p5), .val (.int (p5 &&& (3 : Int32))), .val (.int (q3.toInt32)), .unset, .unset, .unset, .unset, .unset, .unset, .unset, .unset, .unset, .unset, .unset] [])) _
    refine XS.lload X0.here hx rfl (hb hby at_11) rfl ?_
    show Steps p.tables e below (s₁.setTop (mkF m 13 #[.val (.long q0), .second, .val (.long q1), .second, .val (.long q2), .second, .val (.long q3), .second, .val (.int p4), .val (.int p5), .val (.int (p5 &&& (3 : Int32))), .val (.int (q3.toInt32)), .unset, .unset, .unset, .unset, .unset, .unset, .unset, .unset, .unset, .unset, .unset] [(.long q3)])) _
    refine XS.bipush X0.here hx rfl (hb hby at_13) ?_
    show Steps p.tables e below (s₁.setTop (mkF m 15 #[.val (.long q0), .second, .val (.long q1), .second, .val (.long q2), .second, .val (.long q3), .second, .val (.int p4), .val (.int p5), .val (.int (p5 &&& (3 : Int32))), .val (.int (q3.toInt32)), .unset, .unset, .unset, .unset, .unset, .unset, .unset, .unset, .unset, .unset, .unset] [(.int (32 : Int32)), (.long q3)])) _
    refine XS.lushr X0.here hx rfl (hb hby at_15) rfl ?_
    show Steps p.tables e below (s₁.setTop (mkF m 16 #[.val (.long q0), .second, .val (.long q1), .second, .val (.long q2), .second, .val (.long q3), .second, .val (.int p4), .val (.int p5), .val (.int (p5 &&& (3 : Int32))), .val (.int (q3.toInt32)), .unset, .unset, .unset, .unset, .unset, .unset, .unset, .unset, .unset, .unset, .unset] [(.long ((q3.toUInt64 >>> ((32 : Int32) &&& 0x3f).toInt64.toUInt64).toInt64))])) _
    refine XS.l2i X0.here hx rfl (hb hby at_16) rfl ?_
    show Steps p.tables e below (s₁.setTop (mkF m 17 #[.val (.long q0), .second, .val (.long q1), .second, .val (.long q2), .second, .val (.long q3), .second, .val (.int p4), .val (.int p5), .val (.int (p5 &&& (3 : Int32))), .val (.int (q3.toInt32)), .unset, .unset, .unset, .unset, .unset, .unset, .unset, .unset, .unset, .unset, .unset] [(.int (((q3.toUInt64 >>> ((32 : Int32) &&& 0x3f).toInt64.toUInt64).toInt64).toInt32))])) _
    refine castTop (g' := (mkF m 17 #[.val (.long q0), .second, .val (.long q1), .second, .val (.long q2), .second, .val (.long q3), .second, .val (.int p4), .val (.int p5), .val (.int (p5 &&& (3 : Int32))), .val (.int (q3.toInt32)), .unset, .unset, .unset, .unset, .unset, .unset, .unset, .unset, .unset, .unset, .unset] [(.int v1)])) (by rw [hv1] <;> rfl) ?_
    show Steps p.tables e below (s₁.setTop (mkF m 17 #[.val (.long q0), .second, .val (.long q1), .second, .val (.long q2), .second, .val (.long q3), .second, .val (.int p4), .val (.int p5), .val (.int (p5 &&& (3 : Int32))), .val (.int (q3.toInt32)), .unset, .unset, .unset, .unset, .unset, .unset, .unset, .unset, .unset, .unset, .unset] [(.int v1)])) _
    refine XS.istore X0.here hx rfl (hb hby at_17) rfl (l' := #[.val (.long q0), .second, .val (.long q1), .second, .val (.long q2), .second, .val (.long q3), .second, .val (.int p4), .val (.int p5), .val (.int (p5 &&& (3 : Int32))), .val (.int (q3.toInt32)), .val (.int v1), .unset, .unset, .unset, .unset, .unset, .unset, .unset, .unset, .unset, .unset]) rfl ?_
    show Steps p.tables e below (s₁.setTop (mkF m 19 #[.val (.long q0), .second, .val (.long q1), .second, .val (.long q2), .second, .val (.long q3), .second, .val (.int p4), .val (.int p5), .val (.int (p5 &&& (3 : Int32))), .val (.int (q3.toInt32)), .val (.int v1), .unset, .unset, .unset, .unset, .unset, .unset, .unset, .unset, .unset, .unset] [])) _
    refine XS.iconst X0.here hx rfl (hb hby at_19) ?_
    show Steps p.tables e below (s₁.setTop (mkF m 20 #[.val (.long q0), .second, .val (.long q1), .second, .val (.long q2), .second, .val (.long q3), .second, .val (.int p4), .val (.int p5), .val (.int (p5 &&& (3 : Int32))), .val (.int (q3.toInt32)), .val (.int v1), .unset, .unset, .unset, .unset, .unset, .unset, .unset, .unset, .unset, .unset] [(.int (3 : Int32))])) _
    refine st2 _ ?_
    show Steps p.tables e below (T2.setTop (mkF m 22 #[.val (.long q0), .second, .val (.long q1), .second, .val (.long q2), .second, .val (.long q3), .second, .val (.int p4), .val (.int p5), .val (.int (p5 &&& (3 : Int32))), .val (.int (q3.toInt32)), .val (.int v1), .unset, .unset, .unset, .unset, .unset, .unset, .unset, .unset, .unset, .unset] [(.ref b2)])) _
    refine XS.astore X2.here hx rfl (hb hby at_22) rfl rfl (l' := #[.val (.long q0), .second, .val (.long q1), .second, .val (.long q2), .second, .val (.long q3), .second, .val (.int p4), .val (.int p5), .val (.int (p5 &&& (3 : Int32))), .val (.int (q3.toInt32)), .val (.int v1), .val (.ref b2), .unset, .unset, .unset, .unset, .unset, .unset, .unset, .unset, .unset]) rfl ?_
    show Steps p.tables e below (T2.setTop (mkF m 24 #[.val (.long q0), .second, .val (.long q1), .second, .val (.long q2), .second, .val (.long q3), .second, .val (.int p4), .val (.int p5), .val (.int (p5 &&& (3 : Int32))), .val (.int (q3.toInt32)), .val (.int v1), .val (.ref b2), .unset, .unset, .unset, .unset, .unset, .unset, .unset, .unset, .unset] [])) _
    refine XS.aload X2.here hx rfl (hb hby at_24) rfl rfl ?_
    show Steps p.tables e below (T2.setTop (mkF m 26 #[.val (.long q0), .second, .val (.long q1), .second, .val (.long q2), .second, .val (.long q3), .second, .val (.int p4), .val (.int p5), .val (.int (p5 &&& (3 : Int32))), .val (.int (q3.toInt32)), .val (.int v1), .val (.ref b2), .unset, .unset, .unset, .unset, .unset, .unset, .unset, .unset, .unset] [(.ref b2)])) _
    refine XS.iconst X2.here hx rfl (hb hby at_26) ?_
    show Steps p.tables e below (T2.setTop (mkF m 27 #[.val (.long q0), .second, .val (.long q1), .second, .val (.long q2), .second, .val (.long q3), .second, .val (.int p4), .val (.int p5), .val (.int (p5 &&& (3 : Int32))), .val (.int (q3.toInt32)), .val (.int v1), .val (.ref b2), .unset, .unset, .unset, .unset, .unset, .unset, .unset, .unset, .unset] [(.int (0 : Int32)), (.ref b2)])) _
    refine XS.lloadN X2.here hx rfl (hb hby at_27) rfl ?_
    show Steps p.tables e below (T2.setTop (mkF m 28 #[.val (.long q0), .second, .val (.long q1), .second, .val (.long q2), .second, .val (.long q3), .second, .val (.int p4), .val (.int p5), .val (.int (p5 &&& (3 : Int32))), .val (.int (q3.toInt32)), .val (.int v1), .val (.ref b2), .unset, .unset, .unset, .unset, .unset, .unset, .unset, .unset, .unset] [(.long q0), (.int (0 : Int32)), (.ref b2)])) _
    refine st3 _ ?_
    show Steps p.tables e below (T3.setTop (mkF m 29 #[.val (.long q0), .second, .val (.long q1), .second, .val (.long q2), .second, .val (.long q3), .second, .val (.int p4), .val (.int p5), .val (.int (p5 &&& (3 : Int32))), .val (.int (q3.toInt32)), .val (.int v1), .val (.ref b2), .unset, .unset, .unset, .unset, .unset, .unset, .unset, .unset, .unset] [])) _
    refine XS.aload X3.here hx rfl (hb hby at_29) rfl rfl ?_
    show Steps p.tables e below (T3.setTop (mkF m 31 #[.val (.long q0), .second, .val (.long q1), .second, .val (.long q2), .second, .val (.long q3), .second, .val (.int p4), .val (.int p5), .val (.int (p5 &&& (3 : Int32))), .val (.int (q3.toInt32)), .val (.int v1), .val (.ref b2), .unset, .unset, .unset, .unset, .unset, .unset, .unset, .unset, .unset] [(.ref b2)])) _
    refine XS.iconst X3.here hx rfl (hb hby at_31) ?_
    show Steps p.tables e below (T3.setTop (mkF m 32 #[.val (.long q0), .second, .val (.long q1), .second, .val (.long q2), .second, .val (.long q3), .second, .val (.int p4), .val (.int p5), .val (.int (p5 &&& (3 : Int32))), .val (.int (q3.toInt32)), .val (.int v1), .val (.ref b2), .unset, .unset, .unset, .unset, .unset, .unset, .unset, .unset, .unset] [(.int (1 : Int32)), (.ref b2)])) _
    refine XS.lloadN X3.here hx rfl (hb hby at_32) rfl ?_
    show Steps p.tables e below (T3.setTop (mkF m 33 #[.val (.long q0), .second, .val (.long q1), .second, .val (.long q2), .second, .val (.long q3), .second, .val (.int p4), .val (.int p5), .val (.int (p5 &&& (3 : Int32))), .val (.int (q3.toInt32)), .val (.int v1), .val (.ref b2), .unset, .unset, .unset, .unset, .unset, .unset, .unset, .unset, .unset] [(.long q1), (.int (1 : Int32)), (.ref b2)])) _
    refine st5 _ ?_
    show Steps p.tables e below (T5.setTop (mkF m 34 #[.val (.long q0), .second, .val (.long q1), .second, .val (.long q2), .second, .val (.long q3), .second, .val (.int p4), .val (.int p5), .val (.int (p5 &&& (3 : Int32))), .val (.int (q3.toInt32)), .val (.int v1), .val (.ref b2), .unset, .unset, .unset, .unset, .unset, .unset, .unset, .unset, .unset] [])) _
    refine XS.aload X5.here hx rfl (hb hby at_34) rfl rfl ?_
    show Steps p.tables e below (T5.setTop (mkF m 36 #[.val (.long q0), .second, .val (.long q1), .second, .val (.long q2), .second, .val (.long q3), .second, .val (.int p4), .val (.int p5), .val (.int (p5 &&& (3 : Int32))), .val (.int (q3.toInt32)), .val (.int v1), .val (.ref b2), .unset, .unset, .unset, .unset, .unset, .unset, .unset, .unset, .unset] [(.ref b2)])) _
    refine XS.iconst X5.here hx rfl (hb hby at_36) ?_
    show Steps p.tables e below (T5.setTop (mkF m 37 #[.val (.long q0), .second, .val (.long q1), .second, .val (.long q2), .second, .val (.long q3), .second, .val (.int p4), .val (.int p5), .val (.int (p5 &&& (3 : Int32))), .val (.int (q3.toInt32)), .val (.int v1), .val (.ref b2), .unset, .unset, .unset, .unset, .unset, .unset, .unset, .unset, .unset] [(.int (2 : Int32)), (.ref b2)])) _
    refine XS.lload X5.here hx rfl (hb hby at_37) rfl ?_
    show Steps p.tables e below (T5.setTop (mkF m 39 #[.val (.long q0), .second, .val (.long q1), .second, .val (.long q2), .second, .val (.long q3), .second, .val (.int p4), .val (.int p5), .val (.int (p5 &&& (3 : Int32))), .val (.int (q3.toInt32)), .val (.int v1), .val (.ref b2), .unset, .unset, .unset, .unset, .unset, .unset, .unset, .unset, .unset] [(.long q2), (.int (2 : Int32)), (.ref b2)])) _
    refine st7 _ ?_
    show Steps p.tables e below (T7.setTop (mkF m 40 #[.val (.long q0), .second, .val (.long q1), .second, .val (.long q2), .second, .val (.long q3), .second, .val (.int p4), .val (.int p5), .val (.int (p5 &&& (3 : Int32))), .val (.int (q3.toInt32)), .val (.int v1), .val (.ref b2), .unset, .unset, .unset, .unset, .unset, .unset, .unset, .unset, .unset] [])) _
    refine XS.iconst X7.here hx rfl (hb hby at_40) ?_
    show Steps p.tables e below (T7.setTop (mkF m 41 #[.val (.long q0), .second, .val (.long q1), .second, .val (.long q2), .second, .val (.long q3), .second, .val (.int p4), .val (.int p5), .val (.int (p5 &&& (3 : Int32))), .val (.int (q3.toInt32)), .val (.int v1), .val (.ref b2), .unset, .unset, .unset, .unset, .unset, .unset, .unset, .unset, .unset] [(.int (3 : Int32))])) _
    refine st9 _ ?_
    show Steps p.tables e below (T9.setTop (mkF m 43 #[.val (.long q0), .second, .val (.long q1), .second, .val (.long q2), .second, .val (.long q3), .second, .val (.int p4), .val (.int p5), .val (.int (p5 &&& (3 : Int32))), .val (.int (q3.toInt32)), .val (.int v1), .val (.ref b2), .unset, .unset, .unset, .unset, .unset, .unset, .unset, .unset, .unset] [(.ref b9)])) _
    refine XS.astore X9.here hx rfl (hb hby at_43) rfl rfl (l' := #[.val (.long q0), .second, .val (.long q1), .second, .val (.long q2), .second, .val (.long q3), .second, .val (.int p4), .val (.int p5), .val (.int (p5 &&& (3 : Int32))), .val (.int (q3.toInt32)), .val (.int v1), .val (.ref b2), .val (.ref b9), .unset, .unset, .unset, .unset, .unset, .unset, .unset, .unset]) rfl ?_
    show Steps p.tables e below (T9.setTop (mkF m 45 #[.val (.long q0), .second, .val (.long q1), .second, .val (.long q2), .second, .val (.long q3), .second, .val (.int p4), .val (.int p5), .val (.int (p5 &&& (3 : Int32))), .val (.int (q3.toInt32)), .val (.int v1), .val (.ref b2), .val (.ref b9), .unset, .unset, .unset, .unset, .unset, .unset, .unset, .unset] [])) _
    refine XS.aload X9.here hx rfl (hb hby at_45) rfl rfl ?_
    show Steps p.tables e below (T9.setTop (mkF m 47 #[.val (.long q0), .second, .val (.long q1), .second, .val (.long q2), .second, .val (.long q3), .second, .val (.int p4), .val (.int p5), .val (.int (p5 &&& (3 : Int32))), .val (.int (q3.toInt32)), .val (.int v1), .val (.ref b2), .val (.ref b9), .unset, .unset, .unset, .unset, .unset, .unset, .unset, .unset] [(.ref b9)])) _
    refine XS.iconst X9.here hx rfl (hb hby at_47) ?_
    show Steps p.tables e below (T9.setTop (mkF m 48 #[.val (.long q0), .second, .val (.long q1), .second, .val (.long q2), .second, .val (.long q3), .second, .val (.int p4), .val (.int p5), .val (.int (p5 &&& (3 : Int32))), .val (.int (q3.toInt32)), .val (.int v1), .val (.ref b2), .val (.ref b9), .unset, .unset, .unset, .unset, .unset, .unset, .unset, .unset] [(.int (0 : Int32)), (.ref b9)])) _
    refine XS.lloadN X9.here hx rfl (hb hby at_48) rfl ?_
    show Steps p.tables e below (T9.setTop (mkF m 49 #[.val (.long q0), .second, .val (.long q1), .second, .val (.long q2), .second, .val (.long q3), .second, .val (.int p4), .val (.int p5), .val (.int (p5 &&& (3 : Int32))), .val (.int (q3.toInt32)), .val (.int v1), .val (.ref b2), .val (.ref b9), .unset, .unset, .unset, .unset, .unset, .unset, .unset, .unset] [(.long q0), (.int (0 : Int32)), (.ref b9)])) _
    refine XS.lconst X9.here hx rfl (hb hby at_49) ?_
    show Steps p.tables e below (T9.setTop (mkF m 50 #[.val (.long q0), .second, .val (.long q1), .second, .val (.long q2), .second, .val (.long q3), .second, .val (.int p4), .val (.int p5), .val (.int (p5 &&& (3 : Int32))), .val (.int (q3.toInt32)), .val (.int v1), .val (.ref b2), .val (.ref b9), .unset, .unset, .unset, .unset, .unset, .unset, .unset, .unset] [(.long (1 : Int64)), (.long q0), (.int (0 : Int32)), (.ref b9)])) _
    refine XS.ladd X9.here hx rfl (hb hby at_50) rfl ?_
    show Steps p.tables e below (T9.setTop (mkF m 51 #[.val (.long q0), .second, .val (.long q1), .second, .val (.long q2), .second, .val (.long q3), .second, .val (.int p4), .val (.int p5), .val (.int (p5 &&& (3 : Int32))), .val (.int (q3.toInt32)), .val (.int v1), .val (.ref b2), .val (.ref b9), .unset, .unset, .unset, .unset, .unset, .unset, .unset, .unset] [(.long (q0 + (1 : Int64))), (.int (0 : Int32)), (.ref b9)])) _
    refine st10 _ ?_
    show Steps p.tables e below (T10.setTop (mkF m 52 #[.val (.long q0), .second, .val (.long q1), .second, .val (.long q2), .second, .val (.long q3), .second, .val (.int p4), .val (.int p5), .val (.int (p5 &&& (3 : Int32))), .val (.int (q3.toInt32)), .val (.int v1), .val (.ref b2), .val (.ref b9), .unset, .unset, .unset, .unset, .unset, .unset, .unset, .unset] [])) _
    refine XS.aload X10.here hx rfl (hb hby at_52) rfl rfl ?_
    show Steps p.tables e below (T10.setTop (mkF m 54 #[.val (.long q0), .second, .val (.long q1), .second, .val (.long q2), .second, .val (.long q3), .second, .val (.int p4), .val (.int p5), .val (.int (p5 &&& (3 : Int32))), .val (.int (q3.toInt32)), .val (.int v1), .val (.ref b2), .val (.ref b9), .unset, .unset, .unset, .unset, .unset, .unset, .unset, .unset] [(.ref b9)])) _
    refine XS.iconst X10.here hx rfl (hb hby at_54) ?_
    show Steps p.tables e below (T10.setTop (mkF m 55 #[.val (.long q0), .second, .val (.long q1), .second, .val (.long q2), .second, .val (.long q3), .second, .val (.int p4), .val (.int p5), .val (.int (p5 &&& (3 : Int32))), .val (.int (q3.toInt32)), .val (.int v1), .val (.ref b2), .val (.ref b9), .unset, .unset, .unset, .unset, .unset, .unset, .unset, .unset] [(.int (1 : Int32)), (.ref b9)])) _
    refine XS.lloadN X10.here hx rfl (hb hby at_55) rfl ?_
    show Steps p.tables e below (T10.setTop (mkF m 56 #[.val (.long q0), .second, .val (.long q1), .second, .val (.long q2), .second, .val (.long q3), .second, .val (.int p4), .val (.int p5), .val (.int (p5 &&& (3 : Int32))), .val (.int (q3.toInt32)), .val (.int v1), .val (.ref b2), .val (.ref b9), .unset, .unset, .unset, .unset, .unset, .unset, .unset, .unset] [(.long q1), (.int (1 : Int32)), (.ref b9)])) _
    refine XS.lconst X10.here hx rfl (hb hby at_56) ?_
    show Steps p.tables e below (T10.setTop (mkF m 57 #[.val (.long q0), .second, .val (.long q1), .second, .val (.long q2), .second, .val (.long q3), .second, .val (.int p4), .val (.int p5), .val (.int (p5 &&& (3 : Int32))), .val (.int (q3.toInt32)), .val (.int v1), .val (.ref b2), .val (.ref b9), .unset, .unset, .unset, .unset, .unset, .unset, .unset, .unset] [(.long (1 : Int64)), (.long q1), (.int (1 : Int32)), (.ref b9)])) _
    refine XS.ladd X10.here hx rfl (hb hby at_57) rfl ?_
    show Steps p.tables e below (T10.setTop (mkF m 58 #[.val (.long q0), .second, .val (.long q1), .second, .val (.long q2), .second, .val (.long q3), .second, .val (.int p4), .val (.int p5), .val (.int (p5 &&& (3 : Int32))), .val (.int (q3.toInt32)), .val (.int v1), .val (.ref b2), .val (.ref b9), .unset, .unset, .unset, .unset, .unset, .unset, .unset, .unset] [(.long (q1 + (1 : Int64))), (.int (1 : Int32)), (.ref b9)])) _
    refine st12 _ ?_
    show Steps p.tables e below (T12.setTop (mkF m 59 #[.val (.long q0), .second, .val (.long q1), .second, .val (.long q2), .second, .val (.long q3), .second, .val (.int p4), .val (.int p5), .val (.int (p5 &&& (3 : Int32))), .val (.int (q3.toInt32)), .val (.int v1), .val (.ref b2), .val (.ref b9), .unset, .unset, .unset, .unset, .unset, .unset, .unset, .unset] [])) _
    refine XS.aload X12.here hx rfl (hb hby at_59) rfl rfl ?_
    show Steps p.tables e below (T12.setTop (mkF m 61 #[.val (.long q0), .second, .val (.long q1), .second, .val (.long q2), .second, .val (.long q3), .second, .val (.int p4), .val (.int p5), .val (.int (p5 &&& (3 : Int32))), .val (.int (q3.toInt32)), .val (.int v1), .val (.ref b2), .val (.ref b9), .unset, .unset, .unset, .unset, .unset, .unset, .unset, .unset] [(.ref b9)])) _
    refine XS.iconst X12.here hx rfl (hb hby at_61) ?_
    show Steps p.tables e below (T12.setTop (mkF m 62 #[.val (.long q0), .second, .val (.long q1), .second, .val (.long q2), .second, .val (.long q3), .second, .val (.int p4), .val (.int p5), .val (.int (p5 &&& (3 : Int32))), .val (.int (q3.toInt32)), .val (.int v1), .val (.ref b2), .val (.ref b9), .unset, .unset, .unset, .unset, .unset, .unset, .unset, .unset] [(.int (2 : Int32)), (.ref b9)])) _
    refine XS.lload X12.here hx rfl (hb hby at_62) rfl ?_
    show Steps p.tables e below (T12.setTop (mkF m 64 #[.val (.long q0), .second, .val (.long q1), .second, .val (.long q2), .second, .val (.long q3), .second, .val (.int p4), .val (.int p5), .val (.int (p5 &&& (3 : Int32))), .val (.int (q3.toInt32)), .val (.int v1), .val (.ref b2), .val (.ref b9), .unset, .unset, .unset, .unset, .unset, .unset, .unset, .unset] [(.long q2), (.int (2 : Int32)), (.ref b9)])) _
    refine XS.lconst X12.here hx rfl (hb hby at_64) ?_
    show Steps p.tables e below (T12.setTop (mkF m 65 #[.val (.long q0), .second, .val (.long q1), .second, .val (.long q2), .second, .val (.long q3), .second, .val (.int p4), .val (.int p5), .val (.int (p5 &&& (3 : Int32))), .val (.int (q3.toInt32)), .val (.int v1), .val (.ref b2), .val (.ref b9), .unset, .unset, .unset, .unset, .unset, .unset, .unset, .unset] [(.long (1 : Int64)), (.long q2), (.int (2 : Int32)), (.ref b9)])) _
    refine XS.ladd X12.here hx rfl (hb hby at_65) rfl ?_
    show Steps p.tables e below (T12.setTop (mkF m 66 #[.val (.long q0), .second, .val (.long q1), .second, .val (.long q2), .second, .val (.long q3), .second, .val (.int p4), .val (.int p5), .val (.int (p5 &&& (3 : Int32))), .val (.int (q3.toInt32)), .val (.int v1), .val (.ref b2), .val (.ref b9), .unset, .unset, .unset, .unset, .unset, .unset, .unset, .unset] [(.long (q2 + (1 : Int64))), (.int (2 : Int32)), (.ref b9)])) _
    refine st14 _ ?_
    show Steps p.tables e below (T14.setTop (mkF m 67 #[.val (.long q0), .second, .val (.long q1), .second, .val (.long q2), .second, .val (.long q3), .second, .val (.int p4), .val (.int p5), .val (.int (p5 &&& (3 : Int32))), .val (.int (q3.toInt32)), .val (.int v1), .val (.ref b2), .val (.ref b9), .unset, .unset, .unset, .unset, .unset, .unset, .unset, .unset] [])) _
    refine st16 _ ?_
    show Steps p.tables e below (T16.setTop (mkF m 70 #[.val (.long q0), .second, .val (.long q1), .second, .val (.long q2), .second, .val (.long q3), .second, .val (.int p4), .val (.int p5), .val (.int (p5 &&& (3 : Int32))), .val (.int (q3.toInt32)), .val (.int v1), .val (.ref b2), .val (.ref b9), .unset, .unset, .unset, .unset, .unset, .unset, .unset, .unset] [(.ref b16)])) _
    refine XS.dup X16.here hx rfl (hb hby at_70) rfl rfl ?_
    show Steps p.tables e below (T16.setTop (mkF m 71 #[.val (.long q0), .second, .val (.long q1), .second, .val (.long q2), .second, .val (.long q3), .second, .val (.int p4), .val (.int p5), .val (.int (p5 &&& (3 : Int32))), .val (.int (q3.toInt32)), .val (.int v1), .val (.ref b2), .val (.ref b9), .unset, .unset, .unset, .unset, .unset, .unset, .unset, .unset] [(.ref b16), (.ref b16)])) _
    refine XS.aload X16.here hx rfl (hb hby at_71) rfl rfl ?_
    show Steps p.tables e below (T16.setTop (mkF m 73 #[.val (.long q0), .second, .val (.long q1), .second, .val (.long q2), .second, .val (.long q3), .second, .val (.int p4), .val (.int p5), .val (.int (p5 &&& (3 : Int32))), .val (.int (q3.toInt32)), .val (.int v1), .val (.ref b2), .val (.ref b9), .unset, .unset, .unset, .unset, .unset, .unset, .unset, .unset] [(.ref b2), (.ref b16), (.ref b16)])) _
    refine XS.aload X16.here hx rfl (hb hby at_73) rfl rfl ?_
    show Steps p.tables e below (T16.setTop (mkF m 75 #[.val (.long q0), .second, .val (.long q1), .second, .val (.long q2), .second, .val (.long q3), .second, .val (.int p4), .val (.int p5), .val (.int (p5 &&& (3 : Int32))), .val (.int (q3.toInt32)), .val (.int v1), .val (.ref b2), .val (.ref b9), .unset, .unset, .unset, .unset, .unset, .unset, .unset, .unset] [(.ref b9), (.ref b2), (.ref b16), (.ref b16)])) _
    refine st18.trans ?_
    show Steps p.tables e below (T18.setTop (mkF m 78 #[.val (.long q0), .second, .val (.long q1), .second, .val (.long q2), .second, .val (.long q3), .second, .val (.int p4), .val (.int p5), .val (.int (p5 &&& (3 : Int32))), .val (.int (q3.toInt32)), .val (.int v1), .val (.ref b2), .val (.ref b9), .unset, .unset, .unset, .unset, .unset, .unset, .unset, .unset] [(.ref b16)])) _
    refine XS.astore X18.here hx rfl (hb hby at_78) rfl rfl (l' := #[.val (.long q0), .second, .val (.long q1), .second, .val (.long q2), .second, .val (.long q3), .second, .val (.int p4), .val (.int p5), .val (.int (p5 &&& (3 : Int32))), .val (.int (q3.toInt32)), .val (.int v1), .val (.ref b2), .val (.ref b9), .val (.ref b16), .unset, .unset, .unset, .unset, .unset, .unset, .unset]) rfl ?_
    show Steps p.tables e below (T18.setTop (mkF m 80 #[.val (.long q0), .second, .val (.long q1), .second, .val (.long q2), .second, .val (.long q3), .second, .val (.int p4), .val (.int p5), .val (.int (p5 &&& (3 : Int32))), .val (.int (q3.toInt32)), .val (.int v1), .val (.ref b2), .val (.ref b9), .val (.ref b16), .unset, .unset, .unset, .unset, .unset, .unset, .unset] [])) _
    refine castTop (g' := (mkF m 80 #[.val (.long q0), .second, .val (.long q1), .second, .val (.long q2), .second, .val (.long q3), .second, .val (.int p4), .val (.int p5), .val (.int v24), .val (.int (q3.toInt32)), .val (.int v1), .val (.ref b2), .val (.ref b9), .val (.ref b16), .unset, .unset, .unset, .unset, .unset, .unset, .unset] [])) (by rw [hv24] <;> rfl) ?_
    exact kt
  rcases own_and3 hv24 with hk | hk | hk | hk
  · subst hk
    obtain ⟨T26, h26, k26, X26, e26, E26, A26, st26⟩ := newP X18 hx hZ (hw _ (List.mem_of_getElem? (i := 21) rfl)) rfl (g := (mkF m 82 #[.val (.long q0), .second, .val (.long q1), .second, .val (.long q2), .second, .val (.long q3), .second, .val (.int p4), .val (.int p5), .val (.int (0 : Int32)), .val (.int (q3.toInt32)), .val (.int v1), .val (.ref b2), .val (.ref b9), .val (.ref b16), .unset, .unset, .unset, .unset, .unset, .unset, .unset] [(.int (0 : Int32))])) rfl (hb hby at_82) rfl (by decide) (cap := 0) (by decide) (by decide) (by decide) (by decide)
    obtain ⟨b26, g26⟩ : ∃ z, z = T18.heap.size := ⟨_, rfl⟩
    rw [← g26] at A26 st26
    have G27 : AF Z T18.heap b2 .long 3 (fun j => .long (f8 j)) := ((G17.ext E16).keep Kc18 (ninS ne_b2_b16 nin0))
    have ne_b2_b26 : b2 ≠ b26 := Nat.ne_of_lt (Nat.lt_of_lt_of_le G27.lt (Nat.le_of_eq g26.symm))
    have G28 : AF Z T18.heap b9 .long 3 (fun j => .long (f15 j)) := ((V14.ext E16).keep Kc18 (ninS ne_b9_b16 nin0))
    have ne_b9_b26 : b9 ≠ b26 := Nat.ne_of_lt (Nat.lt_of_lt_of_le G28.lt (Nat.le_of_eq g26.symm))
    have ne_b16_b26 : b16 ≠ b26 := Nat.ne_of_lt (Nat.lt_of_lt_of_le P19.lt (Nat.le_of_eq g26.symm))
    have nw_b26 : n0 ≤ b26 := Nat.le_trans (Nat.le_trans Z0 K18.1) (Nat.le_of_eq g26.symm)
    have sz_b26 : h0.size ≤ b26 := Nat.le_trans K18.1 (Nat.le_of_eq g26.symm)
    have K26 : Keep h0 h26 [] := K18.ext E26
    have V26 : AF Z h26 b26 .int 0 (fun j => .int ((fun _ => (0 : Int32)) j)) := AF.new A26 (by decide)
    have G29 : Exa Z h26 b16 "com/example/paperloom/paperloom/CountSearch$Mean" := (P19.ext E26)
    have G30 : Fld Z h26 b16 "com/example/paperloom/paperloom/CountSearch$Mean" "offset" "[J" (.ref b2) := (P20.ext E26)
    have G31 : Fld Z h26 b16 "com/example/paperloom/paperloom/CountSearch$Mean" "weight" "[J" (.ref b9) := (P21.ext E26)
    have G32 : Fld Z h26 b16 "com/example/paperloom/paperloom/CountSearch$Mean" "startOffset" "J" (.long (0 : Int64)) := (P22.ext E26)
    have G33 : Fld Z h26 b16 "com/example/paperloom/paperloom/CountSearch$Mean" "startWeight" "J" (.long (0 : Int64)) := (P23.ext E26)
    obtain ⟨cq34, kq34, q34a, q34b, q34c⟩ := isOf hZ e26 G29
    obtain ⟨_, _, ⟨T34, L34, k34, n34⟩, -, X34, ⟨Lc34, hQ34, l34, y34, z34⟩, st34⟩ := X26.virtualBack hx (y := (⟨"com/example/paperloom/paperloom/CountSearch$Mean", "offset", "([I)J"⟩ : MethodName)) (z := (⟨"com/example/paperloom/paperloom/CountSearch$Mean", "offset", "([I)J"⟩ : MethodName)) hown (mvT hZ (hw _ (List.mem_of_getElem? (i := 22) rfl))) (mvT hZ (hw _ (List.mem_of_getElem? (i := 23) rfl))) (notFace_of_selects (args := #[]) (mvT hZ (hw _ (List.mem_of_getElem? (i := 25) rfl)))) (mvT hZ (hw _ (List.mem_of_getElem? (i := 25) rfl))) (mvT hZ (hw _ (List.mem_of_getElem? (i := 24) rfl))) (by decide) (backOf (W := 0) (rm4_0 l Z A0 hw [] b16 b26 (.ref b2) (.ref b9) (0 : Int64) (0 : Int64) (fun _ => (0 : Int32)) h26 n0 (Nat.le_trans Z0 K26.1) G29 G30 G31 G32 G33 V26) hZ (hw _ (List.mem_of_getElem? (i := 26) rfl)) (hw _ (List.mem_of_getElem? (i := 3) rfl)) (by decide) (by decide)) q34a q34c (g := (mkF m 125 #[.val (.long q0), .second, .val (.long q1), .second, .val (.long q2), .second, .val (.long q3), .second, .val (.int p4), .val (.int p5), .val (.int (0 : Int32)), .val (.int (q3.toInt32)), .val (.int v1), .val (.ref b2), .val (.ref b9), .val (.ref b16), .val (.ref b26), .unset, .unset, .unset, .unset, .unset, .unset] [(.ref b26), (.ref b16)])) rfl (by rw [hml]; rfl) (Steps.refl _) (argsL := [(.ref b26)]) (rest := []) (lenOf pd_3 rfl) rfl (by show 2 * 0 + _ ≤ _; exact Nat.le_of_eq rfl) (hb hby at_125) (fun _ _ => ⟨rfl, e26, (by decide : 4 + 0 ≤ _), (by decide : 10 + 0 ≤ _)⟩)
    dsimp only [Pt.U, Pt.locs, Pt.cells, Pt.slots] at X34 l34 y34 z34 st34 hQ34
    subst l34 y34 z34
    obtain ⟨rfl, N34q, e34⟩ := hQ34
    have N34 := Fr.app N18 N34q
    have G35 : AF Z h26 b2 .long 3 (fun j => .long (f8 j)) := (G27.ext E26)
    obtain ⟨v39, hv39⟩ : ∃ z : Int32, z = if (f8 2) = q2 then (1 : Int32) else (0 : Int32) := ⟨_, rfl⟩
    obtain ⟨v40, hv40⟩ : ∃ z : Int32, z = if (f8 1) = q1 then v39 else (0 : Int32) := ⟨_, rfl⟩
    obtain ⟨v41, hv41⟩ : ∃ z : Int32, z = if (f8 0) = q0 then v40 else (0 : Int32) := ⟨_, rfl⟩
    obtain ⟨v43, hv43⟩ : ∃ z : Int32, z = if v41 = (0 : Int32) then (0 : Int32) else (1 : Int32) := ⟨_, rfl⟩
    obtain ⟨fs, hr, hrun, hended, hW, hsame⟩ := X34.leave (v := some (.int (nar .boolean v43))) (fun h => by rw [Bd.returns] at h; cases h)
    refine ⟨_, _, pre0 _ (ck25 _ ?_), hrun, hended, _, _, rfl, ?_, ⟨_, rfl⟩, hW, hsame.mono (by decide) (by decide)⟩
    · show Steps p.tables e below (T18.setTop (mkF m 80 #[.val (.long q0), .second, .val (.long q1), .second, .val (.long q2), .second, .val (.long q3), .second, .val (.int p4), .val (.int p5), .val (.int (0 : Int32)), .val (.int (q3.toInt32)), .val (.int v1), .val (.ref b2), .val (.ref b9), .val (.ref b16), .unset, .unset, .unset, .unset, .unset, .unset, .unset] [])) _
      refine XS.iload X18.here hx rfl (hb hby at_80) rfl ?_
      show Steps p.tables e below (T18.setTop (mkF m 82 #[.val (.long q0), .second, .val (.long q1), .second, .val (.long q2), .second, .val (.long q3), .second, .val (.int p4), .val (.int p5), .val (.int (0 : Int32)), .val (.int (q3.toInt32)), .val (.int v1), .val (.ref b2), .val (.ref b9), .val (.ref b16), .unset, .unset, .unset, .unset, .unset, .unset, .unset] [(.int (0 : Int32))])) _
      refine st26 _ ?_
      show Steps p.tables e below (T26.setTop (mkF m 84 #[.val (.long q0), .second, .val (.long q1), .second, .val (.long q2), .second, .val (.long q3), .second, .val (.int p4), .val (.int p5), .val (.int (0 : Int32)), .val (.int (q3.toInt32)), .val (.int v1), .val (.ref b2), .val (.ref b9), .val (.ref b16), .unset, .unset, .unset, .unset, .unset, .unset, .unset] [(.ref b26)])) _
      refine XS.astore X26.here hx rfl (hb hby at_84) rfl rfl (l' := #[.val (.long q0), .second, .val (.long q1), .second, .val (.long q2), .second, .val (.long q3), .second, .val (.int p4), .val (.int p5), .val (.int (0 : Int32)), .val (.int (q3.toInt32)), .val (.int v1), .val (.ref b2), .val (.ref b9), .val (.ref b16), .val (.ref b26), .unset, .unset, .unset, .unset, .unset, .unset]) rfl ?_
      show Steps p.tables e below (T26.setTop (mkF m 86 #[.val (.long q0), .second, .val (.long q1), .second, .val (.long q2), .second, .val (.long q3), .second, .val (.int p4), .val (.int p5), .val (.int (0 : Int32)), .val (.int (q3.toInt32)), .val (.int v1), .val (.ref b2), .val (.ref b9), .val (.ref b16), .val (.ref b26), .unset, .unset, .unset, .unset, .unset, .unset] [])) _
      refine XS.iload X26.here hx rfl (hb hby at_86) rfl ?_
      show Steps p.tables e below (T26.setTop (mkF m 88 #[.val (.long q0), .second, .val (.long q1), .second, .val (.long q2), .second, .val (.long q3), .second, .val (.int p4), .val (.int p5), .val (.int (0 : Int32)), .val (.int (q3.toInt32)), .val (.int v1), .val (.ref b2), .val (.ref b9), .val (.ref b16), .val (.ref b26), .unset, .unset, .unset, .unset, .unset, .unset] [(.int (0 : Int32))])) _
      refine XS.ifYes X26.here hx rfl (pc0 := 88) (pc' := 97) rfl (hb hby at_88) rfl ((if0 _ _).trans (flt (by decide)).2.2.2) (by decide) (by decide) ?_
      show Steps p.tables e below (T26.setTop (mkF m 97 #[.val (.long q0), .second, .val (.long q1), .second, .val (.long q2), .second, .val (.long q3), .second, .val (.int p4), .val (.int p5), .val (.int (0 : Int32)), .val (.int (q3.toInt32)), .val (.int v1), .val (.ref b2), .val (.ref b9), .val (.ref b16), .val (.ref b26), .unset, .unset, .unset, .unset, .unset, .unset] [])) _
      refine XS.iload X26.here hx rfl (hb hby at_97) rfl ?_
      show Steps p.tables e below (T26.setTop (mkF m 99 #[.val (.long q0), .second, .val (.long q1), .second, .val (.long q2), .second, .val (.long q3), .second, .val (.int p4), .val (.int p5), .val (.int (0 : Int32)), .val (.int (q3.toInt32)), .val (.int v1), .val (.ref b2), .val (.ref b9), .val (.ref b16), .val (.ref b26), .unset, .unset, .unset, .unset, .unset, .unset] [(.int (0 : Int32))])) _
      refine XS.iconst X26.here hx rfl (hb hby at_99) ?_
      show Steps p.tables e below (T26.setTop (mkF m 100 #[.val (.long q0), .second, .val (.long q1), .second, .val (.long q2), .second, .val (.long q3), .second, .val (.int p4), .val (.int p5), .val (.int (0 : Int32)), .val (.int (q3.toInt32)), .val (.int v1), .val (.ref b2), .val (.ref b9), .val (.ref b16), .val (.ref b26), .unset, .unset, .unset, .unset, .unset, .unset] [(.int (1 : Int32)), (.int (0 : Int32))])) _
      refine XS.icmpYes X26.here hx rfl (pc0 := 100) (pc' := 109) rfl (hb hby at_100) rfl (flt (by decide)).2.2.2 (by decide) (by decide) ?_
      show Steps p.tables e below (T26.setTop (mkF m 109 #[.val (.long q0), .second, .val (.long q1), .second, .val (.long q2), .second, .val (.long q3), .second, .val (.int p4), .val (.int p5), .val (.int (0 : Int32)), .val (.int (q3.toInt32)), .val (.int v1), .val (.ref b2), .val (.ref b9), .val (.ref b16), .val (.ref b26), .unset, .unset, .unset, .unset, .unset, .unset] [])) _
      refine XS.iload X26.here hx rfl (hb hby at_109) rfl ?_
      show Steps p.tables e below (T26.setTop (mkF m 111 #[.val (.long q0), .second, .val (.long q1), .second, .val (.long q2), .second, .val (.long q3), .second, .val (.int p4), .val (.int p5), .val (.int (0 : Int32)), .val (.int (q3.toInt32)), .val (.int v1), .val (.ref b2), .val (.ref b9), .val (.ref b16), .val (.ref b26), .unset, .unset, .unset, .unset, .unset, .unset] [(.int (0 : Int32))])) _
      refine XS.iconst X26.here hx rfl (hb hby at_111) ?_
      show Steps p.tables e below (T26.setTop (mkF m 112 #[.val (.long q0), .second, .val (.long q1), .second, .val (.long q2), .second, .val (.long q3), .second, .val (.int p4), .val (.int p5), .val (.int (0 : Int32)), .val (.int (q3.toInt32)), .val (.int v1), .val (.ref b2), .val (.ref b9), .val (.ref b16), .val (.ref b26), .unset, .unset, .unset, .unset, .unset, .unset] [(.int (2 : Int32)), (.int (0 : Int32))])) _
      refine XS.icmpYes X26.here hx rfl (pc0 := 112) (pc' := 121) rfl (hb hby at_112) rfl (flt (by decide)).2.2.2 (by decide) (by decide) ?_
      show Steps p.tables e below (T26.setTop (mkF m 121 #[.val (.long q0), .second, .val (.long q1), .second, .val (.long q2), .second, .val (.long q3), .second, .val (.int p4), .val (.int p5), .val (.int (0 : Int32)), .val (.int (q3.toInt32)), .val (.int v1), .val (.ref b2), .val (.ref b9), .val (.ref b16), .val (.ref b26), .unset, .unset, .unset, .unset, .unset, .unset] [])) _
      refine XS.aload X26.here hx rfl (hb hby at_121) rfl rfl ?_
      show Steps p.tables e below (T26.setTop (mkF m 123 #[.val (.long q0), .second, .val (.long q1), .second, .val (.long q2), .second, .val (.long q3), .second, .val (.int p4), .val (.int p5), .val (.int (0 : Int32)), .val (.int (q3.toInt32)), .val (.int v1), .val (.ref b2), .val (.ref b9), .val (.ref b16), .val (.ref b26), .unset, .unset, .unset, .unset, .unset, .unset] [(.ref b16)])) _
      refine XS.aload X26.here hx rfl (hb hby at_123) rfl rfl ?_
      show Steps p.tables e below (T26.setTop (mkF m 125 #[.val (.long q0), .second, .val (.long q1), .second, .val (.long q2), .second, .val (.long q3), .second, .val (.int p4), .val (.int p5), .val (.int (0 : Int32)), .val (.int (q3.toInt32)), .val (.int v1), .val (.ref b2), .val (.ref b9), .val (.ref b16), .val (.ref b26), .unset, .unset, .unset, .unset, .unset, .unset] [(.ref b26), (.ref b16)])) _
      refine st34.trans ?_
      show Steps p.tables e below (T34.setTop (mkF m 128 #[.val (.long q0), .second, .val (.long q1), .second, .val (.long q2), .second, .val (.long q3), .second, .val (.int p4), .val (.int p5), .val (.int (0 : Int32)), .val (.int (q3.toInt32)), .val (.int v1), .val (.ref b2), .val (.ref b9), .val (.ref b16), .val (.ref b26), .unset, .unset, .unset, .unset, .unset, .unset] [(.long (0 : Int64))])) _
      refine XS.lstore X34.here hx rfl (hb hby at_128) rfl (l' := #[.val (.long q0), .second, .val (.long q1), .second, .val (.long q2), .second, .val (.long q3), .second, .val (.int p4), .val (.int p5), .val (.int (0 : Int32)), .val (.int (q3.toInt32)), .val (.int v1), .val (.ref b2), .val (.ref b9), .val (.ref b16), .val (.ref b26), .val (.long (0 : Int64)), .second, .unset, .unset, .unset, .unset]) rfl ?_
      show Steps p.tables e below (T34.setTop (mkF m 130 #[.val (.long q0), .second, .val (.long q1), .second, .val (.long q2), .second, .val (.long q3), .second, .val (.int p4), .val (.int p5), .val (.int (0 : Int32)), .val (.int (q3.toInt32)), .val (.int v1), .val (.ref b2), .val (.ref b9), .val (.ref b16), .val (.ref b26), .val (.long (0 : Int64)), .second, .unset, .unset, .unset, .unset] [])) _
      refine XS.lconst X34.here hx rfl (hb hby at_130) ?_
      show Steps p.tables e below (T34.setTop (mkF m 131 #[.val (.long q0), .second, .val (.long q1), .second, .val (.long q2), .second, .val (.long q3), .second, .val (.int p4), .val (.int p5), .val (.int (0 : Int32)), .val (.int (q3.toInt32)), .val (.int v1), .val (.ref b2), .val (.ref b9), .val (.ref b16), .val (.ref b26), .val (.long (0 : Int64)), .second, .unset, .unset, .unset, .unset] [(.long (0 : Int64))])) _
      refine XS.lstore X34.here hx rfl (hb hby at_131) rfl (l' := #[.val (.long q0), .second, .val (.long q1), .second, .val (.long q2), .second, .val (.long q3), .second, .val (.int p4), .val (.int p5), .val (.int (0 : Int32)), .val (.int (q3.toInt32)), .val (.int v1), .val (.ref b2), .val (.ref b9), .val (.ref b16), .val (.ref b26), .val (.long (0 : Int64)), .second, .val (.long (0 : Int64)), .second, .unset, .unset]) rfl ?_
      show Steps p.tables e below (T34.setTop (mkF m 133 #[.val (.long q0), .second, .val (.long q1), .second, .val (.long q2), .second, .val (.long q3), .second, .val (.int p4), .val (.int p5), .val (.int (0 : Int32)), .val (.int (q3.toInt32)), .val (.int v1), .val (.ref b2), .val (.ref b9), .val (.ref b16), .val (.ref b26), .val (.long (0 : Int64)), .second, .val (.long (0 : Int64)), .second, .unset, .unset] [])) _
      refine XS.iload X34.here hx rfl (hb hby at_133) rfl ?_
      show Steps p.tables e below (T34.setTop (mkF m 135 #[.val (.long q0), .second, .val (.long q1), .second, .val (.long q2), .second, .val (.long q3), .second, .val (.int p4), .val (.int p5), .val (.int (0 : Int32)), .val (.int (q3.toInt32)), .val (.int v1), .val (.ref b2), .val (.ref b9), .val (.ref b16), .val (.ref b26), .val (.long (0 : Int64)), .second, .val (.long (0 : Int64)), .second, .unset, .unset] [(.int (0 : Int32))])) _
      refine XS.ifYes X34.here hx rfl (pc0 := 135) (pc' := 148) rfl (hb hby at_135) rfl ((if0 _ _).trans (flt (by decide)).2.2.2) (by decide) (by decide) ?_
      show Steps p.tables e below (T34.setTop (mkF m 148 #[.val (.long q0), .second, .val (.long q1), .second, .val (.long q2), .second, .val (.long q3), .second, .val (.int p4), .val (.int p5), .val (.int (0 : Int32)), .val (.int (q3.toInt32)), .val (.int v1), .val (.ref b2), .val (.ref b9), .val (.ref b16), .val (.ref b26), .val (.long (0 : Int64)), .second, .val (.long (0 : Int64)), .second, .unset, .unset] [])) _
      refine XS.iload X34.here hx rfl (hb hby at_148) rfl ?_
      show Steps p.tables e below (T34.setTop (mkF m 150 #[.val (.long q0), .second, .val (.long q1), .second, .val (.long q2), .second, .val (.long q3), .second, .val (.int p4), .val (.int p5), .val (.int (0 : Int32)), .val (.int (q3.toInt32)), .val (.int v1), .val (.ref b2), .val (.ref b9), .val (.ref b16), .val (.ref b26), .val (.long (0 : Int64)), .second, .val (.long (0 : Int64)), .second, .unset, .unset] [(.int (0 : Int32))])) _
      refine XS.iconst X34.here hx rfl (hb hby at_150) ?_
      show Steps p.tables e below (T34.setTop (mkF m 151 #[.val (.long q0), .second, .val (.long q1), .second, .val (.long q2), .second, .val (.long q3), .second, .val (.int p4), .val (.int p5), .val (.int (0 : Int32)), .val (.int (q3.toInt32)), .val (.int v1), .val (.ref b2), .val (.ref b9), .val (.ref b16), .val (.ref b26), .val (.long (0 : Int64)), .second, .val (.long (0 : Int64)), .second, .unset, .unset] [(.int (1 : Int32)), (.int (0 : Int32))])) _
      refine XS.icmpYes X34.here hx rfl (pc0 := 151) (pc' := 164) rfl (hb hby at_151) rfl (flt (by decide)).2.2.2 (by decide) (by decide) ?_
      show Steps p.tables e below (T34.setTop (mkF m 164 #[.val (.long q0), .second, .val (.long q1), .second, .val (.long q2), .second, .val (.long q3), .second, .val (.int p4), .val (.int p5), .val (.int (0 : Int32)), .val (.int (q3.toInt32)), .val (.int v1), .val (.ref b2), .val (.ref b9), .val (.ref b16), .val (.ref b26), .val (.long (0 : Int64)), .second, .val (.long (0 : Int64)), .second, .unset, .unset] [])) _
      refine XS.iload X34.here hx rfl (hb hby at_164) rfl ?_
      show Steps p.tables e below (T34.setTop (mkF m 166 #[.val (.long q0), .second, .val (.long q1), .second, .val (.long q2), .second, .val (.long q3), .second, .val (.int p4), .val (.int p5), .val (.int (0 : Int32)), .val (.int (q3.toInt32)), .val (.int v1), .val (.ref b2), .val (.ref b9), .val (.ref b16), .val (.ref b26), .val (.long (0 : Int64)), .second, .val (.long (0 : Int64)), .second, .unset, .unset] [(.int (0 : Int32))])) _
      refine XS.iconst X34.here hx rfl (hb hby at_166) ?_
      show Steps p.tables e below (T34.setTop (mkF m 167 #[.val (.long q0), .second, .val (.long q1), .second, .val (.long q2), .second, .val (.long q3), .second, .val (.int p4), .val (.int p5), .val (.int (0 : Int32)), .val (.int (q3.toInt32)), .val (.int v1), .val (.ref b2), .val (.ref b9), .val (.ref b16), .val (.ref b26), .val (.long (0 : Int64)), .second, .val (.long (0 : Int64)), .second, .unset, .unset] [(.int (2 : Int32)), (.int (0 : Int32))])) _
      refine XS.icmpYes X34.here hx rfl (pc0 := 167) (pc' := 181) rfl (hb hby at_167) rfl (flt (by decide)).2.2.2 (by decide) (by decide) ?_
      show Steps p.tables e below (T34.setTop (mkF m 181 #[.val (.long q0), .second, .val (.long q1), .second, .val (.long q2), .second, .val (.long q3), .second, .val (.int p4), .val (.int p5), .val (.int (0 : Int32)), .val (.int (q3.toInt32)), .val (.int v1), .val (.ref b2), .val (.ref b9), .val (.ref b16), .val (.ref b26), .val (.long (0 : Int64)), .second, .val (.long (0 : Int64)), .second, .unset, .unset] [])) _
      refine XS.iload X34.here hx rfl (hb hby at_181) rfl ?_
      show Steps p.tables e below (T34.setTop (mkF m 183 #[.val (.long q0), .second, .val (.long q1), .second, .val (.long q2), .second, .val (.long q3), .second, .val (.int p4), .val (.int p5), .val (.int (0 : Int32)), .val (.int (q3.toInt32)), .val (.int v1), .val (.ref b2), .val (.ref b9), .val (.ref b16), .val (.ref b26), .val (.long (0 : Int64)), .second, .val (.long (0 : Int64)), .second, .unset, .unset] [(.int (0 : Int32))])) _
      refine XS.iconst X34.here hx rfl (hb hby at_183) ?_
      show Steps p.tables e below (T34.setTop (mkF m 184 #[.val (.long q0), .second, .val (.long q1), .second, .val (.long q2), .second, .val (.long q3), .second, .val (.int p4), .val (.int p5), .val (.int (0 : Int32)), .val (.int (q3.toInt32)), .val (.int v1), .val (.ref b2), .val (.ref b9), .val (.ref b16), .val (.ref b26), .val (.long (0 : Int64)), .second, .val (.long (0 : Int64)), .second, .unset, .unset] [(.int (1 : Int32)), (.int (0 : Int32))])) _
      refine XS.icmpYes X34.here hx rfl (pc0 := 184) (pc' := 196) rfl (hb hby at_184) rfl (tlt (by decide)).1 (by decide) (by decide) ?_
      show Steps p.tables e below (T34.setTop (mkF m 196 #[.val (.long q0), .second, .val (.long q1), .second, .val (.long q2), .second, .val (.long q3), .second, .val (.int p4), .val (.int p5), .val (.int (0 : Int32)), .val (.int (q3.toInt32)), .val (.int v1), .val (.ref b2), .val (.ref b9), .val (.ref b16), .val (.ref b26), .val (.long (0 : Int64)), .second, .val (.long (0 : Int64)), .second, .unset, .unset] [])) _
      refine XS.iload X34.here hx rfl (hb hby at_196) rfl ?_
      show Steps p.tables e below (T34.setTop (mkF m 198 #[.val (.long q0), .second, .val (.long q1), .second, .val (.long q2), .second, .val (.long q3), .second, .val (.int p4), .val (.int p5), .val (.int (0 : Int32)), .val (.int (q3.toInt32)), .val (.int v1), .val (.ref b2), .val (.ref b9), .val (.ref b16), .val (.ref b26), .val (.long (0 : Int64)), .second, .val (.long (0 : Int64)), .second, .unset, .unset] [(.int (0 : Int32))])) _
      refine XS.iconst X34.here hx rfl (hb hby at_198) ?_
      show Steps p.tables e below (T34.setTop (mkF m 199 #[.val (.long q0), .second, .val (.long q1), .second, .val (.long q2), .second, .val (.long q3), .second, .val (.int p4), .val (.int p5), .val (.int (0 : Int32)), .val (.int (q3.toInt32)), .val (.int v1), .val (.ref b2), .val (.ref b9), .val (.ref b16), .val (.ref b26), .val (.long (0 : Int64)), .second, .val (.long (0 : Int64)), .second, .unset, .unset] [(.int (2 : Int32)), (.int (0 : Int32))])) _
      refine XS.icmpYes X34.here hx rfl (pc0 := 199) (pc' := 211) rfl (hb hby at_199) rfl (tlt (by decide)).1 (by decide) (by decide) ?_
      show Steps p.tables e below (T34.setTop (mkF m 211 #[.val (.long q0), .second, .val (.long q1), .second, .val (.long q2), .second, .val (.long q3), .second, .val (.int p4), .val (.int p5), .val (.int (0 : Int32)), .val (.int (q3.toInt32)), .val (.int v1), .val (.ref b2), .val (.ref b9), .val (.ref b16), .val (.ref b26), .val (.long (0 : Int64)), .second, .val (.long (0 : Int64)), .second, .unset, .unset] [])) _
      refine XS.iload X34.here hx rfl (hb hby at_211) rfl ?_
      show Steps p.tables e below (T34.setTop (mkF m 213 #[.val (.long q0), .second, .val (.long q1), .second, .val (.long q2), .second, .val (.long q3), .second, .val (.int p4), .val (.int p5), .val (.int (0 : Int32)), .val (.int (q3.toInt32)), .val (.int v1), .val (.ref b2), .val (.ref b9), .val (.ref b16), .val (.ref b26), .val (.long (0 : Int64)), .second, .val (.long (0 : Int64)), .second, .unset, .unset] [(.int (0 : Int32))])) _
      refine XS.iconst X34.here hx rfl (hb hby at_213) ?_
      show Steps p.tables e below (T34.setTop (mkF m 214 #[.val (.long q0), .second, .val (.long q1), .second, .val (.long q2), .second, .val (.long q3), .second, .val (.int p4), .val (.int p5), .val (.int (0 : Int32)), .val (.int (q3.toInt32)), .val (.int v1), .val (.ref b2), .val (.ref b9), .val (.ref b16), .val (.ref b26), .val (.long (0 : Int64)), .second, .val (.long (0 : Int64)), .second, .unset, .unset] [(.int (3 : Int32)), (.int (0 : Int32))])) _
      refine XS.icmpYes X34.here hx rfl (pc0 := 214) (pc' := 226) rfl (hb hby at_214) rfl (tlt (by decide)).1 (by decide) (by decide) ?_
      show Steps p.tables e below (T34.setTop (mkF m 226 #[.val (.long q0), .second, .val (.long q1), .second, .val (.long q2), .second, .val (.long q3), .second, .val (.int p4), .val (.int p5), .val (.int (0 : Int32)), .val (.int (q3.toInt32)), .val (.int v1), .val (.ref b2), .val (.ref b9), .val (.ref b16), .val (.ref b26), .val (.long (0 : Int64)), .second, .val (.long (0 : Int64)), .second, .unset, .unset] [])) _
      refine XS.iconst X34.here hx rfl (hb hby at_226) ?_
      show Steps p.tables e below (T34.setTop (mkF m 227 #[.val (.long q0), .second, .val (.long q1), .second, .val (.long q2), .second, .val (.long q3), .second, .val (.int p4), .val (.int p5), .val (.int (0 : Int32)), .val (.int (q3.toInt32)), .val (.int v1), .val (.ref b2), .val (.ref b9), .val (.ref b16), .val (.ref b26), .val (.long (0 : Int64)), .second, .val (.long (0 : Int64)), .second, .unset, .unset] [(.int (1 : Int32))])) _
      refine XS.goto X34.here hx rfl (pc0 := 227) (pc' := 231) rfl (hb hby at_227) (by decide) (by decide) ?_
      show Steps p.tables e below (T34.setTop (mkF m 231 #[.val (.long q0), .second, .val (.long q1), .second, .val (.long q2), .second, .val (.long q3), .second, .val (.int p4), .val (.int p5), .val (.int (0 : Int32)), .val (.int (q3.toInt32)), .val (.int v1), .val (.ref b2), .val (.ref b9), .val (.ref b16), .val (.ref b26), .val (.long (0 : Int64)), .second, .val (.long (0 : Int64)), .second, .unset, .unset] [(.int (1 : Int32))])) _
      refine XS.istore X34.here hx rfl (hb hby at_231) rfl (l' := #[.val (.long q0), .second, .val (.long q1), .second, .val (.long q2), .second, .val (.long q3), .second, .val (.int p4), .val (.int p5), .val (.int (0 : Int32)), .val (.int (q3.toInt32)), .val (.int v1), .val (.ref b2), .val (.ref b9), .val (.ref b16), .val (.ref b26), .val (.long (0 : Int64)), .second, .val (.long (0 : Int64)), .second, .val (.int (1 : Int32)), .unset]) rfl ?_
      show Steps p.tables e below (T34.setTop (mkF m 233 #[.val (.long q0), .second, .val (.long q1), .second, .val (.long q2), .second, .val (.long q3), .second, .val (.int p4), .val (.int p5), .val (.int (0 : Int32)), .val (.int (q3.toInt32)), .val (.int v1), .val (.ref b2), .val (.ref b9), .val (.ref b16), .val (.ref b26), .val (.long (0 : Int64)), .second, .val (.long (0 : Int64)), .second, .val (.int (1 : Int32)), .unset] [])) _
      refine XS.aload X34.here hx rfl (hb hby at_233) rfl rfl ?_
      show Steps p.tables e below (T34.setTop (mkF m 235 #[.val (.long q0), .second, .val (.long q1), .second, .val (.long q2), .second, .val (.long q3), .second, .val (.int p4), .val (.int p5), .val (.int (0 : Int32)), .val (.int (q3.toInt32)), .val (.int v1), .val (.ref b2), .val (.ref b9), .val (.ref b16), .val (.ref b26), .val (.long (0 : Int64)), .second, .val (.long (0 : Int64)), .second, .val (.int (1 : Int32)), .unset] [(.ref b2)])) _
      refine XS.iconst X34.here hx rfl (hb hby at_235) ?_
      show Steps p.tables e below (T34.setTop (mkF m 236 #[.val (.long q0), .second, .val (.long q1), .second, .val (.long q2), .second, .val (.long q3), .second, .val (.int p4), .val (.int p5), .val (.int (0 : Int32)), .val (.int (q3.toInt32)), .val (.int v1), .val (.ref b2), .val (.ref b9), .val (.ref b16), .val (.ref b26), .val (.long (0 : Int64)), .second, .val (.long (0 : Int64)), .second, .val (.int (1 : Int32)), .unset] [(.int (0 : Int32)), (.ref b2)])) _
      refine AF.ldJ X34 hx hZ e34 G35 (by decide : own_in (0 : Int32) 3) (g := (mkF m 236 #[.val (.long q0), .second, .val (.long q1), .second, .val (.long q2), .second, .val (.long q3), .second, .val (.int p4), .val (.int p5), .val (.int (0 : Int32)), .val (.int (q3.toInt32)), .val (.int v1), .val (.ref b2), .val (.ref b9), .val (.ref b16), .val (.ref b26), .val (.long (0 : Int64)), .second, .val (.long (0 : Int64)), .second, .val (.int (1 : Int32)), .unset] [(.int (0 : Int32)), (.ref b2)])) rfl rfl (hb hby at_236) _ ?_
      show Steps p.tables e below (T34.setTop (mkF m 237 #[.val (.long q0), .second, .val (.long q1), .second, .val (.long q2), .second, .val (.long q3), .second, .val (.int p4), .val (.int p5), .val (.int (0 : Int32)), .val (.int (q3.toInt32)), .val (.int v1), .val (.ref b2), .val (.ref b9), .val (.ref b16), .val (.ref b26), .val (.long (0 : Int64)), .second, .val (.long (0 : Int64)), .second, .val (.int (1 : Int32)), .unset] [(.long (f8 0))])) _
      refine XS.lloadN X34.here hx rfl (hb hby at_237) rfl ?_
      show Steps p.tables e below (T34.setTop (mkF m 238 #[.val (.long q0), .second, .val (.long q1), .second, .val (.long q2), .second, .val (.long q3), .second, .val (.int p4), .val (.int p5), .val (.int (0 : Int32)), .val (.int (q3.toInt32)), .val (.int v1), .val (.ref b2), .val (.ref b9), .val (.ref b16), .val (.ref b26), .val (.long (0 : Int64)), .second, .val (.long (0 : Int64)), .second, .val (.int (1 : Int32)), .unset] [(.long q0), (.long (f8 0))])) _
      refine XS.lcmp X34.here hx rfl (hb hby at_238) rfl ?_
      show Steps p.tables e below (T34.setTop (mkF m 239 #[.val (.long q0), .second, .val (.long q1), .second, .val (.long q2), .second, .val (.long q3), .second, .val (.int p4), .val (.int p5), .val (.int (0 : Int32)), .val (.int (q3.toInt32)), .val (.int v1), .val (.ref b2), .val (.ref b9), .val (.ref b16), .val (.ref b26), .val (.long (0 : Int64)), .second, .val (.long (0 : Int64)), .second, .val (.int (1 : Int32)), .unset] [(.int (lcmpW (f8 0) q0))])) _
      refine own_dia (F := (mkF m 266 #[.val (.long q0), .second, .val (.long q1), .second, .val (.long q2), .second, .val (.long q3), .second, .val (.int p4), .val (.int p5), .val (.int (0 : Int32)), .val (.int (q3.toInt32)), .val (.int v1), .val (.ref b2), .val (.ref b9), .val (.ref b16), .val (.ref b26), .val (.long (0 : Int64)), .second, .val (.long (0 : Int64)), .second, .val (.int (1 : Int32)), .unset] [(.int v41)])) ?_ ?_
      · intro kt
        by_cases hc36 : (f8 0) = q0
        · show Steps p.tables e below (T34.setTop (mkF m 239 #[.val (.long q0), .second, .val (.long q1), .second, .val (.long q2), .second, .val (.long q3), .second, .val (.int p4), .val (.int p5), .val (.int (0 : Int32)), .val (.int (q3.toInt32)), .val (.int v1), .val (.ref b2), .val (.ref b9), .val (.ref b16), .val (.ref b26), .val (.long (0 : Int64)), .second, .val (.long (0 : Int64)), .second, .val (.int (1 : Int32)), .unset] [(.int (lcmpW (f8 0) q0))])) _
          refine XS.ifNo X34.here hx rfl (hb hby at_239) rfl ((if0 _ _).trans (teq ((lw_eq (f8 0) q0).mpr hc36)).2) ?_
          show Steps p.tables e below (T34.setTop (mkF m 242 #[.val (.long q0), .second, .val (.long q1), .second, .val (.long q2), .second, .val (.long q3), .second, .val (.int p4), .val (.int p5), .val (.int (0 : Int32)), .val (.int (q3.toInt32)), .val (.int v1), .val (.ref b2), .val (.ref b9), .val (.ref b16), .val (.ref b26), .val (.long (0 : Int64)), .second, .val (.long (0 : Int64)), .second, .val (.int (1 : Int32)), .unset] [])) _
          refine XS.aload X34.here hx rfl (hb hby at_242) rfl rfl ?_
          show Steps p.tables e below (T34.setTop (mkF m 244 #[.val (.long q0), .second, .val (.long q1), .second, .val (.long q2), .second, .val (.long q3), .second, .val (.int p4), .val (.int p5), .val (.int (0 : Int32)), .val (.int (q3.toInt32)), .val (.int v1), .val (.ref b2), .val (.ref b9), .val (.ref b16), .val (.ref b26), .val (.long (0 : Int64)), .second, .val (.long (0 : Int64)), .second, .val (.int (1 : Int32)), .unset] [(.ref b2)])) _
          refine XS.iconst X34.here hx rfl (hb hby at_244) ?_
          show Steps p.tables e below (T34.setTop (mkF m 245 #[.val (.long q0), .second, .val (.long q1), .second, .val (.long q2), .second, .val (.long q3), .second, .val (.int p4), .val (.int p5), .val (.int (0 : Int32)), .val (.int (q3.toInt32)), .val (.int v1), .val (.ref b2), .val (.ref b9), .val (.ref b16), .val (.ref b26), .val (.long (0 : Int64)), .second, .val (.long (0 : Int64)), .second, .val (.int (1 : Int32)), .unset] [(.int (1 : Int32)), (.ref b2)])) _
          refine AF.ldJ X34 hx hZ e34 G35 (by decide : own_in (1 : Int32) 3) (g := (mkF m 245 #[.val (.long q0), .second, .val (.long q1), .second, .val (.long q2), .second, .val (.long q3), .second, .val (.int p4), .val (.int p5), .val (.int (0 : Int32)), .val (.int (q3.toInt32)), .val (.int v1), .val (.ref b2), .val (.ref b9), .val (.ref b16), .val (.ref b26), .val (.long (0 : Int64)), .second, .val (.long (0 : Int64)), .second, .val (.int (1 : Int32)), .unset] [(.int (1 : Int32)), (.ref b2)])) rfl rfl (hb hby at_245) _ ?_
          show Steps p.tables e below (T34.setTop (mkF m 246 #[.val (.long q0), .second, .val (.long q1), .second, .val (.long q2), .second, .val (.long q3), .second, .val (.int p4), .val (.int p5), .val (.int (0 : Int32)), .val (.int (q3.toInt32)), .val (.int v1), .val (.ref b2), .val (.ref b9), .val (.ref b16), .val (.ref b26), .val (.long (0 : Int64)), .second, .val (.long (0 : Int64)), .second, .val (.int (1 : Int32)), .unset] [(.long (f8 1))])) _
          refine XS.lloadN X34.here hx rfl (hb hby at_246) rfl ?_
          show Steps p.tables e below (T34.setTop (mkF m 247 #[.val (.long q0), .second, .val (.long q1), .second, .val (.long q2), .second, .val (.long q3), .second, .val (.int p4), .val (.int p5), .val (.int (0 : Int32)), .val (.int (q3.toInt32)), .val (.int v1), .val (.ref b2), .val (.ref b9), .val (.ref b16), .val (.ref b26), .val (.long (0 : Int64)), .second, .val (.long (0 : Int64)), .second, .val (.int (1 : Int32)), .unset] [(.long q1), (.long (f8 1))])) _
          refine XS.lcmp X34.here hx rfl (hb hby at_247) rfl ?_
          show Steps p.tables e below (T34.setTop (mkF m 248 #[.val (.long q0), .second, .val (.long q1), .second, .val (.long q2), .second, .val (.long q3), .second, .val (.int p4), .val (.int p5), .val (.int (0 : Int32)), .val (.int (q3.toInt32)), .val (.int v1), .val (.ref b2), .val (.ref b9), .val (.ref b16), .val (.ref b26), .val (.long (0 : Int64)), .second, .val (.long (0 : Int64)), .second, .val (.int (1 : Int32)), .unset] [(.int (lcmpW (f8 1) q1))])) _
          refine own_dia (F := (mkF m 266 #[.val (.long q0), .second, .val (.long q1), .second, .val (.long q2), .second, .val (.long q3), .second, .val (.int p4), .val (.int p5), .val (.int (0 : Int32)), .val (.int (q3.toInt32)), .val (.int v1), .val (.ref b2), .val (.ref b9), .val (.ref b16), .val (.ref b26), .val (.long (0 : Int64)), .second, .val (.long (0 : Int64)), .second, .val (.int (1 : Int32)), .unset] [(.int v40)])) ?_ ?_
          · intro kt
            by_cases hc37 : (f8 1) = q1
            · show Steps p.tables e below (T34.setTop (mkF m 248 #[.val (.long q0), .second, .val (.long q1), .second, .val (.long q2), .second, .val (.long q3), .second, .val (.int p4), .val (.int p5), .val (.int (0 : Int32)), .val (.int (q3.toInt32)), .val (.int v1), .val (.ref b2), .val (.ref b9), .val (.ref b16), .val (.ref b26), .val (.long (0 : Int64)), .second, .val (.long (0 : Int64)), .second, .val (.int (1 : Int32)), .unset] [(.int (lcmpW (f8 1) q1))])) _
              refine XS.ifNo X34.here hx rfl (hb hby at_248) rfl ((if0 _ _).trans (teq ((lw_eq (f8 1) q1).mpr hc37)).2) ?_
              show Steps p.tables e below (T34.setTop (mkF m 251 #[.val (.long q0), .second, .val (.long q1), .second, .val (.long q2), .second, .val (.long q3), .second, .val (.int p4), .val (.int p5), .val (.int (0 : Int32)), .val (.int (q3.toInt32)), .val (.int v1), .val (.ref b2), .val (.ref b9), .val (.ref b16), .val (.ref b26), .val (.long (0 : Int64)), .second, .val (.long (0 : Int64)), .second, .val (.int (1 : Int32)), .unset] [])) _
              refine XS.aload X34.here hx rfl (hb hby at_251) rfl rfl ?_
              show Steps p.tables e below (T34.setTop (mkF m 253 #[.val (.long q0), .second, .val (.long q1), .second, .val (.long q2), .second, .val (.long q3), .second, .val (.int p4), .val (.int p5), .val (.int (0 : Int32)), .val (.int (q3.toInt32)), .val (.int v1), .val (.ref b2), .val (.ref b9), .val (.ref b16), .val (.ref b26), .val (.long (0 : Int64)), .second, .val (.long (0 : Int64)), .second, .val (.int (1 : Int32)), .unset] [(.ref b2)])) _
              refine XS.iconst X34.here hx rfl (hb hby at_253) ?_
              show Steps p.tables e below (T34.setTop (mkF m 254 #[.val (.long q0), .second, .val (.long q1), .second, .val (.long q2), .second, .val (.long q3), .second, .val (.int p4), .val (.int p5), .val (.int (0 : Int32)), .val (.int (q3.toInt32)), .val (.int v1), .val (.ref b2), .val (.ref b9), .val (.ref b16), .val (.ref b26), .val (.long (0 : Int64)), .second, .val (.long (0 : Int64)), .second, .val (.int (1 : Int32)), .unset] [(.int (2 : Int32)), (.ref b2)])) _
              refine AF.ldJ X34 hx hZ e34 G35 (by decide : own_in (2 : Int32) 3) (g := (mkF m 254 #[.val (.long q0), .second, .val (.long q1), .second, .val (.long q2), .second, .val (.long q3), .second, .val (.int p4), .val (.int p5), .val (.int (0 : Int32)), .val (.int (q3.toInt32)), .val (.int v1), .val (.ref b2), .val (.ref b9), .val (.ref b16), .val (.ref b26), .val (.long (0 : Int64)), .second, .val (.long (0 : Int64)), .second, .val (.int (1 : Int32)), .unset] [(.int (2 : Int32)), (.ref b2)])) rfl rfl (hb hby at_254) _ ?_
              show Steps p.tables e below (T34.setTop (mkF m 255 #[.val (.long q0), .second, .val (.long q1), .second, .val (.long q2), .second, .val (.long q3), .second, .val (.int p4), .val (.int p5), .val (.int (0 : Int32)), .val (.int (q3.toInt32)), .val (.int v1), .val (.ref b2), .val (.ref b9), .val (.ref b16), .val (.ref b26), .val (.long (0 : Int64)), .second, .val (.long (0 : Int64)), .second, .val (.int (1 : Int32)), .unset] [(.long (f8 2))])) _
              refine XS.lload X34.here hx rfl (hb hby at_255) rfl ?_
              show Steps p.tables e below (T34.setTop (mkF m 257 #[.val (.long q0), .second, .val (.long q1), .second, .val (.long q2), .second, .val (.long q3), .second, .val (.int p4), .val (.int p5), .val (.int (0 : Int32)), .val (.int (q3.toInt32)), .val (.int v1), .val (.ref b2), .val (.ref b9), .val (.ref b16), .val (.ref b26), .val (.long (0 : Int64)), .second, .val (.long (0 : Int64)), .second, .val (.int (1 : Int32)), .unset] [(.long q2), (.long (f8 2))])) _
              refine XS.lcmp X34.here hx rfl (hb hby at_257) rfl ?_
              show Steps p.tables e below (T34.setTop (mkF m 258 #[.val (.long q0), .second, .val (.long q1), .second, .val (.long q2), .second, .val (.long q3), .second, .val (.int p4), .val (.int p5), .val (.int (0 : Int32)), .val (.int (q3.toInt32)), .val (.int v1), .val (.ref b2), .val (.ref b9), .val (.ref b16), .val (.ref b26), .val (.long (0 : Int64)), .second, .val (.long (0 : Int64)), .second, .val (.int (1 : Int32)), .unset] [(.int (lcmpW (f8 2) q2))])) _
              refine own_dia (F := (mkF m 266 #[.val (.long q0), .second, .val (.long q1), .second, .val (.long q2), .second, .val (.long q3), .second, .val (.int p4), .val (.int p5), .val (.int (0 : Int32)), .val (.int (q3.toInt32)), .val (.int v1), .val (.ref b2), .val (.ref b9), .val (.ref b16), .val (.ref b26), .val (.long (0 : Int64)), .second, .val (.long (0 : Int64)), .second, .val (.int (1 : Int32)), .unset] [(.int v39)])) ?_ ?_
              · intro kt
                by_cases hc38 : (f8 2) = q2
                · show Steps p.tables e below (T34.setTop (mkF m 258 #[.val (.long q0), .second, .val (.long q1), .second, .val (.long q2), .second, .val (.long q3), .second, .val (.int p4), .val (.int p5), .val (.int (0 : Int32)), .val (.int (q3.toInt32)), .val (.int v1), .val (.ref b2), .val (.ref b9), .val (.ref b16), .val (.ref b26), .val (.long (0 : Int64)), .second, .val (.long (0 : Int64)), .second, .val (.int (1 : Int32)), .unset] [(.int (lcmpW (f8 2) q2))])) _
                  refine XS.ifNo X34.here hx rfl (hb hby at_258) rfl ((if0 _ _).trans (teq ((lw_eq (f8 2) q2).mpr hc38)).2) ?_
                  show Steps p.tables e below (T34.setTop (mkF m 261 #[.val (.long q0), .second, .val (.long q1), .second, .val (.long q2), .second, .val (.long q3), .second, .val (.int p4), .val (.int p5), .val (.int (0 : Int32)), .val (.int (q3.toInt32)), .val (.int v1), .val (.ref b2), .val (.ref b9), .val (.ref b16), .val (.ref b26), .val (.long (0 : Int64)), .second, .val (.long (0 : Int64)), .second, .val (.int (1 : Int32)), .unset] [])) _
                  refine XS.iconst X34.here hx rfl (hb hby at_261) ?_
                  show Steps p.tables e below (T34.setTop (mkF m 262 #[.val (.long q0), .second, .val (.long q1), .second, .val (.long q2), .second, .val (.long q3), .second, .val (.int p4), .val (.int p5), .val (.int (0 : Int32)), .val (.int (q3.toInt32)), .val (.int v1), .val (.ref b2), .val (.ref b9), .val (.ref b16), .val (.ref b26), .val (.long (0 : Int64)), .second, .val (.long (0 : Int64)), .second, .val (.int (1 : Int32)), .unset] [(.int (1 : Int32))])) _
                  refine XS.goto X34.here hx rfl (pc0 := 262) (pc' := 266) rfl (hb hby at_262) (by decide) (by decide) ?_
                  exact castTop (by rw [hv39, if_pos hc38] <;> rfl) kt
                · show Steps p.tables e below (T34.setTop (mkF m 258 #[.val (.long q0), .second, .val (.long q1), .second, .val (.long q2), .second, .val (.long q3), .second, .val (.int p4), .val (.int p5), .val (.int (0 : Int32)), .val (.int (q3.toInt32)), .val (.int v1), .val (.ref b2), .val (.ref b9), .val (.ref b16), .val (.ref b26), .val (.long (0 : Int64)), .second, .val (.long (0 : Int64)), .second, .val (.int (1 : Int32)), .unset] [(.int (lcmpW (f8 2) q2))])) _
                  refine XS.ifYes X34.here hx rfl (pc0 := 258) (pc' := 265) rfl (hb hby at_258) rfl ((if0 _ _).trans (feq (fun q => hc38 ((lw_eq (f8 2) q2).mp q))).2) (by decide) (by decide) ?_
                  show Steps p.tables e below (T34.setTop (mkF m 265 #[.val (.long q0), .second, .val (.long q1), .second, .val (.long q2), .second, .val (.long q3), .second, .val (.int p4), .val (.int p5), .val (.int (0 : Int32)), .val (.int (q3.toInt32)), .val (.int v1), .val (.ref b2), .val (.ref b9), .val (.ref b16), .val (.ref b26), .val (.long (0 : Int64)), .second, .val (.long (0 : Int64)), .second, .val (.int (1 : Int32)), .unset] [])) _
                  refine XS.iconst X34.here hx rfl (hb hby at_265) ?_
                  exact castTop (by rw [hv39, if_neg hc38] <;> rfl) kt
              exact castTop (by rw [hv40, if_pos hc37] <;> rfl) kt
            · show Steps p.tables e below (T34.setTop (mkF m 248 #[.val (.long q0), .second, .val (.long q1), .second, .val (.long q2), .second, .val (.long q3), .second, .val (.int p4), .val (.int p5), .val (.int (0 : Int32)), .val (.int (q3.toInt32)), .val (.int v1), .val (.ref b2), .val (.ref b9), .val (.ref b16), .val (.ref b26), .val (.long (0 : Int64)), .second, .val (.long (0 : Int64)), .second, .val (.int (1 : Int32)), .unset] [(.int (lcmpW (f8 1) q1))])) _
              refine XS.ifYes X34.here hx rfl (pc0 := 248) (pc' := 265) rfl (hb hby at_248) rfl ((if0 _ _).trans (feq (fun q => hc37 ((lw_eq (f8 1) q1).mp q))).2) (by decide) (by decide) ?_
              show Steps p.tables e below (T34.setTop (mkF m 265 #[.val (.long q0), .second, .val (.long q1), .second, .val (.long q2), .second, .val (.long q3), .second, .val (.int p4), .val (.int p5), .val (.int (0 : Int32)), .val (.int (q3.toInt32)), .val (.int v1), .val (.ref b2), .val (.ref b9), .val (.ref b16), .val (.ref b26), .val (.long (0 : Int64)), .second, .val (.long (0 : Int64)), .second, .val (.int (1 : Int32)), .unset] [])) _
              refine XS.iconst X34.here hx rfl (hb hby at_265) ?_
              exact castTop (by rw [hv40, if_neg hc37] <;> rfl) kt
          exact castTop (by rw [hv41, if_pos hc36] <;> rfl) kt
        · show Steps p.tables e below (T34.setTop (mkF m 239 #[.val (.long q0), .second, .val (.long q1), .second, .val (.long q2), .second, .val (.long q3), .second, .val (.int p4), .val (.int p5), .val (.int (0 : Int32)), .val (.int (q3.toInt32)), .val (.int v1), .val (.ref b2), .val (.ref b9), .val (.ref b16), .val (.ref b26), .val (.long (0 : Int64)), .second, .val (.long (0 : Int64)), .second, .val (.int (1 : Int32)), .unset] [(.int (lcmpW (f8 0) q0))])) _
          refine XS.ifYes X34.here hx rfl (pc0 := 239) (pc' := 265) rfl (hb hby at_239) rfl ((if0 _ _).trans (feq (fun q => hc36 ((lw_eq (f8 0) q0).mp q))).2) (by decide) (by decide) ?_
          show Steps p.tables e below (T34.setTop (mkF m 265 #[.val (.long q0), .second, .val (.long q1), .second, .val (.long q2), .second, .val (.long q3), .second, .val (.int p4), .val (.int p5), .val (.int (0 : Int32)), .val (.int (q3.toInt32)), .val (.int v1), .val (.ref b2), .val (.ref b9), .val (.ref b16), .val (.ref b26), .val (.long (0 : Int64)), .second, .val (.long (0 : Int64)), .second, .val (.int (1 : Int32)), .unset] [])) _
          refine XS.iconst X34.here hx rfl (hb hby at_265) ?_
          exact castTop (by rw [hv41, if_neg hc36] <;> rfl) kt
      show Steps p.tables e below (T34.setTop (mkF m 266 #[.val (.long q0), .second, .val (.long q1), .second, .val (.long q2), .second, .val (.long q3), .second, .val (.int p4), .val (.int p5), .val (.int (0 : Int32)), .val (.int (q3.toInt32)), .val (.int v1), .val (.ref b2), .val (.ref b9), .val (.ref b16), .val (.ref b26), .val (.long (0 : Int64)), .second, .val (.long (0 : Int64)), .second, .val (.int (1 : Int32)), .unset] [(.int v41)])) _
      refine XS.istore X34.here hx rfl (hb hby at_266) rfl (l' := #[.val (.long q0), .second, .val (.long q1), .second, .val (.long q2), .second, .val (.long q3), .second, .val (.int p4), .val (.int p5), .val (.int (0 : Int32)), .val (.int (q3.toInt32)), .val (.int v1), .val (.ref b2), .val (.ref b9), .val (.ref b16), .val (.ref b26), .val (.long (0 : Int64)), .second, .val (.long (0 : Int64)), .second, .val (.int (1 : Int32)), .val (.int v41)]) rfl ?_
      show Steps p.tables e below (T34.setTop (mkF m 268 #[.val (.long q0), .second, .val (.long q1), .second, .val (.long q2), .second, .val (.long q3), .second, .val (.int p4), .val (.int p5), .val (.int (0 : Int32)), .val (.int (q3.toInt32)), .val (.int v1), .val (.ref b2), .val (.ref b9), .val (.ref b16), .val (.ref b26), .val (.long (0 : Int64)), .second, .val (.long (0 : Int64)), .second, .val (.int (1 : Int32)), .val (.int v41)] [])) _
      refine XS.lload X34.here hx rfl (hb hby at_268) rfl ?_
      show Steps p.tables e below (T34.setTop (mkF m 270 #[.val (.long q0), .second, .val (.long q1), .second, .val (.long q2), .second, .val (.long q3), .second, .val (.int p4), .val (.int p5), .val (.int (0 : Int32)), .val (.int (q3.toInt32)), .val (.int v1), .val (.ref b2), .val (.ref b9), .val (.ref b16), .val (.ref b26), .val (.long (0 : Int64)), .second, .val (.long (0 : Int64)), .second, .val (.int (1 : Int32)), .val (.int v41)] [(.long (0 : Int64))])) _
      refine XS.lload X34.here hx rfl (hb hby at_270) rfl ?_
      show Steps p.tables e below (T34.setTop (mkF m 272 #[.val (.long q0), .second, .val (.long q1), .second, .val (.long q2), .second, .val (.long q3), .second, .val (.int p4), .val (.int p5), .val (.int (0 : Int32)), .val (.int (q3.toInt32)), .val (.int v1), .val (.ref b2), .val (.ref b9), .val (.ref b16), .val (.ref b26), .val (.long (0 : Int64)), .second, .val (.long (0 : Int64)), .second, .val (.int (1 : Int32)), .val (.int v41)] [(.long (0 : Int64)), (.long (0 : Int64))])) _
      refine XS.lcmp X34.here hx rfl (hb hby at_272) rfl ?_
      show Steps p.tables e below (T34.setTop (mkF m 273 #[.val (.long q0), .second, .val (.long q1), .second, .val (.long q2), .second, .val (.long q3), .second, .val (.int p4), .val (.int p5), .val (.int (0 : Int32)), .val (.int (q3.toInt32)), .val (.int v1), .val (.ref b2), .val (.ref b9), .val (.ref b16), .val (.ref b26), .val (.long (0 : Int64)), .second, .val (.long (0 : Int64)), .second, .val (.int (1 : Int32)), .val (.int v41)] [(.int (lcmpW (0 : Int64) (0 : Int64)))])) _
      refine XS.ifNo X34.here hx rfl (hb hby at_273) rfl ((if0 _ _).trans (teq ((lw_eq (0 : Int64) (0 : Int64)).mpr (by decide))).2) ?_
      show Steps p.tables e below (T34.setTop (mkF m 276 #[.val (.long q0), .second, .val (.long q1), .second, .val (.long q2), .second, .val (.long q3), .second, .val (.int p4), .val (.int p5), .val (.int (0 : Int32)), .val (.int (q3.toInt32)), .val (.int v1), .val (.ref b2), .val (.ref b9), .val (.ref b16), .val (.ref b26), .val (.long (0 : Int64)), .second, .val (.long (0 : Int64)), .second, .val (.int (1 : Int32)), .val (.int v41)] [])) _
      refine XS.iload X34.here hx rfl (hb hby at_276) rfl ?_
      show Steps p.tables e below (T34.setTop (mkF m 278 #[.val (.long q0), .second, .val (.long q1), .second, .val (.long q2), .second, .val (.long q3), .second, .val (.int p4), .val (.int p5), .val (.int (0 : Int32)), .val (.int (q3.toInt32)), .val (.int v1), .val (.ref b2), .val (.ref b9), .val (.ref b16), .val (.ref b26), .val (.long (0 : Int64)), .second, .val (.long (0 : Int64)), .second, .val (.int (1 : Int32)), .val (.int v41)] [(.int (1 : Int32))])) _
      refine XS.ifNo X34.here hx rfl (hb hby at_278) rfl ((if0 _ _).trans (feq (by decide)).1) ?_
      show Steps p.tables e below (T34.setTop (mkF m 281 #[.val (.long q0), .second, .val (.long q1), .second, .val (.long q2), .second, .val (.long q3), .second, .val (.int p4), .val (.int p5), .val (.int (0 : Int32)), .val (.int (q3.toInt32)), .val (.int v1), .val (.ref b2), .val (.ref b9), .val (.ref b16), .val (.ref b26), .val (.long (0 : Int64)), .second, .val (.long (0 : Int64)), .second, .val (.int (1 : Int32)), .val (.int v41)] [])) _
      refine XS.iload X34.here hx rfl (hb hby at_281) rfl ?_
      show Steps p.tables e below (T34.setTop (mkF m 283 #[.val (.long q0), .second, .val (.long q1), .second, .val (.long q2), .second, .val (.long q3), .second, .val (.int p4), .val (.int p5), .val (.int (0 : Int32)), .val (.int (q3.toInt32)), .val (.int v1), .val (.ref b2), .val (.ref b9), .val (.ref b16), .val (.ref b26), .val (.long (0 : Int64)), .second, .val (.long (0 : Int64)), .second, .val (.int (1 : Int32)), .val (.int v41)] [(.int v41)])) _
      refine own_dia (F := (mkF m 291 #[.val (.long q0), .second, .val (.long q1), .second, .val (.long q2), .second, .val (.long q3), .second, .val (.int p4), .val (.int p5), .val (.int (0 : Int32)), .val (.int (q3.toInt32)), .val (.int v1), .val (.ref b2), .val (.ref b9), .val (.ref b16), .val (.ref b26), .val (.long (0 : Int64)), .second, .val (.long (0 : Int64)), .second, .val (.int (1 : Int32)), .val (.int v41)] [(.int v43)])) ?_ ?_
      · intro kt
        by_cases hc42 : v41 = (0 : Int32)
        · show Steps p.tables e below (T34.setTop (mkF m 283 #[.val (.long q0), .second, .val (.long q1), .second, .val (.long q2), .second, .val (.long q3), .second, .val (.int p4), .val (.int p5), .val (.int (0 : Int32)), .val (.int (q3.toInt32)), .val (.int v1), .val (.ref b2), .val (.ref b9), .val (.ref b16), .val (.ref b26), .val (.long (0 : Int64)), .second, .val (.long (0 : Int64)), .second, .val (.int (1 : Int32)), .val (.int v41)] [(.int v41)])) _
          refine XS.ifYes X34.here hx rfl (pc0 := 283) (pc' := 290) rfl (hb hby at_283) rfl ((if0 _ _).trans (teq hc42).1) (by decide) (by decide) ?_
          show Steps p.tables e below (T34.setTop (mkF m 290 #[.val (.long q0), .second, .val (.long q1), .second, .val (.long q2), .second, .val (.long q3), .second, .val (.int p4), .val (.int p5), .val (.int (0 : Int32)), .val (.int (q3.toInt32)), .val (.int v1), .val (.ref b2), .val (.ref b9), .val (.ref b16), .val (.ref b26), .val (.long (0 : Int64)), .second, .val (.long (0 : Int64)), .second, .val (.int (1 : Int32)), .val (.int v41)] [])) _
          refine XS.iconst X34.here hx rfl (hb hby at_290) ?_
          exact castTop (by rw [hv43, if_pos hc42] <;> rfl) kt
        · show Steps p.tables e below (T34.setTop (mkF m 283 #[.val (.long q0), .second, .val (.long q1), .second, .val (.long q2), .second, .val (.long q3), .second, .val (.int p4), .val (.int p5), .val (.int (0 : Int32)), .val (.int (q3.toInt32)), .val (.int v1), .val (.ref b2), .val (.ref b9), .val (.ref b16), .val (.ref b26), .val (.long (0 : Int64)), .second, .val (.long (0 : Int64)), .second, .val (.int (1 : Int32)), .val (.int v41)] [(.int v41)])) _
          refine XS.ifNo X34.here hx rfl (hb hby at_283) rfl ((if0 _ _).trans (feq hc42).1) ?_
          show Steps p.tables e below (T34.setTop (mkF m 286 #[.val (.long q0), .second, .val (.long q1), .second, .val (.long q2), .second, .val (.long q3), .second, .val (.int p4), .val (.int p5), .val (.int (0 : Int32)), .val (.int (q3.toInt32)), .val (.int v1), .val (.ref b2), .val (.ref b9), .val (.ref b16), .val (.ref b26), .val (.long (0 : Int64)), .second, .val (.long (0 : Int64)), .second, .val (.int (1 : Int32)), .val (.int v41)] [])) _
          refine XS.iconst X34.here hx rfl (hb hby at_286) ?_
          show Steps p.tables e below (T34.setTop (mkF m 287 #[.val (.long q0), .second, .val (.long q1), .second, .val (.long q2), .second, .val (.long q3), .second, .val (.int p4), .val (.int p5), .val (.int (0 : Int32)), .val (.int (q3.toInt32)), .val (.int v1), .val (.ref b2), .val (.ref b9), .val (.ref b16), .val (.ref b26), .val (.long (0 : Int64)), .second, .val (.long (0 : Int64)), .second, .val (.int (1 : Int32)), .val (.int v41)] [(.int (1 : Int32))])) _
          refine XS.goto X34.here hx rfl (pc0 := 287) (pc' := 291) rfl (hb hby at_287) (by decide) (by decide) ?_
          exact castTop (by rw [hv43, if_neg hc42] <;> rfl) kt
      show Steps p.tables e below (T34.setTop (mkF m 291 #[.val (.long q0), .second, .val (.long q1), .second, .val (.long q2), .second, .val (.long q3), .second, .val (.int p4), .val (.int p5), .val (.int (0 : Int32)), .val (.int (q3.toInt32)), .val (.int v1), .val (.ref b2), .val (.ref b9), .val (.ref b16), .val (.ref b26), .val (.long (0 : Int64)), .second, .val (.long (0 : Int64)), .second, .val (.int (1 : Int32)), .val (.int v41)] [(.int v43)])) _
      exact retN X34 hx (t := .boolean) Bd.returns (by simp) (hb hby at_291) hr
    · show Q0 h0 n0 _ T34.heap _
      refine ⟨?_, N34⟩
      have hfin : (nar .boolean v43) = (1 : Int32) := by
        exact (own_law_0 q0 q1 q2 f4 f6 f8 v39 v40 v41 v43 hf4 hf6 hf8 hv39 hv40 hv41 hv43)
      rw [hfin]
  · subst hk
    obtain ⟨T44, h44, k44, X44, e44, E44, A44, st44⟩ := newP X18 hx hZ (hw _ (List.mem_of_getElem? (i := 21) rfl)) rfl (g := (mkF m 82 #[.val (.long q0), .second, .val (.long q1), .second, .val (.long q2), .second, .val (.long q3), .second, .val (.int p4), .val (.int p5), .val (.int (1 : Int32)), .val (.int (q3.toInt32)), .val (.int v1), .val (.ref b2), .val (.ref b9), .val (.ref b16), .unset, .unset, .unset, .unset, .unset, .unset, .unset] [(.int (1 : Int32))])) rfl (hb hby at_82) rfl (by decide) (cap := 1) (by decide) (by decide) (by decide) (by decide)
    obtain ⟨b44, g44⟩ : ∃ z, z = T18.heap.size := ⟨_, rfl⟩
    rw [← g44] at A44 st44
    have G45 : AF Z T18.heap b2 .long 3 (fun j => .long (f8 j)) := ((G17.ext E16).keep Kc18 (ninS ne_b2_b16 nin0))
    have ne_b2_b44 : b2 ≠ b44 := Nat.ne_of_lt (Nat.lt_of_lt_of_le G45.lt (Nat.le_of_eq g44.symm))
    have G46 : AF Z T18.heap b9 .long 3 (fun j => .long (f15 j)) := ((V14.ext E16).keep Kc18 (ninS ne_b9_b16 nin0))
    have ne_b9_b44 : b9 ≠ b44 := Nat.ne_of_lt (Nat.lt_of_lt_of_le G46.lt (Nat.le_of_eq g44.symm))
    have ne_b16_b44 : b16 ≠ b44 := Nat.ne_of_lt (Nat.lt_of_lt_of_le P19.lt (Nat.le_of_eq g44.symm))
    have nw_b44 : n0 ≤ b44 := Nat.le_trans (Nat.le_trans Z0 K18.1) (Nat.le_of_eq g44.symm)
    have sz_b44 : h0.size ≤ b44 := Nat.le_trans K18.1 (Nat.le_of_eq g44.symm)
    have K44 : Keep h0 h44 [] := K18.ext E44
    have V44 : AF Z h44 b44 .int 1 (fun j => .int ((fun _ => (0 : Int32)) j)) := AF.new A44 (by decide)
    obtain ⟨T47, h47, X47, e47, W47, A47, st47⟩ := AF.stI X44 hx hZ e44 V44 (by decide : own_in (0 : Int32) 1) (g := (mkF m 96 #[.val (.long q0), .second, .val (.long q1), .second, .val (.long q2), .second, .val (.long q3), .second, .val (.int p4), .val (.int p5), .val (.int (1 : Int32)), .val (.int (q3.toInt32)), .val (.int v1), .val (.ref b2), .val (.ref b9), .val (.ref b16), .val (.ref b44), .unset, .unset, .unset, .unset, .unset, .unset] [(.int (q3.toInt32)), (.int (0 : Int32)), (.ref b44)])) rfl rfl (hb hby at_96)
    have K47 : Keep h0 h47 [] := K44.wr W47 (Or.inr sz_b44)
    obtain ⟨f48, hf48⟩ : ∃ f : Nat → Int32, f = (fun i => if i = 0 then (q3.toInt32) else (fun _ => (0 : Int32)) i) := ⟨_, rfl⟩
    have V47 : AF Z h47 b44 .int 1 (fun j => .int (f48 j)) := AF.cong A47 (own_updI rfl hf48)
    have N47 := Fr.snoc X47 N18 nw_b44
    have G49 : Exa Z h47 b16 "com/example/paperloom/paperloom/CountSearch$Mean" := ((P19.ext E44).wr W47)
    have G50 : Fld Z h47 b16 "com/example/paperloom/paperloom/CountSearch$Mean" "offset" "[J" (.ref b2) := ((P20.ext E44).other W47 (Or.inl ne_b16_b44))
    have G51 : Fld Z h47 b16 "com/example/paperloom/paperloom/CountSearch$Mean" "weight" "[J" (.ref b9) := ((P21.ext E44).other W47 (Or.inl ne_b16_b44))
    have G52 : Fld Z h47 b16 "com/example/paperloom/paperloom/CountSearch$Mean" "startOffset" "J" (.long (0 : Int64)) := ((P22.ext E44).other W47 (Or.inl ne_b16_b44))
    have G53 : Fld Z h47 b16 "com/example/paperloom/paperloom/CountSearch$Mean" "startWeight" "J" (.long (0 : Int64)) := ((P23.ext E44).other W47 (Or.inl ne_b16_b44))
    have G54 : AF Z h47 b2 .long 3 (fun j => .long (f8 j)) := ((G45.ext E44).other W47 ne_b2_b44)
    obtain ⟨cq55, kq55, q55a, q55b, q55c⟩ := isOf hZ e47 G49
    obtain ⟨_, _, ⟨T55, L55, k55, n55⟩, -, X55, ⟨Lc55, hQ55, l55, y55, z55⟩, st55⟩ := X47.virtualBack hx (y := (⟨"com/example/paperloom/paperloom/CountSearch$Mean", "offset", "([I)J"⟩ : MethodName)) (z := (⟨"com/example/paperloom/paperloom/CountSearch$Mean", "offset", "([I)J"⟩ : MethodName)) hown (mvT hZ (hw _ (List.mem_of_getElem? (i := 22) rfl))) (mvT hZ (hw _ (List.mem_of_getElem? (i := 23) rfl))) (notFace_of_selects (args := #[]) (mvT hZ (hw _ (List.mem_of_getElem? (i := 25) rfl)))) (mvT hZ (hw _ (List.mem_of_getElem? (i := 25) rfl))) (mvT hZ (hw _ (List.mem_of_getElem? (i := 24) rfl))) (by decide) (backOf (W := 0) (rm4_1 l Z A0 hw [] b16 b44 b2 (.ref b9) (0 : Int64) (0 : Int64) f48 f8 h47 n0 (Nat.le_trans Z0 K47.1) G49 G50 G51 G52 G53 V47 G54) hZ (hw _ (List.mem_of_getElem? (i := 26) rfl)) (hw _ (List.mem_of_getElem? (i := 3) rfl)) (by decide) (by decide)) q55a q55c (g := (mkF m 125 #[.val (.long q0), .second, .val (.long q1), .second, .val (.long q2), .second, .val (.long q3), .second, .val (.int p4), .val (.int p5), .val (.int (1 : Int32)), .val (.int (q3.toInt32)), .val (.int v1), .val (.ref b2), .val (.ref b9), .val (.ref b16), .val (.ref b44), .unset, .unset, .unset, .unset, .unset, .unset] [(.ref b44), (.ref b16)])) rfl (by rw [hml]; rfl) (Steps.refl _) (argsL := [(.ref b44)]) (rest := []) (lenOf pd_3 rfl) rfl (by show 2 * 0 + _ ≤ _; exact Nat.le_of_eq rfl) (hb hby at_125) (fun _ _ => ⟨rfl, e47, (by decide : 4 + 0 ≤ _), (by decide : 11 + 0 ≤ _)⟩)
    dsimp only [Pt.U, Pt.locs, Pt.cells, Pt.slots] at X55 l55 y55 z55 st55 hQ55
    subst l55 y55 z55
    obtain ⟨rfl, N55q, e55⟩ := hQ55
    have N55 := Fr.app N47 N55q
    obtain ⟨v57, hv57⟩ : ∃ z : Int32, z = if (f48 0) = (q3.toInt32) then (1 : Int32) else (0 : Int32) := ⟨_, rfl⟩
    obtain ⟨v61, hv61⟩ : ∃ z : Int32, z = if (f8 2) = q2 then (1 : Int32) else (0 : Int32) := ⟨_, rfl⟩
    obtain ⟨v62, hv62⟩ : ∃ z : Int32, z = if (f8 1) = q1 then v61 else (0 : Int32) := ⟨_, rfl⟩
    obtain ⟨v63, hv63⟩ : ∃ z : Int32, z = if (f8 0) = q0 then v62 else (0 : Int32) := ⟨_, rfl⟩
    obtain ⟨v67, hv67⟩ : ∃ z : Int32, z = if v63 = (0 : Int32) then (0 : Int32) else (1 : Int32) := ⟨_, rfl⟩
    obtain ⟨v68, hv68⟩ : ∃ z : Int32, z = if v57 = (0 : Int32) then (0 : Int32) else v67 := ⟨_, rfl⟩
    obtain ⟨v69, hv69⟩ : ∃ z : Int32, z = if ((0 : Int64) + ((f8 0) * ((f48 0).toInt64))) = ((0 : Int64) + (q0 * ((q3.toInt32).toInt64))) then v68 else (0 : Int32) := ⟨_, rfl⟩
    obtain ⟨fs, hr, hrun, hended, hW, hsame⟩ := X55.leave (v := some (.int (nar .boolean v69))) (fun h => by rw [Bd.returns] at h; cases h)
    refine ⟨_, _, pre0 _ (ck25 _ ?_), hrun, hended, _, _, rfl, ?_, ⟨_, rfl⟩, hW, hsame.mono (by decide) (by decide)⟩
    · show Steps p.tables e below (T18.setTop (mkF m 80 #[.val (.long q0), .second, .val (.long q1), .second, .val (.long q2), .second, .val (.long q3), .second, .val (.int p4), .val (.int p5), .val (.int (1 : Int32)), .val (.int (q3.toInt32)), .val (.int v1), .val (.ref b2), .val (.ref b9), .val (.ref b16), .unset, .unset, .unset, .unset, .unset, .unset, .unset] [])) _
      refine XS.iload X18.here hx rfl (hb hby at_80) rfl ?_
      show Steps p.tables e below (T18.setTop (mkF m 82 #[.val (.long q0), .second, .val (.long q1), .second, .val (.long q2), .second, .val (.long q3), .second, .val (.int p4), .val (.int p5), .val (.int (1 : Int32)), .val (.int (q3.toInt32)), .val (.int v1), .val (.ref b2), .val (.ref b9), .val (.ref b16), .unset, .unset, .unset, .unset, .unset, .unset, .unset] [(.int (1 : Int32))])) _
      refine st44 _ ?_
      show Steps p.tables e below (T44.setTop (mkF m 84 #[.val (.long q0), .second, .val (.long q1), .second, .val (.long q2), .second, .val (.long q3), .second, .val (.int p4), .val (.int p5), .val (.int (1 : Int32)), .val (.int (q3.toInt32)), .val (.int v1), .val (.ref b2), .val (.ref b9), .val (.ref b16), .unset, .unset, .unset, .unset, .unset, .unset, .unset] [(.ref b44)])) _
      refine XS.astore X44.here hx rfl (hb hby at_84) rfl rfl (l' := #[.val (.long q0), .second, .val (.long q1), .second, .val (.long q2), .second, .val (.long q3), .second, .val (.int p4), .val (.int p5), .val (.int (1 : Int32)), .val (.int (q3.toInt32)), .val (.int v1), .val (.ref b2), .val (.ref b9), .val (.ref b16), .val (.ref b44), .unset, .unset, .unset, .unset, .unset, .unset]) rfl ?_
      show Steps p.tables e below (T44.setTop (mkF m 86 #[.val (.long q0), .second, .val (.long q1), .second, .val (.long q2), .second, .val (.long q3), .second, .val (.int p4), .val (.int p5), .val (.int (1 : Int32)), .val (.int (q3.toInt32)), .val (.int v1), .val (.ref b2), .val (.ref b9), .val (.ref b16), .val (.ref b44), .unset, .unset, .unset, .unset, .unset, .unset] [])) _
      refine XS.iload X44.here hx rfl (hb hby at_86) rfl ?_
      show Steps p.tables e below (T44.setTop (mkF m 88 #[.val (.long q0), .second, .val (.long q1), .second, .val (.long q2), .second, .val (.long q3), .second, .val (.int p4), .val (.int p5), .val (.int (1 : Int32)), .val (.int (q3.toInt32)), .val (.int v1), .val (.ref b2), .val (.ref b9), .val (.ref b16), .val (.ref b44), .unset, .unset, .unset, .unset, .unset, .unset] [(.int (1 : Int32))])) _
      refine XS.ifNo X44.here hx rfl (hb hby at_88) rfl ((if0 _ _).trans (tlt (by decide)).2.2.2) ?_
      show Steps p.tables e below (T44.setTop (mkF m 91 #[.val (.long q0), .second, .val (.long q1), .second, .val (.long q2), .second, .val (.long q3), .second, .val (.int p4), .val (.int p5), .val (.int (1 : Int32)), .val (.int (q3.toInt32)), .val (.int v1), .val (.ref b2), .val (.ref b9), .val (.ref b16), .val (.ref b44), .unset, .unset, .unset, .unset, .unset, .unset] [])) _
      refine XS.aload X44.here hx rfl (hb hby at_91) rfl rfl ?_
      show Steps p.tables e below (T44.setTop (mkF m 93 #[.val (.long q0), .second, .val (.long q1), .second, .val (.long q2), .second, .val (.long q3), .second, .val (.int p4), .val (.int p5), .val (.int (1 : Int32)), .val (.int (q3.toInt32)), .val (.int v1), .val (.ref b2), .val (.ref b9), .val (.ref b16), .val (.ref b44), .unset, .unset, .unset, .unset, .unset, .unset] [(.ref b44)])) _
      refine XS.iconst X44.here hx rfl (hb hby at_93) ?_
      show Steps p.tables e below (T44.setTop (mkF m 94 #[.val (.long q0), .second, .val (.long q1), .second, .val (.long q2), .second, .val (.long q3), .second, .val (.int p4), .val (.int p5), .val (.int (1 : Int32)), .val (.int (q3.toInt32)), .val (.int v1), .val (.ref b2), .val (.ref b9), .val (.ref b16), .val (.ref b44), .unset, .unset, .unset, .unset, .unset, .unset] [(.int (0 : Int32)), (.ref b44)])) _
      refine XS.iload X44.here hx rfl (hb hby at_94) rfl ?_
      show Steps p.tables e below (T44.setTop (mkF m 96 #[.val (.long q0), .second, .val (.long q1), .second, .val (.long q2), .second, .val (.long q3), .second, .val (.int p4), .val (.int p5), .val (.int (1 : Int32)), .val (.int (q3.toInt32)), .val (.int v1), .val (.ref b2), .val (.ref b9), .val (.ref b16), .val (.ref b44), .unset, .unset, .unset, .unset, .unset, .unset] [(.int (q3.toInt32)), (.int (0 : Int32)), (.ref b44)])) _
      refine st47 _ ?_
      show Steps p.tables e below (T47.setTop (mkF m 97 #[.val (.long q0), .second, .val (.long q1), .second, .val (.long q2), .second, .val (.long q3), .second, .val (.int p4), .val (.int p5), .val (.int (1 : Int32)), .val (.int (q3.toInt32)), .val (.int v1), .val (.ref b2), .val (.ref b9), .val (.ref b16), .val (.ref b44), .unset, .unset, .unset, .unset, .unset, .unset] [])) _
      refine XS.iload X47.here hx rfl (hb hby at_97) rfl ?_
      show Steps p.tables e below (T47.setTop (mkF m 99 #[.val (.long q0), .second, .val (.long q1), .second, .val (.long q2), .second, .val (.long q3), .second, .val (.int p4), .val (.int p5), .val (.int (1 : Int32)), .val (.int (q3.toInt32)), .val (.int v1), .val (.ref b2), .val (.ref b9), .val (.ref b16), .val (.ref b44), .unset, .unset, .unset, .unset, .unset, .unset] [(.int (1 : Int32))])) _
      refine XS.iconst X47.here hx rfl (hb hby at_99) ?_
      show Steps p.tables e below (T47.setTop (mkF m 100 #[.val (.long q0), .second, .val (.long q1), .second, .val (.long q2), .second, .val (.long q3), .second, .val (.int p4), .val (.int p5), .val (.int (1 : Int32)), .val (.int (q3.toInt32)), .val (.int v1), .val (.ref b2), .val (.ref b9), .val (.ref b16), .val (.ref b44), .unset, .unset, .unset, .unset, .unset, .unset] [(.int (1 : Int32)), (.int (1 : Int32))])) _
      refine XS.icmpYes X47.here hx rfl (pc0 := 100) (pc' := 109) rfl (hb hby at_100) rfl (flt (by decide)).2.2.2 (by decide) (by decide) ?_
      show Steps p.tables e below (T47.setTop (mkF m 109 #[.val (.long q0), .second, .val (.long q1), .second, .val (.long q2), .second, .val (.long q3), .second, .val (.int p4), .val (.int p5), .val (.int (1 : Int32)), .val (.int (q3.toInt32)), .val (.int v1), .val (.ref b2), .val (.ref b9), .val (.ref b16), .val (.ref b44), .unset, .unset, .unset, .unset, .unset, .unset] [])) _
      refine XS.iload X47.here hx rfl (hb hby at_109) rfl ?_
      show Steps p.tables e below (T47.setTop (mkF m 111 #[.val (.long q0), .second, .val (.long q1), .second, .val (.long q2), .second, .val (.long q3), .second, .val (.int p4), .val (.int p5), .val (.int (1 : Int32)), .val (.int (q3.toInt32)), .val (.int v1), .val (.ref b2), .val (.ref b9), .val (.ref b16), .val (.ref b44), .unset, .unset, .unset, .unset, .unset, .unset] [(.int (1 : Int32))])) _
      refine XS.iconst X47.here hx rfl (hb hby at_111) ?_
      show Steps p.tables e below (T47.setTop (mkF m 112 #[.val (.long q0), .second, .val (.long q1), .second, .val (.long q2), .second, .val (.long q3), .second, .val (.int p4), .val (.int p5), .val (.int (1 : Int32)), .val (.int (q3.toInt32)), .val (.int v1), .val (.ref b2), .val (.ref b9), .val (.ref b16), .val (.ref b44), .unset, .unset, .unset, .unset, .unset, .unset] [(.int (2 : Int32)), (.int (1 : Int32))])) _
      refine XS.icmpYes X47.here hx rfl (pc0 := 112) (pc' := 121) rfl (hb hby at_112) rfl (flt (by decide)).2.2.2 (by decide) (by decide) ?_
      show Steps p.tables e below (T47.setTop (mkF m 121 #[.val (.long q0), .second, .val (.long q1), .second, .val (.long q2), .second, .val (.long q3), .second, .val (.int p4), .val (.int p5), .val (.int (1 : Int32)), .val (.int (q3.toInt32)), .val (.int v1), .val (.ref b2), .val (.ref b9), .val (.ref b16), .val (.ref b44), .unset, .unset, .unset, .unset, .unset, .unset] [])) _
      refine XS.aload X47.here hx rfl (hb hby at_121) rfl rfl ?_
      show Steps p.tables e below (T47.setTop (mkF m 123 #[.val (.long q0), .second, .val (.long q1), .second, .val (.long q2), .second, .val (.long q3), .second, .val (.int p4), .val (.int p5), .val (.int (1 : Int32)), .val (.int (q3.toInt32)), .val (.int v1), .val (.ref b2), .val (.ref b9), .val (.ref b16), .val (.ref b44), .unset, .unset, .unset, .unset, .unset, .unset] [(.ref b16)])) _
      refine XS.aload X47.here hx rfl (hb hby at_123) rfl rfl ?_
      show Steps p.tables e below (T47.setTop (mkF m 125 #[.val (.long q0), .second, .val (.long q1), .second, .val (.long q2), .second, .val (.long q3), .second, .val (.int p4), .val (.int p5), .val (.int (1 : Int32)), .val (.int (q3.toInt32)), .val (.int v1), .val (.ref b2), .val (.ref b9), .val (.ref b16), .val (.ref b44), .unset, .unset, .unset, .unset, .unset, .unset] [(.ref b44), (.ref b16)])) _
      refine st55.trans ?_
      show Steps p.tables e below (T55.setTop (mkF m 128 #[.val (.long q0), .second, .val (.long q1), .second, .val (.long q2), .second, .val (.long q3), .second, .val (.int p4), .val (.int p5), .val (.int (1 : Int32)), .val (.int (q3.toInt32)), .val (.int v1), .val (.ref b2), .val (.ref b9), .val (.ref b16), .val (.ref b44), .unset, .unset, .unset, .unset, .unset, .unset] [(.long ((0 : Int64) + ((f8 0) * ((f48 0).toInt64))))])) _
      refine XS.lstore X55.here hx rfl (hb hby at_128) rfl (l' := #[.val (.long q0), .second, .val (.long q1), .second, .val (.long q2), .second, .val (.long q3), .second, .val (.int p4), .val (.int p5), .val (.int (1 : Int32)), .val (.int (q3.toInt32)), .val (.int v1), .val (.ref b2), .val (.ref b9), .val (.ref b16), .val (.ref b44), .val (.long ((0 : Int64) + ((f8 0) * ((f48 0).toInt64)))), .second, .unset, .unset, .unset, .unset]) rfl ?_
      show Steps p.tables e below (T55.setTop (mkF m 130 #[.val (.long q0), .second, .val (.long q1), .second, .val (.long q2), .second, .val (.long q3), .second, .val (.int p4), .val (.int p5), .val (.int (1 : Int32)), .val (.int (q3.toInt32)), .val (.int v1), .val (.ref b2), .val (.ref b9), .val (.ref b16), .val (.ref b44), .val (.long ((0 : Int64) + ((f8 0) * ((f48 0).toInt64)))), .second, .unset, .unset, .unset, .unset] [])) _
      refine XS.lconst X55.here hx rfl (hb hby at_130) ?_
      show Steps p.tables e below (T55.setTop (mkF m 131 #[.val (.long q0), .second, .val (.long q1), .second, .val (.long q2), .second, .val (.long q3), .second, .val (.int p4), .val (.int p5), .val (.int (1 : Int32)), .val (.int (q3.toInt32)), .val (.int v1), .val (.ref b2), .val (.ref b9), .val (.ref b16), .val (.ref b44), .val (.long ((0 : Int64) + ((f8 0) * ((f48 0).toInt64)))), .second, .unset, .unset, .unset, .unset] [(.long (0 : Int64))])) _
      refine XS.lstore X55.here hx rfl (hb hby at_131) rfl (l' := #[.val (.long q0), .second, .val (.long q1), .second, .val (.long q2), .second, .val (.long q3), .second, .val (.int p4), .val (.int p5), .val (.int (1 : Int32)), .val (.int (q3.toInt32)), .val (.int v1), .val (.ref b2), .val (.ref b9), .val (.ref b16), .val (.ref b44), .val (.long ((0 : Int64) + ((f8 0) * ((f48 0).toInt64)))), .second, .val (.long (0 : Int64)), .second, .unset, .unset]) rfl ?_
      show Steps p.tables e below (T55.setTop (mkF m 133 #[.val (.long q0), .second, .val (.long q1), .second, .val (.long q2), .second, .val (.long q3), .second, .val (.int p4), .val (.int p5), .val (.int (1 : Int32)), .val (.int (q3.toInt32)), .val (.int v1), .val (.ref b2), .val (.ref b9), .val (.ref b16), .val (.ref b44), .val (.long ((0 : Int64) + ((f8 0) * ((f48 0).toInt64)))), .second, .val (.long (0 : Int64)), .second, .unset, .unset] [])) _
      refine XS.iload X55.here hx rfl (hb hby at_133) rfl ?_
      show Steps p.tables e below (T55.setTop (mkF m 135 #[.val (.long q0), .second, .val (.long q1), .second, .val (.long q2), .second, .val (.long q3), .second, .val (.int p4), .val (.int p5), .val (.int (1 : Int32)), .val (.int (q3.toInt32)), .val (.int v1), .val (.ref b2), .val (.ref b9), .val (.ref b16), .val (.ref b44), .val (.long ((0 : Int64) + ((f8 0) * ((f48 0).toInt64)))), .second, .val (.long (0 : Int64)), .second, .unset, .unset] [(.int (1 : Int32))])) _
      refine XS.ifNo X55.here hx rfl (hb hby at_135) rfl ((if0 _ _).trans (tlt (by decide)).2.2.2) ?_
      show Steps p.tables e below (T55.setTop (mkF m 138 #[.val (.long q0), .second, .val (.long q1), .second, .val (.long q2), .second, .val (.long q3), .second, .val (.int p4), .val (.int p5), .val (.int (1 : Int32)), .val (.int (q3.toInt32)), .val (.int v1), .val (.ref b2), .val (.ref b9), .val (.ref b16), .val (.ref b44), .val (.long ((0 : Int64) + ((f8 0) * ((f48 0).toInt64)))), .second, .val (.long (0 : Int64)), .second, .unset, .unset] [])) _
      refine XS.lload X55.here hx rfl (hb hby at_138) rfl ?_
      show Steps p.tables e below (T55.setTop (mkF m 140 #[.val (.long q0), .second, .val (.long q1), .second, .val (.long q2), .second, .val (.long q3), .second, .val (.int p4), .val (.int p5), .val (.int (1 : Int32)), .val (.int (q3.toInt32)), .val (.int v1), .val (.ref b2), .val (.ref b9), .val (.ref b16), .val (.ref b44), .val (.long ((0 : Int64) + ((f8 0) * ((f48 0).toInt64)))), .second, .val (.long (0 : Int64)), .second, .unset, .unset] [(.long (0 : Int64))])) _
      refine XS.lloadN X55.here hx rfl (hb hby at_140) rfl ?_
      show Steps p.tables e below (T55.setTop (mkF m 141 #[.val (.long q0), .second, .val (.long q1), .second, .val (.long q2), .second, .val (.long q3), .second, .val (.int p4), .val (.int p5), .val (.int (1 : Int32)), .val (.int (q3.toInt32)), .val (.int v1), .val (.ref b2), .val (.ref b9), .val (.ref b16), .val (.ref b44), .val (.long ((0 : Int64) + ((f8 0) * ((f48 0).toInt64)))), .second, .val (.long (0 : Int64)), .second, .unset, .unset] [(.long q0), (.long (0 : Int64))])) _
      refine XS.iload X55.here hx rfl (hb hby at_141) rfl ?_
      show Steps p.tables e below (T55.setTop (mkF m 143 #[.val (.long q0), .second, .val (.long q1), .second, .val (.long q2), .second, .val (.long q3), .second, .val (.int p4), .val (.int p5), .val (.int (1 : Int32)), .val (.int (q3.toInt32)), .val (.int v1), .val (.ref b2), .val (.ref b9), .val (.ref b16), .val (.ref b44), .val (.long ((0 : Int64) + ((f8 0) * ((f48 0).toInt64)))), .second, .val (.long (0 : Int64)), .second, .unset, .unset] [(.int (q3.toInt32)), (.long q0), (.long (0 : Int64))])) _
      refine XS.i2l X55.here hx rfl (hb hby at_143) rfl ?_
      show Steps p.tables e below (T55.setTop (mkF m 144 #[.val (.long q0), .second, .val (.long q1), .second, .val (.long q2), .second, .val (.long q3), .second, .val (.int p4), .val (.int p5), .val (.int (1 : Int32)), .val (.int (q3.toInt32)), .val (.int v1), .val (.ref b2), .val (.ref b9), .val (.ref b16), .val (.ref b44), .val (.long ((0 : Int64) + ((f8 0) * ((f48 0).toInt64)))), .second, .val (.long (0 : Int64)), .second, .unset, .unset] [(.long ((q3.toInt32).toInt64)), (.long q0), (.long (0 : Int64))])) _
      refine XS.lmul X55.here hx rfl (hb hby at_144) rfl ?_
      show Steps p.tables e below (T55.setTop (mkF m 145 #[.val (.long q0), .second, .val (.long q1), .second, .val (.long q2), .second, .val (.long q3), .second, .val (.int p4), .val (.int p5), .val (.int (1 : Int32)), .val (.int (q3.toInt32)), .val (.int v1), .val (.ref b2), .val (.ref b9), .val (.ref b16), .val (.ref b44), .val (.long ((0 : Int64) + ((f8 0) * ((f48 0).toInt64)))), .second, .val (.long (0 : Int64)), .second, .unset, .unset] [(.long (q0 * ((q3.toInt32).toInt64))), (.long (0 : Int64))])) _
      refine XS.ladd X55.here hx rfl (hb hby at_145) rfl ?_
      show Steps p.tables e below (T55.setTop (mkF m 146 #[.val (.long q0), .second, .val (.long q1), .second, .val (.long q2), .second, .val (.long q3), .second, .val (.int p4), .val (.int p5), .val (.int (1 : Int32)), .val (.int (q3.toInt32)), .val (.int v1), .val (.ref b2), .val (.ref b9), .val (.ref b16), .val (.ref b44), .val (.long ((0 : Int64) + ((f8 0) * ((f48 0).toInt64)))), .second, .val (.long (0 : Int64)), .second, .unset, .unset] [(.long ((0 : Int64) + (q0 * ((q3.toInt32).toInt64))))])) _
      refine XS.lstore X55.here hx rfl (hb hby at_146) rfl (l' := #[.val (.long q0), .second, .val (.long q1), .second, .val (.long q2), .second, .val (.long q3), .second, .val (.int p4), .val (.int p5), .val (.int (1 : Int32)), .val (.int (q3.toInt32)), .val (.int v1), .val (.ref b2), .val (.ref b9), .val (.ref b16), .val (.ref b44), .val (.long ((0 : Int64) + ((f8 0) * ((f48 0).toInt64)))), .second, .val (.long ((0 : Int64) + (q0 * ((q3.toInt32).toInt64)))), .second, .unset, .unset]) rfl ?_
      show Steps p.tables e below (T55.setTop (mkF m 148 #[.val (.long q0), .second, .val (.long q1), .second, .val (.long q2), .second, .val (.long q3), .second, .val (.int p4), .val (.int p5), .val (.int (1 : Int32)), .val (.int (q3.toInt32)), .val (.int v1), .val (.ref b2), .val (.ref b9), .val (.ref b16), .val (.ref b44), .val (.long ((0 : Int64) + ((f8 0) * ((f48 0).toInt64)))), .second, .val (.long ((0 : Int64) + (q0 * ((q3.toInt32).toInt64)))), .second, .unset, .unset] [])) _
      refine XS.iload X55.here hx rfl (hb hby at_148) rfl ?_
      show Steps p.tables e below (T55.setTop (mkF m 150 #[.val (.long q0), .second, .val (.long q1), .second, .val (.long q2), .second, .val (.long q3), .second, .val (.int p4), .val (.int p5), .val (.int (1 : Int32)), .val (.int (q3.toInt32)), .val (.int v1), .val (.ref b2), .val (.ref b9), .val (.ref b16), .val (.ref b44), .val (.long ((0 : Int64) + ((f8 0) * ((f48 0).toInt64)))), .second, .val (.long ((0 : Int64) + (q0 * ((q3.toInt32).toInt64)))), .second, .unset, .unset] [(.int (1 : Int32))])) _
      refine XS.iconst X55.here hx rfl (hb hby at_150) ?_
      show Steps p.tables e below (T55.setTop (mkF m 151 #[.val (.long q0), .second, .val (.long q1), .second, .val (.long q2), .second, .val (.long q3), .second, .val (.int p4), .val (.int p5), .val (.int (1 : Int32)), .val (.int (q3.toInt32)), .val (.int v1), .val (.ref b2), .val (.ref b9), .val (.ref b16), .val (.ref b44), .val (.long ((0 : Int64) + ((f8 0) * ((f48 0).toInt64)))), .second, .val (.long ((0 : Int64) + (q0 * ((q3.toInt32).toInt64)))), .second, .unset, .unset] [(.int (1 : Int32)), (.int (1 : Int32))])) _
      refine XS.icmpYes X55.here hx rfl (pc0 := 151) (pc' := 164) rfl (hb hby at_151) rfl (flt (by decide)).2.2.2 (by decide) (by decide) ?_
      show Steps p.tables e below (T55.setTop (mkF m 164 #[.val (.long q0), .second, .val (.long q1), .second, .val (.long q2), .second, .val (.long q3), .second, .val (.int p4), .val (.int p5), .val (.int (1 : Int32)), .val (.int (q3.toInt32)), .val (.int v1), .val (.ref b2), .val (.ref b9), .val (.ref b16), .val (.ref b44), .val (.long ((0 : Int64) + ((f8 0) * ((f48 0).toInt64)))), .second, .val (.long ((0 : Int64) + (q0 * ((q3.toInt32).toInt64)))), .second, .unset, .unset] [])) _
      refine XS.iload X55.here hx rfl (hb hby at_164) rfl ?_
      show Steps p.tables e below (T55.setTop (mkF m 166 #[.val (.long q0), .second, .val (.long q1), .second, .val (.long q2), .second, .val (.long q3), .second, .val (.int p4), .val (.int p5), .val (.int (1 : Int32)), .val (.int (q3.toInt32)), .val (.int v1), .val (.ref b2), .val (.ref b9), .val (.ref b16), .val (.ref b44), .val (.long ((0 : Int64) + ((f8 0) * ((f48 0).toInt64)))), .second, .val (.long ((0 : Int64) + (q0 * ((q3.toInt32).toInt64)))), .second, .unset, .unset] [(.int (1 : Int32))])) _
      refine XS.iconst X55.here hx rfl (hb hby at_166) ?_
      show Steps p.tables e below (T55.setTop (mkF m 167 #[.val (.long q0), .second, .val (.long q1), .second, .val (.long q2), .second, .val (.long q3), .second, .val (.int p4), .val (.int p5), .val (.int (1 : Int32)), .val (.int (q3.toInt32)), .val (.int v1), .val (.ref b2), .val (.ref b9), .val (.ref b16), .val (.ref b44), .val (.long ((0 : Int64) + ((f8 0) * ((f48 0).toInt64)))), .second, .val (.long ((0 : Int64) + (q0 * ((q3.toInt32).toInt64)))), .second, .unset, .unset] [(.int (2 : Int32)), (.int (1 : Int32))])) _
      refine XS.icmpYes X55.here hx rfl (pc0 := 167) (pc' := 181) rfl (hb hby at_167) rfl (flt (by decide)).2.2.2 (by decide) (by decide) ?_
      show Steps p.tables e below (T55.setTop (mkF m 181 #[.val (.long q0), .second, .val (.long q1), .second, .val (.long q2), .second, .val (.long q3), .second, .val (.int p4), .val (.int p5), .val (.int (1 : Int32)), .val (.int (q3.toInt32)), .val (.int v1), .val (.ref b2), .val (.ref b9), .val (.ref b16), .val (.ref b44), .val (.long ((0 : Int64) + ((f8 0) * ((f48 0).toInt64)))), .second, .val (.long ((0 : Int64) + (q0 * ((q3.toInt32).toInt64)))), .second, .unset, .unset] [])) _
      refine XS.iload X55.here hx rfl (hb hby at_181) rfl ?_
      show Steps p.tables e below (T55.setTop (mkF m 183 #[.val (.long q0), .second, .val (.long q1), .second, .val (.long q2), .second, .val (.long q3), .second, .val (.int p4), .val (.int p5), .val (.int (1 : Int32)), .val (.int (q3.toInt32)), .val (.int v1), .val (.ref b2), .val (.ref b9), .val (.ref b16), .val (.ref b44), .val (.long ((0 : Int64) + ((f8 0) * ((f48 0).toInt64)))), .second, .val (.long ((0 : Int64) + (q0 * ((q3.toInt32).toInt64)))), .second, .unset, .unset] [(.int (1 : Int32))])) _
      refine XS.iconst X55.here hx rfl (hb hby at_183) ?_
      show Steps p.tables e below (T55.setTop (mkF m 184 #[.val (.long q0), .second, .val (.long q1), .second, .val (.long q2), .second, .val (.long q3), .second, .val (.int p4), .val (.int p5), .val (.int (1 : Int32)), .val (.int (q3.toInt32)), .val (.int v1), .val (.ref b2), .val (.ref b9), .val (.ref b16), .val (.ref b44), .val (.long ((0 : Int64) + ((f8 0) * ((f48 0).toInt64)))), .second, .val (.long ((0 : Int64) + (q0 * ((q3.toInt32).toInt64)))), .second, .unset, .unset] [(.int (1 : Int32)), (.int (1 : Int32))])) _
      refine XS.icmpNo X55.here hx rfl (hb hby at_184) rfl (flt (by decide)).1 ?_
      show Steps p.tables e below (T55.setTop (mkF m 187 #[.val (.long q0), .second, .val (.long q1), .second, .val (.long q2), .second, .val (.long q3), .second, .val (.int p4), .val (.int p5), .val (.int (1 : Int32)), .val (.int (q3.toInt32)), .val (.int v1), .val (.ref b2), .val (.ref b9), .val (.ref b16), .val (.ref b44), .val (.long ((0 : Int64) + ((f8 0) * ((f48 0).toInt64)))), .second, .val (.long ((0 : Int64) + (q0 * ((q3.toInt32).toInt64)))), .second, .unset, .unset] [])) _
      refine XS.aload X55.here hx rfl (hb hby at_187) rfl rfl ?_
      show Steps p.tables e below (T55.setTop (mkF m 189 #[.val (.long q0), .second, .val (.long q1), .second, .val (.long q2), .second, .val (.long q3), .second, .val (.int p4), .val (.int p5), .val (.int (1 : Int32)), .val (.int (q3.toInt32)), .val (.int v1), .val (.ref b2), .val (.ref b9), .val (.ref b16), .val (.ref b44), .val (.long ((0 : Int64) + ((f8 0) * ((f48 0).toInt64)))), .second, .val (.long ((0 : Int64) + (q0 * ((q3.toInt32).toInt64)))), .second, .unset, .unset] [(.ref b44)])) _
      refine XS.iconst X55.here hx rfl (hb hby at_189) ?_
      show Steps p.tables e below (T55.setTop (mkF m 190 #[.val (.long q0), .second, .val (.long q1), .second, .val (.long q2), .second, .val (.long q3), .second, .val (.int p4), .val (.int p5), .val (.int (1 : Int32)), .val (.int (q3.toInt32)), .val (.int v1), .val (.ref b2), .val (.ref b9), .val (.ref b16), .val (.ref b44), .val (.long ((0 : Int64) + ((f8 0) * ((f48 0).toInt64)))), .second, .val (.long ((0 : Int64) + (q0 * ((q3.toInt32).toInt64)))), .second, .unset, .unset] [(.int (0 : Int32)), (.ref b44)])) _
      refine AF.ldI X55 hx hZ e55 V47 (by decide : own_in (0 : Int32) 1) (g := (mkF m 190 #[.val (.long q0), .second, .val (.long q1), .second, .val (.long q2), .second, .val (.long q3), .second, .val (.int p4), .val (.int p5), .val (.int (1 : Int32)), .val (.int (q3.toInt32)), .val (.int v1), .val (.ref b2), .val (.ref b9), .val (.ref b16), .val (.ref b44), .val (.long ((0 : Int64) + ((f8 0) * ((f48 0).toInt64)))), .second, .val (.long ((0 : Int64) + (q0 * ((q3.toInt32).toInt64)))), .second, .unset, .unset] [(.int (0 : Int32)), (.ref b44)])) rfl rfl (hb hby at_190) _ ?_
      show Steps p.tables e below (T55.setTop (mkF m 191 #[.val (.long q0), .second, .val (.long q1), .second, .val (.long q2), .second, .val (.long q3), .second, .val (.int p4), .val (.int p5), .val (.int (1 : Int32)), .val (.int (q3.toInt32)), .val (.int v1), .val (.ref b2), .val (.ref b9), .val (.ref b16), .val (.ref b44), .val (.long ((0 : Int64) + ((f8 0) * ((f48 0).toInt64)))), .second, .val (.long ((0 : Int64) + (q0 * ((q3.toInt32).toInt64)))), .second, .unset, .unset] [(.int (f48 0))])) _
      refine XS.iload X55.here hx rfl (hb hby at_191) rfl ?_
      show Steps p.tables e below (T55.setTop (mkF m 193 #[.val (.long q0), .second, .val (.long q1), .second, .val (.long q2), .second, .val (.long q3), .second, .val (.int p4), .val (.int p5), .val (.int (1 : Int32)), .val (.int (q3.toInt32)), .val (.int v1), .val (.ref b2), .val (.ref b9), .val (.ref b16), .val (.ref b44), .val (.long ((0 : Int64) + ((f8 0) * ((f48 0).toInt64)))), .second, .val (.long ((0 : Int64) + (q0 * ((q3.toInt32).toInt64)))), .second, .unset, .unset] [(.int (q3.toInt32)), (.int (f48 0))])) _
      refine own_dia (F := (mkF m 231 #[.val (.long q0), .second, .val (.long q1), .second, .val (.long q2), .second, .val (.long q3), .second, .val (.int p4), .val (.int p5), .val (.int (1 : Int32)), .val (.int (q3.toInt32)), .val (.int v1), .val (.ref b2), .val (.ref b9), .val (.ref b16), .val (.ref b44), .val (.long ((0 : Int64) + ((f8 0) * ((f48 0).toInt64)))), .second, .val (.long ((0 : Int64) + (q0 * ((q3.toInt32).toInt64)))), .second, .unset, .unset] [(.int v57)])) ?_ ?_
      · intro kt
        by_cases hc56 : (f48 0) = (q3.toInt32)
        · show Steps p.tables e below (T55.setTop (mkF m 193 #[.val (.long q0), .second, .val (.long q1), .second, .val (.long q2), .second, .val (.long q3), .second, .val (.int p4), .val (.int p5), .val (.int (1 : Int32)), .val (.int (q3.toInt32)), .val (.int v1), .val (.ref b2), .val (.ref b9), .val (.ref b16), .val (.ref b44), .val (.long ((0 : Int64) + ((f8 0) * ((f48 0).toInt64)))), .second, .val (.long ((0 : Int64) + (q0 * ((q3.toInt32).toInt64)))), .second, .unset, .unset] [(.int (q3.toInt32)), (.int (f48 0))])) _
          refine XS.icmpNo X55.here hx rfl (hb hby at_193) rfl (teq hc56).2 ?_
          show Steps p.tables e below (T55.setTop (mkF m 196 #[.val (.long q0), .second, .val (.long q1), .second, .val (.long q2), .second, .val (.long q3), .second, .val (.int p4), .val (.int p5), .val (.int (1 : Int32)), .val (.int (q3.toInt32)), .val (.int v1), .val (.ref b2), .val (.ref b9), .val (.ref b16), .val (.ref b44), .val (.long ((0 : Int64) + ((f8 0) * ((f48 0).toInt64)))), .second, .val (.long ((0 : Int64) + (q0 * ((q3.toInt32).toInt64)))), .second, .unset, .unset] [])) _
          refine XS.iload X55.here hx rfl (hb hby at_196) rfl ?_
          show Steps p.tables e below (T55.setTop (mkF m 198 #[.val (.long q0), .second, .val (.long q1), .second, .val (.long q2), .second, .val (.long q3), .second, .val (.int p4), .val (.int p5), .val (.int (1 : Int32)), .val (.int (q3.toInt32)), .val (.int v1), .val (.ref b2), .val (.ref b9), .val (.ref b16), .val (.ref b44), .val (.long ((0 : Int64) + ((f8 0) * ((f48 0).toInt64)))), .second, .val (.long ((0 : Int64) + (q0 * ((q3.toInt32).toInt64)))), .second, .unset, .unset] [(.int (1 : Int32))])) _
          refine XS.iconst X55.here hx rfl (hb hby at_198) ?_
          show Steps p.tables e below (T55.setTop (mkF m 199 #[.val (.long q0), .second, .val (.long q1), .second, .val (.long q2), .second, .val (.long q3), .second, .val (.int p4), .val (.int p5), .val (.int (1 : Int32)), .val (.int (q3.toInt32)), .val (.int v1), .val (.ref b2), .val (.ref b9), .val (.ref b16), .val (.ref b44), .val (.long ((0 : Int64) + ((f8 0) * ((f48 0).toInt64)))), .second, .val (.long ((0 : Int64) + (q0 * ((q3.toInt32).toInt64)))), .second, .unset, .unset] [(.int (2 : Int32)), (.int (1 : Int32))])) _
          refine XS.icmpYes X55.here hx rfl (pc0 := 199) (pc' := 211) rfl (hb hby at_199) rfl (tlt (by decide)).1 (by decide) (by decide) ?_
          show Steps p.tables e below (T55.setTop (mkF m 211 #[.val (.long q0), .second, .val (.long q1), .second, .val (.long q2), .second, .val (.long q3), .second, .val (.int p4), .val (.int p5), .val (.int (1 : Int32)), .val (.int (q3.toInt32)), .val (.int v1), .val (.ref b2), .val (.ref b9), .val (.ref b16), .val (.ref b44), .val (.long ((0 : Int64) + ((f8 0) * ((f48 0).toInt64)))), .second, .val (.long ((0 : Int64) + (q0 * ((q3.toInt32).toInt64)))), .second, .unset, .unset] [])) _
          refine XS.iload X55.here hx rfl (hb hby at_211) rfl ?_
          show Steps p.tables e below (T55.setTop (mkF m 213 #[.val (.long q0), .second, .val (.long q1), .second, .val (.long q2), .second, .val (.long q3), .second, .val (.int p4), .val (.int p5), .val (.int (1 : Int32)), .val (.int (q3.toInt32)), .val (.int v1), .val (.ref b2), .val (.ref b9), .val (.ref b16), .val (.ref b44), .val (.long ((0 : Int64) + ((f8 0) * ((f48 0).toInt64)))), .second, .val (.long ((0 : Int64) + (q0 * ((q3.toInt32).toInt64)))), .second, .unset, .unset] [(.int (1 : Int32))])) _
          refine XS.iconst X55.here hx rfl (hb hby at_213) ?_
          show Steps p.tables e below (T55.setTop (mkF m 214 #[.val (.long q0), .second, .val (.long q1), .second, .val (.long q2), .second, .val (.long q3), .second, .val (.int p4), .val (.int p5), .val (.int (1 : Int32)), .val (.int (q3.toInt32)), .val (.int v1), .val (.ref b2), .val (.ref b9), .val (.ref b16), .val (.ref b44), .val (.long ((0 : Int64) + ((f8 0) * ((f48 0).toInt64)))), .second, .val (.long ((0 : Int64) + (q0 * ((q3.toInt32).toInt64)))), .second, .unset, .unset] [(.int (3 : Int32)), (.int (1 : Int32))])) _
          refine XS.icmpYes X55.here hx rfl (pc0 := 214) (pc' := 226) rfl (hb hby at_214) rfl (tlt (by decide)).1 (by decide) (by decide) ?_
          show Steps p.tables e below (T55.setTop (mkF m 226 #[.val (.long q0), .second, .val (.long q1), .second, .val (.long q2), .second, .val (.long q3), .second, .val (.int p4), .val (.int p5), .val (.int (1 : Int32)), .val (.int (q3.toInt32)), .val (.int v1), .val (.ref b2), .val (.ref b9), .val (.ref b16), .val (.ref b44), .val (.long ((0 : Int64) + ((f8 0) * ((f48 0).toInt64)))), .second, .val (.long ((0 : Int64) + (q0 * ((q3.toInt32).toInt64)))), .second, .unset, .unset] [])) _
          refine XS.iconst X55.here hx rfl (hb hby at_226) ?_
          show Steps p.tables e below (T55.setTop (mkF m 227 #[.val (.long q0), .second, .val (.long q1), .second, .val (.long q2), .second, .val (.long q3), .second, .val (.int p4), .val (.int p5), .val (.int (1 : Int32)), .val (.int (q3.toInt32)), .val (.int v1), .val (.ref b2), .val (.ref b9), .val (.ref b16), .val (.ref b44), .val (.long ((0 : Int64) + ((f8 0) * ((f48 0).toInt64)))), .second, .val (.long ((0 : Int64) + (q0 * ((q3.toInt32).toInt64)))), .second, .unset, .unset] [(.int (1 : Int32))])) _
          refine XS.goto X55.here hx rfl (pc0 := 227) (pc' := 231) rfl (hb hby at_227) (by decide) (by decide) ?_
          exact castTop (by rw [hv57, if_pos hc56] <;> rfl) kt
        · show Steps p.tables e below (T55.setTop (mkF m 193 #[.val (.long q0), .second, .val (.long q1), .second, .val (.long q2), .second, .val (.long q3), .second, .val (.int p4), .val (.int p5), .val (.int (1 : Int32)), .val (.int (q3.toInt32)), .val (.int v1), .val (.ref b2), .val (.ref b9), .val (.ref b16), .val (.ref b44), .val (.long ((0 : Int64) + ((f8 0) * ((f48 0).toInt64)))), .second, .val (.long ((0 : Int64) + (q0 * ((q3.toInt32).toInt64)))), .second, .unset, .unset] [(.int (q3.toInt32)), (.int (f48 0))])) _
          refine XS.icmpYes X55.here hx rfl (pc0 := 193) (pc' := 230) rfl (hb hby at_193) rfl (feq hc56).2 (by decide) (by decide) ?_
          show Steps p.tables e below (T55.setTop (mkF m 230 #[.val (.long q0), .second, .val (.long q1), .second, .val (.long q2), .second, .val (.long q3), .second, .val (.int p4), .val (.int p5), .val (.int (1 : Int32)), .val (.int (q3.toInt32)), .val (.int v1), .val (.ref b2), .val (.ref b9), .val (.ref b16), .val (.ref b44), .val (.long ((0 : Int64) + ((f8 0) * ((f48 0).toInt64)))), .second, .val (.long ((0 : Int64) + (q0 * ((q3.toInt32).toInt64)))), .second, .unset, .unset] [])) _
          refine XS.iconst X55.here hx rfl (hb hby at_230) ?_
          exact castTop (by rw [hv57, if_neg hc56] <;> rfl) kt
      show Steps p.tables e below (T55.setTop (mkF m 231 #[.val (.long q0), .second, .val (.long q1), .second, .val (.long q2), .second, .val (.long q3), .second, .val (.int p4), .val (.int p5), .val (.int (1 : Int32)), .val (.int (q3.toInt32)), .val (.int v1), .val (.ref b2), .val (.ref b9), .val (.ref b16), .val (.ref b44), .val (.long ((0 : Int64) + ((f8 0) * ((f48 0).toInt64)))), .second, .val (.long ((0 : Int64) + (q0 * ((q3.toInt32).toInt64)))), .second, .unset, .unset] [(.int v57)])) _
      refine XS.istore X55.here hx rfl (hb hby at_231) rfl (l' := #[.val (.long q0), .second, .val (.long q1), .second, .val (.long q2), .second, .val (.long q3), .second, .val (.int p4), .val (.int p5), .val (.int (1 : Int32)), .val (.int (q3.toInt32)), .val (.int v1), .val (.ref b2), .val (.ref b9), .val (.ref b16), .val (.ref b44), .val (.long ((0 : Int64) + ((f8 0) * ((f48 0).toInt64)))), .second, .val (.long ((0 : Int64) + (q0 * ((q3.toInt32).toInt64)))), .second, .val (.int v57), .unset]) rfl ?_
      show Steps p.tables e below (T55.setTop (mkF m 233 #[.val (.long q0), .second, .val (.long q1), .second, .val (.long q2), .second, .val (.long q3), .second, .val (.int p4), .val (.int p5), .val (.int (1 : Int32)), .val (.int (q3.toInt32)), .val (.int v1), .val (.ref b2), .val (.ref b9), .val (.ref b16), .val (.ref b44), .val (.long ((0 : Int64) + ((f8 0) * ((f48 0).toInt64)))), .second, .val (.long ((0 : Int64) + (q0 * ((q3.toInt32).toInt64)))), .second, .val (.int v57), .unset] [])) _
      refine XS.aload X55.here hx rfl (hb hby at_233) rfl rfl ?_
      show Steps p.tables e below (T55.setTop (mkF m 235 #[.val (.long q0), .second, .val (.long q1), .second, .val (.long q2), .second, .val (.long q3), .second, .val (.int p4), .val (.int p5), .val (.int (1 : Int32)), .val (.int (q3.toInt32)), .val (.int v1), .val (.ref b2), .val (.ref b9), .val (.ref b16), .val (.ref b44), .val (.long ((0 : Int64) + ((f8 0) * ((f48 0).toInt64)))), .second, .val (.long ((0 : Int64) + (q0 * ((q3.toInt32).toInt64)))), .second, .val (.int v57), .unset] [(.ref b2)])) _
      refine XS.iconst X55.here hx rfl (hb hby at_235) ?_
      show Steps p.tables e below (T55.setTop (mkF m 236 #[.val (.long q0), .second, .val (.long q1), .second, .val (.long q2), .second, .val (.long q3), .second, .val (.int p4), .val (.int p5), .val (.int (1 : Int32)), .val (.int (q3.toInt32)), .val (.int v1), .val (.ref b2), .val (.ref b9), .val (.ref b16), .val (.ref b44), .val (.long ((0 : Int64) + ((f8 0) * ((f48 0).toInt64)))), .second, .val (.long ((0 : Int64) + (q0 * ((q3.toInt32).toInt64)))), .second, .val (.int v57), .unset] [(.int (0 : Int32)), (.ref b2)])) _
      refine AF.ldJ X55 hx hZ e55 G54 (by decide : own_in (0 : Int32) 3) (g := (mkF m 236 #[.val (.long q0), .second, .val (.long q1), .second, .val (.long q2), .second, .val (.long q3), .second, .val (.int p4), .val (.int p5), .val (.int (1 : Int32)), .val (.int (q3.toInt32)), .val (.int v1), .val (.ref b2), .val (.ref b9), .val (.ref b16), .val (.ref b44), .val (.long ((0 : Int64) + ((f8 0) * ((f48 0).toInt64)))), .second, .val (.long ((0 : Int64) + (q0 * ((q3.toInt32).toInt64)))), .second, .val (.int v57), .unset] [(.int (0 : Int32)), (.ref b2)])) rfl rfl (hb hby at_236) _ ?_
      show Steps p.tables e below (T55.setTop (mkF m 237 #[.val (.long q0), .second, .val (.long q1), .second, .val (.long q2), .second, .val (.long q3), .second, .val (.int p4), .val (.int p5), .val (.int (1 : Int32)), .val (.int (q3.toInt32)), .val (.int v1), .val (.ref b2), .val (.ref b9), .val (.ref b16), .val (.ref b44), .val (.long ((0 : Int64) + ((f8 0) * ((f48 0).toInt64)))), .second, .val (.long ((0 : Int64) + (q0 * ((q3.toInt32).toInt64)))), .second, .val (.int v57), .unset] [(.long (f8 0))])) _
      refine XS.lloadN X55.here hx rfl (hb hby at_237) rfl ?_
      show Steps p.tables e below (T55.setTop (mkF m 238 #[.val (.long q0), .second, .val (.long q1), .second, .val (.long q2), .second, .val (.long q3), .second, .val (.int p4), .val (.int p5), .val (.int (1 : Int32)), .val (.int (q3.toInt32)), .val (.int v1), .val (.ref b2), .val (.ref b9), .val (.ref b16), .val (.ref b44), .val (.long ((0 : Int64) + ((f8 0) * ((f48 0).toInt64)))), .second, .val (.long ((0 : Int64) + (q0 * ((q3.toInt32).toInt64)))), .second, .val (.int v57), .unset] [(.long q0), (.long (f8 0))])) _
      refine XS.lcmp X55.here hx rfl (hb hby at_238) rfl ?_
      show Steps p.tables e below (T55.setTop (mkF m 239 #[.val (.long q0), .second, .val (.long q1), .second, .val (.long q2), .second, .val (.long q3), .second, .val (.int p4), .val (.int p5), .val (.int (1 : Int32)), .val (.int (q3.toInt32)), .val (.int v1), .val (.ref b2), .val (.ref b9), .val (.ref b16), .val (.ref b44), .val (.long ((0 : Int64) + ((f8 0) * ((f48 0).toInt64)))), .second, .val (.long ((0 : Int64) + (q0 * ((q3.toInt32).toInt64)))), .second, .val (.int v57), .unset] [(.int (lcmpW (f8 0) q0))])) _
      refine own_dia (F := (mkF m 266 #[.val (.long q0), .second, .val (.long q1), .second, .val (.long q2), .second, .val (.long q3), .second, .val (.int p4), .val (.int p5), .val (.int (1 : Int32)), .val (.int (q3.toInt32)), .val (.int v1), .val (.ref b2), .val (.ref b9), .val (.ref b16), .val (.ref b44), .val (.long ((0 : Int64) + ((f8 0) * ((f48 0).toInt64)))), .second, .val (.long ((0 : Int64) + (q0 * ((q3.toInt32).toInt64)))), .second, .val (.int v57), .unset] [(.int v63)])) ?_ ?_
      · intro kt
        by_cases hc58 : (f8 0) = q0
        · show Steps p.tables e below (T55.setTop (mkF m 239 #[.val (.long q0), .second, .val (.long q1), .second, .val (.long q2), .second, .val (.long q3), .second, .val (.int p4), .val (.int p5), .val (.int (1 : Int32)), .val (.int (q3.toInt32)), .val (.int v1), .val (.ref b2), .val (.ref b9), .val (.ref b16), .val (.ref b44), .val (.long ((0 : Int64) + ((f8 0) * ((f48 0).toInt64)))), .second, .val (.long ((0 : Int64) + (q0 * ((q3.toInt32).toInt64)))), .second, .val (.int v57), .unset] [(.int (lcmpW (f8 0) q0))])) _
          refine XS.ifNo X55.here hx rfl (hb hby at_239) rfl ((if0 _ _).trans (teq ((lw_eq (f8 0) q0).mpr hc58)).2) ?_
          show Steps p.tables e below (T55.setTop (mkF m 242 #[.val (.long q0), .second, .val (.long q1), .second, .val (.long q2), .second, .val (.long q3), .second, .val (.int p4), .val (.int p5), .val (.int (1 : Int32)), .val (.int (q3.toInt32)), .val (.int v1), .val (.ref b2), .val (.ref b9), .val (.ref b16), .val (.ref b44), .val (.long ((0 : Int64) + ((f8 0) * ((f48 0).toInt64)))), .second, .val (.long ((0 : Int64) + (q0 * ((q3.toInt32).toInt64)))), .second, .val (.int v57), .unset] [])) _
          refine XS.aload X55.here hx rfl (hb hby at_242) rfl rfl ?_
          show Steps p.tables e below (T55.setTop (mkF m 244 #[.val (.long q0), .second, .val (.long q1), .second, .val (.long q2), .second, .val (.long q3), .second, .val (.int p4), .val (.int p5), .val (.int (1 : Int32)), .val (.int (q3.toInt32)), .val (.int v1), .val (.ref b2), .val (.ref b9), .val (.ref b16), .val (.ref b44), .val (.long ((0 : Int64) + ((f8 0) * ((f48 0).toInt64)))), .second, .val (.long ((0 : Int64) + (q0 * ((q3.toInt32).toInt64)))), .second, .val (.int v57), .unset] [(.ref b2)])) _
          refine XS.iconst X55.here hx rfl (hb hby at_244) ?_
          show Steps p.tables e below (T55.setTop (mkF m 245 #[.val (.long q0), .second, .val (.long q1), .second, .val (.long q2), .second, .val (.long q3), .second, .val (.int p4), .val (.int p5), .val (.int (1 : Int32)), .val (.int (q3.toInt32)), .val (.int v1), .val (.ref b2), .val (.ref b9), .val (.ref b16), .val (.ref b44), .val (.long ((0 : Int64) + ((f8 0) * ((f48 0).toInt64)))), .second, .val (.long ((0 : Int64) + (q0 * ((q3.toInt32).toInt64)))), .second, .val (.int v57), .unset] [(.int (1 : Int32)), (.ref b2)])) _
          refine AF.ldJ X55 hx hZ e55 G54 (by decide : own_in (1 : Int32) 3) (g := (mkF m 245 #[.val (.long q0), .second, .val (.long q1), .second, .val (.long q2), .second, .val (.long q3), .second, .val (.int p4), .val (.int p5), .val (.int (1 : Int32)), .val (.int (q3.toInt32)), .val (.int v1), .val (.ref b2), .val (.ref b9), .val (.ref b16), .val (.ref b44), .val (.long ((0 : Int64) + ((f8 0) * ((f48 0).toInt64)))), .second, .val (.long ((0 : Int64) + (q0 * ((q3.toInt32).toInt64)))), .second, .val (.int v57), .unset] [(.int (1 : Int32)), (.ref b2)])) rfl rfl (hb hby at_245) _ ?_
          show Steps p.tables e below (T55.setTop (mkF m 246 #[.val (.long q0), .second, .val (.long q1), .second, .val (.long q2), .second, .val (.long q3), .second, .val (.int p4), .val (.int p5), .val (.int (1 : Int32)), .val (.int (q3.toInt32)), .val (.int v1), .val (.ref b2), .val (.ref b9), .val (.ref b16), .val (.ref b44), .val (.long ((0 : Int64) + ((f8 0) * ((f48 0).toInt64)))), .second, .val (.long ((0 : Int64) + (q0 * ((q3.toInt32).toInt64)))), .second, .val (.int v57), .unset] [(.long (f8 1))])) _
          refine XS.lloadN X55.here hx rfl (hb hby at_246) rfl ?_
          show Steps p.tables e below (T55.setTop (mkF m 247 #[.val (.long q0), .second, .val (.long q1), .second, .val (.long q2), .second, .val (.long q3), .second, .val (.int p4), .val (.int p5), .val (.int (1 : Int32)), .val (.int (q3.toInt32)), .val (.int v1), .val (.ref b2), .val (.ref b9), .val (.ref b16), .val (.ref b44), .val (.long ((0 : Int64) + ((f8 0) * ((f48 0).toInt64)))), .second, .val (.long ((0 : Int64) + (q0 * ((q3.toInt32).toInt64)))), .second, .val (.int v57), .unset] [(.long q1), (.long (f8 1))])) _
          refine XS.lcmp X55.here hx rfl (hb hby at_247) rfl ?_
          show Steps p.tables e below (T55.setTop (mkF m 248 #[.val (.long q0), .second, .val (.long q1), .second, .val (.long q2), .second, .val (.long q3), .second, .val (.int p4), .val (.int p5), .val (.int (1 : Int32)), .val (.int (q3.toInt32)), .val (.int v1), .val (.ref b2), .val (.ref b9), .val (.ref b16), .val (.ref b44), .val (.long ((0 : Int64) + ((f8 0) * ((f48 0).toInt64)))), .second, .val (.long ((0 : Int64) + (q0 * ((q3.toInt32).toInt64)))), .second, .val (.int v57), .unset] [(.int (lcmpW (f8 1) q1))])) _
          refine own_dia (F := (mkF m 266 #[.val (.long q0), .second, .val (.long q1), .second, .val (.long q2), .second, .val (.long q3), .second, .val (.int p4), .val (.int p5), .val (.int (1 : Int32)), .val (.int (q3.toInt32)), .val (.int v1), .val (.ref b2), .val (.ref b9), .val (.ref b16), .val (.ref b44), .val (.long ((0 : Int64) + ((f8 0) * ((f48 0).toInt64)))), .second, .val (.long ((0 : Int64) + (q0 * ((q3.toInt32).toInt64)))), .second, .val (.int v57), .unset] [(.int v62)])) ?_ ?_
          · intro kt
            by_cases hc59 : (f8 1) = q1
            · show Steps p.tables e below (T55.setTop (mkF m 248 #[.val (.long q0), .second, .val (.long q1), .second, .val (.long q2), .second, .val (.long q3), .second, .val (.int p4), .val (.int p5), .val (.int (1 : Int32)), .val (.int (q3.toInt32)), .val (.int v1), .val (.ref b2), .val (.ref b9), .val (.ref b16), .val (.ref b44), .val (.long ((0 : Int64) + ((f8 0) * ((f48 0).toInt64)))), .second, .val (.long ((0 : Int64) + (q0 * ((q3.toInt32).toInt64)))), .second, .val (.int v57), .unset] [(.int (lcmpW (f8 1) q1))])) _
              refine XS.ifNo X55.here hx rfl (hb hby at_248) rfl ((if0 _ _).trans (teq ((lw_eq (f8 1) q1).mpr hc59)).2) ?_
              show Steps p.tables e below (T55.setTop (mkF m 251 #[.val (.long q0), .second, .val (.long q1), .second, .val (.long q2), .second, .val (.long q3), .second, .val (.int p4), .val (.int p5), .val (.int (1 : Int32)), .val (.int (q3.toInt32)), .val (.int v1), .val (.ref b2), .val (.ref b9), .val (.ref b16), .val (.ref b44), .val (.long ((0 : Int64) + ((f8 0) * ((f48 0).toInt64)))), .second, .val (.long ((0 : Int64) + (q0 * ((q3.toInt32).toInt64)))), .second, .val (.int v57), .unset] [])) _
              refine XS.aload X55.here hx rfl (hb hby at_251) rfl rfl ?_
              show Steps p.tables e below (T55.setTop (mkF m 253 #[.val (.long q0), .second, .val (.long q1), .second, .val (.long q2), .second, .val (.long q3), .second, .val (.int p4), .val (.int p5), .val (.int (1 : Int32)), .val (.int (q3.toInt32)), .val (.int v1), .val (.ref b2), .val (.ref b9), .val (.ref b16), .val (.ref b44), .val (.long ((0 : Int64) + ((f8 0) * ((f48 0).toInt64)))), .second, .val (.long ((0 : Int64) + (q0 * ((q3.toInt32).toInt64)))), .second, .val (.int v57), .unset] [(.ref b2)])) _
              refine XS.iconst X55.here hx rfl (hb hby at_253) ?_
              show Steps p.tables e below (T55.setTop (mkF m 254 #[.val (.long q0), .second, .val (.long q1), .second, .val (.long q2), .second, .val (.long q3), .second, .val (.int p4), .val (.int p5), .val (.int (1 : Int32)), .val (.int (q3.toInt32)), .val (.int v1), .val (.ref b2), .val (.ref b9), .val (.ref b16), .val (.ref b44), .val (.long ((0 : Int64) + ((f8 0) * ((f48 0).toInt64)))), .second, .val (.long ((0 : Int64) + (q0 * ((q3.toInt32).toInt64)))), .second, .val (.int v57), .unset] [(.int (2 : Int32)), (.ref b2)])) _
              refine AF.ldJ X55 hx hZ e55 G54 (by decide : own_in (2 : Int32) 3) (g := (mkF m 254 #[.val (.long q0), .second, .val (.long q1), .second, .val (.long q2), .second, .val (.long q3), .second, .val (.int p4), .val (.int p5), .val (.int (1 : Int32)), .val (.int (q3.toInt32)), .val (.int v1), .val (.ref b2), .val (.ref b9), .val (.ref b16), .val (.ref b44), .val (.long ((0 : Int64) + ((f8 0) * ((f48 0).toInt64)))), .second, .val (.long ((0 : Int64) + (q0 * ((q3.toInt32).toInt64)))), .second, .val (.int v57), .unset] [(.int (2 : Int32)), (.ref b2)])) rfl rfl (hb hby at_254) _ ?_
              show Steps p.tables e below (T55.setTop (mkF m 255 #[.val (.long q0), .second, .val (.long q1), .second, .val (.long q2), .second, .val (.long q3), .second, .val (.int p4), .val (.int p5), .val (.int (1 : Int32)), .val (.int (q3.toInt32)), .val (.int v1), .val (.ref b2), .val (.ref b9), .val (.ref b16), .val (.ref b44), .val (.long ((0 : Int64) + ((f8 0) * ((f48 0).toInt64)))), .second, .val (.long ((0 : Int64) + (q0 * ((q3.toInt32).toInt64)))), .second, .val (.int v57), .unset] [(.long (f8 2))])) _
              refine XS.lload X55.here hx rfl (hb hby at_255) rfl ?_
              show Steps p.tables e below (T55.setTop (mkF m 257 #[.val (.long q0), .second, .val (.long q1), .second, .val (.long q2), .second, .val (.long q3), .second, .val (.int p4), .val (.int p5), .val (.int (1 : Int32)), .val (.int (q3.toInt32)), .val (.int v1), .val (.ref b2), .val (.ref b9), .val (.ref b16), .val (.ref b44), .val (.long ((0 : Int64) + ((f8 0) * ((f48 0).toInt64)))), .second, .val (.long ((0 : Int64) + (q0 * ((q3.toInt32).toInt64)))), .second, .val (.int v57), .unset] [(.long q2), (.long (f8 2))])) _
              refine XS.lcmp X55.here hx rfl (hb hby at_257) rfl ?_
              show Steps p.tables e below (T55.setTop (mkF m 258 #[.val (.long q0), .second, .val (.long q1), .second, .val (.long q2), .second, .val (.long q3), .second, .val (.int p4), .val (.int p5), .val (.int (1 : Int32)), .val (.int (q3.toInt32)), .val (.int v1), .val (.ref b2), .val (.ref b9), .val (.ref b16), .val (.ref b44), .val (.long ((0 : Int64) + ((f8 0) * ((f48 0).toInt64)))), .second, .val (.long ((0 : Int64) + (q0 * ((q3.toInt32).toInt64)))), .second, .val (.int v57), .unset] [(.int (lcmpW (f8 2) q2))])) _
              refine own_dia (F := (mkF m 266 #[.val (.long q0), .second, .val (.long q1), .second, .val (.long q2), .second, .val (.long q3), .second, .val (.int p4), .val (.int p5), .val (.int (1 : Int32)), .val (.int (q3.toInt32)), .val (.int v1), .val (.ref b2), .val (.ref b9), .val (.ref b16), .val (.ref b44), .val (.long ((0 : Int64) + ((f8 0) * ((f48 0).toInt64)))), .second, .val (.long ((0 : Int64) + (q0 * ((q3.toInt32).toInt64)))), .second, .val (.int v57), .unset] [(.int v61)])) ?_ ?_
              · intro kt
                by_cases hc60 : (f8 2) = q2
                · show Steps p.tables e below (T55.setTop (mkF m 258 #[.val (.long q0), .second, .val (.long q1), .second, .val (.long q2), .second, .val (.long q3), .second, .val (.int p4), .val (.int p5), .val (.int (1 : Int32)), .val (.int (q3.toInt32)), .val (.int v1), .val (.ref b2), .val (.ref b9), .val (.ref b16), .val (.ref b44), .val (.long ((0 : Int64) + ((f8 0) * ((f48 0).toInt64)))), .second, .val (.long ((0 : Int64) + (q0 * ((q3.toInt32).toInt64)))), .second, .val (.int v57), .unset] [(.int (lcmpW (f8 2) q2))])) _
                  refine XS.ifNo X55.here hx rfl (hb hby at_258) rfl ((if0 _ _).trans (teq ((lw_eq (f8 2) q2).mpr hc60)).2) ?_
                  show Steps p.tables e below (T55.setTop (mkF m 261 #[.val (.long q0), .second, .val (.long q1), .second, .val (.long q2), .second, .val (.long q3), .second, .val (.int p4), .val (.int p5), .val (.int (1 : Int32)), .val (.int (q3.toInt32)), .val (.int v1), .val (.ref b2), .val (.ref b9), .val (.ref b16), .val (.ref b44), .val (.long ((0 : Int64) + ((f8 0) * ((f48 0).toInt64)))), .second, .val (.long ((0 : Int64) + (q0 * ((q3.toInt32).toInt64)))), .second, .val (.int v57), .unset] [])) _
                  refine XS.iconst X55.here hx rfl (hb hby at_261) ?_
                  show Steps p.tables e below (T55.setTop (mkF m 262 #[.val (.long q0), .second, .val (.long q1), .second, .val (.long q2), .second, .val (.long q3), .second, .val (.int p4), .val (.int p5), .val (.int (1 : Int32)), .val (.int (q3.toInt32)), .val (.int v1), .val (.ref b2), .val (.ref b9), .val (.ref b16), .val (.ref b44), .val (.long ((0 : Int64) + ((f8 0) * ((f48 0).toInt64)))), .second, .val (.long ((0 : Int64) + (q0 * ((q3.toInt32).toInt64)))), .second, .val (.int v57), .unset] [(.int (1 : Int32))])) _
                  refine XS.goto X55.here hx rfl (pc0 := 262) (pc' := 266) rfl (hb hby at_262) (by decide) (by decide) ?_
                  exact castTop (by rw [hv61, if_pos hc60] <;> rfl) kt
                · show Steps p.tables e below (T55.setTop (mkF m 258 #[.val (.long q0), .second, .val (.long q1), .second, .val (.long q2), .second, .val (.long q3), .second, .val (.int p4), .val (.int p5), .val (.int (1 : Int32)), .val (.int (q3.toInt32)), .val (.int v1), .val (.ref b2), .val (.ref b9), .val (.ref b16), .val (.ref b44), .val (.long ((0 : Int64) + ((f8 0) * ((f48 0).toInt64)))), .second, .val (.long ((0 : Int64) + (q0 * ((q3.toInt32).toInt64)))), .second, .val (.int v57), .unset] [(.int (lcmpW (f8 2) q2))])) _
                  refine XS.ifYes X55.here hx rfl (pc0 := 258) (pc' := 265) rfl (hb hby at_258) rfl ((if0 _ _).trans (feq (fun q => hc60 ((lw_eq (f8 2) q2).mp q))).2) (by decide) (by decide) ?_
                  show Steps p.tables e below (T55.setTop (mkF m 265 #[.val (.long q0), .second, .val (.long q1), .second, .val (.long q2), .second, .val (.long q3), .second, .val (.int p4), .val (.int p5), .val (.int (1 : Int32)), .val (.int (q3.toInt32)), .val (.int v1), .val (.ref b2), .val (.ref b9), .val (.ref b16), .val (.ref b44), .val (.long ((0 : Int64) + ((f8 0) * ((f48 0).toInt64)))), .second, .val (.long ((0 : Int64) + (q0 * ((q3.toInt32).toInt64)))), .second, .val (.int v57), .unset] [])) _
                  refine XS.iconst X55.here hx rfl (hb hby at_265) ?_
                  exact castTop (by rw [hv61, if_neg hc60] <;> rfl) kt
              exact castTop (by rw [hv62, if_pos hc59] <;> rfl) kt
            · show Steps p.tables e below (T55.setTop (mkF m 248 #[.val (.long q0), .second, .val (.long q1), .second, .val (.long q2), .second, .val (.long q3), .second, .val (.int p4), .val (.int p5), .val (.int (1 : Int32)), .val (.int (q3.toInt32)), .val (.int v1), .val (.ref b2), .val (.ref b9), .val (.ref b16), .val (.ref b44), .val (.long ((0 : Int64) + ((f8 0) * ((f48 0).toInt64)))), .second, .val (.long ((0 : Int64) + (q0 * ((q3.toInt32).toInt64)))), .second, .val (.int v57), .unset] [(.int (lcmpW (f8 1) q1))])) _
              refine XS.ifYes X55.here hx rfl (pc0 := 248) (pc' := 265) rfl (hb hby at_248) rfl ((if0 _ _).trans (feq (fun q => hc59 ((lw_eq (f8 1) q1).mp q))).2) (by decide) (by decide) ?_
              show Steps p.tables e below (T55.setTop (mkF m 265 #[.val (.long q0), .second, .val (.long q1), .second, .val (.long q2), .second, .val (.long q3), .second, .val (.int p4), .val (.int p5), .val (.int (1 : Int32)), .val (.int (q3.toInt32)), .val (.int v1), .val (.ref b2), .val (.ref b9), .val (.ref b16), .val (.ref b44), .val (.long ((0 : Int64) + ((f8 0) * ((f48 0).toInt64)))), .second, .val (.long ((0 : Int64) + (q0 * ((q3.toInt32).toInt64)))), .second, .val (.int v57), .unset] [])) _
              refine XS.iconst X55.here hx rfl (hb hby at_265) ?_
              exact castTop (by rw [hv62, if_neg hc59] <;> rfl) kt
          exact castTop (by rw [hv63, if_pos hc58] <;> rfl) kt
        · show Steps p.tables e below (T55.setTop (mkF m 239 #[.val (.long q0), .second, .val (.long q1), .second, .val (.long q2), .second, .val (.long q3), .second, .val (.int p4), .val (.int p5), .val (.int (1 : Int32)), .val (.int (q3.toInt32)), .val (.int v1), .val (.ref b2), .val (.ref b9), .val (.ref b16), .val (.ref b44), .val (.long ((0 : Int64) + ((f8 0) * ((f48 0).toInt64)))), .second, .val (.long ((0 : Int64) + (q0 * ((q3.toInt32).toInt64)))), .second, .val (.int v57), .unset] [(.int (lcmpW (f8 0) q0))])) _
          refine XS.ifYes X55.here hx rfl (pc0 := 239) (pc' := 265) rfl (hb hby at_239) rfl ((if0 _ _).trans (feq (fun q => hc58 ((lw_eq (f8 0) q0).mp q))).2) (by decide) (by decide) ?_
          show Steps p.tables e below (T55.setTop (mkF m 265 #[.val (.long q0), .second, .val (.long q1), .second, .val (.long q2), .second, .val (.long q3), .second, .val (.int p4), .val (.int p5), .val (.int (1 : Int32)), .val (.int (q3.toInt32)), .val (.int v1), .val (.ref b2), .val (.ref b9), .val (.ref b16), .val (.ref b44), .val (.long ((0 : Int64) + ((f8 0) * ((f48 0).toInt64)))), .second, .val (.long ((0 : Int64) + (q0 * ((q3.toInt32).toInt64)))), .second, .val (.int v57), .unset] [])) _
          refine XS.iconst X55.here hx rfl (hb hby at_265) ?_
          exact castTop (by rw [hv63, if_neg hc58] <;> rfl) kt
      show Steps p.tables e below (T55.setTop (mkF m 266 #[.val (.long q0), .second, .val (.long q1), .second, .val (.long q2), .second, .val (.long q3), .second, .val (.int p4), .val (.int p5), .val (.int (1 : Int32)), .val (.int (q3.toInt32)), .val (.int v1), .val (.ref b2), .val (.ref b9), .val (.ref b16), .val (.ref b44), .val (.long ((0 : Int64) + ((f8 0) * ((f48 0).toInt64)))), .second, .val (.long ((0 : Int64) + (q0 * ((q3.toInt32).toInt64)))), .second, .val (.int v57), .unset] [(.int v63)])) _
      refine XS.istore X55.here hx rfl (hb hby at_266) rfl (l' := #[.val (.long q0), .second, .val (.long q1), .second, .val (.long q2), .second, .val (.long q3), .second, .val (.int p4), .val (.int p5), .val (.int (1 : Int32)), .val (.int (q3.toInt32)), .val (.int v1), .val (.ref b2), .val (.ref b9), .val (.ref b16), .val (.ref b44), .val (.long ((0 : Int64) + ((f8 0) * ((f48 0).toInt64)))), .second, .val (.long ((0 : Int64) + (q0 * ((q3.toInt32).toInt64)))), .second, .val (.int v57), .val (.int v63)]) rfl ?_
      show Steps p.tables e below (T55.setTop (mkF m 268 #[.val (.long q0), .second, .val (.long q1), .second, .val (.long q2), .second, .val (.long q3), .second, .val (.int p4), .val (.int p5), .val (.int (1 : Int32)), .val (.int (q3.toInt32)), .val (.int v1), .val (.ref b2), .val (.ref b9), .val (.ref b16), .val (.ref b44), .val (.long ((0 : Int64) + ((f8 0) * ((f48 0).toInt64)))), .second, .val (.long ((0 : Int64) + (q0 * ((q3.toInt32).toInt64)))), .second, .val (.int v57), .val (.int v63)] [])) _
      refine XS.lload X55.here hx rfl (hb hby at_268) rfl ?_
      show Steps p.tables e below (T55.setTop (mkF m 270 #[.val (.long q0), .second, .val (.long q1), .second, .val (.long q2), .second, .val (.long q3), .second, .val (.int p4), .val (.int p5), .val (.int (1 : Int32)), .val (.int (q3.toInt32)), .val (.int v1), .val (.ref b2), .val (.ref b9), .val (.ref b16), .val (.ref b44), .val (.long ((0 : Int64) + ((f8 0) * ((f48 0).toInt64)))), .second, .val (.long ((0 : Int64) + (q0 * ((q3.toInt32).toInt64)))), .second, .val (.int v57), .val (.int v63)] [(.long ((0 : Int64) + ((f8 0) * ((f48 0).toInt64))))])) _
      refine XS.lload X55.here hx rfl (hb hby at_270) rfl ?_
      show Steps p.tables e below (T55.setTop (mkF m 272 #[.val (.long q0), .second, .val (.long q1), .second, .val (.long q2), .second, .val (.long q3), .second, .val (.int p4), .val (.int p5), .val (.int (1 : Int32)), .val (.int (q3.toInt32)), .val (.int v1), .val (.ref b2), .val (.ref b9), .val (.ref b16), .val (.ref b44), .val (.long ((0 : Int64) + ((f8 0) * ((f48 0).toInt64)))), .second, .val (.long ((0 : Int64) + (q0 * ((q3.toInt32).toInt64)))), .second, .val (.int v57), .val (.int v63)] [(.long ((0 : Int64) + (q0 * ((q3.toInt32).toInt64)))), (.long ((0 : Int64) + ((f8 0) * ((f48 0).toInt64))))])) _
      refine XS.lcmp X55.here hx rfl (hb hby at_272) rfl ?_
      show Steps p.tables e below (T55.setTop (mkF m 273 #[.val (.long q0), .second, .val (.long q1), .second, .val (.long q2), .second, .val (.long q3), .second, .val (.int p4), .val (.int p5), .val (.int (1 : Int32)), .val (.int (q3.toInt32)), .val (.int v1), .val (.ref b2), .val (.ref b9), .val (.ref b16), .val (.ref b44), .val (.long ((0 : Int64) + ((f8 0) * ((f48 0).toInt64)))), .second, .val (.long ((0 : Int64) + (q0 * ((q3.toInt32).toInt64)))), .second, .val (.int v57), .val (.int v63)] [(.int (lcmpW ((0 : Int64) + ((f8 0) * ((f48 0).toInt64))) ((0 : Int64) + (q0 * ((q3.toInt32).toInt64)))))])) _
      refine own_dia (F := (mkF m 291 #[.val (.long q0), .second, .val (.long q1), .second, .val (.long q2), .second, .val (.long q3), .second, .val (.int p4), .val (.int p5), .val (.int (1 : Int32)), .val (.int (q3.toInt32)), .val (.int v1), .val (.ref b2), .val (.ref b9), .val (.ref b16), .val (.ref b44), .val (.long ((0 : Int64) + ((f8 0) * ((f48 0).toInt64)))), .second, .val (.long ((0 : Int64) + (q0 * ((q3.toInt32).toInt64)))), .second, .val (.int v57), .val (.int v63)] [(.int v69)])) ?_ ?_
      · intro kt
        by_cases hc64 : ((0 : Int64) + ((f8 0) * ((f48 0).toInt64))) = ((0 : Int64) + (q0 * ((q3.toInt32).toInt64)))
        · show Steps p.tables e below (T55.setTop (mkF m 273 #[.val (.long q0), .second, .val (.long q1), .second, .val (.long q2), .second, .val (.long q3), .second, .val (.int p4), .val (.int p5), .val (.int (1 : Int32)), .val (.int (q3.toInt32)), .val (.int v1), .val (.ref b2), .val (.ref b9), .val (.ref b16), .val (.ref b44), .val (.long ((0 : Int64) + ((f8 0) * ((f48 0).toInt64)))), .second, .val (.long ((0 : Int64) + (q0 * ((q3.toInt32).toInt64)))), .second, .val (.int v57), .val (.int v63)] [(.int (lcmpW ((0 : Int64) + ((f8 0) * ((f48 0).toInt64))) ((0 : Int64) + (q0 * ((q3.toInt32).toInt64)))))])) _
          refine XS.ifNo X55.here hx rfl (hb hby at_273) rfl ((if0 _ _).trans (teq ((lw_eq ((0 : Int64) + ((f8 0) * ((f48 0).toInt64))) ((0 : Int64) + (q0 * ((q3.toInt32).toInt64)))).mpr hc64)).2) ?_
          show Steps p.tables e below (T55.setTop (mkF m 276 #[.val (.long q0), .second, .val (.long q1), .second, .val (.long q2), .second, .val (.long q3), .second, .val (.int p4), .val (.int p5), .val (.int (1 : Int32)), .val (.int (q3.toInt32)), .val (.int v1), .val (.ref b2), .val (.ref b9), .val (.ref b16), .val (.ref b44), .val (.long ((0 : Int64) + ((f8 0) * ((f48 0).toInt64)))), .second, .val (.long ((0 : Int64) + (q0 * ((q3.toInt32).toInt64)))), .second, .val (.int v57), .val (.int v63)] [])) _
          refine XS.iload X55.here hx rfl (hb hby at_276) rfl ?_
          show Steps p.tables e below (T55.setTop (mkF m 278 #[.val (.long q0), .second, .val (.long q1), .second, .val (.long q2), .second, .val (.long q3), .second, .val (.int p4), .val (.int p5), .val (.int (1 : Int32)), .val (.int (q3.toInt32)), .val (.int v1), .val (.ref b2), .val (.ref b9), .val (.ref b16), .val (.ref b44), .val (.long ((0 : Int64) + ((f8 0) * ((f48 0).toInt64)))), .second, .val (.long ((0 : Int64) + (q0 * ((q3.toInt32).toInt64)))), .second, .val (.int v57), .val (.int v63)] [(.int v57)])) _
          refine own_dia (F := (mkF m 291 #[.val (.long q0), .second, .val (.long q1), .second, .val (.long q2), .second, .val (.long q3), .second, .val (.int p4), .val (.int p5), .val (.int (1 : Int32)), .val (.int (q3.toInt32)), .val (.int v1), .val (.ref b2), .val (.ref b9), .val (.ref b16), .val (.ref b44), .val (.long ((0 : Int64) + ((f8 0) * ((f48 0).toInt64)))), .second, .val (.long ((0 : Int64) + (q0 * ((q3.toInt32).toInt64)))), .second, .val (.int v57), .val (.int v63)] [(.int v68)])) ?_ ?_
          · intro kt
            by_cases hc65 : v57 = (0 : Int32)
            · show Steps p.tables e below (T55.setTop (mkF m 278 #[.val (.long q0), .second, .val (.long q1), .second, .val (.long q2), .second, .val (.long q3), .second, .val (.int p4), .val (.int p5), .val (.int (1 : Int32)), .val (.int (q3.toInt32)), .val (.int v1), .val (.ref b2), .val (.ref b9), .val (.ref b16), .val (.ref b44), .val (.long ((0 : Int64) + ((f8 0) * ((f48 0).toInt64)))), .second, .val (.long ((0 : Int64) + (q0 * ((q3.toInt32).toInt64)))), .second, .val (.int v57), .val (.int v63)] [(.int v57)])) _
              refine XS.ifYes X55.here hx rfl (pc0 := 278) (pc' := 290) rfl (hb hby at_278) rfl ((if0 _ _).trans (teq hc65).1) (by decide) (by decide) ?_
              show Steps p.tables e below (T55.setTop (mkF m 290 #[.val (.long q0), .second, .val (.long q1), .second, .val (.long q2), .second, .val (.long q3), .second, .val (.int p4), .val (.int p5), .val (.int (1 : Int32)), .val (.int (q3.toInt32)), .val (.int v1), .val (.ref b2), .val (.ref b9), .val (.ref b16), .val (.ref b44), .val (.long ((0 : Int64) + ((f8 0) * ((f48 0).toInt64)))), .second, .val (.long ((0 : Int64) + (q0 * ((q3.toInt32).toInt64)))), .second, .val (.int v57), .val (.int v63)] [])) _
              refine XS.iconst X55.here hx rfl (hb hby at_290) ?_
              exact castTop (by rw [hv68, if_pos hc65] <;> rfl) kt
            · show Steps p.tables e below (T55.setTop (mkF m 278 #[.val (.long q0), .second, .val (.long q1), .second, .val (.long q2), .second, .val (.long q3), .second, .val (.int p4), .val (.int p5), .val (.int (1 : Int32)), .val (.int (q3.toInt32)), .val (.int v1), .val (.ref b2), .val (.ref b9), .val (.ref b16), .val (.ref b44), .val (.long ((0 : Int64) + ((f8 0) * ((f48 0).toInt64)))), .second, .val (.long ((0 : Int64) + (q0 * ((q3.toInt32).toInt64)))), .second, .val (.int v57), .val (.int v63)] [(.int v57)])) _
              refine XS.ifNo X55.here hx rfl (hb hby at_278) rfl ((if0 _ _).trans (feq hc65).1) ?_
              show Steps p.tables e below (T55.setTop (mkF m 281 #[.val (.long q0), .second, .val (.long q1), .second, .val (.long q2), .second, .val (.long q3), .second, .val (.int p4), .val (.int p5), .val (.int (1 : Int32)), .val (.int (q3.toInt32)), .val (.int v1), .val (.ref b2), .val (.ref b9), .val (.ref b16), .val (.ref b44), .val (.long ((0 : Int64) + ((f8 0) * ((f48 0).toInt64)))), .second, .val (.long ((0 : Int64) + (q0 * ((q3.toInt32).toInt64)))), .second, .val (.int v57), .val (.int v63)] [])) _
              refine XS.iload X55.here hx rfl (hb hby at_281) rfl ?_
              show Steps p.tables e below (T55.setTop (mkF m 283 #[.val (.long q0), .second, .val (.long q1), .second, .val (.long q2), .second, .val (.long q3), .second, .val (.int p4), .val (.int p5), .val (.int (1 : Int32)), .val (.int (q3.toInt32)), .val (.int v1), .val (.ref b2), .val (.ref b9), .val (.ref b16), .val (.ref b44), .val (.long ((0 : Int64) + ((f8 0) * ((f48 0).toInt64)))), .second, .val (.long ((0 : Int64) + (q0 * ((q3.toInt32).toInt64)))), .second, .val (.int v57), .val (.int v63)] [(.int v63)])) _
              refine own_dia (F := (mkF m 291 #[.val (.long q0), .second, .val (.long q1), .second, .val (.long q2), .second, .val (.long q3), .second, .val (.int p4), .val (.int p5), .val (.int (1 : Int32)), .val (.int (q3.toInt32)), .val (.int v1), .val (.ref b2), .val (.ref b9), .val (.ref b16), .val (.ref b44), .val (.long ((0 : Int64) + ((f8 0) * ((f48 0).toInt64)))), .second, .val (.long ((0 : Int64) + (q0 * ((q3.toInt32).toInt64)))), .second, .val (.int v57), .val (.int v63)] [(.int v67)])) ?_ ?_
              · intro kt
                by_cases hc66 : v63 = (0 : Int32)
                · show Steps p.tables e below (T55.setTop (mkF m 283 #[.val (.long q0), .second, .val (.long q1), .second, .val (.long q2), .second, .val (.long q3), .second, .val (.int p4), .val (.int p5), .val (.int (1 : Int32)), .val (.int (q3.toInt32)), .val (.int v1), .val (.ref b2), .val (.ref b9), .val (.ref b16), .val (.ref b44), .val (.long ((0 : Int64) + ((f8 0) * ((f48 0).toInt64)))), .second, .val (.long ((0 : Int64) + (q0 * ((q3.toInt32).toInt64)))), .second, .val (.int v57), .val (.int v63)] [(.int v63)])) _
                  refine XS.ifYes X55.here hx rfl (pc0 := 283) (pc' := 290) rfl (hb hby at_283) rfl ((if0 _ _).trans (teq hc66).1) (by decide) (by decide) ?_
                  show Steps p.tables e below (T55.setTop (mkF m 290 #[.val (.long q0), .second, .val (.long q1), .second, .val (.long q2), .second, .val (.long q3), .second, .val (.int p4), .val (.int p5), .val (.int (1 : Int32)), .val (.int (q3.toInt32)), .val (.int v1), .val (.ref b2), .val (.ref b9), .val (.ref b16), .val (.ref b44), .val (.long ((0 : Int64) + ((f8 0) * ((f48 0).toInt64)))), .second, .val (.long ((0 : Int64) + (q0 * ((q3.toInt32).toInt64)))), .second, .val (.int v57), .val (.int v63)] [])) _
                  refine XS.iconst X55.here hx rfl (hb hby at_290) ?_
                  exact castTop (by rw [hv67, if_pos hc66] <;> rfl) kt
                · show Steps p.tables e below (T55.setTop (mkF m 283 #[.val (.long q0), .second, .val (.long q1), .second, .val (.long q2), .second, .val (.long q3), .second, .val (.int p4), .val (.int p5), .val (.int (1 : Int32)), .val (.int (q3.toInt32)), .val (.int v1), .val (.ref b2), .val (.ref b9), .val (.ref b16), .val (.ref b44), .val (.long ((0 : Int64) + ((f8 0) * ((f48 0).toInt64)))), .second, .val (.long ((0 : Int64) + (q0 * ((q3.toInt32).toInt64)))), .second, .val (.int v57), .val (.int v63)] [(.int v63)])) _
                  refine XS.ifNo X55.here hx rfl (hb hby at_283) rfl ((if0 _ _).trans (feq hc66).1) ?_
                  show Steps p.tables e below (T55.setTop (mkF m 286 #[.val (.long q0), .second, .val (.long q1), .second, .val (.long q2), .second, .val (.long q3), .second, .val (.int p4), .val (.int p5), .val (.int (1 : Int32)), .val (.int (q3.toInt32)), .val (.int v1), .val (.ref b2), .val (.ref b9), .val (.ref b16), .val (.ref b44), .val (.long ((0 : Int64) + ((f8 0) * ((f48 0).toInt64)))), .second, .val (.long ((0 : Int64) + (q0 * ((q3.toInt32).toInt64)))), .second, .val (.int v57), .val (.int v63)] [])) _
                  refine XS.iconst X55.here hx rfl (hb hby at_286) ?_
                  show Steps p.tables e below (T55.setTop (mkF m 287 #[.val (.long q0), .second, .val (.long q1), .second, .val (.long q2), .second, .val (.long q3), .second, .val (.int p4), .val (.int p5), .val (.int (1 : Int32)), .val (.int (q3.toInt32)), .val (.int v1), .val (.ref b2), .val (.ref b9), .val (.ref b16), .val (.ref b44), .val (.long ((0 : Int64) + ((f8 0) * ((f48 0).toInt64)))), .second, .val (.long ((0 : Int64) + (q0 * ((q3.toInt32).toInt64)))), .second, .val (.int v57), .val (.int v63)] [(.int (1 : Int32))])) _
                  refine XS.goto X55.here hx rfl (pc0 := 287) (pc' := 291) rfl (hb hby at_287) (by decide) (by decide) ?_
                  exact castTop (by rw [hv67, if_neg hc66] <;> rfl) kt
              exact castTop (by rw [hv68, if_neg hc65] <;> rfl) kt
          exact castTop (by rw [hv69, if_pos hc64] <;> rfl) kt
        · show Steps p.tables e below (T55.setTop (mkF m 273 #[.val (.long q0), .second, .val (.long q1), .second, .val (.long q2), .second, .val (.long q3), .second, .val (.int p4), .val (.int p5), .val (.int (1 : Int32)), .val (.int (q3.toInt32)), .val (.int v1), .val (.ref b2), .val (.ref b9), .val (.ref b16), .val (.ref b44), .val (.long ((0 : Int64) + ((f8 0) * ((f48 0).toInt64)))), .second, .val (.long ((0 : Int64) + (q0 * ((q3.toInt32).toInt64)))), .second, .val (.int v57), .val (.int v63)] [(.int (lcmpW ((0 : Int64) + ((f8 0) * ((f48 0).toInt64))) ((0 : Int64) + (q0 * ((q3.toInt32).toInt64)))))])) _
          refine XS.ifYes X55.here hx rfl (pc0 := 273) (pc' := 290) rfl (hb hby at_273) rfl ((if0 _ _).trans (feq (fun q => hc64 ((lw_eq ((0 : Int64) + ((f8 0) * ((f48 0).toInt64))) ((0 : Int64) + (q0 * ((q3.toInt32).toInt64)))).mp q))).2) (by decide) (by decide) ?_
          show Steps p.tables e below (T55.setTop (mkF m 290 #[.val (.long q0), .second, .val (.long q1), .second, .val (.long q2), .second, .val (.long q3), .second, .val (.int p4), .val (.int p5), .val (.int (1 : Int32)), .val (.int (q3.toInt32)), .val (.int v1), .val (.ref b2), .val (.ref b9), .val (.ref b16), .val (.ref b44), .val (.long ((0 : Int64) + ((f8 0) * ((f48 0).toInt64)))), .second, .val (.long ((0 : Int64) + (q0 * ((q3.toInt32).toInt64)))), .second, .val (.int v57), .val (.int v63)] [])) _
          refine XS.iconst X55.here hx rfl (hb hby at_290) ?_
          exact castTop (by rw [hv69, if_neg hc64] <;> rfl) kt
      show Steps p.tables e below (T55.setTop (mkF m 291 #[.val (.long q0), .second, .val (.long q1), .second, .val (.long q2), .second, .val (.long q3), .second, .val (.int p4), .val (.int p5), .val (.int (1 : Int32)), .val (.int (q3.toInt32)), .val (.int v1), .val (.ref b2), .val (.ref b9), .val (.ref b16), .val (.ref b44), .val (.long ((0 : Int64) + ((f8 0) * ((f48 0).toInt64)))), .second, .val (.long ((0 : Int64) + (q0 * ((q3.toInt32).toInt64)))), .second, .val (.int v57), .val (.int v63)] [(.int v69)])) _
      exact retN X55 hx (t := .boolean) Bd.returns (by simp) (hb hby at_291) hr
    · show Q0 h0 n0 _ T55.heap _
      refine ⟨?_, N55⟩
      have hfin : (nar .boolean v69) = (1 : Int32) := by
        exact (own_law_1 q0 q1 q2 q3 f4 f6 f8 f48 v57 v61 v62 v63 v67 v68 v69 hf4 hf6 hf8 hf48 hv57 hv61 hv62 hv63 hv67 hv68 hv69)
      rw [hfin]
  · subst hk
    obtain ⟨T70, h70, k70, X70, e70, E70, A70, st70⟩ := newP X18 hx hZ (hw _ (List.mem_of_getElem? (i := 21) rfl)) rfl (g := (mkF m 82 #[.val (.long q0), .second, .val (.long q1), .second, .val (.long q2), .second, .val (.long q3), .second, .val (.int p4), .val (.int p5), .val (.int (2 : Int32)), .val (.int (q3.toInt32)), .val (.int v1), .val (.ref b2), .val (.ref b9), .val (.ref b16), .unset, .unset, .unset, .unset, .unset, .unset, .unset] [(.int (2 : Int32))])) rfl (hb hby at_82) rfl (by decide) (cap := 2) (by decide) (by decide) (by decide) (by decide)
    obtain ⟨b70, g70⟩ : ∃ z, z = T18.heap.size := ⟨_, rfl⟩
    rw [← g70] at A70 st70
    have G71 : AF Z T18.heap b2 .long 3 (fun j => .long (f8 j)) := ((G17.ext E16).keep Kc18 (ninS ne_b2_b16 nin0))
    have ne_b2_b70 : b2 ≠ b70 := Nat.ne_of_lt (Nat.lt_of_lt_of_le G71.lt (Nat.le_of_eq g70.symm))
    have G72 : AF Z T18.heap b9 .long 3 (fun j => .long (f15 j)) := ((V14.ext E16).keep Kc18 (ninS ne_b9_b16 nin0))
    have ne_b9_b70 : b9 ≠ b70 := Nat.ne_of_lt (Nat.lt_of_lt_of_le G72.lt (Nat.le_of_eq g70.symm))
    have ne_b16_b70 : b16 ≠ b70 := Nat.ne_of_lt (Nat.lt_of_lt_of_le P19.lt (Nat.le_of_eq g70.symm))
    have nw_b70 : n0 ≤ b70 := Nat.le_trans (Nat.le_trans Z0 K18.1) (Nat.le_of_eq g70.symm)
    have sz_b70 : h0.size ≤ b70 := Nat.le_trans K18.1 (Nat.le_of_eq g70.symm)
    have K70 : Keep h0 h70 [] := K18.ext E70
    have V70 : AF Z h70 b70 .int 2 (fun j => .int ((fun _ => (0 : Int32)) j)) := AF.new A70 (by decide)
    obtain ⟨T73, h73, X73, e73, W73, A73, st73⟩ := AF.stI X70 hx hZ e70 V70 (by decide : own_in (0 : Int32) 2) (g := (mkF m 96 #[.val (.long q0), .second, .val (.long q1), .second, .val (.long q2), .second, .val (.long q3), .second, .val (.int p4), .val (.int p5), .val (.int (2 : Int32)), .val (.int (q3.toInt32)), .val (.int v1), .val (.ref b2), .val (.ref b9), .val (.ref b16), .val (.ref b70), .unset, .unset, .unset, .unset, .unset, .unset] [(.int (q3.toInt32)), (.int (0 : Int32)), (.ref b70)])) rfl rfl (hb hby at_96)
    have K73 : Keep h0 h73 [] := K70.wr W73 (Or.inr sz_b70)
    obtain ⟨f74, hf74⟩ : ∃ f : Nat → Int32, f = (fun i => if i = 0 then (q3.toInt32) else (fun _ => (0 : Int32)) i) := ⟨_, rfl⟩
    have V73 : AF Z h73 b70 .int 2 (fun j => .int (f74 j)) := AF.cong A73 (own_updI rfl hf74)
    have N73 := Fr.snoc X73 N18 nw_b70
    obtain ⟨T75, h75, X75, e75, W75, A75, st75⟩ := AF.stI X73 hx hZ e73 V73 (by decide : own_in (1 : Int32) 2) (g := (mkF m 108 #[.val (.long q0), .second, .val (.long q1), .second, .val (.long q2), .second, .val (.long q3), .second, .val (.int p4), .val (.int p5), .val (.int (2 : Int32)), .val (.int (q3.toInt32)), .val (.int v1), .val (.ref b2), .val (.ref b9), .val (.ref b16), .val (.ref b70), .unset, .unset, .unset, .unset, .unset, .unset] [(.int v1), (.int (1 : Int32)), (.ref b70)])) rfl rfl (hb hby at_108)
    have K75 : Keep h0 h75 [] := K73.wr W75 (Or.inr sz_b70)
    obtain ⟨f76, hf76⟩ : ∃ f : Nat → Int32, f = (fun i => if i = 1 then v1 else f74 i) := ⟨_, rfl⟩
    have V75 : AF Z h75 b70 .int 2 (fun j => .int (f76 j)) := AF.cong A75 (own_updI rfl hf76)
    have N75 := Fr.snoc X75 N73 nw_b70
    have G77 : Exa Z h75 b16 "com/example/paperloom/paperloom/CountSearch$Mean" := (((P19.ext E70).wr W73).wr W75)
    have G78 : Fld Z h75 b16 "com/example/paperloom/paperloom/CountSearch$Mean" "offset" "[J" (.ref b2) := (((P20.ext E70).other W73 (Or.inl ne_b16_b70)).other W75 (Or.inl ne_b16_b70))
    have G79 : Fld Z h75 b16 "com/example/paperloom/paperloom/CountSearch$Mean" "weight" "[J" (.ref b9) := (((P21.ext E70).other W73 (Or.inl ne_b16_b70)).other W75 (Or.inl ne_b16_b70))
    have G80 : Fld Z h75 b16 "com/example/paperloom/paperloom/CountSearch$Mean" "startOffset" "J" (.long (0 : Int64)) := (((P22.ext E70).other W73 (Or.inl ne_b16_b70)).other W75 (Or.inl ne_b16_b70))
    have G81 : Fld Z h75 b16 "com/example/paperloom/paperloom/CountSearch$Mean" "startWeight" "J" (.long (0 : Int64)) := (((P23.ext E70).other W73 (Or.inl ne_b16_b70)).other W75 (Or.inl ne_b16_b70))
    have G82 : AF Z h75 b2 .long 3 (fun j => .long (f8 j)) := (((G71.ext E70).other W73 ne_b2_b70).other W75 ne_b2_b70)
    obtain ⟨cq83, kq83, q83a, q83b, q83c⟩ := isOf hZ e75 G77
    obtain ⟨_, _, ⟨T83, L83, k83, n83⟩, -, X83, ⟨Lc83, hQ83, l83, y83, z83⟩, st83⟩ := X75.virtualBack hx (y := (⟨"com/example/paperloom/paperloom/CountSearch$Mean", "offset", "([I)J"⟩ : MethodName)) (z := (⟨"com/example/paperloom/paperloom/CountSearch$Mean", "offset", "([I)J"⟩ : MethodName)) hown (mvT hZ (hw _ (List.mem_of_getElem? (i := 22) rfl))) (mvT hZ (hw _ (List.mem_of_getElem? (i := 23) rfl))) (notFace_of_selects (args := #[]) (mvT hZ (hw _ (List.mem_of_getElem? (i := 25) rfl)))) (mvT hZ (hw _ (List.mem_of_getElem? (i := 25) rfl))) (mvT hZ (hw _ (List.mem_of_getElem? (i := 24) rfl))) (by decide) (backOf (W := 0) (rm4_2 l Z A0 hw [] b16 b70 b2 (.ref b9) (0 : Int64) (0 : Int64) f76 f8 h75 n0 (Nat.le_trans Z0 K75.1) G77 G78 G79 G80 G81 V75 G82) hZ (hw _ (List.mem_of_getElem? (i := 26) rfl)) (hw _ (List.mem_of_getElem? (i := 3) rfl)) (by decide) (by decide)) q83a q83c (g := (mkF m 125 #[.val (.long q0), .second, .val (.long q1), .second, .val (.long q2), .second, .val (.long q3), .second, .val (.int p4), .val (.int p5), .val (.int (2 : Int32)), .val (.int (q3.toInt32)), .val (.int v1), .val (.ref b2), .val (.ref b9), .val (.ref b16), .val (.ref b70), .unset, .unset, .unset, .unset, .unset, .unset] [(.ref b70), (.ref b16)])) rfl (by rw [hml]; rfl) (Steps.refl _) (argsL := [(.ref b70)]) (rest := []) (lenOf pd_3 rfl) rfl (by show 2 * 0 + _ ≤ _; exact Nat.le_of_eq rfl) (hb hby at_125) (fun _ _ => ⟨rfl, e75, (by decide : 4 + 0 ≤ _), (by decide : 12 + 0 ≤ _)⟩)
    dsimp only [Pt.U, Pt.locs, Pt.cells, Pt.slots] at X83 l83 y83 z83 st83 hQ83
    subst l83 y83 z83
    obtain ⟨rfl, N83q, e83⟩ := hQ83
    have N83 := Fr.app N75 N83q
    obtain ⟨v84, hv84⟩ : ∃ z : Int64, z = (((0 : Int64) + ((f8 0) * ((f76 0).toInt64))) + ((f8 1) * ((f76 1).toInt64))) := ⟨_, rfl⟩
    obtain ⟨v85, hv85⟩ : ∃ z : Int64, z = (((0 : Int64) + (q0 * ((q3.toInt32).toInt64))) + (q1 * (v1.toInt64))) := ⟨_, rfl⟩
    obtain ⟨v88, hv88⟩ : ∃ z : Int32, z = if (f76 1) = v1 then (1 : Int32) else (0 : Int32) := ⟨_, rfl⟩
    obtain ⟨v89, hv89⟩ : ∃ z : Int32, z = if (f76 0) = (q3.toInt32) then v88 else (0 : Int32) := ⟨_, rfl⟩
    obtain ⟨v93, hv93⟩ : ∃ z : Int32, z = if (f8 2) = q2 then (1 : Int32) else (0 : Int32) := ⟨_, rfl⟩
    obtain ⟨v94, hv94⟩ : ∃ z : Int32, z = if (f8 1) = q1 then v93 else (0 : Int32) := ⟨_, rfl⟩
    obtain ⟨v95, hv95⟩ : ∃ z : Int32, z = if (f8 0) = q0 then v94 else (0 : Int32) := ⟨_, rfl⟩
    obtain ⟨v99, hv99⟩ : ∃ z : Int32, z = if v95 = (0 : Int32) then (0 : Int32) else (1 : Int32) := ⟨_, rfl⟩
    obtain ⟨v100, hv100⟩ : ∃ z : Int32, z = if v89 = (0 : Int32) then (0 : Int32) else v99 := ⟨_, rfl⟩
    obtain ⟨v101, hv101⟩ : ∃ z : Int32, z = if v84 = v85 then v100 else (0 : Int32) := ⟨_, rfl⟩
    obtain ⟨fs, hr, hrun, hended, hW, hsame⟩ := X83.leave (v := some (.int (nar .boolean v101))) (fun h => by rw [Bd.returns] at h; cases h)
    refine ⟨_, _, pre0 _ (ck25 _ ?_), hrun, hended, _, _, rfl, ?_, ⟨_, rfl⟩, hW, hsame.mono (by decide) (by decide)⟩
    · show Steps p.tables e below (T18.setTop (mkF m 80 #[.val (.long q0), .second, .val (.long q1), .second, .val (.long q2), .second, .val (.long q3), .second, .val (.int p4), .val (.int p5), .val (.int (2 : Int32)), .val (.int (q3.toInt32)), .val (.int v1), .val (.ref b2), .val (.ref b9), .val (.ref b16), .unset, .unset, .unset, .unset, .unset, .unset, .unset] [])) _
      refine XS.iload X18.here hx rfl (hb hby at_80) rfl ?_
      show Steps p.tables e below (T18.setTop (mkF m 82 #[.val (.long q0), .second, .val (.long q1), .second, .val (.long q2), .second, .val (.long q3), .second, .val (.int p4), .val (.int p5), .val (.int (2 : Int32)), .val (.int (q3.toInt32)), .val (.int v1), .val (.ref b2), .val (.ref b9), .val (.ref b16), .unset, .unset, .unset, .unset, .unset, .unset, .unset] [(.int (2 : Int32))])) _
      refine st70 _ ?_
      show Steps p.tables e below (T70.setTop (mkF m 84 #[.val (.long q0), .second, .val (.long q1), .second, .val (.long q2), .second, .val (.long q3), .second, .val (.int p4), .val (.int p5), .val (.int (2 : Int32)), .val (.int (q3.toInt32)), .val (.int v1), .val (.ref b2), .val (.ref b9), .val (.ref b16), .unset, .unset, .unset, .unset, .unset, .unset, .unset] [(.ref b70)])) _
      refine XS.astore X70.here hx rfl (hb hby at_84) rfl rfl (l' := #[.val (.long q0), .second, .val (.long q1), .second, .val (.long q2), .second, .val (.long q3), .second, .val (.int p4), .val (.int p5), .val (.int (2 : Int32)), .val (.int (q3.toInt32)), .val (.int v1), .val (.ref b2), .val (.ref b9), .val (.ref b16), .val (.ref b70), .unset, .unset, .unset, .unset, .unset, .unset]) rfl ?_
      show Steps p.tables e below (T70.setTop (mkF m 86 #[.val (.long q0), .second, .val (.long q1), .second, .val (.long q2), .second, .val (.long q3), .second, .val (.int p4), .val (.int p5), .val (.int (2 : Int32)), .val (.int (q3.toInt32)), .val (.int v1), .val (.ref b2), .val (.ref b9), .val (.ref b16), .val (.ref b70), .unset, .unset, .unset, .unset, .unset, .unset] [])) _
      refine XS.iload X70.here hx rfl (hb hby at_86) rfl ?_
      show Steps p.tables e below (T70.setTop (mkF m 88 #[.val (.long q0), .second, .val (.long q1), .second, .val (.long q2), .second, .val (.long q3), .second, .val (.int p4), .val (.int p5), .val (.int (2 : Int32)), .val (.int (q3.toInt32)), .val (.int v1), .val (.ref b2), .val (.ref b9), .val (.ref b16), .val (.ref b70), .unset, .unset, .unset, .unset, .unset, .unset] [(.int (2 : Int32))])) _
      refine XS.ifNo X70.here hx rfl (hb hby at_88) rfl ((if0 _ _).trans (tlt (by decide)).2.2.2) ?_
      show Steps p.tables e below (T70.setTop (mkF m 91 #[.val (.long q0), .second, .val (.long q1), .second, .val (.long q2), .second, .val (.long q3), .second, .val (.int p4), .val (.int p5), .val (.int (2 : Int32)), .val (.int (q3.toInt32)), .val (.int v1), .val (.ref b2), .val (.ref b9), .val (.ref b16), .val (.ref b70), .unset, .unset, .unset, .unset, .unset, .unset] [])) _
      refine XS.aload X70.here hx rfl (hb hby at_91) rfl rfl ?_
      show Steps p.tables e below (T70.setTop (mkF m 93 #[.val (.long q0), .second, .val (.long q1), .second, .val (.long q2), .second, .val (.long q3), .second, .val (.int p4), .val (.int p5), .val (.int (2 : Int32)), .val (.int (q3.toInt32)), .val (.int v1), .val (.ref b2), .val (.ref b9), .val (.ref b16), .val (.ref b70), .unset, .unset, .unset, .unset, .unset, .unset] [(.ref b70)])) _
      refine XS.iconst X70.here hx rfl (hb hby at_93) ?_
      show Steps p.tables e below (T70.setTop (mkF m 94 #[.val (.long q0), .second, .val (.long q1), .second, .val (.long q2), .second, .val (.long q3), .second, .val (.int p4), .val (.int p5), .val (.int (2 : Int32)), .val (.int (q3.toInt32)), .val (.int v1), .val (.ref b2), .val (.ref b9), .val (.ref b16), .val (.ref b70), .unset, .unset, .unset, .unset, .unset, .unset] [(.int (0 : Int32)), (.ref b70)])) _
      refine XS.iload X70.here hx rfl (hb hby at_94) rfl ?_
      show Steps p.tables e below (T70.setTop (mkF m 96 #[.val (.long q0), .second, .val (.long q1), .second, .val (.long q2), .second, .val (.long q3), .second, .val (.int p4), .val (.int p5), .val (.int (2 : Int32)), .val (.int (q3.toInt32)), .val (.int v1), .val (.ref b2), .val (.ref b9), .val (.ref b16), .val (.ref b70), .unset, .unset, .unset, .unset, .unset, .unset] [(.int (q3.toInt32)), (.int (0 : Int32)), (.ref b70)])) _
      refine st73 _ ?_
      show Steps p.tables e below (T73.setTop (mkF m 97 #[.val (.long q0), .second, .val (.long q1), .second, .val (.long q2), .second, .val (.long q3), .second, .val (.int p4), .val (.int p5), .val (.int (2 : Int32)), .val (.int (q3.toInt32)), .val (.int v1), .val (.ref b2), .val (.ref b9), .val (.ref b16), .val (.ref b70), .unset, .unset, .unset, .unset, .unset, .unset] [])) _
      refine XS.iload X73.here hx rfl (hb hby at_97) rfl ?_
      show Steps p.tables e below (T73.setTop (mkF m 99 #[.val (.long q0), .second, .val (.long q1), .second, .val (.long q2), .second, .val (.long q3), .second, .val (.int p4), .val (.int p5), .val (.int (2 : Int32)), .val (.int (q3.toInt32)), .val (.int v1), .val (.ref b2), .val (.ref b9), .val (.ref b16), .val (.ref b70), .unset, .unset, .unset, .unset, .unset, .unset] [(.int (2 : Int32))])) _
      refine XS.iconst X73.here hx rfl (hb hby at_99) ?_
      show Steps p.tables e below (T73.setTop (mkF m 100 #[.val (.long q0), .second, .val (.long q1), .second, .val (.long q2), .second, .val (.long q3), .second, .val (.int p4), .val (.int p5), .val (.int (2 : Int32)), .val (.int (q3.toInt32)), .val (.int v1), .val (.ref b2), .val (.ref b9), .val (.ref b16), .val (.ref b70), .unset, .unset, .unset, .unset, .unset, .unset] [(.int (1 : Int32)), (.int (2 : Int32))])) _
      refine XS.icmpNo X73.here hx rfl (hb hby at_100) rfl (tlt (by decide)).2.2.2 ?_
      show Steps p.tables e below (T73.setTop (mkF m 103 #[.val (.long q0), .second, .val (.long q1), .second, .val (.long q2), .second, .val (.long q3), .second, .val (.int p4), .val (.int p5), .val (.int (2 : Int32)), .val (.int (q3.toInt32)), .val (.int v1), .val (.ref b2), .val (.ref b9), .val (.ref b16), .val (.ref b70), .unset, .unset, .unset, .unset, .unset, .unset] [])) _
      refine XS.aload X73.here hx rfl (hb hby at_103) rfl rfl ?_
      show Steps p.tables e below (T73.setTop (mkF m 105 #[.val (.long q0), .second, .val (.long q1), .second, .val (.long q2), .second, .val (.long q3), .second, .val (.int p4), .val (.int p5), .val (.int (2 : Int32)), .val (.int (q3.toInt32)), .val (.int v1), .val (.ref b2), .val (.ref b9), .val (.ref b16), .val (.ref b70), .unset, .unset, .unset, .unset, .unset, .unset] [(.ref b70)])) _
      refine XS.iconst X73.here hx rfl (hb hby at_105) ?_
      show Steps p.tables e below (T73.setTop (mkF m 106 #[.val (.long q0), .second, .val (.long q1), .second, .val (.long q2), .second, .val (.long q3), .second, .val (.int p4), .val (.int p5), .val (.int (2 : Int32)), .val (.int (q3.toInt32)), .val (.int v1), .val (.ref b2), .val (.ref b9), .val (.ref b16), .val (.ref b70), .unset, .unset, .unset, .unset, .unset, .unset] [(.int (1 : Int32)), (.ref b70)])) _
      refine XS.iload X73.here hx rfl (hb hby at_106) rfl ?_
      show Steps p.tables e below (T73.setTop (mkF m 108 #[.val (.long q0), .second, .val (.long q1), .second, .val (.long q2), .second, .val (.long q3), .second, .val (.int p4), .val (.int p5), .val (.int (2 : Int32)), .val (.int (q3.toInt32)), .val (.int v1), .val (.ref b2), .val (.ref b9), .val (.ref b16), .val (.ref b70), .unset, .unset, .unset, .unset, .unset, .unset] [(.int v1), (.int (1 : Int32)), (.ref b70)])) _
      refine st75 _ ?_
      show Steps p.tables e below (T75.setTop (mkF m 109 #[.val (.long q0), .second, .val (.long q1), .second, .val (.long q2), .second, .val (.long q3), .second, .val (.int p4), .val (.int p5), .val (.int (2 : Int32)), .val (.int (q3.toInt32)), .val (.int v1), .val (.ref b2), .val (.ref b9), .val (.ref b16), .val (.ref b70), .unset, .unset, .unset, .unset, .unset, .unset] [])) _
      refine XS.iload X75.here hx rfl (hb hby at_109) rfl ?_
      show Steps p.tables e below (T75.setTop (mkF m 111 #[.val (.long q0), .second, .val (.long q1), .second, .val (.long q2), .second, .val (.long q3), .second, .val (.int p4), .val (.int p5), .val (.int (2 : Int32)), .val (.int (q3.toInt32)), .val (.int v1), .val (.ref b2), .val (.ref b9), .val (.ref b16), .val (.ref b70), .unset, .unset, .unset, .unset, .unset, .unset] [(.int (2 : Int32))])) _
      refine XS.iconst X75.here hx rfl (hb hby at_111) ?_
      show Steps p.tables e below (T75.setTop (mkF m 112 #[.val (.long q0), .second, .val (.long q1), .second, .val (.long q2), .second, .val (.long q3), .second, .val (.int p4), .val (.int p5), .val (.int (2 : Int32)), .val (.int (q3.toInt32)), .val (.int v1), .val (.ref b2), .val (.ref b9), .val (.ref b16), .val (.ref b70), .unset, .unset, .unset, .unset, .unset, .unset] [(.int (2 : Int32)), (.int (2 : Int32))])) _
      refine XS.icmpYes X75.here hx rfl (pc0 := 112) (pc' := 121) rfl (hb hby at_112) rfl (flt (by decide)).2.2.2 (by decide) (by decide) ?_
      show Steps p.tables e below (T75.setTop (mkF m 121 #[.val (.long q0), .second, .val (.long q1), .second, .val (.long q2), .second, .val (.long q3), .second, .val (.int p4), .val (.int p5), .val (.int (2 : Int32)), .val (.int (q3.toInt32)), .val (.int v1), .val (.ref b2), .val (.ref b9), .val (.ref b16), .val (.ref b70), .unset, .unset, .unset, .unset, .unset, .unset] [])) _
      refine XS.aload X75.here hx rfl (hb hby at_121) rfl rfl ?_
      show Steps p.tables e below (T75.setTop (mkF m 123 #[.val (.long q0), .second, .val (.long q1), .second, .val (.long q2), .second, .val (.long q3), .second, .val (.int p4), .val (.int p5), .val (.int (2 : Int32)), .val (.int (q3.toInt32)), .val (.int v1), .val (.ref b2), .val (.ref b9), .val (.ref b16), .val (.ref b70), .unset, .unset, .unset, .unset, .unset, .unset] [(.ref b16)])) _
      refine XS.aload X75.here hx rfl (hb hby at_123) rfl rfl ?_
      show Steps p.tables e below (T75.setTop (mkF m 125 #[.val (.long q0), .second, .val (.long q1), .second, .val (.long q2), .second, .val (.long q3), .second, .val (.int p4), .val (.int p5), .val (.int (2 : Int32)), .val (.int (q3.toInt32)), .val (.int v1), .val (.ref b2), .val (.ref b9), .val (.ref b16), .val (.ref b70), .unset, .unset, .unset, .unset, .unset, .unset] [(.ref b70), (.ref b16)])) _
      refine st83.trans ?_
      show Steps p.tables e below (T83.setTop (mkF m 128 #[.val (.long q0), .second, .val (.long q1), .second, .val (.long q2), .second, .val (.long q3), .second, .val (.int p4), .val (.int p5), .val (.int (2 : Int32)), .val (.int (q3.toInt32)), .val (.int v1), .val (.ref b2), .val (.ref b9), .val (.ref b16), .val (.ref b70), .unset, .unset, .unset, .unset, .unset, .unset] [(.long (((0 : Int64) + ((f8 0) * ((f76 0).toInt64))) + ((f8 1) * ((f76 1).toInt64))))])) _
      refine castTop (g' := (mkF m 128 #[.val (.long q0), .second, .val (.long q1), .second, .val (.long q2), .second, .val (.long q3), .second, .val (.int p4), .val (.int p5), .val (.int (2 : Int32)), .val (.int (q3.toInt32)), .val (.int v1), .val (.ref b2), .val (.ref b9), .val (.ref b16), .val (.ref b70), .unset, .unset, .unset, .unset, .unset, .unset] [(.long v84)])) (by rw [hv84] <;> rfl) ?_
      show Steps p.tables e below (T83.setTop (mkF m 128 #[.val (.long q0), .second, .val (.long q1), .second, .val (.long q2), .second, .val (.long q3), .second, .val (.int p4), .val (.int p5), .val (.int (2 : Int32)), .val (.int (q3.toInt32)), .val (.int v1), .val (.ref b2), .val (.ref b9), .val (.ref b16), .val (.ref b70), .unset, .unset, .unset, .unset, .unset, .unset] [(.long v84)])) _
      refine XS.lstore X83.here hx rfl (hb hby at_128) rfl (l' := #[.val (.long q0), .second, .val (.long q1), .second, .val (.long q2), .second, .val (.long q3), .second, .val (.int p4), .val (.int p5), .val (.int (2 : Int32)), .val (.int (q3.toInt32)), .val (.int v1), .val (.ref b2), .val (.ref b9), .val (.ref b16), .val (.ref b70), .val (.long v84), .second, .unset, .unset, .unset, .unset]) rfl ?_
      show Steps p.tables e below (T83.setTop (mkF m 130 #[.val (.long q0), .second, .val (.long q1), .second, .val (.long q2), .second, .val (.long q3), .second, .val (.int p4), .val (.int p5), .val (.int (2 : Int32)), .val (.int (q3.toInt32)), .val (.int v1), .val (.ref b2), .val (.ref b9), .val (.ref b16), .val (.ref b70), .val (.long v84), .second, .unset, .unset, .unset, .unset] [])) _
      refine XS.lconst X83.here hx rfl (hb hby at_130) ?_
      show Steps p.tables e below (T83.setTop (mkF m 131 #[.val (.long q0), .second, .val (.long q1), .second, .val (.long q2), .second, .val (.long q3), .second, .val (.int p4), .val (.int p5), .val (.int (2 : Int32)), .val (.int (q3.toInt32)), .val (.int v1), .val (.ref b2), .val (.ref b9), .val (.ref b16), .val (.ref b70), .val (.long v84), .second, .unset, .unset, .unset, .unset] [(.long (0 : Int64))])) _
      refine XS.lstore X83.here hx rfl (hb hby at_131) rfl (l' := #[.val (.long q0), .second, .val (.long q1), .second, .val (.long q2), .second, .val (.long q3), .second, .val (.int p4), .val (.int p5), .val (.int (2 : Int32)), .val (.int (q3.toInt32)), .val (.int v1), .val (.ref b2), .val (.ref b9), .val (.ref b16), .val (.ref b70), .val (.long v84), .second, .val (.long (0 : Int64)), .second, .unset, .unset]) rfl ?_
      show Steps p.tables e below (T83.setTop (mkF m 133 #[.val (.long q0), .second, .val (.long q1), .second, .val (.long q2), .second, .val (.long q3), .second, .val (.int p4), .val (.int p5), .val (.int (2 : Int32)), .val (.int (q3.toInt32)), .val (.int v1), .val (.ref b2), .val (.ref b9), .val (.ref b16), .val (.ref b70), .val (.long v84), .second, .val (.long (0 : Int64)), .second, .unset, .unset] [])) _
      refine XS.iload X83.here hx rfl (hb hby at_133) rfl ?_
      show Steps p.tables e below (T83.setTop (mkF m 135 #[.val (.long q0), .second, .val (.long q1), .second, .val (.long q2), .second, .val (.long q3), .second, .val (.int p4), .val (.int p5), .val (.int (2 : Int32)), .val (.int (q3.toInt32)), .val (.int v1), .val (.ref b2), .val (.ref b9), .val (.ref b16), .val (.ref b70), .val (.long v84), .second, .val (.long (0 : Int64)), .second, .unset, .unset] [(.int (2 : Int32))])) _
      refine XS.ifNo X83.here hx rfl (hb hby at_135) rfl ((if0 _ _).trans (tlt (by decide)).2.2.2) ?_
      show Steps p.tables e below (T83.setTop (mkF m 138 #[.val (.long q0), .second, .val (.long q1), .second, .val (.long q2), .second, .val (.long q3), .second, .val (.int p4), .val (.int p5), .val (.int (2 : Int32)), .val (.int (q3.toInt32)), .val (.int v1), .val (.ref b2), .val (.ref b9), .val (.ref b16), .val (.ref b70), .val (.long v84), .second, .val (.long (0 : Int64)), .second, .unset, .unset] [])) _
      refine XS.lload X83.here hx rfl (hb hby at_138) rfl ?_
      show Steps p.tables e below (T83.setTop (mkF m 140 #[.val (.long q0), .second, .val (.long q1), .second, .val (.long q2), .second, .val (.long q3), .second, .val (.int p4), .val (.int p5), .val (.int (2 : Int32)), .val (.int (q3.toInt32)), .val (.int v1), .val (.ref b2), .val (.ref b9), .val (.ref b16), .val (.ref b70), .val (.long v84), .second, .val (.long (0 : Int64)), .second, .unset, .unset] [(.long (0 : Int64))])) _
      refine XS.lloadN X83.here hx rfl (hb hby at_140) rfl ?_
      show Steps p.tables e below (T83.setTop (mkF m 141 #[.val (.long q0), .second, .val (.long q1), .second, .val (.long q2), .second, .val (.long q3), .second, .val (.int p4), .val (.int p5), .val (.int (2 : Int32)), .val (.int (q3.toInt32)), .val (.int v1), .val (.ref b2), .val (.ref b9), .val (.ref b16), .val (.ref b70), .val (.long v84), .second, .val (.long (0 : Int64)), .second, .unset, .unset] [(.long q0), (.long (0 : Int64))])) _
      refine XS.iload X83.here hx rfl (hb hby at_141) rfl ?_
      show Steps p.tables e below (T83.setTop (mkF m 143 #[.val (.long q0), .second, .val (.long q1), .second, .val (.long q2), .second, .val (.long q3), .second, .val (.int p4), .val (.int p5), .val (.int (2 : Int32)), .val (.int (q3.toInt32)), .val (.int v1), .val (.ref b2), .val (.ref b9), .val (.ref b16), .val (.ref b70), .val (.long v84), .second, .val (.long (0 : Int64)), .second, .unset, .unset] [(.int (q3.toInt32)), (.long q0), (.long (0 : Int64))])) _
      refine XS.i2l X83.here hx rfl (hb hby at_143) rfl ?_
      show Steps p.tables e below (T83.setTop (mkF m 144 #[.val (.long q0), .second, .val (.long q1), .second, .val (.long q2), .second, .val (.long q3), .second, .val (.int p4), .val (.int p5), .val (.int (2 : Int32)), .val (.int (q3.toInt32)), .val (.int v1), .val (.ref b2), .val (.ref b9), .val (.ref b16), .val (.ref b70), .val (.long v84), .second, .val (.long (0 : Int64)), .second, .unset, .unset] [(.long ((q3.toInt32).toInt64)), (.long q0), (.long (0 : Int64))])) _
      refine XS.lmul X83.here hx rfl (hb hby at_144) rfl ?_
      show Steps p.tables e below (T83.setTop (mkF m 145 #[.val (.long q0), .second, .val (.long q1), .second, .val (.long q2), .second, .val (.long q3), .second, .val (.int p4), .val (.int p5), .val (.int (2 : Int32)), .val (.int (q3.toInt32)), .val (.int v1), .val (.ref b2), .val (.ref b9), .val (.ref b16), .val (.ref b70), .val (.long v84), .second, .val (.long (0 : Int64)), .second, .unset, .unset] [(.long (q0 * ((q3.toInt32).toInt64))), (.long (0 : Int64))])) _
      refine XS.ladd X83.here hx rfl (hb hby at_145) rfl ?_
      show Steps p.tables e below (T83.setTop (mkF m 146 #[.val (.long q0), .second, .val (.long q1), .second, .val (.long q2), .second, .val (.long q3), .second, .val (.int p4), .val (.int p5), .val (.int (2 : Int32)), .val (.int (q3.toInt32)), .val (.int v1), .val (.ref b2), .val (.ref b9), .val (.ref b16), .val (.ref b70), .val (.long v84), .second, .val (.long (0 : Int64)), .second, .unset, .unset] [(.long ((0 : Int64) + (q0 * ((q3.toInt32).toInt64))))])) _
      refine XS.lstore X83.here hx rfl (hb hby at_146) rfl (l' := #[.val (.long q0), .second, .val (.long q1), .second, .val (.long q2), .second, .val (.long q3), .second, .val (.int p4), .val (.int p5), .val (.int (2 : Int32)), .val (.int (q3.toInt32)), .val (.int v1), .val (.ref b2), .val (.ref b9), .val (.ref b16), .val (.ref b70), .val (.long v84), .second, .val (.long ((0 : Int64) + (q0 * ((q3.toInt32).toInt64)))), .second, .unset, .unset]) rfl ?_
      show Steps p.tables e below (T83.setTop (mkF m 148 #[.val (.long q0), .second, .val (.long q1), .second, .val (.long q2), .second, .val (.long q3), .second, .val (.int p4), .val (.int p5), .val (.int (2 : Int32)), .val (.int (q3.toInt32)), .val (.int v1), .val (.ref b2), .val (.ref b9), .val (.ref b16), .val (.ref b70), .val (.long v84), .second, .val (.long ((0 : Int64) + (q0 * ((q3.toInt32).toInt64)))), .second, .unset, .unset] [])) _
      refine XS.iload X83.here hx rfl (hb hby at_148) rfl ?_
      show Steps p.tables e below (T83.setTop (mkF m 150 #[.val (.long q0), .second, .val (.long q1), .second, .val (.long q2), .second, .val (.long q3), .second, .val (.int p4), .val (.int p5), .val (.int (2 : Int32)), .val (.int (q3.toInt32)), .val (.int v1), .val (.ref b2), .val (.ref b9), .val (.ref b16), .val (.ref b70), .val (.long v84), .second, .val (.long ((0 : Int64) + (q0 * ((q3.toInt32).toInt64)))), .second, .unset, .unset] [(.int (2 : Int32))])) _
      refine XS.iconst X83.here hx rfl (hb hby at_150) ?_
      show Steps p.tables e below (T83.setTop (mkF m 151 #[.val (.long q0), .second, .val (.long q1), .second, .val (.long q2), .second, .val (.long q3), .second, .val (.int p4), .val (.int p5), .val (.int (2 : Int32)), .val (.int (q3.toInt32)), .val (.int v1), .val (.ref b2), .val (.ref b9), .val (.ref b16), .val (.ref b70), .val (.long v84), .second, .val (.long ((0 : Int64) + (q0 * ((q3.toInt32).toInt64)))), .second, .unset, .unset] [(.int (1 : Int32)), (.int (2 : Int32))])) _
      refine XS.icmpNo X83.here hx rfl (hb hby at_151) rfl (tlt (by decide)).2.2.2 ?_
      show Steps p.tables e below (T83.setTop (mkF m 154 #[.val (.long q0), .second, .val (.long q1), .second, .val (.long q2), .second, .val (.long q3), .second, .val (.int p4), .val (.int p5), .val (.int (2 : Int32)), .val (.int (q3.toInt32)), .val (.int v1), .val (.ref b2), .val (.ref b9), .val (.ref b16), .val (.ref b70), .val (.long v84), .second, .val (.long ((0 : Int64) + (q0 * ((q3.toInt32).toInt64)))), .second, .unset, .unset] [])) _
      refine XS.lload X83.here hx rfl (hb hby at_154) rfl ?_
      show Steps p.tables e below (T83.setTop (mkF m 156 #[.val (.long q0), .second, .val (.long q1), .second, .val (.long q2), .second, .val (.long q3), .second, .val (.int p4), .val (.int p5), .val (.int (2 : Int32)), .val (.int (q3.toInt32)), .val (.int v1), .val (.ref b2), .val (.ref b9), .val (.ref b16), .val (.ref b70), .val (.long v84), .second, .val (.long ((0 : Int64) + (q0 * ((q3.toInt32).toInt64)))), .second, .unset, .unset] [(.long ((0 : Int64) + (q0 * ((q3.toInt32).toInt64))))])) _
      refine XS.lloadN X83.here hx rfl (hb hby at_156) rfl ?_
      show Steps p.tables e below (T83.setTop (mkF m 157 #[.val (.long q0), .second, .val (.long q1), .second, .val (.long q2), .second, .val (.long q3), .second, .val (.int p4), .val (.int p5), .val (.int (2 : Int32)), .val (.int (q3.toInt32)), .val (.int v1), .val (.ref b2), .val (.ref b9), .val (.ref b16), .val (.ref b70), .val (.long v84), .second, .val (.long ((0 : Int64) + (q0 * ((q3.toInt32).toInt64)))), .second, .unset, .unset] [(.long q1), (.long ((0 : Int64) + (q0 * ((q3.toInt32).toInt64))))])) _
      refine XS.iload X83.here hx rfl (hb hby at_157) rfl ?_
      show Steps p.tables e below (T83.setTop (mkF m 159 #[.val (.long q0), .second, .val (.long q1), .second, .val (.long q2), .second, .val (.long q3), .second, .val (.int p4), .val (.int p5), .val (.int (2 : Int32)), .val (.int (q3.toInt32)), .val (.int v1), .val (.ref b2), .val (.ref b9), .val (.ref b16), .val (.ref b70), .val (.long v84), .second, .val (.long ((0 : Int64) + (q0 * ((q3.toInt32).toInt64)))), .second, .unset, .unset] [(.int v1), (.long q1), (.long ((0 : Int64) + (q0 * ((q3.toInt32).toInt64))))])) _
      refine XS.i2l X83.here hx rfl (hb hby at_159) rfl ?_
      show Steps p.tables e below (T83.setTop (mkF m 160 #[.val (.long q0), .second, .val (.long q1), .second, .val (.long q2), .second, .val (.long q3), .second, .val (.int p4), .val (.int p5), .val (.int (2 : Int32)), .val (.int (q3.toInt32)), .val (.int v1), .val (.ref b2), .val (.ref b9), .val (.ref b16), .val (.ref b70), .val (.long v84), .second, .val (.long ((0 : Int64) + (q0 * ((q3.toInt32).toInt64)))), .second, .unset, .unset] [(.long (v1.toInt64)), (.long q1), (.long ((0 : Int64) + (q0 * ((q3.toInt32).toInt64))))])) _
      refine XS.lmul X83.here hx rfl (hb hby at_160) rfl ?_
      show Steps p.tables e below (T83.setTop (mkF m 161 #[.val (.long q0), .second, .val (.long q1), .second, .val (.long q2), .second, .val (.long q3), .second, .val (.int p4), .val (.int p5), .val (.int (2 : Int32)), .val (.int (q3.toInt32)), .val (.int v1), .val (.ref b2), .val (.ref b9), .val (.ref b16), .val (.ref b70), .val (.long v84), .second, .val (.long ((0 : Int64) + (q0 * ((q3.toInt32).toInt64)))), .second, .unset, .unset] [(.long (q1 * (v1.toInt64))), (.long ((0 : Int64) + (q0 * ((q3.toInt32).toInt64))))])) _
      refine XS.ladd X83.here hx rfl (hb hby at_161) rfl ?_
      show Steps p.tables e below (T83.setTop (mkF m 162 #[.val (.long q0), .second, .val (.long q1), .second, .val (.long q2), .second, .val (.long q3), .second, .val (.int p4), .val (.int p5), .val (.int (2 : Int32)), .val (.int (q3.toInt32)), .val (.int v1), .val (.ref b2), .val (.ref b9), .val (.ref b16), .val (.ref b70), .val (.long v84), .second, .val (.long ((0 : Int64) + (q0 * ((q3.toInt32).toInt64)))), .second, .unset, .unset] [(.long (((0 : Int64) + (q0 * ((q3.toInt32).toInt64))) + (q1 * (v1.toInt64))))])) _
      refine castTop (g' := (mkF m 162 #[.val (.long q0), .second, .val (.long q1), .second, .val (.long q2), .second, .val (.long q3), .second, .val (.int p4), .val (.int p5), .val (.int (2 : Int32)), .val (.int (q3.toInt32)), .val (.int v1), .val (.ref b2), .val (.ref b9), .val (.ref b16), .val (.ref b70), .val (.long v84), .second, .val (.long ((0 : Int64) + (q0 * ((q3.toInt32).toInt64)))), .second, .unset, .unset] [(.long v85)])) (by rw [hv85] <;> rfl) ?_
      show Steps p.tables e below (T83.setTop (mkF m 162 #[.val (.long q0), .second, .val (.long q1), .second, .val (.long q2), .second, .val (.long q3), .second, .val (.int p4), .val (.int p5), .val (.int (2 : Int32)), .val (.int (q3.toInt32)), .val (.int v1), .val (.ref b2), .val (.ref b9), .val (.ref b16), .val (.ref b70), .val (.long v84), .second, .val (.long ((0 : Int64) + (q0 * ((q3.toInt32).toInt64)))), .second, .unset, .unset] [(.long v85)])) _
      refine XS.lstore X83.here hx rfl (hb hby at_162) rfl (l' := #[.val (.long q0), .second, .val (.long q1), .second, .val (.long q2), .second, .val (.long q3), .second, .val (.int p4), .val (.int p5), .val (.int (2 : Int32)), .val (.int (q3.toInt32)), .val (.int v1), .val (.ref b2), .val (.ref b9), .val (.ref b16), .val (.ref b70), .val (.long v84), .second, .val (.long v85), .second, .unset, .unset]) rfl ?_
      show Steps p.tables e below (T83.setTop (mkF m 164 #[.val (.long q0), .second, .val (.long q1), .second, .val (.long q2), .second, .val (.long q3), .second, .val (.int p4), .val (.int p5), .val (.int (2 : Int32)), .val (.int (q3.toInt32)), .val (.int v1), .val (.ref b2), .val (.ref b9), .val (.ref b16), .val (.ref b70), .val (.long v84), .second, .val (.long v85), .second, .unset, .unset] [])) _
      refine XS.iload X83.here hx rfl (hb hby at_164) rfl ?_
      show Steps p.tables e below (T83.setTop (mkF m 166 #[.val (.long q0), .second, .val (.long q1), .second, .val (.long q2), .second, .val (.long q3), .second, .val (.int p4), .val (.int p5), .val (.int (2 : Int32)), .val (.int (q3.toInt32)), .val (.int v1), .val (.ref b2), .val (.ref b9), .val (.ref b16), .val (.ref b70), .val (.long v84), .second, .val (.long v85), .second, .unset, .unset] [(.int (2 : Int32))])) _
      refine XS.iconst X83.here hx rfl (hb hby at_166) ?_
      show Steps p.tables e below (T83.setTop (mkF m 167 #[.val (.long q0), .second, .val (.long q1), .second, .val (.long q2), .second, .val (.long q3), .second, .val (.int p4), .val (.int p5), .val (.int (2 : Int32)), .val (.int (q3.toInt32)), .val (.int v1), .val (.ref b2), .val (.ref b9), .val (.ref b16), .val (.ref b70), .val (.long v84), .second, .val (.long v85), .second, .unset, .unset] [(.int (2 : Int32)), (.int (2 : Int32))])) _
      refine XS.icmpYes X83.here hx rfl (pc0 := 167) (pc' := 181) rfl (hb hby at_167) rfl (flt (by decide)).2.2.2 (by decide) (by decide) ?_
      show Steps p.tables e below (T83.setTop (mkF m 181 #[.val (.long q0), .second, .val (.long q1), .second, .val (.long q2), .second, .val (.long q3), .second, .val (.int p4), .val (.int p5), .val (.int (2 : Int32)), .val (.int (q3.toInt32)), .val (.int v1), .val (.ref b2), .val (.ref b9), .val (.ref b16), .val (.ref b70), .val (.long v84), .second, .val (.long v85), .second, .unset, .unset] [])) _
      refine XS.iload X83.here hx rfl (hb hby at_181) rfl ?_
      show Steps p.tables e below (T83.setTop (mkF m 183 #[.val (.long q0), .second, .val (.long q1), .second, .val (.long q2), .second, .val (.long q3), .second, .val (.int p4), .val (.int p5), .val (.int (2 : Int32)), .val (.int (q3.toInt32)), .val (.int v1), .val (.ref b2), .val (.ref b9), .val (.ref b16), .val (.ref b70), .val (.long v84), .second, .val (.long v85), .second, .unset, .unset] [(.int (2 : Int32))])) _
      refine XS.iconst X83.here hx rfl (hb hby at_183) ?_
      show Steps p.tables e below (T83.setTop (mkF m 184 #[.val (.long q0), .second, .val (.long q1), .second, .val (.long q2), .second, .val (.long q3), .second, .val (.int p4), .val (.int p5), .val (.int (2 : Int32)), .val (.int (q3.toInt32)), .val (.int v1), .val (.ref b2), .val (.ref b9), .val (.ref b16), .val (.ref b70), .val (.long v84), .second, .val (.long v85), .second, .unset, .unset] [(.int (1 : Int32)), (.int (2 : Int32))])) _
      refine XS.icmpNo X83.here hx rfl (hb hby at_184) rfl (flt (by decide)).1 ?_
      show Steps p.tables e below (T83.setTop (mkF m 187 #[.val (.long q0), .second, .val (.long q1), .second, .val (.long q2), .second, .val (.long q3), .second, .val (.int p4), .val (.int p5), .val (.int (2 : Int32)), .val (.int (q3.toInt32)), .val (.int v1), .val (.ref b2), .val (.ref b9), .val (.ref b16), .val (.ref b70), .val (.long v84), .second, .val (.long v85), .second, .unset, .unset] [])) _
      refine XS.aload X83.here hx rfl (hb hby at_187) rfl rfl ?_
      show Steps p.tables e below (T83.setTop (mkF m 189 #[.val (.long q0), .second, .val (.long q1), .second, .val (.long q2), .second, .val (.long q3), .second, .val (.int p4), .val (.int p5), .val (.int (2 : Int32)), .val (.int (q3.toInt32)), .val (.int v1), .val (.ref b2), .val (.ref b9), .val (.ref b16), .val (.ref b70), .val (.long v84), .second, .val (.long v85), .second, .unset, .unset] [(.ref b70)])) _
      refine XS.iconst X83.here hx rfl (hb hby at_189) ?_
      show Steps p.tables e below (T83.setTop (mkF m 190 #[.val (.long q0), .second, .val (.long q1), .second, .val (.long q2), .second, .val (.long q3), .second, .val (.int p4), .val (.int p5), .val (.int (2 : Int32)), .val (.int (q3.toInt32)), .val (.int v1), .val (.ref b2), .val (.ref b9), .val (.ref b16), .val (.ref b70), .val (.long v84), .second, .val (.long v85), .second, .unset, .unset] [(.int (0 : Int32)), (.ref b70)])) _
      refine AF.ldI X83 hx hZ e83 V75 (by decide : own_in (0 : Int32) 2) (g := (mkF m 190 #[.val (.long q0), .second, .val (.long q1), .second, .val (.long q2), .second, .val (.long q3), .second, .val (.int p4), .val (.int p5), .val (.int (2 : Int32)), .val (.int (q3.toInt32)), .val (.int v1), .val (.ref b2), .val (.ref b9), .val (.ref b16), .val (.ref b70), .val (.long v84), .second, .val (.long v85), .second, .unset, .unset] [(.int (0 : Int32)), (.ref b70)])) rfl rfl (hb hby at_190) _ ?_
      show Steps p.tables e below (T83.setTop (mkF m 191 #[.val (.long q0), .second, .val (.long q1), .second, .val (.long q2), .second, .val (.long q3), .second, .val (.int p4), .val (.int p5), .val (.int (2 : Int32)), .val (.int (q3.toInt32)), .val (.int v1), .val (.ref b2), .val (.ref b9), .val (.ref b16), .val (.ref b70), .val (.long v84), .second, .val (.long v85), .second, .unset, .unset] [(.int (f76 0))])) _
      refine XS.iload X83.here hx rfl (hb hby at_191) rfl ?_
      show Steps p.tables e below (T83.setTop (mkF m 193 #[.val (.long q0), .second, .val (.long q1), .second, .val (.long q2), .second, .val (.long q3), .second, .val (.int p4), .val (.int p5), .val (.int (2 : Int32)), .val (.int (q3.toInt32)), .val (.int v1), .val (.ref b2), .val (.ref b9), .val (.ref b16), .val (.ref b70), .val (.long v84), .second, .val (.long v85), .second, .unset, .unset] [(.int (q3.toInt32)), (.int (f76 0))])) _
      refine own_dia (F := (mkF m 231 #[.val (.long q0), .second, .val (.long q1), .second, .val (.long q2), .second, .val (.long q3), .second, .val (.int p4), .val (.int p5), .val (.int (2 : Int32)), .val (.int (q3.toInt32)), .val (.int v1), .val (.ref b2), .val (.ref b9), .val (.ref b16), .val (.ref b70), .val (.long v84), .second, .val (.long v85), .second, .unset, .unset] [(.int v89)])) ?_ ?_
      · intro kt
        by_cases hc86 : (f76 0) = (q3.toInt32)
        · show Steps p.tables e below (T83.setTop (mkF m 193 #[.val (.long q0), .second, .val (.long q1), .second, .val (.long q2), .second, .val (.long q3), .second, .val (.int p4), .val (.int p5), .val (.int (2 : Int32)), .val (.int (q3.toInt32)), .val (.int v1), .val (.ref b2), .val (.ref b9), .val (.ref b16), .val (.ref b70), .val (.long v84), .second, .val (.long v85), .second, .unset, .unset] [(.int (q3.toInt32)), (.int (f76 0))])) _
          refine XS.icmpNo X83.here hx rfl (hb hby at_193) rfl (teq hc86).2 ?_
          show Steps p.tables e below (T83.setTop (mkF m 196 #[.val (.long q0), .second, .val (.long q1), .second, .val (.long q2), .second, .val (.long q3), .second, .val (.int p4), .val (.int p5), .val (.int (2 : Int32)), .val (.int (q3.toInt32)), .val (.int v1), .val (.ref b2), .val (.ref b9), .val (.ref b16), .val (.ref b70), .val (.long v84), .second, .val (.long v85), .second, .unset, .unset] [])) _
          refine XS.iload X83.here hx rfl (hb hby at_196) rfl ?_
          show Steps p.tables e below (T83.setTop (mkF m 198 #[.val (.long q0), .second, .val (.long q1), .second, .val (.long q2), .second, .val (.long q3), .second, .val (.int p4), .val (.int p5), .val (.int (2 : Int32)), .val (.int (q3.toInt32)), .val (.int v1), .val (.ref b2), .val (.ref b9), .val (.ref b16), .val (.ref b70), .val (.long v84), .second, .val (.long v85), .second, .unset, .unset] [(.int (2 : Int32))])) _
          refine XS.iconst X83.here hx rfl (hb hby at_198) ?_
          show Steps p.tables e below (T83.setTop (mkF m 199 #[.val (.long q0), .second, .val (.long q1), .second, .val (.long q2), .second, .val (.long q3), .second, .val (.int p4), .val (.int p5), .val (.int (2 : Int32)), .val (.int (q3.toInt32)), .val (.int v1), .val (.ref b2), .val (.ref b9), .val (.ref b16), .val (.ref b70), .val (.long v84), .second, .val (.long v85), .second, .unset, .unset] [(.int (2 : Int32)), (.int (2 : Int32))])) _
          refine XS.icmpNo X83.here hx rfl (hb hby at_199) rfl (flt (by decide)).1 ?_
          show Steps p.tables e below (T83.setTop (mkF m 202 #[.val (.long q0), .second, .val (.long q1), .second, .val (.long q2), .second, .val (.long q3), .second, .val (.int p4), .val (.int p5), .val (.int (2 : Int32)), .val (.int (q3.toInt32)), .val (.int v1), .val (.ref b2), .val (.ref b9), .val (.ref b16), .val (.ref b70), .val (.long v84), .second, .val (.long v85), .second, .unset, .unset] [])) _
          refine XS.aload X83.here hx rfl (hb hby at_202) rfl rfl ?_
          show Steps p.tables e below (T83.setTop (mkF m 204 #[.val (.long q0), .second, .val (.long q1), .second, .val (.long q2), .second, .val (.long q3), .second, .val (.int p4), .val (.int p5), .val (.int (2 : Int32)), .val (.int (q3.toInt32)), .val (.int v1), .val (.ref b2), .val (.ref b9), .val (.ref b16), .val (.ref b70), .val (.long v84), .second, .val (.long v85), .second, .unset, .unset] [(.ref b70)])) _
          refine XS.iconst X83.here hx rfl (hb hby at_204) ?_
          show Steps p.tables e below (T83.setTop (mkF m 205 #[.val (.long q0), .second, .val (.long q1), .second, .val (.long q2), .second, .val (.long q3), .second, .val (.int p4), .val (.int p5), .val (.int (2 : Int32)), .val (.int (q3.toInt32)), .val (.int v1), .val (.ref b2), .val (.ref b9), .val (.ref b16), .val (.ref b70), .val (.long v84), .second, .val (.long v85), .second, .unset, .unset] [(.int (1 : Int32)), (.ref b70)])) _
          refine AF.ldI X83 hx hZ e83 V75 (by decide : own_in (1 : Int32) 2) (g := (mkF m 205 #[.val (.long q0), .second, .val (.long q1), .second, .val (.long q2), .second, .val (.long q3), .second, .val (.int p4), .val (.int p5), .val (.int (2 : Int32)), .val (.int (q3.toInt32)), .val (.int v1), .val (.ref b2), .val (.ref b9), .val (.ref b16), .val (.ref b70), .val (.long v84), .second, .val (.long v85), .second, .unset, .unset] [(.int (1 : Int32)), (.ref b70)])) rfl rfl (hb hby at_205) _ ?_
          show Steps p.tables e below (T83.setTop (mkF m 206 #[.val (.long q0), .second, .val (.long q1), .second, .val (.long q2), .second, .val (.long q3), .second, .val (.int p4), .val (.int p5), .val (.int (2 : Int32)), .val (.int (q3.toInt32)), .val (.int v1), .val (.ref b2), .val (.ref b9), .val (.ref b16), .val (.ref b70), .val (.long v84), .second, .val (.long v85), .second, .unset, .unset] [(.int (f76 1))])) _
          refine XS.iload X83.here hx rfl (hb hby at_206) rfl ?_
          show Steps p.tables e below (T83.setTop (mkF m 208 #[.val (.long q0), .second, .val (.long q1), .second, .val (.long q2), .second, .val (.long q3), .second, .val (.int p4), .val (.int p5), .val (.int (2 : Int32)), .val (.int (q3.toInt32)), .val (.int v1), .val (.ref b2), .val (.ref b9), .val (.ref b16), .val (.ref b70), .val (.long v84), .second, .val (.long v85), .second, .unset, .unset] [(.int v1), (.int (f76 1))])) _
          refine own_dia (F := (mkF m 231 #[.val (.long q0), .second, .val (.long q1), .second, .val (.long q2), .second, .val (.long q3), .second, .val (.int p4), .val (.int p5), .val (.int (2 : Int32)), .val (.int (q3.toInt32)), .val (.int v1), .val (.ref b2), .val (.ref b9), .val (.ref b16), .val (.ref b70), .val (.long v84), .second, .val (.long v85), .second, .unset, .unset] [(.int v88)])) ?_ ?_
          · intro kt
            by_cases hc87 : (f76 1) = v1
            · show Steps p.tables e below (T83.setTop (mkF m 208 #[.val (.long q0), .second, .val (.long q1), .second, .val (.long q2), .second, .val (.long q3), .second, .val (.int p4), .val (.int p5), .val (.int (2 : Int32)), .val (.int (q3.toInt32)), .val (.int v1), .val (.ref b2), .val (.ref b9), .val (.ref b16), .val (.ref b70), .val (.long v84), .second, .val (.long v85), .second, .unset, .unset] [(.int v1), (.int (f76 1))])) _
              refine XS.icmpNo X83.here hx rfl (hb hby at_208) rfl (teq hc87).2 ?_
              show Steps p.tables e below (T83.setTop (mkF m 211 #[.val (.long q0), .second, .val (.long q1), .second, .val (.long q2), .second, .val (.long q3), .second, .val (.int p4), .val (.int p5), .val (.int (2 : Int32)), .val (.int (q3.toInt32)), .val (.int v1), .val (.ref b2), .val (.ref b9), .val (.ref b16), .val (.ref b70), .val (.long v84), .second, .val (.long v85), .second, .unset, .unset] [])) _
              refine XS.iload X83.here hx rfl (hb hby at_211) rfl ?_
              show Steps p.tables e below (T83.setTop (mkF m 213 #[.val (.long q0), .second, .val (.long q1), .second, .val (.long q2), .second, .val (.long q3), .second, .val (.int p4), .val (.int p5), .val (.int (2 : Int32)), .val (.int (q3.toInt32)), .val (.int v1), .val (.ref b2), .val (.ref b9), .val (.ref b16), .val (.ref b70), .val (.long v84), .second, .val (.long v85), .second, .unset, .unset] [(.int (2 : Int32))])) _
              refine XS.iconst X83.here hx rfl (hb hby at_213) ?_
              show Steps p.tables e below (T83.setTop (mkF m 214 #[.val (.long q0), .second, .val (.long q1), .second, .val (.long q2), .second, .val (.long q3), .second, .val (.int p4), .val (.int p5), .val (.int (2 : Int32)), .val (.int (q3.toInt32)), .val (.int v1), .val (.ref b2), .val (.ref b9), .val (.ref b16), .val (.ref b70), .val (.long v84), .second, .val (.long v85), .second, .unset, .unset] [(.int (3 : Int32)), (.int (2 : Int32))])) _
              refine XS.icmpYes X83.here hx rfl (pc0 := 214) (pc' := 226) rfl (hb hby at_214) rfl (tlt (by decide)).1 (by decide) (by decide) ?_
              show Steps p.tables e below (T83.setTop (mkF m 226 #[.val (.long q0), .second, .val (.long q1), .second, .val (.long q2), .second, .val (.long q3), .second, .val (.int p4), .val (.int p5), .val (.int (2 : Int32)), .val (.int (q3.toInt32)), .val (.int v1), .val (.ref b2), .val (.ref b9), .val (.ref b16), .val (.ref b70), .val (.long v84), .second, .val (.long v85), .second, .unset, .unset] [])) _
              refine XS.iconst X83.here hx rfl (hb hby at_226) ?_
              show Steps p.tables e below (T83.setTop (mkF m 227 #[.val (.long q0), .second, .val (.long q1), .second, .val (.long q2), .second, .val (.long q3), .second, .val (.int p4), .val (.int p5), .val (.int (2 : Int32)), .val (.int (q3.toInt32)), .val (.int v1), .val (.ref b2), .val (.ref b9), .val (.ref b16), .val (.ref b70), .val (.long v84), .second, .val (.long v85), .second, .unset, .unset] [(.int (1 : Int32))])) _
              refine XS.goto X83.here hx rfl (pc0 := 227) (pc' := 231) rfl (hb hby at_227) (by decide) (by decide) ?_
              exact castTop (by rw [hv88, if_pos hc87] <;> rfl) kt
            · show Steps p.tables e below (T83.setTop (mkF m 208 #[.val (.long q0), .second, .val (.long q1), .second, .val (.long q2), .second, .val (.long q3), .second, .val (.int p4), .val (.int p5), .val (.int (2 : Int32)), .val (.int (q3.toInt32)), .val (.int v1), .val (.ref b2), .val (.ref b9), .val (.ref b16), .val (.ref b70), .val (.long v84), .second, .val (.long v85), .second, .unset, .unset] [(.int v1), (.int (f76 1))])) _
              refine XS.icmpYes X83.here hx rfl (pc0 := 208) (pc' := 230) rfl (hb hby at_208) rfl (feq hc87).2 (by decide) (by decide) ?_
              show Steps p.tables e below (T83.setTop (mkF m 230 #[.val (.long q0), .second, .val (.long q1), .second, .val (.long q2), .second, .val (.long q3), .second, .val (.int p4), .val (.int p5), .val (.int (2 : Int32)), .val (.int (q3.toInt32)), .val (.int v1), .val (.ref b2), .val (.ref b9), .val (.ref b16), .val (.ref b70), .val (.long v84), .second, .val (.long v85), .second, .unset, .unset] [])) _
              refine XS.iconst X83.here hx rfl (hb hby at_230) ?_
              exact castTop (by rw [hv88, if_neg hc87] <;> rfl) kt
          exact castTop (by rw [hv89, if_pos hc86] <;> rfl) kt
        · show Steps p.tables e below (T83.setTop (mkF m 193 #[.val (.long q0), .second, .val (.long q1), .second, .val (.long q2), .second, .val (.long q3), .second, .val (.int p4), .val (.int p5), .val (.int (2 : Int32)), .val (.int (q3.toInt32)), .val (.int v1), .val (.ref b2), .val (.ref b9), .val (.ref b16), .val (.ref b70), .val (.long v84), .second, .val (.long v85), .second, .unset, .unset] [(.int (q3.toInt32)), (.int (f76 0))])) _
          refine XS.icmpYes X83.here hx rfl (pc0 := 193) (pc' := 230) rfl (hb hby at_193) rfl (feq hc86).2 (by decide) (by decide) ?_
          show Steps p.tables e below (T83.setTop (mkF m 230 #[.val (.long q0), .second, .val (.long q1), .second, .val (.long q2), .second, .val (.long q3), .second, .val (.int p4), .val (.int p5), .val (.int (2 : Int32)), .val (.int (q3.toInt32)), .val (.int v1), .val (.ref b2), .val (.ref b9), .val (.ref b16), .val (.ref b70), .val (.long v84), .second, .val (.long v85), .second, .unset, .unset] [])) _
          refine XS.iconst X83.here hx rfl (hb hby at_230) ?_
          exact castTop (by rw [hv89, if_neg hc86] <;> rfl) kt
      show Steps p.tables e below (T83.setTop (mkF m 231 #[.val (.long q0), .second, .val (.long q1), .second, .val (.long q2), .second, .val (.long q3), .second, .val (.int p4), .val (.int p5), .val (.int (2 : Int32)), .val (.int (q3.toInt32)), .val (.int v1), .val (.ref b2), .val (.ref b9), .val (.ref b16), .val (.ref b70), .val (.long v84), .second, .val (.long v85), .second, .unset, .unset] [(.int v89)])) _
      refine XS.istore X83.here hx rfl (hb hby at_231) rfl (l' := #[.val (.long q0), .second, .val (.long q1), .second, .val (.long q2), .second, .val (.long q3), .second, .val (.int p4), .val (.int p5), .val (.int (2 : Int32)), .val (.int (q3.toInt32)), .val (.int v1), .val (.ref b2), .val (.ref b9), .val (.ref b16), .val (.ref b70), .val (.long v84), .second, .val (.long v85), .second, .val (.int v89), .unset]) rfl ?_
      show Steps p.tables e below (T83.setTop (mkF m 233 #[.val (.long q0), .second, .val (.long q1), .second, .val (.long q2), .second, .val (.long q3), .second, .val (.int p4), .val (.int p5), .val (.int (2 : Int32)), .val (.int (q3.toInt32)), .val (.int v1), .val (.ref b2), .val (.ref b9), .val (.ref b16), .val (.ref b70), .val (.long v84), .second, .val (.long v85), .second, .val (.int v89), .unset] [])) _
      refine XS.aload X83.here hx rfl (hb hby at_233) rfl rfl ?_
      show Steps p.tables e below (T83.setTop (mkF m 235 #[.val (.long q0), .second, .val (.long q1), .second, .val (.long q2), .second, .val (.long q3), .second, .val (.int p4), .val (.int p5), .val (.int (2 : Int32)), .val (.int (q3.toInt32)), .val (.int v1), .val (.ref b2), .val (.ref b9), .val (.ref b16), .val (.ref b70), .val (.long v84), .second, .val (.long v85), .second, .val (.int v89), .unset] [(.ref b2)])) _
      refine XS.iconst X83.here hx rfl (hb hby at_235) ?_
      show Steps p.tables e below (T83.setTop (mkF m 236 #[.val (.long q0), .second, .val (.long q1), .second, .val (.long q2), .second, .val (.long q3), .second, .val (.int p4), .val (.int p5), .val (.int (2 : Int32)), .val (.int (q3.toInt32)), .val (.int v1), .val (.ref b2), .val (.ref b9), .val (.ref b16), .val (.ref b70), .val (.long v84), .second, .val (.long v85), .second, .val (.int v89), .unset] [(.int (0 : Int32)), (.ref b2)])) _
      refine AF.ldJ X83 hx hZ e83 G82 (by decide : own_in (0 : Int32) 3) (g := (mkF m 236 #[.val (.long q0), .second, .val (.long q1), .second, .val (.long q2), .second, .val (.long q3), .second, .val (.int p4), .val (.int p5), .val (.int (2 : Int32)), .val (.int (q3.toInt32)), .val (.int v1), .val (.ref b2), .val (.ref b9), .val (.ref b16), .val (.ref b70), .val (.long v84), .second, .val (.long v85), .second, .val (.int v89), .unset] [(.int (0 : Int32)), (.ref b2)])) rfl rfl (hb hby at_236) _ ?_
      show Steps p.tables e below (T83.setTop (mkF m 237 #[.val (.long q0), .second, .val (.long q1), .second, .val (.long q2), .second, .val (.long q3), .second, .val (.int p4), .val (.int p5), .val (.int (2 : Int32)), .val (.int (q3.toInt32)), .val (.int v1), .val (.ref b2), .val (.ref b9), .val (.ref b16), .val (.ref b70), .val (.long v84), .second, .val (.long v85), .second, .val (.int v89), .unset] [(.long (f8 0))])) _
      refine XS.lloadN X83.here hx rfl (hb hby at_237) rfl ?_
      show Steps p.tables e below (T83.setTop (mkF m 238 #[.val (.long q0), .second, .val (.long q1), .second, .val (.long q2), .second, .val (.long q3), .second, .val (.int p4), .val (.int p5), .val (.int (2 : Int32)), .val (.int (q3.toInt32)), .val (.int v1), .val (.ref b2), .val (.ref b9), .val (.ref b16), .val (.ref b70), .val (.long v84), .second, .val (.long v85), .second, .val (.int v89), .unset] [(.long q0), (.long (f8 0))])) _
      refine XS.lcmp X83.here hx rfl (hb hby at_238) rfl ?_
      show Steps p.tables e below (T83.setTop (mkF m 239 #[.val (.long q0), .second, .val (.long q1), .second, .val (.long q2), .second, .val (.long q3), .second, .val (.int p4), .val (.int p5), .val (.int (2 : Int32)), .val (.int (q3.toInt32)), .val (.int v1), .val (.ref b2), .val (.ref b9), .val (.ref b16), .val (.ref b70), .val (.long v84), .second, .val (.long v85), .second, .val (.int v89), .unset] [(.int (lcmpW (f8 0) q0))])) _
      refine own_dia (F := (mkF m 266 #[.val (.long q0), .second, .val (.long q1), .second, .val (.long q2), .second, .val (.long q3), .second, .val (.int p4), .val (.int p5), .val (.int (2 : Int32)), .val (.int (q3.toInt32)), .val (.int v1), .val (.ref b2), .val (.ref b9), .val (.ref b16), .val (.ref b70), .val (.long v84), .second, .val (.long v85), .second, .val (.int v89), .unset] [(.int v95)])) ?_ ?_
      · intro kt
        by_cases hc90 : (f8 0) = q0
        · show Steps p.tables e below (T83.setTop (mkF m 239 #[.val (.long q0), .second, .val (.long q1), .second, .val (.long q2), .second, .val (.long q3), .second, .val (.int p4), .val (.int p5), .val (.int (2 : Int32)), .val (.int (q3.toInt32)), .val (.int v1), .val (.ref b2), .val (.ref b9), .val (.ref b16), .val (.ref b70), .val (.long v84), .second, .val (.long v85), .second, .val (.int v89), .unset] [(.int (lcmpW (f8 0) q0))])) _
          refine XS.ifNo X83.here hx rfl (hb hby at_239) rfl ((if0 _ _).trans (teq ((lw_eq (f8 0) q0).mpr hc90)).2) ?_
          show Steps p.tables e below (T83.setTop (mkF m 242 #[.val (.long q0), .second, .val (.long q1), .second, .val (.long q2), .second, .val (.long q3), .second, .val (.int p4), .val (.int p5), .val (.int (2 : Int32)), .val (.int (q3.toInt32)), .val (.int v1), .val (.ref b2), .val (.ref b9), .val (.ref b16), .val (.ref b70), .val (.long v84), .second, .val (.long v85), .second, .val (.int v89), .unset] [])) _
          refine XS.aload X83.here hx rfl (hb hby at_242) rfl rfl ?_
          show Steps p.tables e below (T83.setTop (mkF m 244 #[.val (.long q0), .second, .val (.long q1), .second, .val (.long q2), .second, .val (.long q3), .second, .val (.int p4), .val (.int p5), .val (.int (2 : Int32)), .val (.int (q3.toInt32)), .val (.int v1), .val (.ref b2), .val (.ref b9), .val (.ref b16), .val (.ref b70), .val (.long v84), .second, .val (.long v85), .second, .val (.int v89), .unset] [(.ref b2)])) _
          refine XS.iconst X83.here hx rfl (hb hby at_244) ?_
          show Steps p.tables e below (T83.setTop (mkF m 245 #[.val (.long q0), .second, .val (.long q1), .second, .val (.long q2), .second, .val (.long q3), .second, .val (.int p4), .val (.int p5), .val (.int (2 : Int32)), .val (.int (q3.toInt32)), .val (.int v1), .val (.ref b2), .val (.ref b9), .val (.ref b16), .val (.ref b70), .val (.long v84), .second, .val (.long v85), .second, .val (.int v89), .unset] [(.int (1 : Int32)), (.ref b2)])) _
          refine AF.ldJ X83 hx hZ e83 G82 (by decide : own_in (1 : Int32) 3) (g := (mkF m 245 #[.val (.long q0), .second, .val (.long q1), .second, .val (.long q2), .second, .val (.long q3), .second, .val (.int p4), .val (.int p5), .val (.int (2 : Int32)), .val (.int (q3.toInt32)), .val (.int v1), .val (.ref b2), .val (.ref b9), .val (.ref b16), .val (.ref b70), .val (.long v84), .second, .val (.long v85), .second, .val (.int v89), .unset] [(.int (1 : Int32)), (.ref b2)])) rfl rfl (hb hby at_245) _ ?_
          show Steps p.tables e below (T83.setTop (mkF m 246 #[.val (.long q0), .second, .val (.long q1), .second, .val (.long q2), .second, .val (.long q3), .second, .val (.int p4), .val (.int p5), .val (.int (2 : Int32)), .val (.int (q3.toInt32)), .val (.int v1), .val (.ref b2), .val (.ref b9), .val (.ref b16), .val (.ref b70), .val (.long v84), .second, .val (.long v85), .second, .val (.int v89), .unset] [(.long (f8 1))])) _
          refine XS.lloadN X83.here hx rfl (hb hby at_246) rfl ?_
          show Steps p.tables e below (T83.setTop (mkF m 247 #[.val (.long q0), .second, .val (.long q1), .second, .val (.long q2), .second, .val (.long q3), .second, .val (.int p4), .val (.int p5), .val (.int (2 : Int32)), .val (.int (q3.toInt32)), .val (.int v1), .val (.ref b2), .val (.ref b9), .val (.ref b16), .val (.ref b70), .val (.long v84), .second, .val (.long v85), .second, .val (.int v89), .unset] [(.long q1), (.long (f8 1))])) _
          refine XS.lcmp X83.here hx rfl (hb hby at_247) rfl ?_
          show Steps p.tables e below (T83.setTop (mkF m 248 #[.val (.long q0), .second, .val (.long q1), .second, .val (.long q2), .second, .val (.long q3), .second, .val (.int p4), .val (.int p5), .val (.int (2 : Int32)), .val (.int (q3.toInt32)), .val (.int v1), .val (.ref b2), .val (.ref b9), .val (.ref b16), .val (.ref b70), .val (.long v84), .second, .val (.long v85), .second, .val (.int v89), .unset] [(.int (lcmpW (f8 1) q1))])) _
          refine own_dia (F := (mkF m 266 #[.val (.long q0), .second, .val (.long q1), .second, .val (.long q2), .second, .val (.long q3), .second, .val (.int p4), .val (.int p5), .val (.int (2 : Int32)), .val (.int (q3.toInt32)), .val (.int v1), .val (.ref b2), .val (.ref b9), .val (.ref b16), .val (.ref b70), .val (.long v84), .second, .val (.long v85), .second, .val (.int v89), .unset] [(.int v94)])) ?_ ?_
          · intro kt
            by_cases hc91 : (f8 1) = q1
            · show Steps p.tables e below (T83.setTop (mkF m 248 #[.val (.long q0), .second, .val (.long q1), .second, .val (.long q2), .second, .val (.long q3), .second, .val (.int p4), .val (.int p5), .val (.int (2 : Int32)), .val (.int (q3.toInt32)), .val (.int v1), .val (.ref b2), .val (.ref b9), .val (.ref b16), .val (.ref b70), .val (.long v84), .second, .val (.long v85), .second, .val (.int v89), .unset] [(.int (lcmpW (f8 1) q1))])) _
              refine XS.ifNo X83.here hx rfl (hb hby at_248) rfl ((if0 _ _).trans (teq ((lw_eq (f8 1) q1).mpr hc91)).2) ?_
              show Steps p.tables e below (T83.setTop (mkF m 251 #[.val (.long q0), .second, .val (.long q1), .second, .val (.long q2), .second, .val (.long q3), .second, .val (.int p4), .val (.int p5), .val (.int (2 : Int32)), .val (.int (q3.toInt32)), .val (.int v1), .val (.ref b2), .val (.ref b9), .val (.ref b16), .val (.ref b70), .val (.long v84), .second, .val (.long v85), .second, .val (.int v89), .unset] [])) _
              refine XS.aload X83.here hx rfl (hb hby at_251) rfl rfl ?_
              show Steps p.tables e below (T83.setTop (mkF m 253 #[.val (.long q0), .second, .val (.long q1), .second, .val (.long q2), .second, .val (.long q3), .second, .val (.int p4), .val (.int p5), .val (.int (2 : Int32)), .val (.int (q3.toInt32)), .val (.int v1), .val (.ref b2), .val (.ref b9), .val (.ref b16), .val (.ref b70), .val (.long v84), .second, .val (.long v85), .second, .val (.int v89), .unset] [(.ref b2)])) _
              refine XS.iconst X83.here hx rfl (hb hby at_253) ?_
              show Steps p.tables e below (T83.setTop (mkF m 254 #[.val (.long q0), .second, .val (.long q1), .second, .val (.long q2), .second, .val (.long q3), .second, .val (.int p4), .val (.int p5), .val (.int (2 : Int32)), .val (.int (q3.toInt32)), .val (.int v1), .val (.ref b2), .val (.ref b9), .val (.ref b16), .val (.ref b70), .val (.long v84), .second, .val (.long v85), .second, .val (.int v89), .unset] [(.int (2 : Int32)), (.ref b2)])) _
              refine AF.ldJ X83 hx hZ e83 G82 (by decide : own_in (2 : Int32) 3) (g := (mkF m 254 #[.val (.long q0), .second, .val (.long q1), .second, .val (.long q2), .second, .val (.long q3), .second, .val (.int p4), .val (.int p5), .val (.int (2 : Int32)), .val (.int (q3.toInt32)), .val (.int v1), .val (.ref b2), .val (.ref b9), .val (.ref b16), .val (.ref b70), .val (.long v84), .second, .val (.long v85), .second, .val (.int v89), .unset] [(.int (2 : Int32)), (.ref b2)])) rfl rfl (hb hby at_254) _ ?_
              show Steps p.tables e below (T83.setTop (mkF m 255 #[.val (.long q0), .second, .val (.long q1), .second, .val (.long q2), .second, .val (.long q3), .second, .val (.int p4), .val (.int p5), .val (.int (2 : Int32)), .val (.int (q3.toInt32)), .val (.int v1), .val (.ref b2), .val (.ref b9), .val (.ref b16), .val (.ref b70), .val (.long v84), .second, .val (.long v85), .second, .val (.int v89), .unset] [(.long (f8 2))])) _
              refine XS.lload X83.here hx rfl (hb hby at_255) rfl ?_
              show Steps p.tables e below (T83.setTop (mkF m 257 #[.val (.long q0), .second, .val (.long q1), .second, .val (.long q2), .second, .val (.long q3), .second, .val (.int p4), .val (.int p5), .val (.int (2 : Int32)), .val (.int (q3.toInt32)), .val (.int v1), .val (.ref b2), .val (.ref b9), .val (.ref b16), .val (.ref b70), .val (.long v84), .second, .val (.long v85), .second, .val (.int v89), .unset] [(.long q2), (.long (f8 2))])) _
              refine XS.lcmp X83.here hx rfl (hb hby at_257) rfl ?_
              show Steps p.tables e below (T83.setTop (mkF m 258 #[.val (.long q0), .second, .val (.long q1), .second, .val (.long q2), .second, .val (.long q3), .second, .val (.int p4), .val (.int p5), .val (.int (2 : Int32)), .val (.int (q3.toInt32)), .val (.int v1), .val (.ref b2), .val (.ref b9), .val (.ref b16), .val (.ref b70), .val (.long v84), .second, .val (.long v85), .second, .val (.int v89), .unset] [(.int (lcmpW (f8 2) q2))])) _
              refine own_dia (F := (mkF m 266 #[.val (.long q0), .second, .val (.long q1), .second, .val (.long q2), .second, .val (.long q3), .second, .val (.int p4), .val (.int p5), .val (.int (2 : Int32)), .val (.int (q3.toInt32)), .val (.int v1), .val (.ref b2), .val (.ref b9), .val (.ref b16), .val (.ref b70), .val (.long v84), .second, .val (.long v85), .second, .val (.int v89), .unset] [(.int v93)])) ?_ ?_
              · intro kt
                by_cases hc92 : (f8 2) = q2
                · show Steps p.tables e below (T83.setTop (mkF m 258 #[.val (.long q0), .second, .val (.long q1), .second, .val (.long q2), .second, .val (.long q3), .second, .val (.int p4), .val (.int p5), .val (.int (2 : Int32)), .val (.int (q3.toInt32)), .val (.int v1), .val (.ref b2), .val (.ref b9), .val (.ref b16), .val (.ref b70), .val (.long v84), .second, .val (.long v85), .second, .val (.int v89), .unset] [(.int (lcmpW (f8 2) q2))])) _
                  refine XS.ifNo X83.here hx rfl (hb hby at_258) rfl ((if0 _ _).trans (teq ((lw_eq (f8 2) q2).mpr hc92)).2) ?_
                  show Steps p.tables e below (T83.setTop (mkF m 261 #[.val (.long q0), .second, .val (.long q1), .second, .val (.long q2), .second, .val (.long q3), .second, .val (.int p4), .val (.int p5), .val (.int (2 : Int32)), .val (.int (q3.toInt32)), .val (.int v1), .val (.ref b2), .val (.ref b9), .val (.ref b16), .val (.ref b70), .val (.long v84), .second, .val (.long v85), .second, .val (.int v89), .unset] [])) _
                  refine XS.iconst X83.here hx rfl (hb hby at_261) ?_
                  show Steps p.tables e below (T83.setTop (mkF m 262 #[.val (.long q0), .second, .val (.long q1), .second, .val (.long q2), .second, .val (.long q3), .second, .val (.int p4), .val (.int p5), .val (.int (2 : Int32)), .val (.int (q3.toInt32)), .val (.int v1), .val (.ref b2), .val (.ref b9), .val (.ref b16), .val (.ref b70), .val (.long v84), .second, .val (.long v85), .second, .val (.int v89), .unset] [(.int (1 : Int32))])) _
                  refine XS.goto X83.here hx rfl (pc0 := 262) (pc' := 266) rfl (hb hby at_262) (by decide) (by decide) ?_
                  exact castTop (by rw [hv93, if_pos hc92] <;> rfl) kt
                · show Steps p.tables e below (T83.setTop (mkF m 258 #[.val (.long q0), .second, .val (.long q1), .second, .val (.long q2), .second, .val (.long q3), .second, .val (.int p4), .val (.int p5), .val (.int (2 : Int32)), .val (.int (q3.toInt32)), .val (.int v1), .val (.ref b2), .val (.ref b9), .val (.ref b16), .val (.ref b70), .val (.long v84), .second, .val (.long v85), .second, .val (.int v89), .unset] [(.int (lcmpW (f8 2) q2))])) _
                  refine XS.ifYes X83.here hx rfl (pc0 := 258) (pc' := 265) rfl (hb hby at_258) rfl ((if0 _ _).trans (feq (fun q => hc92 ((lw_eq (f8 2) q2).mp q))).2) (by decide) (by decide) ?_
                  show Steps p.tables e below (T83.setTop (mkF m 265 #[.val (.long q0), .second, .val (.long q1), .second, .val (.long q2), .second, .val (.long q3), .second, .val (.int p4), .val (.int p5), .val (.int (2 : Int32)), .val (.int (q3.toInt32)), .val (.int v1), .val (.ref b2), .val (.ref b9), .val (.ref b16), .val (.ref b70), .val (.long v84), .second, .val (.long v85), .second, .val (.int v89), .unset] [])) _
                  refine XS.iconst X83.here hx rfl (hb hby at_265) ?_
                  exact castTop (by rw [hv93, if_neg hc92] <;> rfl) kt
              exact castTop (by rw [hv94, if_pos hc91] <;> rfl) kt
            · show Steps p.tables e below (T83.setTop (mkF m 248 #[.val (.long q0), .second, .val (.long q1), .second, .val (.long q2), .second, .val (.long q3), .second, .val (.int p4), .val (.int p5), .val (.int (2 : Int32)), .val (.int (q3.toInt32)), .val (.int v1), .val (.ref b2), .val (.ref b9), .val (.ref b16), .val (.ref b70), .val (.long v84), .second, .val (.long v85), .second, .val (.int v89), .unset] [(.int (lcmpW (f8 1) q1))])) _
              refine XS.ifYes X83.here hx rfl (pc0 := 248) (pc' := 265) rfl (hb hby at_248) rfl ((if0 _ _).trans (feq (fun q => hc91 ((lw_eq (f8 1) q1).mp q))).2) (by decide) (by decide) ?_
              show Steps p.tables e below (T83.setTop (mkF m 265 #[.val (.long q0), .second, .val (.long q1), .second, .val (.long q2), .second, .val (.long q3), .second, .val (.int p4), .val (.int p5), .val (.int (2 : Int32)), .val (.int (q3.toInt32)), .val (.int v1), .val (.ref b2), .val (.ref b9), .val (.ref b16), .val (.ref b70), .val (.long v84), .second, .val (.long v85), .second, .val (.int v89), .unset] [])) _
              refine XS.iconst X83.here hx rfl (hb hby at_265) ?_
              exact castTop (by rw [hv94, if_neg hc91] <;> rfl) kt
          exact castTop (by rw [hv95, if_pos hc90] <;> rfl) kt
        · show Steps p.tables e below (T83.setTop (mkF m 239 #[.val (.long q0), .second, .val (.long q1), .second, .val (.long q2), .second, .val (.long q3), .second, .val (.int p4), .val (.int p5), .val (.int (2 : Int32)), .val (.int (q3.toInt32)), .val (.int v1), .val (.ref b2), .val (.ref b9), .val (.ref b16), .val (.ref b70), .val (.long v84), .second, .val (.long v85), .second, .val (.int v89), .unset] [(.int (lcmpW (f8 0) q0))])) _
          refine XS.ifYes X83.here hx rfl (pc0 := 239) (pc' := 265) rfl (hb hby at_239) rfl ((if0 _ _).trans (feq (fun q => hc90 ((lw_eq (f8 0) q0).mp q))).2) (by decide) (by decide) ?_
          show Steps p.tables e below (T83.setTop (mkF m 265 #[.val (.long q0), .second, .val (.long q1), .second, .val (.long q2), .second, .val (.long q3), .second, .val (.int p4), .val (.int p5), .val (.int (2 : Int32)), .val (.int (q3.toInt32)), .val (.int v1), .val (.ref b2), .val (.ref b9), .val (.ref b16), .val (.ref b70), .val (.long v84), .second, .val (.long v85), .second, .val (.int v89), .unset] [])) _
          refine XS.iconst X83.here hx rfl (hb hby at_265) ?_
          exact castTop (by rw [hv95, if_neg hc90] <;> rfl) kt
      show Steps p.tables e below (T83.setTop (mkF m 266 #[.val (.long q0), .second, .val (.long q1), .second, .val (.long q2), .second, .val (.long q3), .second, .val (.int p4), .val (.int p5), .val (.int (2 : Int32)), .val (.int (q3.toInt32)), .val (.int v1), .val (.ref b2), .val (.ref b9), .val (.ref b16), .val (.ref b70), .val (.long v84), .second, .val (.long v85), .second, .val (.int v89), .unset] [(.int v95)])) _
      refine XS.istore X83.here hx rfl (hb hby at_266) rfl (l' := #[.val (.long q0), .second, .val (.long q1), .second, .val (.long q2), .second, .val (.long q3), .second, .val (.int p4), .val (.int p5), .val (.int (2 : Int32)), .val (.int (q3.toInt32)), .val (.int v1), .val (.ref b2), .val (.ref b9), .val (.ref b16), .val (.ref b70), .val (.long v84), .second, .val (.long v85), .second, .val (.int v89), .val (.int v95)]) rfl ?_
      show Steps p.tables e below (T83.setTop (mkF m 268 #[.val (.long q0), .second, .val (.long q1), .second, .val (.long q2), .second, .val (.long q3), .second, .val (.int p4), .val (.int p5), .val (.int (2 : Int32)), .val (.int (q3.toInt32)), .val (.int v1), .val (.ref b2), .val (.ref b9), .val (.ref b16), .val (.ref b70), .val (.long v84), .second, .val (.long v85), .second, .val (.int v89), .val (.int v95)] [])) _
      refine XS.lload X83.here hx rfl (hb hby at_268) rfl ?_
      show Steps p.tables e below (T83.setTop (mkF m 270 #[.val (.long q0), .second, .val (.long q1), .second, .val (.long q2), .second, .val (.long q3), .second, .val (.int p4), .val (.int p5), .val (.int (2 : Int32)), .val (.int (q3.toInt32)), .val (.int v1), .val (.ref b2), .val (.ref b9), .val (.ref b16), .val (.ref b70), .val (.long v84), .second, .val (.long v85), .second, .val (.int v89), .val (.int v95)] [(.long v84)])) _
      refine XS.lload X83.here hx rfl (hb hby at_270) rfl ?_
      show Steps p.tables e below (T83.setTop (mkF m 272 #[.val (.long q0), .second, .val (.long q1), .second, .val (.long q2), .second, .val (.long q3), .second, .val (.int p4), .val (.int p5), .val (.int (2 : Int32)), .val (.int (q3.toInt32)), .val (.int v1), .val (.ref b2), .val (.ref b9), .val (.ref b16), .val (.ref b70), .val (.long v84), .second, .val (.long v85), .second, .val (.int v89), .val (.int v95)] [(.long v85), (.long v84)])) _
      refine XS.lcmp X83.here hx rfl (hb hby at_272) rfl ?_
      show Steps p.tables e below (T83.setTop (mkF m 273 #[.val (.long q0), .second, .val (.long q1), .second, .val (.long q2), .second, .val (.long q3), .second, .val (.int p4), .val (.int p5), .val (.int (2 : Int32)), .val (.int (q3.toInt32)), .val (.int v1), .val (.ref b2), .val (.ref b9), .val (.ref b16), .val (.ref b70), .val (.long v84), .second, .val (.long v85), .second, .val (.int v89), .val (.int v95)] [(.int (lcmpW v84 v85))])) _
      refine own_dia (F := (mkF m 291 #[.val (.long q0), .second, .val (.long q1), .second, .val (.long q2), .second, .val (.long q3), .second, .val (.int p4), .val (.int p5), .val (.int (2 : Int32)), .val (.int (q3.toInt32)), .val (.int v1), .val (.ref b2), .val (.ref b9), .val (.ref b16), .val (.ref b70), .val (.long v84), .second, .val (.long v85), .second, .val (.int v89), .val (.int v95)] [(.int v101)])) ?_ ?_
      · intro kt
        by_cases hc96 : v84 = v85
        · show Steps p.tables e below (T83.setTop (mkF m 273 #[.val (.long q0), .second, .val (.long q1), .second, .val (.long q2), .second, .val (.long q3), .second, .val (.int p4), .val (.int p5), .val (.int (2 : Int32)), .val (.int (q3.toInt32)), .val (.int v1), .val (.ref b2), .val (.ref b9), .val (.ref b16), .val (.ref b70), .val (.long v84), .second, .val (.long v85), .second, .val (.int v89), .val (.int v95)] [(.int (lcmpW v84 v85))])) _
          refine XS.ifNo X83.here hx rfl (hb hby at_273) rfl ((if0 _ _).trans (teq ((lw_eq v84 v85).mpr hc96)).2) ?_
          show Steps p.tables e below (T83.setTop (mkF m 276 #[.val (.long q0), .second, .val (.long q1), .second, .val (.long q2), .second, .val (.long q3), .second, .val (.int p4), .val (.int p5), .val (.int (2 : Int32)), .val (.int (q3.toInt32)), .val (.int v1), .val (.ref b2), .val (.ref b9), .val (.ref b16), .val (.ref b70), .val (.long v84), .second, .val (.long v85), .second, .val (.int v89), .val (.int v95)] [])) _
          refine XS.iload X83.here hx rfl (hb hby at_276) rfl ?_
          show Steps p.tables e below (T83.setTop (mkF m 278 #[.val (.long q0), .second, .val (.long q1), .second, .val (.long q2), .second, .val (.long q3), .second, .val (.int p4), .val (.int p5), .val (.int (2 : Int32)), .val (.int (q3.toInt32)), .val (.int v1), .val (.ref b2), .val (.ref b9), .val (.ref b16), .val (.ref b70), .val (.long v84), .second, .val (.long v85), .second, .val (.int v89), .val (.int v95)] [(.int v89)])) _
          refine own_dia (F := (mkF m 291 #[.val (.long q0), .second, .val (.long q1), .second, .val (.long q2), .second, .val (.long q3), .second, .val (.int p4), .val (.int p5), .val (.int (2 : Int32)), .val (.int (q3.toInt32)), .val (.int v1), .val (.ref b2), .val (.ref b9), .val (.ref b16), .val (.ref b70), .val (.long v84), .second, .val (.long v85), .second, .val (.int v89), .val (.int v95)] [(.int v100)])) ?_ ?_
          · intro kt
            by_cases hc97 : v89 = (0 : Int32)
            · show Steps p.tables e below (T83.setTop (mkF m 278 #[.val (.long q0), .second, .val (.long q1), .second, .val (.long q2), .second, .val (.long q3), .second, .val (.int p4), .val (.int p5), .val (.int (2 : Int32)), .val (.int (q3.toInt32)), .val (.int v1), .val (.ref b2), .val (.ref b9), .val (.ref b16), .val (.ref b70), .val (.long v84), .second, .val (.long v85), .second, .val (.int v89), .val (.int v95)] [(.int v89)])) _
              refine XS.ifYes X83.here hx rfl (pc0 := 278) (pc' := 290) rfl (hb hby at_278) rfl ((if0 _ _).trans (teq hc97).1) (by decide) (by decide) ?_
              show Steps p.tables e below (T83.setTop (mkF m 290 #[.val (.long q0), .second, .val (.long q1), .second, .val (.long q2), .second, .val (.long q3), .second, .val (.int p4), .val (.int p5), .val (.int (2 : Int32)), .val (.int (q3.toInt32)), .val (.int v1), .val (.ref b2), .val (.ref b9), .val (.ref b16), .val (.ref b70), .val (.long v84), .second, .val (.long v85), .second, .val (.int v89), .val (.int v95)] [])) _
              refine XS.iconst X83.here hx rfl (hb hby at_290) ?_
              exact castTop (by rw [hv100, if_pos hc97] <;> rfl) kt
            · show Steps p.tables e below (T83.setTop (mkF m 278 #[.val (.long q0), .second, .val (.long q1), .second, .val (.long q2), .second, .val (.long q3), .second, .val (.int p4), .val (.int p5), .val (.int (2 : Int32)), .val (.int (q3.toInt32)), .val (.int v1), .val (.ref b2), .val (.ref b9), .val (.ref b16), .val (.ref b70), .val (.long v84), .second, .val (.long v85), .second, .val (.int v89), .val (.int v95)] [(.int v89)])) _
              refine XS.ifNo X83.here hx rfl (hb hby at_278) rfl ((if0 _ _).trans (feq hc97).1) ?_
              show Steps p.tables e below (T83.setTop (mkF m 281 #[.val (.long q0), .second, .val (.long q1), .second, .val (.long q2), .second, .val (.long q3), .second, .val (.int p4), .val (.int p5), .val (.int (2 : Int32)), .val (.int (q3.toInt32)), .val (.int v1), .val (.ref b2), .val (.ref b9), .val (.ref b16), .val (.ref b70), .val (.long v84), .second, .val (.long v85), .second, .val (.int v89), .val (.int v95)] [])) _
              refine XS.iload X83.here hx rfl (hb hby at_281) rfl ?_
              show Steps p.tables e below (T83.setTop (mkF m 283 #[.val (.long q0), .second, .val (.long q1), .second, .val (.long q2), .second, .val (.long q3), .second, .val (.int p4), .val (.int p5), .val (.int (2 : Int32)), .val (.int (q3.toInt32)), .val (.int v1), .val (.ref b2), .val (.ref b9), .val (.ref b16), .val (.ref b70), .val (.long v84), .second, .val (.long v85), .second, .val (.int v89), .val (.int v95)] [(.int v95)])) _
              refine own_dia (F := (mkF m 291 #[.val (.long q0), .second, .val (.long q1), .second, .val (.long q2), .second, .val (.long q3), .second, .val (.int p4), .val (.int p5), .val (.int (2 : Int32)), .val (.int (q3.toInt32)), .val (.int v1), .val (.ref b2), .val (.ref b9), .val (.ref b16), .val (.ref b70), .val (.long v84), .second, .val (.long v85), .second, .val (.int v89), .val (.int v95)] [(.int v99)])) ?_ ?_
              · intro kt
                by_cases hc98 : v95 = (0 : Int32)
                · show Steps p.tables e below (T83.setTop (mkF m 283 #[.val (.long q0), .second, .val (.long q1), .second, .val (.long q2), .second, .val (.long q3), .second, .val (.int p4), .val (.int p5), .val (.int (2 : Int32)), .val (.int (q3.toInt32)), .val (.int v1), .val (.ref b2), .val (.ref b9), .val (.ref b16), .val (.ref b70), .val (.long v84), .second, .val (.long v85), .second, .val (.int v89), .val (.int v95)] [(.int v95)])) _
                  refine XS.ifYes X83.here hx rfl (pc0 := 283) (pc' := 290) rfl (hb hby at_283) rfl ((if0 _ _).trans (teq hc98).1) (by decide) (by decide) ?_
                  show Steps p.tables e below (T83.setTop (mkF m 290 #[.val (.long q0), .second, .val (.long q1), .second, .val (.long q2), .second, .val (.long q3), .second, .val (.int p4), .val (.int p5), .val (.int (2 : Int32)), .val (.int (q3.toInt32)), .val (.int v1), .val (.ref b2), .val (.ref b9), .val (.ref b16), .val (.ref b70), .val (.long v84), .second, .val (.long v85), .second, .val (.int v89), .val (.int v95)] [])) _
                  refine XS.iconst X83.here hx rfl (hb hby at_290) ?_
                  exact castTop (by rw [hv99, if_pos hc98] <;> rfl) kt
                · show Steps p.tables e below (T83.setTop (mkF m 283 #[.val (.long q0), .second, .val (.long q1), .second, .val (.long q2), .second, .val (.long q3), .second, .val (.int p4), .val (.int p5), .val (.int (2 : Int32)), .val (.int (q3.toInt32)), .val (.int v1), .val (.ref b2), .val (.ref b9), .val (.ref b16), .val (.ref b70), .val (.long v84), .second, .val (.long v85), .second, .val (.int v89), .val (.int v95)] [(.int v95)])) _
                  refine XS.ifNo X83.here hx rfl (hb hby at_283) rfl ((if0 _ _).trans (feq hc98).1) ?_
                  show Steps p.tables e below (T83.setTop (mkF m 286 #[.val (.long q0), .second, .val (.long q1), .second, .val (.long q2), .second, .val (.long q3), .second, .val (.int p4), .val (.int p5), .val (.int (2 : Int32)), .val (.int (q3.toInt32)), .val (.int v1), .val (.ref b2), .val (.ref b9), .val (.ref b16), .val (.ref b70), .val (.long v84), .second, .val (.long v85), .second, .val (.int v89), .val (.int v95)] [])) _
                  refine XS.iconst X83.here hx rfl (hb hby at_286) ?_
                  show Steps p.tables e below (T83.setTop (mkF m 287 #[.val (.long q0), .second, .val (.long q1), .second, .val (.long q2), .second, .val (.long q3), .second, .val (.int p4), .val (.int p5), .val (.int (2 : Int32)), .val (.int (q3.toInt32)), .val (.int v1), .val (.ref b2), .val (.ref b9), .val (.ref b16), .val (.ref b70), .val (.long v84), .second, .val (.long v85), .second, .val (.int v89), .val (.int v95)] [(.int (1 : Int32))])) _
                  refine XS.goto X83.here hx rfl (pc0 := 287) (pc' := 291) rfl (hb hby at_287) (by decide) (by decide) ?_
                  exact castTop (by rw [hv99, if_neg hc98] <;> rfl) kt
              exact castTop (by rw [hv100, if_neg hc97] <;> rfl) kt
          exact castTop (by rw [hv101, if_pos hc96] <;> rfl) kt
        · show Steps p.tables e below (T83.setTop (mkF m 273 #[.val (.long q0), .second, .val (.long q1), .second, .val (.long q2), .second, .val (.long q3), .second, .val (.int p4), .val (.int p5), .val (.int (2 : Int32)), .val (.int (q3.toInt32)), .val (.int v1), .val (.ref b2), .val (.ref b9), .val (.ref b16), .val (.ref b70), .val (.long v84), .second, .val (.long v85), .second, .val (.int v89), .val (.int v95)] [(.int (lcmpW v84 v85))])) _
          refine XS.ifYes X83.here hx rfl (pc0 := 273) (pc' := 290) rfl (hb hby at_273) rfl ((if0 _ _).trans (feq (fun q => hc96 ((lw_eq v84 v85).mp q))).2) (by decide) (by decide) ?_
          show Steps p.tables e below (T83.setTop (mkF m 290 #[.val (.long q0), .second, .val (.long q1), .second, .val (.long q2), .second, .val (.long q3), .second, .val (.int p4), .val (.int p5), .val (.int (2 : Int32)), .val (.int (q3.toInt32)), .val (.int v1), .val (.ref b2), .val (.ref b9), .val (.ref b16), .val (.ref b70), .val (.long v84), .second, .val (.long v85), .second, .val (.int v89), .val (.int v95)] [])) _
          refine XS.iconst X83.here hx rfl (hb hby at_290) ?_
          exact castTop (by rw [hv101, if_neg hc96] <;> rfl) kt
      show Steps p.tables e below (T83.setTop (mkF m 291 #[.val (.long q0), .second, .val (.long q1), .second, .val (.long q2), .second, .val (.long q3), .second, .val (.int p4), .val (.int p5), .val (.int (2 : Int32)), .val (.int (q3.toInt32)), .val (.int v1), .val (.ref b2), .val (.ref b9), .val (.ref b16), .val (.ref b70), .val (.long v84), .second, .val (.long v85), .second, .val (.int v89), .val (.int v95)] [(.int v101)])) _
      exact retN X83 hx (t := .boolean) Bd.returns (by simp) (hb hby at_291) hr
    · show Q0 h0 n0 _ T83.heap _
      refine ⟨?_, N83⟩
      have hfin : (nar .boolean v101) = (1 : Int32) := by
        exact (own_law_2 q0 q1 q2 q3 v1 f4 f6 f8 f74 f76 v84 v85 v88 v89 v93 v94 v95 v99 v100 v101 hv1 hf4 hf6 hf8 hf74 hf76 hv84 hv85 hv88 hv89 hv93 hv94 hv95 hv99 hv100 hv101)
      rw [hfin]
  · subst hk
    obtain ⟨T102, h102, k102, X102, e102, E102, A102, st102⟩ := newP X18 hx hZ (hw _ (List.mem_of_getElem? (i := 21) rfl)) rfl (g := (mkF m 82 #[.val (.long q0), .second, .val (.long q1), .second, .val (.long q2), .second, .val (.long q3), .second, .val (.int p4), .val (.int p5), .val (.int (3 : Int32)), .val (.int (q3.toInt32)), .val (.int v1), .val (.ref b2), .val (.ref b9), .val (.ref b16), .unset, .unset, .unset, .unset, .unset, .unset, .unset] [(.int (3 : Int32))])) rfl (hb hby at_82) rfl (by decide) (cap := 3) (by decide) (by decide) (by decide) (by decide)
    obtain ⟨b102, g102⟩ : ∃ z, z = T18.heap.size := ⟨_, rfl⟩
    rw [← g102] at A102 st102
    have G103 : AF Z T18.heap b2 .long 3 (fun j => .long (f8 j)) := ((G17.ext E16).keep Kc18 (ninS ne_b2_b16 nin0))
    have ne_b2_b102 : b2 ≠ b102 := Nat.ne_of_lt (Nat.lt_of_lt_of_le G103.lt (Nat.le_of_eq g102.symm))
    have G104 : AF Z T18.heap b9 .long 3 (fun j => .long (f15 j)) := ((V14.ext E16).keep Kc18 (ninS ne_b9_b16 nin0))
    have ne_b9_b102 : b9 ≠ b102 := Nat.ne_of_lt (Nat.lt_of_lt_of_le G104.lt (Nat.le_of_eq g102.symm))
    have ne_b16_b102 : b16 ≠ b102 := Nat.ne_of_lt (Nat.lt_of_lt_of_le P19.lt (Nat.le_of_eq g102.symm))
    have nw_b102 : n0 ≤ b102 := Nat.le_trans (Nat.le_trans Z0 K18.1) (Nat.le_of_eq g102.symm)
    have sz_b102 : h0.size ≤ b102 := Nat.le_trans K18.1 (Nat.le_of_eq g102.symm)
    have K102 : Keep h0 h102 [] := K18.ext E102
    have V102 : AF Z h102 b102 .int 3 (fun j => .int ((fun _ => (0 : Int32)) j)) := AF.new A102 (by decide)
    obtain ⟨T105, h105, X105, e105, W105, A105, st105⟩ := AF.stI X102 hx hZ e102 V102 (by decide : own_in (0 : Int32) 3) (g := (mkF m 96 #[.val (.long q0), .second, .val (.long q1), .second, .val (.long q2), .second, .val (.long q3), .second, .val (.int p4), .val (.int p5), .val (.int (3 : Int32)), .val (.int (q3.toInt32)), .val (.int v1), .val (.ref b2), .val (.ref b9), .val (.ref b16), .val (.ref b102), .unset, .unset, .unset, .unset, .unset, .unset] [(.int (q3.toInt32)), (.int (0 : Int32)), (.ref b102)])) rfl rfl (hb hby at_96)
    have K105 : Keep h0 h105 [] := K102.wr W105 (Or.inr sz_b102)
    obtain ⟨f106, hf106⟩ : ∃ f : Nat → Int32, f = (fun i => if i = 0 then (q3.toInt32) else (fun _ => (0 : Int32)) i) := ⟨_, rfl⟩
    have V105 : AF Z h105 b102 .int 3 (fun j => .int (f106 j)) := AF.cong A105 (own_updI rfl hf106)
    have N105 := Fr.snoc X105 N18 nw_b102
    obtain ⟨T107, h107, X107, e107, W107, A107, st107⟩ := AF.stI X105 hx hZ e105 V105 (by decide : own_in (1 : Int32) 3) (g := (mkF m 108 #[.val (.long q0), .second, .val (.long q1), .second, .val (.long q2), .second, .val (.long q3), .second, .val (.int p4), .val (.int p5), .val (.int (3 : Int32)), .val (.int (q3.toInt32)), .val (.int v1), .val (.ref b2), .val (.ref b9), .val (.ref b16), .val (.ref b102), .unset, .unset, .unset, .unset, .unset, .unset] [(.int v1), (.int (1 : Int32)), (.ref b102)])) rfl rfl (hb hby at_108)
    have K107 : Keep h0 h107 [] := K105.wr W107 (Or.inr sz_b102)
    obtain ⟨f108, hf108⟩ : ∃ f : Nat → Int32, f = (fun i => if i = 1 then v1 else f106 i) := ⟨_, rfl⟩
    have V107 : AF Z h107 b102 .int 3 (fun j => .int (f108 j)) := AF.cong A107 (own_updI rfl hf108)
    have N107 := Fr.snoc X107 N105 nw_b102
    obtain ⟨T109, h109, X109, e109, W109, A109, st109⟩ := AF.stI X107 hx hZ e107 V107 (by decide : own_in (2 : Int32) 3) (g := (mkF m 120 #[.val (.long q0), .second, .val (.long q1), .second, .val (.long q2), .second, .val (.long q3), .second, .val (.int p4), .val (.int p5), .val (.int (3 : Int32)), .val (.int (q3.toInt32)), .val (.int v1), .val (.ref b2), .val (.ref b9), .val (.ref b16), .val (.ref b102), .unset, .unset, .unset, .unset, .unset, .unset] [(.int p4), (.int (2 : Int32)), (.ref b102)])) rfl rfl (hb hby at_120)
    have K109 : Keep h0 h109 [] := K107.wr W109 (Or.inr sz_b102)
    obtain ⟨f110, hf110⟩ : ∃ f : Nat → Int32, f = (fun i => if i = 2 then p4 else f108 i) := ⟨_, rfl⟩
    have V109 : AF Z h109 b102 .int 3 (fun j => .int (f110 j)) := AF.cong A109 (own_updI rfl hf110)
    have N109 := Fr.snoc X109 N107 nw_b102
    have G111 : Exa Z h109 b16 "com/example/paperloom/paperloom/CountSearch$Mean" := ((((P19.ext E102).wr W105).wr W107).wr W109)
    have G112 : Fld Z h109 b16 "com/example/paperloom/paperloom/CountSearch$Mean" "offset" "[J" (.ref b2) := ((((P20.ext E102).other W105 (Or.inl ne_b16_b102)).other W107 (Or.inl ne_b16_b102)).other W109 (Or.inl ne_b16_b102))
    have G113 : Fld Z h109 b16 "com/example/paperloom/paperloom/CountSearch$Mean" "weight" "[J" (.ref b9) := ((((P21.ext E102).other W105 (Or.inl ne_b16_b102)).other W107 (Or.inl ne_b16_b102)).other W109 (Or.inl ne_b16_b102))
    have G114 : Fld Z h109 b16 "com/example/paperloom/paperloom/CountSearch$Mean" "startOffset" "J" (.long (0 : Int64)) := ((((P22.ext E102).other W105 (Or.inl ne_b16_b102)).other W107 (Or.inl ne_b16_b102)).other W109 (Or.inl ne_b16_b102))
    have G115 : Fld Z h109 b16 "com/example/paperloom/paperloom/CountSearch$Mean" "startWeight" "J" (.long (0 : Int64)) := ((((P23.ext E102).other W105 (Or.inl ne_b16_b102)).other W107 (Or.inl ne_b16_b102)).other W109 (Or.inl ne_b16_b102))
    have G116 : AF Z h109 b2 .long 3 (fun j => .long (f8 j)) := ((((G103.ext E102).other W105 ne_b2_b102).other W107 ne_b2_b102).other W109 ne_b2_b102)
    obtain ⟨cq117, kq117, q117a, q117b, q117c⟩ := isOf hZ e109 G111
    obtain ⟨_, _, ⟨T117, L117, k117, n117⟩, -, X117, ⟨Lc117, hQ117, l117, y117, z117⟩, st117⟩ := X109.virtualBack hx (y := (⟨"com/example/paperloom/paperloom/CountSearch$Mean", "offset", "([I)J"⟩ : MethodName)) (z := (⟨"com/example/paperloom/paperloom/CountSearch$Mean", "offset", "([I)J"⟩ : MethodName)) hown (mvT hZ (hw _ (List.mem_of_getElem? (i := 22) rfl))) (mvT hZ (hw _ (List.mem_of_getElem? (i := 23) rfl))) (notFace_of_selects (args := #[]) (mvT hZ (hw _ (List.mem_of_getElem? (i := 25) rfl)))) (mvT hZ (hw _ (List.mem_of_getElem? (i := 25) rfl))) (mvT hZ (hw _ (List.mem_of_getElem? (i := 24) rfl))) (by decide) (backOf (W := 0) (rm4_3 l Z A0 hw [] b16 b102 b2 (.ref b9) (0 : Int64) (0 : Int64) f110 f8 h109 n0 (Nat.le_trans Z0 K109.1) G111 G112 G113 G114 G115 V109 G116) hZ (hw _ (List.mem_of_getElem? (i := 26) rfl)) (hw _ (List.mem_of_getElem? (i := 3) rfl)) (by decide) (by decide)) q117a q117c (g := (mkF m 125 #[.val (.long q0), .second, .val (.long q1), .second, .val (.long q2), .second, .val (.long q3), .second, .val (.int p4), .val (.int p5), .val (.int (3 : Int32)), .val (.int (q3.toInt32)), .val (.int v1), .val (.ref b2), .val (.ref b9), .val (.ref b16), .val (.ref b102), .unset, .unset, .unset, .unset, .unset, .unset] [(.ref b102), (.ref b16)])) rfl (by rw [hml]; rfl) (Steps.refl _) (argsL := [(.ref b102)]) (rest := []) (lenOf pd_3 rfl) rfl (by show 2 * 0 + _ ≤ _; exact Nat.le_of_eq rfl) (hb hby at_125) (fun _ _ => ⟨rfl, e109, (by decide : 4 + 0 ≤ _), (by decide : 13 + 0 ≤ _)⟩)
    dsimp only [Pt.U, Pt.locs, Pt.cells, Pt.slots] at X117 l117 y117 z117 st117 hQ117
    subst l117 y117 z117
    obtain ⟨rfl, N117q, e117⟩ := hQ117
    have N117 := Fr.app N109 N117q
    obtain ⟨v118, hv118⟩ : ∃ z : Int64, z = ((((0 : Int64) + ((f8 0) * ((f110 0).toInt64))) + ((f8 1) * ((f110 1).toInt64))) + ((f8 2) * ((f110 2).toInt64))) := ⟨_, rfl⟩
    obtain ⟨v119, hv119⟩ : ∃ z : Int64, z = (((0 : Int64) + (q0 * ((q3.toInt32).toInt64))) + (q1 * (v1.toInt64))) := ⟨_, rfl⟩
    obtain ⟨v123, hv123⟩ : ∃ z : Int32, z = if (f110 2) = p4 then (1 : Int32) else (0 : Int32) := ⟨_, rfl⟩
    obtain ⟨v124, hv124⟩ : ∃ z : Int32, z = if (f110 1) = v1 then v123 else (0 : Int32) := ⟨_, rfl⟩
    obtain ⟨v125, hv125⟩ : ∃ z : Int32, z = if (f110 0) = (q3.toInt32) then v124 else (0 : Int32) := ⟨_, rfl⟩
    obtain ⟨v129, hv129⟩ : ∃ z : Int32, z = if (f8 2) = q2 then (1 : Int32) else (0 : Int32) := ⟨_, rfl⟩
    obtain ⟨v130, hv130⟩ : ∃ z : Int32, z = if (f8 1) = q1 then v129 else (0 : Int32) := ⟨_, rfl⟩
    obtain ⟨v131, hv131⟩ : ∃ z : Int32, z = if (f8 0) = q0 then v130 else (0 : Int32) := ⟨_, rfl⟩
    obtain ⟨v135, hv135⟩ : ∃ z : Int32, z = if v131 = (0 : Int32) then (0 : Int32) else (1 : Int32) := ⟨_, rfl⟩
    obtain ⟨v136, hv136⟩ : ∃ z : Int32, z = if v125 = (0 : Int32) then (0 : Int32) else v135 := ⟨_, rfl⟩
    obtain ⟨v137, hv137⟩ : ∃ z : Int32, z = if v118 = (v119 + (q2 * (p4.toInt64))) then v136 else (0 : Int32) := ⟨_, rfl⟩
    obtain ⟨fs, hr, hrun, hended, hW, hsame⟩ := X117.leave (v := some (.int (nar .boolean v137))) (fun h => by rw [Bd.returns] at h; cases h)
    refine ⟨_, _, pre0 _ (ck25 _ ?_), hrun, hended, _, _, rfl, ?_, ⟨_, rfl⟩, hW, hsame.mono (by decide) (by decide)⟩
    · show Steps p.tables e below (T18.setTop (mkF m 80 #[.val (.long q0), .second, .val (.long q1), .second, .val (.long q2), .second, .val (.long q3), .second, .val (.int p4), .val (.int p5), .val (.int (3 : Int32)), .val (.int (q3.toInt32)), .val (.int v1), .val (.ref b2), .val (.ref b9), .val (.ref b16), .unset, .unset, .unset, .unset, .unset, .unset, .unset] [])) _
      refine XS.iload X18.here hx rfl (hb hby at_80) rfl ?_
      show Steps p.tables e below (T18.setTop (mkF m 82 #[.val (.long q0), .second, .val (.long q1), .second, .val (.long q2), .second, .val (.long q3), .second, .val (.int p4), .val (.int p5), .val (.int (3 : Int32)), .val (.int (q3.toInt32)), .val (.int v1), .val (.ref b2), .val (.ref b9), .val (.ref b16), .unset, .unset, .unset, .unset, .unset, .unset, .unset] [(.int (3 : Int32))])) _
      refine st102 _ ?_
      show Steps p.tables e below (T102.setTop (mkF m 84 #[.val (.long q0), .second, .val (.long q1), .second, .val (.long q2), .second, .val (.long q3), .second, .val (.int p4), .val (.int p5), .val (.int (3 : Int32)), .val (.int (q3.toInt32)), .val (.int v1), .val (.ref b2), .val (.ref b9), .val (.ref b16), .unset, .unset, .unset, .unset, .unset, .unset, .unset] [(.ref b102)])) _
      refine XS.astore X102.here hx rfl (hb hby at_84) rfl rfl (l' := #[.val (.long q0), .second, .val (.long q1), .second, .val (.long q2), .second, .val (.long q3), .second, .val (.int p4), .val (.int p5), .val (.int (3 : Int32)), .val (.int (q3.toInt32)), .val (.int v1), .val (.ref b2), .val (.ref b9), .val (.ref b16), .val (.ref b102), .unset, .unset, .unset, .unset, .unset, .unset]) rfl ?_
      show Steps p.tables e below (T102.setTop (mkF m 86 #[.val (.long q0), .second, .val (.long q1), .second, .val (.long q2), .second, .val (.long q3), .second, .val (.int p4), .val (.int p5), .val (.int (3 : Int32)), .val (.int (q3.toInt32)), .val (.int v1), .val (.ref b2), .val (.ref b9), .val (.ref b16), .val (.ref b102), .unset, .unset, .unset, .unset, .unset, .unset] [])) _
      refine XS.iload X102.here hx rfl (hb hby at_86) rfl ?_
      show Steps p.tables e below (T102.setTop (mkF m 88 #[.val (.long q0), .second, .val (.long q1), .second, .val (.long q2), .second, .val (.long q3), .second, .val (.int p4), .val (.int p5), .val (.int (3 : Int32)), .val (.int (q3.toInt32)), .val (.int v1), .val (.ref b2), .val (.ref b9), .val (.ref b16), .val (.ref b102), .unset, .unset, .unset, .unset, .unset, .unset] [(.int (3 : Int32))])) _
      refine XS.ifNo X102.here hx rfl (hb hby at_88) rfl ((if0 _ _).trans (tlt (by decide)).2.2.2) ?_
      show Steps p.tables e below (T102.setTop (mkF m 91 #[.val (.long q0), .second, .val (.long q1), .second, .val (.long q2), .second, .val (.long q3), .second, .val (.int p4), .val (.int p5), .val (.int (3 : Int32)), .val (.int (q3.toInt32)), .val (.int v1), .val (.ref b2), .val (.ref b9), .val (.ref b16), .val (.ref b102), .unset, .unset, .unset, .unset, .unset, .unset] [])) _
      refine XS.aload X102.here hx rfl (hb hby at_91) rfl rfl ?_
      show Steps p.tables e below (T102.setTop (mkF m 93 #[.val (.long q0), .second, .val (.long q1), .second, .val (.long q2), .second, .val (.long q3), .second, .val (.int p4), .val (.int p5), .val (.int (3 : Int32)), .val (.int (q3.toInt32)), .val (.int v1), .val (.ref b2), .val (.ref b9), .val (.ref b16), .val (.ref b102), .unset, .unset, .unset, .unset, .unset, .unset] [(.ref b102)])) _
      refine XS.iconst X102.here hx rfl (hb hby at_93) ?_
      show Steps p.tables e below (T102.setTop (mkF m 94 #[.val (.long q0), .second, .val (.long q1), .second, .val (.long q2), .second, .val (.long q3), .second, .val (.int p4), .val (.int p5), .val (.int (3 : Int32)), .val (.int (q3.toInt32)), .val (.int v1), .val (.ref b2), .val (.ref b9), .val (.ref b16), .val (.ref b102), .unset, .unset, .unset, .unset, .unset, .unset] [(.int (0 : Int32)), (.ref b102)])) _
      refine XS.iload X102.here hx rfl (hb hby at_94) rfl ?_
      show Steps p.tables e below (T102.setTop (mkF m 96 #[.val (.long q0), .second, .val (.long q1), .second, .val (.long q2), .second, .val (.long q3), .second, .val (.int p4), .val (.int p5), .val (.int (3 : Int32)), .val (.int (q3.toInt32)), .val (.int v1), .val (.ref b2), .val (.ref b9), .val (.ref b16), .val (.ref b102), .unset, .unset, .unset, .unset, .unset, .unset] [(.int (q3.toInt32)), (.int (0 : Int32)), (.ref b102)])) _
      refine st105 _ ?_
      show Steps p.tables e below (T105.setTop (mkF m 97 #[.val (.long q0), .second, .val (.long q1), .second, .val (.long q2), .second, .val (.long q3), .second, .val (.int p4), .val (.int p5), .val (.int (3 : Int32)), .val (.int (q3.toInt32)), .val (.int v1), .val (.ref b2), .val (.ref b9), .val (.ref b16), .val (.ref b102), .unset, .unset, .unset, .unset, .unset, .unset] [])) _
      refine XS.iload X105.here hx rfl (hb hby at_97) rfl ?_
      show Steps p.tables e below (T105.setTop (mkF m 99 #[.val (.long q0), .second, .val (.long q1), .second, .val (.long q2), .second, .val (.long q3), .second, .val (.int p4), .val (.int p5), .val (.int (3 : Int32)), .val (.int (q3.toInt32)), .val (.int v1), .val (.ref b2), .val (.ref b9), .val (.ref b16), .val (.ref b102), .unset, .unset, .unset, .unset, .unset, .unset] [(.int (3 : Int32))])) _
      refine XS.iconst X105.here hx rfl (hb hby at_99) ?_
      show Steps p.tables e below (T105.setTop (mkF m 100 #[.val (.long q0), .second, .val (.long q1), .second, .val (.long q2), .second, .val (.long q3), .second, .val (.int p4), .val (.int p5), .val (.int (3 : Int32)), .val (.int (q3.toInt32)), .val (.int v1), .val (.ref b2), .val (.ref b9), .val (.ref b16), .val (.ref b102), .unset, .unset, .unset, .unset, .unset, .unset] [(.int (1 : Int32)), (.int (3 : Int32))])) _
      refine XS.icmpNo X105.here hx rfl (hb hby at_100) rfl (tlt (by decide)).2.2.2 ?_
      show Steps p.tables e below (T105.setTop (mkF m 103 #[.val (.long q0), .second, .val (.long q1), .second, .val (.long q2), .second, .val (.long q3), .second, .val (.int p4), .val (.int p5), .val (.int (3 : Int32)), .val (.int (q3.toInt32)), .val (.int v1), .val (.ref b2), .val (.ref b9), .val (.ref b16), .val (.ref b102), .unset, .unset, .unset, .unset, .unset, .unset] [])) _
      refine XS.aload X105.here hx rfl (hb hby at_103) rfl rfl ?_
      show Steps p.tables e below (T105.setTop (mkF m 105 #[.val (.long q0), .second, .val (.long q1), .second, .val (.long q2), .second, .val (.long q3), .second, .val (.int p4), .val (.int p5), .val (.int (3 : Int32)), .val (.int (q3.toInt32)), .val (.int v1), .val (.ref b2), .val (.ref b9), .val (.ref b16), .val (.ref b102), .unset, .unset, .unset, .unset, .unset, .unset] [(.ref b102)])) _
      refine XS.iconst X105.here hx rfl (hb hby at_105) ?_
      show Steps p.tables e below (T105.setTop (mkF m 106 #[.val (.long q0), .second, .val (.long q1), .second, .val (.long q2), .second, .val (.long q3), .second, .val (.int p4), .val (.int p5), .val (.int (3 : Int32)), .val (.int (q3.toInt32)), .val (.int v1), .val (.ref b2), .val (.ref b9), .val (.ref b16), .val (.ref b102), .unset, .unset, .unset, .unset, .unset, .unset] [(.int (1 : Int32)), (.ref b102)])) _
      refine XS.iload X105.here hx rfl (hb hby at_106) rfl ?_
      show Steps p.tables e below (T105.setTop (mkF m 108 #[.val (.long q0), .second, .val (.long q1), .second, .val (.long q2), .second, .val (.long q3), .second, .val (.int p4), .val (.int p5), .val (.int (3 : Int32)), .val (.int (q3.toInt32)), .val (.int v1), .val (.ref b2), .val (.ref b9), .val (.ref b16), .val (.ref b102), .unset, .unset, .unset, .unset, .unset, .unset] [(.int v1), (.int (1 : Int32)), (.ref b102)])) _
      refine st107 _ ?_
      show Steps p.tables e below (T107.setTop (mkF m 109 #[.val (.long q0), .second, .val (.long q1), .second, .val (.long q2), .second, .val (.long q3), .second, .val (.int p4), .val (.int p5), .val (.int (3 : Int32)), .val (.int (q3.toInt32)), .val (.int v1), .val (.ref b2), .val (.ref b9), .val (.ref b16), .val (.ref b102), .unset, .unset, .unset, .unset, .unset, .unset] [])) _
      refine XS.iload X107.here hx rfl (hb hby at_109) rfl ?_
      show Steps p.tables e below (T107.setTop (mkF m 111 #[.val (.long q0), .second, .val (.long q1), .second, .val (.long q2), .second, .val (.long q3), .second, .val (.int p4), .val (.int p5), .val (.int (3 : Int32)), .val (.int (q3.toInt32)), .val (.int v1), .val (.ref b2), .val (.ref b9), .val (.ref b16), .val (.ref b102), .unset, .unset, .unset, .unset, .unset, .unset] [(.int (3 : Int32))])) _
      refine XS.iconst X107.here hx rfl (hb hby at_111) ?_
      show Steps p.tables e below (T107.setTop (mkF m 112 #[.val (.long q0), .second, .val (.long q1), .second, .val (.long q2), .second, .val (.long q3), .second, .val (.int p4), .val (.int p5), .val (.int (3 : Int32)), .val (.int (q3.toInt32)), .val (.int v1), .val (.ref b2), .val (.ref b9), .val (.ref b16), .val (.ref b102), .unset, .unset, .unset, .unset, .unset, .unset] [(.int (2 : Int32)), (.int (3 : Int32))])) _
      refine XS.icmpNo X107.here hx rfl (hb hby at_112) rfl (tlt (by decide)).2.2.2 ?_
      show Steps p.tables e below (T107.setTop (mkF m 115 #[.val (.long q0), .second, .val (.long q1), .second, .val (.long q2), .second, .val (.long q3), .second, .val (.int p4), .val (.int p5), .val (.int (3 : Int32)), .val (.int (q3.toInt32)), .val (.int v1), .val (.ref b2), .val (.ref b9), .val (.ref b16), .val (.ref b102), .unset, .unset, .unset, .unset, .unset, .unset] [])) _
      refine XS.aload X107.here hx rfl (hb hby at_115) rfl rfl ?_
      show Steps p.tables e below (T107.setTop (mkF m 117 #[.val (.long q0), .second, .val (.long q1), .second, .val (.long q2), .second, .val (.long q3), .second, .val (.int p4), .val (.int p5), .val (.int (3 : Int32)), .val (.int (q3.toInt32)), .val (.int v1), .val (.ref b2), .val (.ref b9), .val (.ref b16), .val (.ref b102), .unset, .unset, .unset, .unset, .unset, .unset] [(.ref b102)])) _
      refine XS.iconst X107.here hx rfl (hb hby at_117) ?_
      show Steps p.tables e below (T107.setTop (mkF m 118 #[.val (.long q0), .second, .val (.long q1), .second, .val (.long q2), .second, .val (.long q3), .second, .val (.int p4), .val (.int p5), .val (.int (3 : Int32)), .val (.int (q3.toInt32)), .val (.int v1), .val (.ref b2), .val (.ref b9), .val (.ref b16), .val (.ref b102), .unset, .unset, .unset, .unset, .unset, .unset] [(.int (2 : Int32)), (.ref b102)])) _
      refine XS.iload X107.here hx rfl (hb hby at_118) rfl ?_
      show Steps p.tables e below (T107.setTop (mkF m 120 #[.val (.long q0), .second, .val (.long q1), .second, .val (.long q2), .second, .val (.long q3), .second, .val (.int p4), .val (.int p5), .val (.int (3 : Int32)), .val (.int (q3.toInt32)), .val (.int v1), .val (.ref b2), .val (.ref b9), .val (.ref b16), .val (.ref b102), .unset, .unset, .unset, .unset, .unset, .unset] [(.int p4), (.int (2 : Int32)), (.ref b102)])) _
      refine st109 _ ?_
      show Steps p.tables e below (T109.setTop (mkF m 121 #[.val (.long q0), .second, .val (.long q1), .second, .val (.long q2), .second, .val (.long q3), .second, .val (.int p4), .val (.int p5), .val (.int (3 : Int32)), .val (.int (q3.toInt32)), .val (.int v1), .val (.ref b2), .val (.ref b9), .val (.ref b16), .val (.ref b102), .unset, .unset, .unset, .unset, .unset, .unset] [])) _
      refine XS.aload X109.here hx rfl (hb hby at_121) rfl rfl ?_
      show Steps p.tables e below (T109.setTop (mkF m 123 #[.val (.long q0), .second, .val (.long q1), .second, .val (.long q2), .second, .val (.long q3), .second, .val (.int p4), .val (.int p5), .val (.int (3 : Int32)), .val (.int (q3.toInt32)), .val (.int v1), .val (.ref b2), .val (.ref b9), .val (.ref b16), .val (.ref b102), .unset, .unset, .unset, .unset, .unset, .unset] [(.ref b16)])) _
      refine XS.aload X109.here hx rfl (hb hby at_123) rfl rfl ?_
      show Steps p.tables e below (T109.setTop (mkF m 125 #[.val (.long q0), .second, .val (.long q1), .second, .val (.long q2), .second, .val (.long q3), .second, .val (.int p4), .val (.int p5), .val (.int (3 : Int32)), .val (.int (q3.toInt32)), .val (.int v1), .val (.ref b2), .val (.ref b9), .val (.ref b16), .val (.ref b102), .unset, .unset, .unset, .unset, .unset, .unset] [(.ref b102), (.ref b16)])) _
      refine st117.trans ?_
      show Steps p.tables e below (T117.setTop (mkF m 128 #[.val (.long q0), .second, .val (.long q1), .second, .val (.long q2), .second, .val (.long q3), .second, .val (.int p4), .val (.int p5), .val (.int (3 : Int32)), .val (.int (q3.toInt32)), .val (.int v1), .val (.ref b2), .val (.ref b9), .val (.ref b16), .val (.ref b102), .unset, .unset, .unset, .unset, .unset, .unset] [(.long ((((0 : Int64) + ((f8 0) * ((f110 0).toInt64))) + ((f8 1) * ((f110 1).toInt64))) + ((f8 2) * ((f110 2).toInt64))))])) _
      refine castTop (g' := (mkF m 128 #[.val (.long q0), .second, .val (.long q1), .second, .val (.long q2), .second, .val (.long q3), .second, .val (.int p4), .val (.int p5), .val (.int (3 : Int32)), .val (.int (q3.toInt32)), .val (.int v1), .val (.ref b2), .val (.ref b9), .val (.ref b16), .val (.ref b102), .unset, .unset, .unset, .unset, .unset, .unset] [(.long v118)])) (by rw [hv118] <;> rfl) ?_
      show Steps p.tables e below (T117.setTop (mkF m 128 #[.val (.long q0), .second, .val (.long q1), .second, .val (.long q2), .second, .val (.long q3), .second, .val (.int p4), .val (.int p5), .val (.int (3 : Int32)), .val (.int (q3.toInt32)), .val (.int v1), .val (.ref b2), .val (.ref b9), .val (.ref b16), .val (.ref b102), .unset, .unset, .unset, .unset, .unset, .unset] [(.long v118)])) _
      refine XS.lstore X117.here hx rfl (hb hby at_128) rfl (l' := #[.val (.long q0), .second, .val (.long q1), .second, .val (.long q2), .second, .val (.long q3), .second, .val (.int p4), .val (.int p5), .val (.int (3 : Int32)), .val (.int (q3.toInt32)), .val (.int v1), .val (.ref b2), .val (.ref b9), .val (.ref b16), .val (.ref b102), .val (.long v118), .second, .unset, .unset, .unset, .unset]) rfl ?_
      show Steps p.tables e below (T117.setTop (mkF m 130 #[.val (.long q0), .second, .val (.long q1), .second, .val (.long q2), .second, .val (.long q3), .second, .val (.int p4), .val (.int p5), .val (.int (3 : Int32)), .val (.int (q3.toInt32)), .val (.int v1), .val (.ref b2), .val (.ref b9), .val (.ref b16), .val (.ref b102), .val (.long v118), .second, .unset, .unset, .unset, .unset] [])) _
      refine XS.lconst X117.here hx rfl (hb hby at_130) ?_
      show Steps p.tables e below (T117.setTop (mkF m 131 #[.val (.long q0), .second, .val (.long q1), .second, .val (.long q2), .second, .val (.long q3), .second, .val (.int p4), .val (.int p5), .val (.int (3 : Int32)), .val (.int (q3.toInt32)), .val (.int v1), .val (.ref b2), .val (.ref b9), .val (.ref b16), .val (.ref b102), .val (.long v118), .second, .unset, .unset, .unset, .unset] [(.long (0 : Int64))])) _
      refine XS.lstore X117.here hx rfl (hb hby at_131) rfl (l' := #[.val (.long q0), .second, .val (.long q1), .second, .val (.long q2), .second, .val (.long q3), .second, .val (.int p4), .val (.int p5), .val (.int (3 : Int32)), .val (.int (q3.toInt32)), .val (.int v1), .val (.ref b2), .val (.ref b9), .val (.ref b16), .val (.ref b102), .val (.long v118), .second, .val (.long (0 : Int64)), .second, .unset, .unset]) rfl ?_
      show Steps p.tables e below (T117.setTop (mkF m 133 #[.val (.long q0), .second, .val (.long q1), .second, .val (.long q2), .second, .val (.long q3), .second, .val (.int p4), .val (.int p5), .val (.int (3 : Int32)), .val (.int (q3.toInt32)), .val (.int v1), .val (.ref b2), .val (.ref b9), .val (.ref b16), .val (.ref b102), .val (.long v118), .second, .val (.long (0 : Int64)), .second, .unset, .unset] [])) _
      refine XS.iload X117.here hx rfl (hb hby at_133) rfl ?_
      show Steps p.tables e below (T117.setTop (mkF m 135 #[.val (.long q0), .second, .val (.long q1), .second, .val (.long q2), .second, .val (.long q3), .second, .val (.int p4), .val (.int p5), .val (.int (3 : Int32)), .val (.int (q3.toInt32)), .val (.int v1), .val (.ref b2), .val (.ref b9), .val (.ref b16), .val (.ref b102), .val (.long v118), .second, .val (.long (0 : Int64)), .second, .unset, .unset] [(.int (3 : Int32))])) _
      refine XS.ifNo X117.here hx rfl (hb hby at_135) rfl ((if0 _ _).trans (tlt (by decide)).2.2.2) ?_
      show Steps p.tables e below (T117.setTop (mkF m 138 #[.val (.long q0), .second, .val (.long q1), .second, .val (.long q2), .second, .val (.long q3), .second, .val (.int p4), .val (.int p5), .val (.int (3 : Int32)), .val (.int (q3.toInt32)), .val (.int v1), .val (.ref b2), .val (.ref b9), .val (.ref b16), .val (.ref b102), .val (.long v118), .second, .val (.long (0 : Int64)), .second, .unset, .unset] [])) _
      refine XS.lload X117.here hx rfl (hb hby at_138) rfl ?_
      show Steps p.tables e below (T117.setTop (mkF m 140 #[.val (.long q0), .second, .val (.long q1), .second, .val (.long q2), .second, .val (.long q3), .second, .val (.int p4), .val (.int p5), .val (.int (3 : Int32)), .val (.int (q3.toInt32)), .val (.int v1), .val (.ref b2), .val (.ref b9), .val (.ref b16), .val (.ref b102), .val (.long v118), .second, .val (.long (0 : Int64)), .second, .unset, .unset] [(.long (0 : Int64))])) _
      refine XS.lloadN X117.here hx rfl (hb hby at_140) rfl ?_
      show Steps p.tables e below (T117.setTop (mkF m 141 #[.val (.long q0), .second, .val (.long q1), .second, .val (.long q2), .second, .val (.long q3), .second, .val (.int p4), .val (.int p5), .val (.int (3 : Int32)), .val (.int (q3.toInt32)), .val (.int v1), .val (.ref b2), .val (.ref b9), .val (.ref b16), .val (.ref b102), .val (.long v118), .second, .val (.long (0 : Int64)), .second, .unset, .unset] [(.long q0), (.long (0 : Int64))])) _
      refine XS.iload X117.here hx rfl (hb hby at_141) rfl ?_
      show Steps p.tables e below (T117.setTop (mkF m 143 #[.val (.long q0), .second, .val (.long q1), .second, .val (.long q2), .second, .val (.long q3), .second, .val (.int p4), .val (.int p5), .val (.int (3 : Int32)), .val (.int (q3.toInt32)), .val (.int v1), .val (.ref b2), .val (.ref b9), .val (.ref b16), .val (.ref b102), .val (.long v118), .second, .val (.long (0 : Int64)), .second, .unset, .unset] [(.int (q3.toInt32)), (.long q0), (.long (0 : Int64))])) _
      refine XS.i2l X117.here hx rfl (hb hby at_143) rfl ?_
      show Steps p.tables e below (T117.setTop (mkF m 144 #[.val (.long q0), .second, .val (.long q1), .second, .val (.long q2), .second, .val (.long q3), .second, .val (.int p4), .val (.int p5), .val (.int (3 : Int32)), .val (.int (q3.toInt32)), .val (.int v1), .val (.ref b2), .val (.ref b9), .val (.ref b16), .val (.ref b102), .val (.long v118), .second, .val (.long (0 : Int64)), .second, .unset, .unset] [(.long ((q3.toInt32).toInt64)), (.long q0), (.long (0 : Int64))])) _
      refine XS.lmul X117.here hx rfl (hb hby at_144) rfl ?_
      show Steps p.tables e below (T117.setTop (mkF m 145 #[.val (.long q0), .second, .val (.long q1), .second, .val (.long q2), .second, .val (.long q3), .second, .val (.int p4), .val (.int p5), .val (.int (3 : Int32)), .val (.int (q3.toInt32)), .val (.int v1), .val (.ref b2), .val (.ref b9), .val (.ref b16), .val (.ref b102), .val (.long v118), .second, .val (.long (0 : Int64)), .second, .unset, .unset] [(.long (q0 * ((q3.toInt32).toInt64))), (.long (0 : Int64))])) _
      refine XS.ladd X117.here hx rfl (hb hby at_145) rfl ?_
      show Steps p.tables e below (T117.setTop (mkF m 146 #[.val (.long q0), .second, .val (.long q1), .second, .val (.long q2), .second, .val (.long q3), .second, .val (.int p4), .val (.int p5), .val (.int (3 : Int32)), .val (.int (q3.toInt32)), .val (.int v1), .val (.ref b2), .val (.ref b9), .val (.ref b16), .val (.ref b102), .val (.long v118), .second, .val (.long (0 : Int64)), .second, .unset, .unset] [(.long ((0 : Int64) + (q0 * ((q3.toInt32).toInt64))))])) _
      refine XS.lstore X117.here hx rfl (hb hby at_146) rfl (l' := #[.val (.long q0), .second, .val (.long q1), .second, .val (.long q2), .second, .val (.long q3), .second, .val (.int p4), .val (.int p5), .val (.int (3 : Int32)), .val (.int (q3.toInt32)), .val (.int v1), .val (.ref b2), .val (.ref b9), .val (.ref b16), .val (.ref b102), .val (.long v118), .second, .val (.long ((0 : Int64) + (q0 * ((q3.toInt32).toInt64)))), .second, .unset, .unset]) rfl ?_
      show Steps p.tables e below (T117.setTop (mkF m 148 #[.val (.long q0), .second, .val (.long q1), .second, .val (.long q2), .second, .val (.long q3), .second, .val (.int p4), .val (.int p5), .val (.int (3 : Int32)), .val (.int (q3.toInt32)), .val (.int v1), .val (.ref b2), .val (.ref b9), .val (.ref b16), .val (.ref b102), .val (.long v118), .second, .val (.long ((0 : Int64) + (q0 * ((q3.toInt32).toInt64)))), .second, .unset, .unset] [])) _
      refine XS.iload X117.here hx rfl (hb hby at_148) rfl ?_
      show Steps p.tables e below (T117.setTop (mkF m 150 #[.val (.long q0), .second, .val (.long q1), .second, .val (.long q2), .second, .val (.long q3), .second, .val (.int p4), .val (.int p5), .val (.int (3 : Int32)), .val (.int (q3.toInt32)), .val (.int v1), .val (.ref b2), .val (.ref b9), .val (.ref b16), .val (.ref b102), .val (.long v118), .second, .val (.long ((0 : Int64) + (q0 * ((q3.toInt32).toInt64)))), .second, .unset, .unset] [(.int (3 : Int32))])) _
      refine XS.iconst X117.here hx rfl (hb hby at_150) ?_
      show Steps p.tables e below (T117.setTop (mkF m 151 #[.val (.long q0), .second, .val (.long q1), .second, .val (.long q2), .second, .val (.long q3), .second, .val (.int p4), .val (.int p5), .val (.int (3 : Int32)), .val (.int (q3.toInt32)), .val (.int v1), .val (.ref b2), .val (.ref b9), .val (.ref b16), .val (.ref b102), .val (.long v118), .second, .val (.long ((0 : Int64) + (q0 * ((q3.toInt32).toInt64)))), .second, .unset, .unset] [(.int (1 : Int32)), (.int (3 : Int32))])) _
      refine XS.icmpNo X117.here hx rfl (hb hby at_151) rfl (tlt (by decide)).2.2.2 ?_
      show Steps p.tables e below (T117.setTop (mkF m 154 #[.val (.long q0), .second, .val (.long q1), .second, .val (.long q2), .second, .val (.long q3), .second, .val (.int p4), .val (.int p5), .val (.int (3 : Int32)), .val (.int (q3.toInt32)), .val (.int v1), .val (.ref b2), .val (.ref b9), .val (.ref b16), .val (.ref b102), .val (.long v118), .second, .val (.long ((0 : Int64) + (q0 * ((q3.toInt32).toInt64)))), .second, .unset, .unset] [])) _
      refine XS.lload X117.here hx rfl (hb hby at_154) rfl ?_
      show Steps p.tables e below (T117.setTop (mkF m 156 #[.val (.long q0), .second, .val (.long q1), .second, .val (.long q2), .second, .val (.long q3), .second, .val (.int p4), .val (.int p5), .val (.int (3 : Int32)), .val (.int (q3.toInt32)), .val (.int v1), .val (.ref b2), .val (.ref b9), .val (.ref b16), .val (.ref b102), .val (.long v118), .second, .val (.long ((0 : Int64) + (q0 * ((q3.toInt32).toInt64)))), .second, .unset, .unset] [(.long ((0 : Int64) + (q0 * ((q3.toInt32).toInt64))))])) _
      refine XS.lloadN X117.here hx rfl (hb hby at_156) rfl ?_
      show Steps p.tables e below (T117.setTop (mkF m 157 #[.val (.long q0), .second, .val (.long q1), .second, .val (.long q2), .second, .val (.long q3), .second, .val (.int p4), .val (.int p5), .val (.int (3 : Int32)), .val (.int (q3.toInt32)), .val (.int v1), .val (.ref b2), .val (.ref b9), .val (.ref b16), .val (.ref b102), .val (.long v118), .second, .val (.long ((0 : Int64) + (q0 * ((q3.toInt32).toInt64)))), .second, .unset, .unset] [(.long q1), (.long ((0 : Int64) + (q0 * ((q3.toInt32).toInt64))))])) _
      refine XS.iload X117.here hx rfl (hb hby at_157) rfl ?_
      show Steps p.tables e below (T117.setTop (mkF m 159 #[.val (.long q0), .second, .val (.long q1), .second, .val (.long q2), .second, .val (.long q3), .second, .val (.int p4), .val (.int p5), .val (.int (3 : Int32)), .val (.int (q3.toInt32)), .val (.int v1), .val (.ref b2), .val (.ref b9), .val (.ref b16), .val (.ref b102), .val (.long v118), .second, .val (.long ((0 : Int64) + (q0 * ((q3.toInt32).toInt64)))), .second, .unset, .unset] [(.int v1), (.long q1), (.long ((0 : Int64) + (q0 * ((q3.toInt32).toInt64))))])) _
      refine XS.i2l X117.here hx rfl (hb hby at_159) rfl ?_
      show Steps p.tables e below (T117.setTop (mkF m 160 #[.val (.long q0), .second, .val (.long q1), .second, .val (.long q2), .second, .val (.long q3), .second, .val (.int p4), .val (.int p5), .val (.int (3 : Int32)), .val (.int (q3.toInt32)), .val (.int v1), .val (.ref b2), .val (.ref b9), .val (.ref b16), .val (.ref b102), .val (.long v118), .second, .val (.long ((0 : Int64) + (q0 * ((q3.toInt32).toInt64)))), .second, .unset, .unset] [(.long (v1.toInt64)), (.long q1), (.long ((0 : Int64) + (q0 * ((q3.toInt32).toInt64))))])) _
      refine XS.lmul X117.here hx rfl (hb hby at_160) rfl ?_
      show Steps p.tables e below (T117.setTop (mkF m 161 #[.val (.long q0), .second, .val (.long q1), .second, .val (.long q2), .second, .val (.long q3), .second, .val (.int p4), .val (.int p5), .val (.int (3 : Int32)), .val (.int (q3.toInt32)), .val (.int v1), .val (.ref b2), .val (.ref b9), .val (.ref b16), .val (.ref b102), .val (.long v118), .second, .val (.long ((0 : Int64) + (q0 * ((q3.toInt32).toInt64)))), .second, .unset, .unset] [(.long (q1 * (v1.toInt64))), (.long ((0 : Int64) + (q0 * ((q3.toInt32).toInt64))))])) _
      refine XS.ladd X117.here hx rfl (hb hby at_161) rfl ?_
      show Steps p.tables e below (T117.setTop (mkF m 162 #[.val (.long q0), .second, .val (.long q1), .second, .val (.long q2), .second, .val (.long q3), .second, .val (.int p4), .val (.int p5), .val (.int (3 : Int32)), .val (.int (q3.toInt32)), .val (.int v1), .val (.ref b2), .val (.ref b9), .val (.ref b16), .val (.ref b102), .val (.long v118), .second, .val (.long ((0 : Int64) + (q0 * ((q3.toInt32).toInt64)))), .second, .unset, .unset] [(.long (((0 : Int64) + (q0 * ((q3.toInt32).toInt64))) + (q1 * (v1.toInt64))))])) _
      refine castTop (g' := (mkF m 162 #[.val (.long q0), .second, .val (.long q1), .second, .val (.long q2), .second, .val (.long q3), .second, .val (.int p4), .val (.int p5), .val (.int (3 : Int32)), .val (.int (q3.toInt32)), .val (.int v1), .val (.ref b2), .val (.ref b9), .val (.ref b16), .val (.ref b102), .val (.long v118), .second, .val (.long ((0 : Int64) + (q0 * ((q3.toInt32).toInt64)))), .second, .unset, .unset] [(.long v119)])) (by rw [hv119] <;> rfl) ?_
      show Steps p.tables e below (T117.setTop (mkF m 162 #[.val (.long q0), .second, .val (.long q1), .second, .val (.long q2), .second, .val (.long q3), .second, .val (.int p4), .val (.int p5), .val (.int (3 : Int32)), .val (.int (q3.toInt32)), .val (.int v1), .val (.ref b2), .val (.ref b9), .val (.ref b16), .val (.ref b102), .val (.long v118), .second, .val (.long ((0 : Int64) + (q0 * ((q3.toInt32).toInt64)))), .second, .unset, .unset] [(.long v119)])) _
      refine XS.lstore X117.here hx rfl (hb hby at_162) rfl (l' := #[.val (.long q0), .second, .val (.long q1), .second, .val (.long q2), .second, .val (.long q3), .second, .val (.int p4), .val (.int p5), .val (.int (3 : Int32)), .val (.int (q3.toInt32)), .val (.int v1), .val (.ref b2), .val (.ref b9), .val (.ref b16), .val (.ref b102), .val (.long v118), .second, .val (.long v119), .second, .unset, .unset]) rfl ?_
      show Steps p.tables e below (T117.setTop (mkF m 164 #[.val (.long q0), .second, .val (.long q1), .second, .val (.long q2), .second, .val (.long q3), .second, .val (.int p4), .val (.int p5), .val (.int (3 : Int32)), .val (.int (q3.toInt32)), .val (.int v1), .val (.ref b2), .val (.ref b9), .val (.ref b16), .val (.ref b102), .val (.long v118), .second, .val (.long v119), .second, .unset, .unset] [])) _
      refine XS.iload X117.here hx rfl (hb hby at_164) rfl ?_
      show Steps p.tables e below (T117.setTop (mkF m 166 #[.val (.long q0), .second, .val (.long q1), .second, .val (.long q2), .second, .val (.long q3), .second, .val (.int p4), .val (.int p5), .val (.int (3 : Int32)), .val (.int (q3.toInt32)), .val (.int v1), .val (.ref b2), .val (.ref b9), .val (.ref b16), .val (.ref b102), .val (.long v118), .second, .val (.long v119), .second, .unset, .unset] [(.int (3 : Int32))])) _
      refine XS.iconst X117.here hx rfl (hb hby at_166) ?_
      show Steps p.tables e below (T117.setTop (mkF m 167 #[.val (.long q0), .second, .val (.long q1), .second, .val (.long q2), .second, .val (.long q3), .second, .val (.int p4), .val (.int p5), .val (.int (3 : Int32)), .val (.int (q3.toInt32)), .val (.int v1), .val (.ref b2), .val (.ref b9), .val (.ref b16), .val (.ref b102), .val (.long v118), .second, .val (.long v119), .second, .unset, .unset] [(.int (2 : Int32)), (.int (3 : Int32))])) _
      refine XS.icmpNo X117.here hx rfl (hb hby at_167) rfl (tlt (by decide)).2.2.2 ?_
      show Steps p.tables e below (T117.setTop (mkF m 170 #[.val (.long q0), .second, .val (.long q1), .second, .val (.long q2), .second, .val (.long q3), .second, .val (.int p4), .val (.int p5), .val (.int (3 : Int32)), .val (.int (q3.toInt32)), .val (.int v1), .val (.ref b2), .val (.ref b9), .val (.ref b16), .val (.ref b102), .val (.long v118), .second, .val (.long v119), .second, .unset, .unset] [])) _
      refine XS.lload X117.here hx rfl (hb hby at_170) rfl ?_
      show Steps p.tables e below (T117.setTop (mkF m 172 #[.val (.long q0), .second, .val (.long q1), .second, .val (.long q2), .second, .val (.long q3), .second, .val (.int p4), .val (.int p5), .val (.int (3 : Int32)), .val (.int (q3.toInt32)), .val (.int v1), .val (.ref b2), .val (.ref b9), .val (.ref b16), .val (.ref b102), .val (.long v118), .second, .val (.long v119), .second, .unset, .unset] [(.long v119)])) _
      refine XS.lload X117.here hx rfl (hb hby at_172) rfl ?_
      show Steps p.tables e below (T117.setTop (mkF m 174 #[.val (.long q0), .second, .val (.long q1), .second, .val (.long q2), .second, .val (.long q3), .second, .val (.int p4), .val (.int p5), .val (.int (3 : Int32)), .val (.int (q3.toInt32)), .val (.int v1), .val (.ref b2), .val (.ref b9), .val (.ref b16), .val (.ref b102), .val (.long v118), .second, .val (.long v119), .second, .unset, .unset] [(.long q2), (.long v119)])) _
      refine XS.iload X117.here hx rfl (hb hby at_174) rfl ?_
      show Steps p.tables e below (T117.setTop (mkF m 176 #[.val (.long q0), .second, .val (.long q1), .second, .val (.long q2), .second, .val (.long q3), .second, .val (.int p4), .val (.int p5), .val (.int (3 : Int32)), .val (.int (q3.toInt32)), .val (.int v1), .val (.ref b2), .val (.ref b9), .val (.ref b16), .val (.ref b102), .val (.long v118), .second, .val (.long v119), .second, .unset, .unset] [(.int p4), (.long q2), (.long v119)])) _
      refine XS.i2l X117.here hx rfl (hb hby at_176) rfl ?_
      show Steps p.tables e below (T117.setTop (mkF m 177 #[.val (.long q0), .second, .val (.long q1), .second, .val (.long q2), .second, .val (.long q3), .second, .val (.int p4), .val (.int p5), .val (.int (3 : Int32)), .val (.int (q3.toInt32)), .val (.int v1), .val (.ref b2), .val (.ref b9), .val (.ref b16), .val (.ref b102), .val (.long v118), .second, .val (.long v119), .second, .unset, .unset] [(.long (p4.toInt64)), (.long q2), (.long v119)])) _
      refine XS.lmul X117.here hx rfl (hb hby at_177) rfl ?_
      show Steps p.tables e below (T117.setTop (mkF m 178 #[.val (.long q0), .second, .val (.long q1), .second, .val (.long q2), .second, .val (.long q3), .second, .val (.int p4), .val (.int p5), .val (.int (3 : Int32)), .val (.int (q3.toInt32)), .val (.int v1), .val (.ref b2), .val (.ref b9), .val (.ref b16), .val (.ref b102), .val (.long v118), .second, .val (.long v119), .second, .unset, .unset] [(.long (q2 * (p4.toInt64))), (.long v119)])) _
      refine XS.ladd X117.here hx rfl (hb hby at_178) rfl ?_
      show Steps p.tables e below (T117.setTop (mkF m 179 #[.val (.long q0), .second, .val (.long q1), .second, .val (.long q2), .second, .val (.long q3), .second, .val (.int p4), .val (.int p5), .val (.int (3 : Int32)), .val (.int (q3.toInt32)), .val (.int v1), .val (.ref b2), .val (.ref b9), .val (.ref b16), .val (.ref b102), .val (.long v118), .second, .val (.long v119), .second, .unset, .unset] [(.long (v119 + (q2 * (p4.toInt64))))])) _
      refine XS.lstore X117.here hx rfl (hb hby at_179) rfl (l' := #[.val (.long q0), .second, .val (.long q1), .second, .val (.long q2), .second, .val (.long q3), .second, .val (.int p4), .val (.int p5), .val (.int (3 : Int32)), .val (.int (q3.toInt32)), .val (.int v1), .val (.ref b2), .val (.ref b9), .val (.ref b16), .val (.ref b102), .val (.long v118), .second, .val (.long (v119 + (q2 * (p4.toInt64)))), .second, .unset, .unset]) rfl ?_
      show Steps p.tables e below (T117.setTop (mkF m 181 #[.val (.long q0), .second, .val (.long q1), .second, .val (.long q2), .second, .val (.long q3), .second, .val (.int p4), .val (.int p5), .val (.int (3 : Int32)), .val (.int (q3.toInt32)), .val (.int v1), .val (.ref b2), .val (.ref b9), .val (.ref b16), .val (.ref b102), .val (.long v118), .second, .val (.long (v119 + (q2 * (p4.toInt64)))), .second, .unset, .unset] [])) _
      refine XS.iload X117.here hx rfl (hb hby at_181) rfl ?_
      show Steps p.tables e below (T117.setTop (mkF m 183 #[.val (.long q0), .second, .val (.long q1), .second, .val (.long q2), .second, .val (.long q3), .second, .val (.int p4), .val (.int p5), .val (.int (3 : Int32)), .val (.int (q3.toInt32)), .val (.int v1), .val (.ref b2), .val (.ref b9), .val (.ref b16), .val (.ref b102), .val (.long v118), .second, .val (.long (v119 + (q2 * (p4.toInt64)))), .second, .unset, .unset] [(.int (3 : Int32))])) _
      refine XS.iconst X117.here hx rfl (hb hby at_183) ?_
      show Steps p.tables e below (T117.setTop (mkF m 184 #[.val (.long q0), .second, .val (.long q1), .second, .val (.long q2), .second, .val (.long q3), .second, .val (.int p4), .val (.int p5), .val (.int (3 : Int32)), .val (.int (q3.toInt32)), .val (.int v1), .val (.ref b2), .val (.ref b9), .val (.ref b16), .val (.ref b102), .val (.long v118), .second, .val (.long (v119 + (q2 * (p4.toInt64)))), .second, .unset, .unset] [(.int (1 : Int32)), (.int (3 : Int32))])) _
      refine XS.icmpNo X117.here hx rfl (hb hby at_184) rfl (flt (by decide)).1 ?_
      show Steps p.tables e below (T117.setTop (mkF m 187 #[.val (.long q0), .second, .val (.long q1), .second, .val (.long q2), .second, .val (.long q3), .second, .val (.int p4), .val (.int p5), .val (.int (3 : Int32)), .val (.int (q3.toInt32)), .val (.int v1), .val (.ref b2), .val (.ref b9), .val (.ref b16), .val (.ref b102), .val (.long v118), .second, .val (.long (v119 + (q2 * (p4.toInt64)))), .second, .unset, .unset] [])) _
      refine XS.aload X117.here hx rfl (hb hby at_187) rfl rfl ?_
      show Steps p.tables e below (T117.setTop (mkF m 189 #[.val (.long q0), .second, .val (.long q1), .second, .val (.long q2), .second, .val (.long q3), .second, .val (.int p4), .val (.int p5), .val (.int (3 : Int32)), .val (.int (q3.toInt32)), .val (.int v1), .val (.ref b2), .val (.ref b9), .val (.ref b16), .val (.ref b102), .val (.long v118), .second, .val (.long (v119 + (q2 * (p4.toInt64)))), .second, .unset, .unset] [(.ref b102)])) _
      refine XS.iconst X117.here hx rfl (hb hby at_189) ?_
      show Steps p.tables e below (T117.setTop (mkF m 190 #[.val (.long q0), .second, .val (.long q1), .second, .val (.long q2), .second, .val (.long q3), .second, .val (.int p4), .val (.int p5), .val (.int (3 : Int32)), .val (.int (q3.toInt32)), .val (.int v1), .val (.ref b2), .val (.ref b9), .val (.ref b16), .val (.ref b102), .val (.long v118), .second, .val (.long (v119 + (q2 * (p4.toInt64)))), .second, .unset, .unset] [(.int (0 : Int32)), (.ref b102)])) _
      refine AF.ldI X117 hx hZ e117 V109 (by decide : own_in (0 : Int32) 3) (g := (mkF m 190 #[.val (.long q0), .second, .val (.long q1), .second, .val (.long q2), .second, .val (.long q3), .second, .val (.int p4), .val (.int p5), .val (.int (3 : Int32)), .val (.int (q3.toInt32)), .val (.int v1), .val (.ref b2), .val (.ref b9), .val (.ref b16), .val (.ref b102), .val (.long v118), .second, .val (.long (v119 + (q2 * (p4.toInt64)))), .second, .unset, .unset] [(.int (0 : Int32)), (.ref b102)])) rfl rfl (hb hby at_190) _ ?_
      show Steps p.tables e below (T117.setTop (mkF m 191 #[.val (.long q0), .second, .val (.long q1), .second, .val (.long q2), .second, .val (.long q3), .second, .val (.int p4), .val (.int p5), .val (.int (3 : Int32)), .val (.int (q3.toInt32)), .val (.int v1), .val (.ref b2), .val (.ref b9), .val (.ref b16), .val (.ref b102), .val (.long v118), .second, .val (.long (v119 + (q2 * (p4.toInt64)))), .second, .unset, .unset] [(.int (f110 0))])) _
      refine XS.iload X117.here hx rfl (hb hby at_191) rfl ?_
      show Steps p.tables e below (T117.setTop (mkF m 193 #[.val (.long q0), .second, .val (.long q1), .second, .val (.long q2), .second, .val (.long q3), .second, .val (.int p4), .val (.int p5), .val (.int (3 : Int32)), .val (.int (q3.toInt32)), .val (.int v1), .val (.ref b2), .val (.ref b9), .val (.ref b16), .val (.ref b102), .val (.long v118), .second, .val (.long (v119 + (q2 * (p4.toInt64)))), .second, .unset, .unset] [(.int (q3.toInt32)), (.int (f110 0))])) _
      refine own_dia (F := (mkF m 231 #[.val (.long q0), .second, .val (.long q1), .second, .val (.long q2), .second, .val (.long q3), .second, .val (.int p4), .val (.int p5), .val (.int (3 : Int32)), .val (.int (q3.toInt32)), .val (.int v1), .val (.ref b2), .val (.ref b9), .val (.ref b16), .val (.ref b102), .val (.long v118), .second, .val (.long (v119 + (q2 * (p4.toInt64)))), .second, .unset, .unset] [(.int v125)])) ?_ ?_
      · intro kt
        by_cases hc120 : (f110 0) = (q3.toInt32)
        · show Steps p.tables e below (T117.setTop (mkF m 193 #[.val (.long q0), .second, .val (.long q1), .second, .val (.long q2), .second, .val (.long q3), .second, .val (.int p4), .val (.int p5), .val (.int (3 : Int32)), .val (.int (q3.toInt32)), .val (.int v1), .val (.ref b2), .val (.ref b9), .val (.ref b16), .val (.ref b102), .val (.long v118), .second, .val (.long (v119 + (q2 * (p4.toInt64)))), .second, .unset, .unset] [(.int (q3.toInt32)), (.int (f110 0))])) _
          refine XS.icmpNo X117.here hx rfl (hb hby at_193) rfl (teq hc120).2 ?_
          show Steps p.tables e below (T117.setTop (mkF m 196 #[.val (.long q0), .second, .val (.long q1), .second, .val (.long q2), .second, .val (.long q3), .second, .val (.int p4), .val (.int p5), .val (.int (3 : Int32)), .val (.int (q3.toInt32)), .val (.int v1), .val (.ref b2), .val (.ref b9), .val (.ref b16), .val (.ref b102), .val (.long v118), .second, .val (.long (v119 + (q2 * (p4.toInt64)))), .second, .unset, .unset] [])) _
          refine XS.iload X117.here hx rfl (hb hby at_196) rfl ?_
          show Steps p.tables e below (T117.setTop (mkF m 198 #[.val (.long q0), .second, .val (.long q1), .second, .val (.long q2), .second, .val (.long q3), .second, .val (.int p4), .val (.int p5), .val (.int (3 : Int32)), .val (.int (q3.toInt32)), .val (.int v1), .val (.ref b2), .val (.ref b9), .val (.ref b16), .val (.ref b102), .val (.long v118), .second, .val (.long (v119 + (q2 * (p4.toInt64)))), .second, .unset, .unset] [(.int (3 : Int32))])) _
          refine XS.iconst X117.here hx rfl (hb hby at_198) ?_
          show Steps p.tables e below (T117.setTop (mkF m 199 #[.val (.long q0), .second, .val (.long q1), .second, .val (.long q2), .second, .val (.long q3), .second, .val (.int p4), .val (.int p5), .val (.int (3 : Int32)), .val (.int (q3.toInt32)), .val (.int v1), .val (.ref b2), .val (.ref b9), .val (.ref b16), .val (.ref b102), .val (.long v118), .second, .val (.long (v119 + (q2 * (p4.toInt64)))), .second, .unset, .unset] [(.int (2 : Int32)), (.int (3 : Int32))])) _
          refine XS.icmpNo X117.here hx rfl (hb hby at_199) rfl (flt (by decide)).1 ?_
          show Steps p.tables e below (T117.setTop (mkF m 202 #[.val (.long q0), .second, .val (.long q1), .second, .val (.long q2), .second, .val (.long q3), .second, .val (.int p4), .val (.int p5), .val (.int (3 : Int32)), .val (.int (q3.toInt32)), .val (.int v1), .val (.ref b2), .val (.ref b9), .val (.ref b16), .val (.ref b102), .val (.long v118), .second, .val (.long (v119 + (q2 * (p4.toInt64)))), .second, .unset, .unset] [])) _
          refine XS.aload X117.here hx rfl (hb hby at_202) rfl rfl ?_
          show Steps p.tables e below (T117.setTop (mkF m 204 #[.val (.long q0), .second, .val (.long q1), .second, .val (.long q2), .second, .val (.long q3), .second, .val (.int p4), .val (.int p5), .val (.int (3 : Int32)), .val (.int (q3.toInt32)), .val (.int v1), .val (.ref b2), .val (.ref b9), .val (.ref b16), .val (.ref b102), .val (.long v118), .second, .val (.long (v119 + (q2 * (p4.toInt64)))), .second, .unset, .unset] [(.ref b102)])) _
          refine XS.iconst X117.here hx rfl (hb hby at_204) ?_
          show Steps p.tables e below (T117.setTop (mkF m 205 #[.val (.long q0), .second, .val (.long q1), .second, .val (.long q2), .second, .val (.long q3), .second, .val (.int p4), .val (.int p5), .val (.int (3 : Int32)), .val (.int (q3.toInt32)), .val (.int v1), .val (.ref b2), .val (.ref b9), .val (.ref b16), .val (.ref b102), .val (.long v118), .second, .val (.long (v119 + (q2 * (p4.toInt64)))), .second, .unset, .unset] [(.int (1 : Int32)), (.ref b102)])) _
          refine AF.ldI X117 hx hZ e117 V109 (by decide : own_in (1 : Int32) 3) (g := (mkF m 205 #[.val (.long q0), .second, .val (.long q1), .second, .val (.long q2), .second, .val (.long q3), .second, .val (.int p4), .val (.int p5), .val (.int (3 : Int32)), .val (.int (q3.toInt32)), .val (.int v1), .val (.ref b2), .val (.ref b9), .val (.ref b16), .val (.ref b102), .val (.long v118), .second, .val (.long (v119 + (q2 * (p4.toInt64)))), .second, .unset, .unset] [(.int (1 : Int32)), (.ref b102)])) rfl rfl (hb hby at_205) _ ?_
          show Steps p.tables e below (T117.setTop (mkF m 206 #[.val (.long q0), .second, .val (.long q1), .second, .val (.long q2), .second, .val (.long q3), .second, .val (.int p4), .val (.int p5), .val (.int (3 : Int32)), .val (.int (q3.toInt32)), .val (.int v1), .val (.ref b2), .val (.ref b9), .val (.ref b16), .val (.ref b102), .val (.long v118), .second, .val (.long (v119 + (q2 * (p4.toInt64)))), .second, .unset, .unset] [(.int (f110 1))])) _
          refine XS.iload X117.here hx rfl (hb hby at_206) rfl ?_
          show Steps p.tables e below (T117.setTop (mkF m 208 #[.val (.long q0), .second, .val (.long q1), .second, .val (.long q2), .second, .val (.long q3), .second, .val (.int p4), .val (.int p5), .val (.int (3 : Int32)), .val (.int (q3.toInt32)), .val (.int v1), .val (.ref b2), .val (.ref b9), .val (.ref b16), .val (.ref b102), .val (.long v118), .second, .val (.long (v119 + (q2 * (p4.toInt64)))), .second, .unset, .unset] [(.int v1), (.int (f110 1))])) _
          refine own_dia (F := (mkF m 231 #[.val (.long q0), .second, .val (.long q1), .second, .val (.long q2), .second, .val (.long q3), .second, .val (.int p4), .val (.int p5), .val (.int (3 : Int32)), .val (.int (q3.toInt32)), .val (.int v1), .val (.ref b2), .val (.ref b9), .val (.ref b16), .val (.ref b102), .val (.long v118), .second, .val (.long (v119 + (q2 * (p4.toInt64)))), .second, .unset, .unset] [(.int v124)])) ?_ ?_
          · intro kt
            by_cases hc121 : (f110 1) = v1
            · show Steps p.tables e below (T117.setTop (mkF m 208 #[.val (.long q0), .second, .val (.long q1), .second, .val (.long q2), .second, .val (.long q3), .second, .val (.int p4), .val (.int p5), .val (.int (3 : Int32)), .val (.int (q3.toInt32)), .val (.int v1), .val (.ref b2), .val (.ref b9), .val (.ref b16), .val (.ref b102), .val (.long v118), .second, .val (.long (v119 + (q2 * (p4.toInt64)))), .second, .unset, .unset] [(.int v1), (.int (f110 1))])) _
              refine XS.icmpNo X117.here hx rfl (hb hby at_208) rfl (teq hc121).2 ?_
              show Steps p.tables e below (T117.setTop (mkF m 211 #[.val (.long q0), .second, .val (.long q1), .second, .val (.long q2), .second, .val (.long q3), .second, .val (.int p4), .val (.int p5), .val (.int (3 : Int32)), .val (.int (q3.toInt32)), .val (.int v1), .val (.ref b2), .val (.ref b9), .val (.ref b16), .val (.ref b102), .val (.long v118), .second, .val (.long (v119 + (q2 * (p4.toInt64)))), .second, .unset, .unset] [])) _
              refine XS.iload X117.here hx rfl (hb hby at_211) rfl ?_
              show Steps p.tables e below (T117.setTop (mkF m 213 #[.val (.long q0), .second, .val (.long q1), .second, .val (.long q2), .second, .val (.long q3), .second, .val (.int p4), .val (.int p5), .val (.int (3 : Int32)), .val (.int (q3.toInt32)), .val (.int v1), .val (.ref b2), .val (.ref b9), .val (.ref b16), .val (.ref b102), .val (.long v118), .second, .val (.long (v119 + (q2 * (p4.toInt64)))), .second, .unset, .unset] [(.int (3 : Int32))])) _
              refine XS.iconst X117.here hx rfl (hb hby at_213) ?_
              show Steps p.tables e below (T117.setTop (mkF m 214 #[.val (.long q0), .second, .val (.long q1), .second, .val (.long q2), .second, .val (.long q3), .second, .val (.int p4), .val (.int p5), .val (.int (3 : Int32)), .val (.int (q3.toInt32)), .val (.int v1), .val (.ref b2), .val (.ref b9), .val (.ref b16), .val (.ref b102), .val (.long v118), .second, .val (.long (v119 + (q2 * (p4.toInt64)))), .second, .unset, .unset] [(.int (3 : Int32)), (.int (3 : Int32))])) _
              refine XS.icmpNo X117.here hx rfl (hb hby at_214) rfl (flt (by decide)).1 ?_
              show Steps p.tables e below (T117.setTop (mkF m 217 #[.val (.long q0), .second, .val (.long q1), .second, .val (.long q2), .second, .val (.long q3), .second, .val (.int p4), .val (.int p5), .val (.int (3 : Int32)), .val (.int (q3.toInt32)), .val (.int v1), .val (.ref b2), .val (.ref b9), .val (.ref b16), .val (.ref b102), .val (.long v118), .second, .val (.long (v119 + (q2 * (p4.toInt64)))), .second, .unset, .unset] [])) _
              refine XS.aload X117.here hx rfl (hb hby at_217) rfl rfl ?_
              show Steps p.tables e below (T117.setTop (mkF m 219 #[.val (.long q0), .second, .val (.long q1), .second, .val (.long q2), .second, .val (.long q3), .second, .val (.int p4), .val (.int p5), .val (.int (3 : Int32)), .val (.int (q3.toInt32)), .val (.int v1), .val (.ref b2), .val (.ref b9), .val (.ref b16), .val (.ref b102), .val (.long v118), .second, .val (.long (v119 + (q2 * (p4.toInt64)))), .second, .unset, .unset] [(.ref b102)])) _
              refine XS.iconst X117.here hx rfl (hb hby at_219) ?_
              show Steps p.tables e below (T117.setTop (mkF m 220 #[.val (.long q0), .second, .val (.long q1), .second, .val (.long q2), .second, .val (.long q3), .second, .val (.int p4), .val (.int p5), .val (.int (3 : Int32)), .val (.int (q3.toInt32)), .val (.int v1), .val (.ref b2), .val (.ref b9), .val (.ref b16), .val (.ref b102), .val (.long v118), .second, .val (.long (v119 + (q2 * (p4.toInt64)))), .second, .unset, .unset] [(.int (2 : Int32)), (.ref b102)])) _
              refine AF.ldI X117 hx hZ e117 V109 (by decide : own_in (2 : Int32) 3) (g := (mkF m 220 #[.val (.long q0), .second, .val (.long q1), .second, .val (.long q2), .second, .val (.long q3), .second, .val (.int p4), .val (.int p5), .val (.int (3 : Int32)), .val (.int (q3.toInt32)), .val (.int v1), .val (.ref b2), .val (.ref b9), .val (.ref b16), .val (.ref b102), .val (.long v118), .second, .val (.long (v119 + (q2 * (p4.toInt64)))), .second, .unset, .unset] [(.int (2 : Int32)), (.ref b102)])) rfl rfl (hb hby at_220) _ ?_
              show Steps p.tables e below (T117.setTop (mkF m 221 #[.val (.long q0), .second, .val (.long q1), .second, .val (.long q2), .second, .val (.long q3), .second, .val (.int p4), .val (.int p5), .val (.int (3 : Int32)), .val (.int (q3.toInt32)), .val (.int v1), .val (.ref b2), .val (.ref b9), .val (.ref b16), .val (.ref b102), .val (.long v118), .second, .val (.long (v119 + (q2 * (p4.toInt64)))), .second, .unset, .unset] [(.int (f110 2))])) _
              refine XS.iload X117.here hx rfl (hb hby at_221) rfl ?_
              show Steps p.tables e below (T117.setTop (mkF m 223 #[.val (.long q0), .second, .val (.long q1), .second, .val (.long q2), .second, .val (.long q3), .second, .val (.int p4), .val (.int p5), .val (.int (3 : Int32)), .val (.int (q3.toInt32)), .val (.int v1), .val (.ref b2), .val (.ref b9), .val (.ref b16), .val (.ref b102), .val (.long v118), .second, .val (.long (v119 + (q2 * (p4.toInt64)))), .second, .unset, .unset] [(.int p4), (.int (f110 2))])) _
              refine own_dia (F := (mkF m 231 #[.val (.long q0), .second, .val (.long q1), .second, .val (.long q2), .second, .val (.long q3), .second, .val (.int p4), .val (.int p5), .val (.int (3 : Int32)), .val (.int (q3.toInt32)), .val (.int v1), .val (.ref b2), .val (.ref b9), .val (.ref b16), .val (.ref b102), .val (.long v118), .second, .val (.long (v119 + (q2 * (p4.toInt64)))), .second, .unset, .unset] [(.int v123)])) ?_ ?_
              · intro kt
                by_cases hc122 : (f110 2) = p4
                · show Steps p.tables e below (T117.setTop (mkF m 223 #[.val (.long q0), .second, .val (.long q1), .second, .val (.long q2), .second, .val (.long q3), .second, .val (.int p4), .val (.int p5), .val (.int (3 : Int32)), .val (.int (q3.toInt32)), .val (.int v1), .val (.ref b2), .val (.ref b9), .val (.ref b16), .val (.ref b102), .val (.long v118), .second, .val (.long (v119 + (q2 * (p4.toInt64)))), .second, .unset, .unset] [(.int p4), (.int (f110 2))])) _
                  refine XS.icmpNo X117.here hx rfl (hb hby at_223) rfl (teq hc122).2 ?_
                  show Steps p.tables e below (T117.setTop (mkF m 226 #[.val (.long q0), .second, .val (.long q1), .second, .val (.long q2), .second, .val (.long q3), .second, .val (.int p4), .val (.int p5), .val (.int (3 : Int32)), .val (.int (q3.toInt32)), .val (.int v1), .val (.ref b2), .val (.ref b9), .val (.ref b16), .val (.ref b102), .val (.long v118), .second, .val (.long (v119 + (q2 * (p4.toInt64)))), .second, .unset, .unset] [])) _
                  refine XS.iconst X117.here hx rfl (hb hby at_226) ?_
                  show Steps p.tables e below (T117.setTop (mkF m 227 #[.val (.long q0), .second, .val (.long q1), .second, .val (.long q2), .second, .val (.long q3), .second, .val (.int p4), .val (.int p5), .val (.int (3 : Int32)), .val (.int (q3.toInt32)), .val (.int v1), .val (.ref b2), .val (.ref b9), .val (.ref b16), .val (.ref b102), .val (.long v118), .second, .val (.long (v119 + (q2 * (p4.toInt64)))), .second, .unset, .unset] [(.int (1 : Int32))])) _
                  refine XS.goto X117.here hx rfl (pc0 := 227) (pc' := 231) rfl (hb hby at_227) (by decide) (by decide) ?_
                  exact castTop (by rw [hv123, if_pos hc122] <;> rfl) kt
                · show Steps p.tables e below (T117.setTop (mkF m 223 #[.val (.long q0), .second, .val (.long q1), .second, .val (.long q2), .second, .val (.long q3), .second, .val (.int p4), .val (.int p5), .val (.int (3 : Int32)), .val (.int (q3.toInt32)), .val (.int v1), .val (.ref b2), .val (.ref b9), .val (.ref b16), .val (.ref b102), .val (.long v118), .second, .val (.long (v119 + (q2 * (p4.toInt64)))), .second, .unset, .unset] [(.int p4), (.int (f110 2))])) _
                  refine XS.icmpYes X117.here hx rfl (pc0 := 223) (pc' := 230) rfl (hb hby at_223) rfl (feq hc122).2 (by decide) (by decide) ?_
                  show Steps p.tables e below (T117.setTop (mkF m 230 #[.val (.long q0), .second, .val (.long q1), .second, .val (.long q2), .second, .val (.long q3), .second, .val (.int p4), .val (.int p5), .val (.int (3 : Int32)), .val (.int (q3.toInt32)), .val (.int v1), .val (.ref b2), .val (.ref b9), .val (.ref b16), .val (.ref b102), .val (.long v118), .second, .val (.long (v119 + (q2 * (p4.toInt64)))), .second, .unset, .unset] [])) _
                  refine XS.iconst X117.here hx rfl (hb hby at_230) ?_
                  exact castTop (by rw [hv123, if_neg hc122] <;> rfl) kt
              exact castTop (by rw [hv124, if_pos hc121] <;> rfl) kt
            · show Steps p.tables e below (T117.setTop (mkF m 208 #[.val (.long q0), .second, .val (.long q1), .second, .val (.long q2), .second, .val (.long q3), .second, .val (.int p4), .val (.int p5), .val (.int (3 : Int32)), .val (.int (q3.toInt32)), .val (.int v1), .val (.ref b2), .val (.ref b9), .val (.ref b16), .val (.ref b102), .val (.long v118), .second, .val (.long (v119 + (q2 * (p4.toInt64)))), .second, .unset, .unset] [(.int v1), (.int (f110 1))])) _
              refine XS.icmpYes X117.here hx rfl (pc0 := 208) (pc' := 230) rfl (hb hby at_208) rfl (feq hc121).2 (by decide) (by decide) ?_
              show Steps p.tables e below (T117.setTop (mkF m 230 #[.val (.long q0), .second, .val (.long q1), .second, .val (.long q2), .second, .val (.long q3), .second, .val (.int p4), .val (.int p5), .val (.int (3 : Int32)), .val (.int (q3.toInt32)), .val (.int v1), .val (.ref b2), .val (.ref b9), .val (.ref b16), .val (.ref b102), .val (.long v118), .second, .val (.long (v119 + (q2 * (p4.toInt64)))), .second, .unset, .unset] [])) _
              refine XS.iconst X117.here hx rfl (hb hby at_230) ?_
              exact castTop (by rw [hv124, if_neg hc121] <;> rfl) kt
          exact castTop (by rw [hv125, if_pos hc120] <;> rfl) kt
        · show Steps p.tables e below (T117.setTop (mkF m 193 #[.val (.long q0), .second, .val (.long q1), .second, .val (.long q2), .second, .val (.long q3), .second, .val (.int p4), .val (.int p5), .val (.int (3 : Int32)), .val (.int (q3.toInt32)), .val (.int v1), .val (.ref b2), .val (.ref b9), .val (.ref b16), .val (.ref b102), .val (.long v118), .second, .val (.long (v119 + (q2 * (p4.toInt64)))), .second, .unset, .unset] [(.int (q3.toInt32)), (.int (f110 0))])) _
          refine XS.icmpYes X117.here hx rfl (pc0 := 193) (pc' := 230) rfl (hb hby at_193) rfl (feq hc120).2 (by decide) (by decide) ?_
          show Steps p.tables e below (T117.setTop (mkF m 230 #[.val (.long q0), .second, .val (.long q1), .second, .val (.long q2), .second, .val (.long q3), .second, .val (.int p4), .val (.int p5), .val (.int (3 : Int32)), .val (.int (q3.toInt32)), .val (.int v1), .val (.ref b2), .val (.ref b9), .val (.ref b16), .val (.ref b102), .val (.long v118), .second, .val (.long (v119 + (q2 * (p4.toInt64)))), .second, .unset, .unset] [])) _
          refine XS.iconst X117.here hx rfl (hb hby at_230) ?_
          exact castTop (by rw [hv125, if_neg hc120] <;> rfl) kt
      show Steps p.tables e below (T117.setTop (mkF m 231 #[.val (.long q0), .second, .val (.long q1), .second, .val (.long q2), .second, .val (.long q3), .second, .val (.int p4), .val (.int p5), .val (.int (3 : Int32)), .val (.int (q3.toInt32)), .val (.int v1), .val (.ref b2), .val (.ref b9), .val (.ref b16), .val (.ref b102), .val (.long v118), .second, .val (.long (v119 + (q2 * (p4.toInt64)))), .second, .unset, .unset] [(.int v125)])) _
      refine XS.istore X117.here hx rfl (hb hby at_231) rfl (l' := #[.val (.long q0), .second, .val (.long q1), .second, .val (.long q2), .second, .val (.long q3), .second, .val (.int p4), .val (.int p5), .val (.int (3 : Int32)), .val (.int (q3.toInt32)), .val (.int v1), .val (.ref b2), .val (.ref b9), .val (.ref b16), .val (.ref b102), .val (.long v118), .second, .val (.long (v119 + (q2 * (p4.toInt64)))), .second, .val (.int v125), .unset]) rfl ?_
      show Steps p.tables e below (T117.setTop (mkF m 233 #[.val (.long q0), .second, .val (.long q1), .second, .val (.long q2), .second, .val (.long q3), .second, .val (.int p4), .val (.int p5), .val (.int (3 : Int32)), .val (.int (q3.toInt32)), .val (.int v1), .val (.ref b2), .val (.ref b9), .val (.ref b16), .val (.ref b102), .val (.long v118), .second, .val (.long (v119 + (q2 * (p4.toInt64)))), .second, .val (.int v125), .unset] [])) _
      refine XS.aload X117.here hx rfl (hb hby at_233) rfl rfl ?_
      show Steps p.tables e below (T117.setTop (mkF m 235 #[.val (.long q0), .second, .val (.long q1), .second, .val (.long q2), .second, .val (.long q3), .second, .val (.int p4), .val (.int p5), .val (.int (3 : Int32)), .val (.int (q3.toInt32)), .val (.int v1), .val (.ref b2), .val (.ref b9), .val (.ref b16), .val (.ref b102), .val (.long v118), .second, .val (.long (v119 + (q2 * (p4.toInt64)))), .second, .val (.int v125), .unset] [(.ref b2)])) _
      refine XS.iconst X117.here hx rfl (hb hby at_235) ?_
      show Steps p.tables e below (T117.setTop (mkF m 236 #[.val (.long q0), .second, .val (.long q1), .second, .val (.long q2), .second, .val (.long q3), .second, .val (.int p4), .val (.int p5), .val (.int (3 : Int32)), .val (.int (q3.toInt32)), .val (.int v1), .val (.ref b2), .val (.ref b9), .val (.ref b16), .val (.ref b102), .val (.long v118), .second, .val (.long (v119 + (q2 * (p4.toInt64)))), .second, .val (.int v125), .unset] [(.int (0 : Int32)), (.ref b2)])) _
      refine AF.ldJ X117 hx hZ e117 G116 (by decide : own_in (0 : Int32) 3) (g := (mkF m 236 #[.val (.long q0), .second, .val (.long q1), .second, .val (.long q2), .second, .val (.long q3), .second, .val (.int p4), .val (.int p5), .val (.int (3 : Int32)), .val (.int (q3.toInt32)), .val (.int v1), .val (.ref b2), .val (.ref b9), .val (.ref b16), .val (.ref b102), .val (.long v118), .second, .val (.long (v119 + (q2 * (p4.toInt64)))), .second, .val (.int v125), .unset] [(.int (0 : Int32)), (.ref b2)])) rfl rfl (hb hby at_236) _ ?_
      show Steps p.tables e below (T117.setTop (mkF m 237 #[.val (.long q0), .second, .val (.long q1), .second, .val (.long q2), .second, .val (.long q3), .second, .val (.int p4), .val (.int p5), .val (.int (3 : Int32)), .val (.int (q3.toInt32)), .val (.int v1), .val (.ref b2), .val (.ref b9), .val (.ref b16), .val (.ref b102), .val (.long v118), .second, .val (.long (v119 + (q2 * (p4.toInt64)))), .second, .val (.int v125), .unset] [(.long (f8 0))])) _
      refine XS.lloadN X117.here hx rfl (hb hby at_237) rfl ?_
      show Steps p.tables e below (T117.setTop (mkF m 238 #[.val (.long q0), .second, .val (.long q1), .second, .val (.long q2), .second, .val (.long q3), .second, .val (.int p4), .val (.int p5), .val (.int (3 : Int32)), .val (.int (q3.toInt32)), .val (.int v1), .val (.ref b2), .val (.ref b9), .val (.ref b16), .val (.ref b102), .val (.long v118), .second, .val (.long (v119 + (q2 * (p4.toInt64)))), .second, .val (.int v125), .unset] [(.long q0), (.long (f8 0))])) _
      refine XS.lcmp X117.here hx rfl (hb hby at_238) rfl ?_
      show Steps p.tables e below (T117.setTop (mkF m 239 #[.val (.long q0), .second, .val (.long q1), .second, .val (.long q2), .second, .val (.long q3), .second, .val (.int p4), .val (.int p5), .val (.int (3 : Int32)), .val (.int (q3.toInt32)), .val (.int v1), .val (.ref b2), .val (.ref b9), .val (.ref b16), .val (.ref b102), .val (.long v118), .second, .val (.long (v119 + (q2 * (p4.toInt64)))), .second, .val (.int v125), .unset] [(.int (lcmpW (f8 0) q0))])) _
      refine own_dia (F := (mkF m 266 #[.val (.long q0), .second, .val (.long q1), .second, .val (.long q2), .second, .val (.long q3), .second, .val (.int p4), .val (.int p5), .val (.int (3 : Int32)), .val (.int (q3.toInt32)), .val (.int v1), .val (.ref b2), .val (.ref b9), .val (.ref b16), .val (.ref b102), .val (.long v118), .second, .val (.long (v119 + (q2 * (p4.toInt64)))), .second, .val (.int v125), .unset] [(.int v131)])) ?_ ?_
      · intro kt
        by_cases hc126 : (f8 0) = q0
        · show Steps p.tables e below (T117.setTop (mkF m 239 #[.val (.long q0), .second, .val (.long q1), .second, .val (.long q2), .second, .val (.long q3), .second, .val (.int p4), .val (.int p5), .val (.int (3 : Int32)), .val (.int (q3.toInt32)), .val (.int v1), .val (.ref b2), .val (.ref b9), .val (.ref b16), .val (.ref b102), .val (.long v118), .second, .val (.long (v119 + (q2 * (p4.toInt64)))), .second, .val (.int v125), .unset] [(.int (lcmpW (f8 0) q0))])) _
          refine XS.ifNo X117.here hx rfl (hb hby at_239) rfl ((if0 _ _).trans (teq ((lw_eq (f8 0) q0).mpr hc126)).2) ?_
          show Steps p.tables e below (T117.setTop (mkF m 242 #[.val (.long q0), .second, .val (.long q1), .second, .val (.long q2), .second, .val (.long q3), .second, .val (.int p4), .val (.int p5), .val (.int (3 : Int32)), .val (.int (q3.toInt32)), .val (.int v1), .val (.ref b2), .val (.ref b9), .val (.ref b16), .val (.ref b102), .val (.long v118), .second, .val (.long (v119 + (q2 * (p4.toInt64)))), .second, .val (.int v125), .unset] [])) _
          refine XS.aload X117.here hx rfl (hb hby at_242) rfl rfl ?_
          show Steps p.tables e below (T117.setTop (mkF m 244 #[.val (.long q0), .second, .val (.long q1), .second, .val (.long q2), .second, .val (.long q3), .second, .val (.int p4), .val (.int p5), .val (.int (3 : Int32)), .val (.int (q3.toInt32)), .val (.int v1), .val (.ref b2), .val (.ref b9), .val (.ref b16), .val (.ref b102), .val (.long v118), .second, .val (.long (v119 + (q2 * (p4.toInt64)))), .second, .val (.int v125), .unset] [(.ref b2)])) _
          refine XS.iconst X117.here hx rfl (hb hby at_244) ?_
          show Steps p.tables e below (T117.setTop (mkF m 245 #[.val (.long q0), .second, .val (.long q1), .second, .val (.long q2), .second, .val (.long q3), .second, .val (.int p4), .val (.int p5), .val (.int (3 : Int32)), .val (.int (q3.toInt32)), .val (.int v1), .val (.ref b2), .val (.ref b9), .val (.ref b16), .val (.ref b102), .val (.long v118), .second, .val (.long (v119 + (q2 * (p4.toInt64)))), .second, .val (.int v125), .unset] [(.int (1 : Int32)), (.ref b2)])) _
          refine AF.ldJ X117 hx hZ e117 G116 (by decide : own_in (1 : Int32) 3) (g := (mkF m 245 #[.val (.long q0), .second, .val (.long q1), .second, .val (.long q2), .second, .val (.long q3), .second, .val (.int p4), .val (.int p5), .val (.int (3 : Int32)), .val (.int (q3.toInt32)), .val (.int v1), .val (.ref b2), .val (.ref b9), .val (.ref b16), .val (.ref b102), .val (.long v118), .second, .val (.long (v119 + (q2 * (p4.toInt64)))), .second, .val (.int v125), .unset] [(.int (1 : Int32)), (.ref b2)])) rfl rfl (hb hby at_245) _ ?_
          show Steps p.tables e below (T117.setTop (mkF m 246 #[.val (.long q0), .second, .val (.long q1), .second, .val (.long q2), .second, .val (.long q3), .second, .val (.int p4), .val (.int p5), .val (.int (3 : Int32)), .val (.int (q3.toInt32)), .val (.int v1), .val (.ref b2), .val (.ref b9), .val (.ref b16), .val (.ref b102), .val (.long v118), .second, .val (.long (v119 + (q2 * (p4.toInt64)))), .second, .val (.int v125), .unset] [(.long (f8 1))])) _
          refine XS.lloadN X117.here hx rfl (hb hby at_246) rfl ?_
          show Steps p.tables e below (T117.setTop (mkF m 247 #[.val (.long q0), .second, .val (.long q1), .second, .val (.long q2), .second, .val (.long q3), .second, .val (.int p4), .val (.int p5), .val (.int (3 : Int32)), .val (.int (q3.toInt32)), .val (.int v1), .val (.ref b2), .val (.ref b9), .val (.ref b16), .val (.ref b102), .val (.long v118), .second, .val (.long (v119 + (q2 * (p4.toInt64)))), .second, .val (.int v125), .unset] [(.long q1), (.long (f8 1))])) _
          refine XS.lcmp X117.here hx rfl (hb hby at_247) rfl ?_
          show Steps p.tables e below (T117.setTop (mkF m 248 #[.val (.long q0), .second, .val (.long q1), .second, .val (.long q2), .second, .val (.long q3), .second, .val (.int p4), .val (.int p5), .val (.int (3 : Int32)), .val (.int (q3.toInt32)), .val (.int v1), .val (.ref b2), .val (.ref b9), .val (.ref b16), .val (.ref b102), .val (.long v118), .second, .val (.long (v119 + (q2 * (p4.toInt64)))), .second, .val (.int v125), .unset] [(.int (lcmpW (f8 1) q1))])) _
          refine own_dia (F := (mkF m 266 #[.val (.long q0), .second, .val (.long q1), .second, .val (.long q2), .second, .val (.long q3), .second, .val (.int p4), .val (.int p5), .val (.int (3 : Int32)), .val (.int (q3.toInt32)), .val (.int v1), .val (.ref b2), .val (.ref b9), .val (.ref b16), .val (.ref b102), .val (.long v118), .second, .val (.long (v119 + (q2 * (p4.toInt64)))), .second, .val (.int v125), .unset] [(.int v130)])) ?_ ?_
          · intro kt
            by_cases hc127 : (f8 1) = q1
            · show Steps p.tables e below (T117.setTop (mkF m 248 #[.val (.long q0), .second, .val (.long q1), .second, .val (.long q2), .second, .val (.long q3), .second, .val (.int p4), .val (.int p5), .val (.int (3 : Int32)), .val (.int (q3.toInt32)), .val (.int v1), .val (.ref b2), .val (.ref b9), .val (.ref b16), .val (.ref b102), .val (.long v118), .second, .val (.long (v119 + (q2 * (p4.toInt64)))), .second, .val (.int v125), .unset] [(.int (lcmpW (f8 1) q1))])) _
              refine XS.ifNo X117.here hx rfl (hb hby at_248) rfl ((if0 _ _).trans (teq ((lw_eq (f8 1) q1).mpr hc127)).2) ?_
              show Steps p.tables e below (T117.setTop (mkF m 251 #[.val (.long q0), .second, .val (.long q1), .second, .val (.long q2), .second, .val (.long q3), .second, .val (.int p4), .val (.int p5), .val (.int (3 : Int32)), .val (.int (q3.toInt32)), .val (.int v1), .val (.ref b2), .val (.ref b9), .val (.ref b16), .val (.ref b102), .val (.long v118), .second, .val (.long (v119 + (q2 * (p4.toInt64)))), .second, .val (.int v125), .unset] [])) _
              refine XS.aload X117.here hx rfl (hb hby at_251) rfl rfl ?_
              show Steps p.tables e below (T117.setTop (mkF m 253 #[.val (.long q0), .second, .val (.long q1), .second, .val (.long q2), .second, .val (.long q3), .second, .val (.int p4), .val (.int p5), .val (.int (3 : Int32)), .val (.int (q3.toInt32)), .val (.int v1), .val (.ref b2), .val (.ref b9), .val (.ref b16), .val (.ref b102), .val (.long v118), .second, .val (.long (v119 + (q2 * (p4.toInt64)))), .second, .val (.int v125), .unset] [(.ref b2)])) _
              refine XS.iconst X117.here hx rfl (hb hby at_253) ?_
              show Steps p.tables e below (T117.setTop (mkF m 254 #[.val (.long q0), .second, .val (.long q1), .second, .val (.long q2), .second, .val (.long q3), .second, .val (.int p4), .val (.int p5), .val (.int (3 : Int32)), .val (.int (q3.toInt32)), .val (.int v1), .val (.ref b2), .val (.ref b9), .val (.ref b16), .val (.ref b102), .val (.long v118), .second, .val (.long (v119 + (q2 * (p4.toInt64)))), .second, .val (.int v125), .unset] [(.int (2 : Int32)), (.ref b2)])) _
              refine AF.ldJ X117 hx hZ e117 G116 (by decide : own_in (2 : Int32) 3) (g := (mkF m 254 #[.val (.long q0), .second, .val (.long q1), .second, .val (.long q2), .second, .val (.long q3), .second, .val (.int p4), .val (.int p5), .val (.int (3 : Int32)), .val (.int (q3.toInt32)), .val (.int v1), .val (.ref b2), .val (.ref b9), .val (.ref b16), .val (.ref b102), .val (.long v118), .second, .val (.long (v119 + (q2 * (p4.toInt64)))), .second, .val (.int v125), .unset] [(.int (2 : Int32)), (.ref b2)])) rfl rfl (hb hby at_254) _ ?_
              show Steps p.tables e below (T117.setTop (mkF m 255 #[.val (.long q0), .second, .val (.long q1), .second, .val (.long q2), .second, .val (.long q3), .second, .val (.int p4), .val (.int p5), .val (.int (3 : Int32)), .val (.int (q3.toInt32)), .val (.int v1), .val (.ref b2), .val (.ref b9), .val (.ref b16), .val (.ref b102), .val (.long v118), .second, .val (.long (v119 + (q2 * (p4.toInt64)))), .second, .val (.int v125), .unset] [(.long (f8 2))])) _
              refine XS.lload X117.here hx rfl (hb hby at_255) rfl ?_
              show Steps p.tables e below (T117.setTop (mkF m 257 #[.val (.long q0), .second, .val (.long q1), .second, .val (.long q2), .second, .val (.long q3), .second, .val (.int p4), .val (.int p5), .val (.int (3 : Int32)), .val (.int (q3.toInt32)), .val (.int v1), .val (.ref b2), .val (.ref b9), .val (.ref b16), .val (.ref b102), .val (.long v118), .second, .val (.long (v119 + (q2 * (p4.toInt64)))), .second, .val (.int v125), .unset] [(.long q2), (.long (f8 2))])) _
              refine XS.lcmp X117.here hx rfl (hb hby at_257) rfl ?_
              show Steps p.tables e below (T117.setTop (mkF m 258 #[.val (.long q0), .second, .val (.long q1), .second, .val (.long q2), .second, .val (.long q3), .second, .val (.int p4), .val (.int p5), .val (.int (3 : Int32)), .val (.int (q3.toInt32)), .val (.int v1), .val (.ref b2), .val (.ref b9), .val (.ref b16), .val (.ref b102), .val (.long v118), .second, .val (.long (v119 + (q2 * (p4.toInt64)))), .second, .val (.int v125), .unset] [(.int (lcmpW (f8 2) q2))])) _
              refine own_dia (F := (mkF m 266 #[.val (.long q0), .second, .val (.long q1), .second, .val (.long q2), .second, .val (.long q3), .second, .val (.int p4), .val (.int p5), .val (.int (3 : Int32)), .val (.int (q3.toInt32)), .val (.int v1), .val (.ref b2), .val (.ref b9), .val (.ref b16), .val (.ref b102), .val (.long v118), .second, .val (.long (v119 + (q2 * (p4.toInt64)))), .second, .val (.int v125), .unset] [(.int v129)])) ?_ ?_
              · intro kt
                by_cases hc128 : (f8 2) = q2
                · show Steps p.tables e below (T117.setTop (mkF m 258 #[.val (.long q0), .second, .val (.long q1), .second, .val (.long q2), .second, .val (.long q3), .second, .val (.int p4), .val (.int p5), .val (.int (3 : Int32)), .val (.int (q3.toInt32)), .val (.int v1), .val (.ref b2), .val (.ref b9), .val (.ref b16), .val (.ref b102), .val (.long v118), .second, .val (.long (v119 + (q2 * (p4.toInt64)))), .second, .val (.int v125), .unset] [(.int (lcmpW (f8 2) q2))])) _
                  refine XS.ifNo X117.here hx rfl (hb hby at_258) rfl ((if0 _ _).trans (teq ((lw_eq (f8 2) q2).mpr hc128)).2) ?_
                  show Steps p.tables e below (T117.setTop (mkF m 261 #[.val (.long q0), .second, .val (.long q1), .second, .val (.long q2), .second, .val (.long q3), .second, .val (.int p4), .val (.int p5), .val (.int (3 : Int32)), .val (.int (q3.toInt32)), .val (.int v1), .val (.ref b2), .val (.ref b9), .val (.ref b16), .val (.ref b102), .val (.long v118), .second, .val (.long (v119 + (q2 * (p4.toInt64)))), .second, .val (.int v125), .unset] [])) _
                  refine XS.iconst X117.here hx rfl (hb hby at_261) ?_
                  show Steps p.tables e below (T117.setTop (mkF m 262 #[.val (.long q0), .second, .val (.long q1), .second, .val (.long q2), .second, .val (.long q3), .second, .val (.int p4), .val (.int p5), .val (.int (3 : Int32)), .val (.int (q3.toInt32)), .val (.int v1), .val (.ref b2), .val (.ref b9), .val (.ref b16), .val (.ref b102), .val (.long v118), .second, .val (.long (v119 + (q2 * (p4.toInt64)))), .second, .val (.int v125), .unset] [(.int (1 : Int32))])) _
                  refine XS.goto X117.here hx rfl (pc0 := 262) (pc' := 266) rfl (hb hby at_262) (by decide) (by decide) ?_
                  exact castTop (by rw [hv129, if_pos hc128] <;> rfl) kt
                · show Steps p.tables e below (T117.setTop (mkF m 258 #[.val (.long q0), .second, .val (.long q1), .second, .val (.long q2), .second, .val (.long q3), .second, .val (.int p4), .val (.int p5), .val (.int (3 : Int32)), .val (.int (q3.toInt32)), .val (.int v1), .val (.ref b2), .val (.ref b9), .val (.ref b16), .val (.ref b102), .val (.long v118), .second, .val (.long (v119 + (q2 * (p4.toInt64)))), .second, .val (.int v125), .unset] [(.int (lcmpW (f8 2) q2))])) _
                  refine XS.ifYes X117.here hx rfl (pc0 := 258) (pc' := 265) rfl (hb hby at_258) rfl ((if0 _ _).trans (feq (fun q => hc128 ((lw_eq (f8 2) q2).mp q))).2) (by decide) (by decide) ?_
                  show Steps p.tables e below (T117.setTop (mkF m 265 #[.val (.long q0), .second, .val (.long q1), .second, .val (.long q2), .second, .val (.long q3), .second, .val (.int p4), .val (.int p5), .val (.int (3 : Int32)), .val (.int (q3.toInt32)), .val (.int v1), .val (.ref b2), .val (.ref b9), .val (.ref b16), .val (.ref b102), .val (.long v118), .second, .val (.long (v119 + (q2 * (p4.toInt64)))), .second, .val (.int v125), .unset] [])) _
                  refine XS.iconst X117.here hx rfl (hb hby at_265) ?_
                  exact castTop (by rw [hv129, if_neg hc128] <;> rfl) kt
              exact castTop (by rw [hv130, if_pos hc127] <;> rfl) kt
            · show Steps p.tables e below (T117.setTop (mkF m 248 #[.val (.long q0), .second, .val (.long q1), .second, .val (.long q2), .second, .val (.long q3), .second, .val (.int p4), .val (.int p5), .val (.int (3 : Int32)), .val (.int (q3.toInt32)), .val (.int v1), .val (.ref b2), .val (.ref b9), .val (.ref b16), .val (.ref b102), .val (.long v118), .second, .val (.long (v119 + (q2 * (p4.toInt64)))), .second, .val (.int v125), .unset] [(.int (lcmpW (f8 1) q1))])) _
              refine XS.ifYes X117.here hx rfl (pc0 := 248) (pc' := 265) rfl (hb hby at_248) rfl ((if0 _ _).trans (feq (fun q => hc127 ((lw_eq (f8 1) q1).mp q))).2) (by decide) (by decide) ?_
              show Steps p.tables e below (T117.setTop (mkF m 265 #[.val (.long q0), .second, .val (.long q1), .second, .val (.long q2), .second, .val (.long q3), .second, .val (.int p4), .val (.int p5), .val (.int (3 : Int32)), .val (.int (q3.toInt32)), .val (.int v1), .val (.ref b2), .val (.ref b9), .val (.ref b16), .val (.ref b102), .val (.long v118), .second, .val (.long (v119 + (q2 * (p4.toInt64)))), .second, .val (.int v125), .unset] [])) _
              refine XS.iconst X117.here hx rfl (hb hby at_265) ?_
              exact castTop (by rw [hv130, if_neg hc127] <;> rfl) kt
          exact castTop (by rw [hv131, if_pos hc126] <;> rfl) kt
        · show Steps p.tables e below (T117.setTop (mkF m 239 #[.val (.long q0), .second, .val (.long q1), .second, .val (.long q2), .second, .val (.long q3), .second, .val (.int p4), .val (.int p5), .val (.int (3 : Int32)), .val (.int (q3.toInt32)), .val (.int v1), .val (.ref b2), .val (.ref b9), .val (.ref b16), .val (.ref b102), .val (.long v118), .second, .val (.long (v119 + (q2 * (p4.toInt64)))), .second, .val (.int v125), .unset] [(.int (lcmpW (f8 0) q0))])) _
          refine XS.ifYes X117.here hx rfl (pc0 := 239) (pc' := 265) rfl (hb hby at_239) rfl ((if0 _ _).trans (feq (fun q => hc126 ((lw_eq (f8 0) q0).mp q))).2) (by decide) (by decide) ?_
          show Steps p.tables e below (T117.setTop (mkF m 265 #[.val (.long q0), .second, .val (.long q1), .second, .val (.long q2), .second, .val (.long q3), .second, .val (.int p4), .val (.int p5), .val (.int (3 : Int32)), .val (.int (q3.toInt32)), .val (.int v1), .val (.ref b2), .val (.ref b9), .val (.ref b16), .val (.ref b102), .val (.long v118), .second, .val (.long (v119 + (q2 * (p4.toInt64)))), .second, .val (.int v125), .unset] [])) _
          refine XS.iconst X117.here hx rfl (hb hby at_265) ?_
          exact castTop (by rw [hv131, if_neg hc126] <;> rfl) kt
      show Steps p.tables e below (T117.setTop (mkF m 266 #[.val (.long q0), .second, .val (.long q1), .second, .val (.long q2), .second, .val (.long q3), .second, .val (.int p4), .val (.int p5), .val (.int (3 : Int32)), .val (.int (q3.toInt32)), .val (.int v1), .val (.ref b2), .val (.ref b9), .val (.ref b16), .val (.ref b102), .val (.long v118), .second, .val (.long (v119 + (q2 * (p4.toInt64)))), .second, .val (.int v125), .unset] [(.int v131)])) _
      refine XS.istore X117.here hx rfl (hb hby at_266) rfl (l' := #[.val (.long q0), .second, .val (.long q1), .second, .val (.long q2), .second, .val (.long q3), .second, .val (.int p4), .val (.int p5), .val (.int (3 : Int32)), .val (.int (q3.toInt32)), .val (.int v1), .val (.ref b2), .val (.ref b9), .val (.ref b16), .val (.ref b102), .val (.long v118), .second, .val (.long (v119 + (q2 * (p4.toInt64)))), .second, .val (.int v125), .val (.int v131)]) rfl ?_
      show Steps p.tables e below (T117.setTop (mkF m 268 #[.val (.long q0), .second, .val (.long q1), .second, .val (.long q2), .second, .val (.long q3), .second, .val (.int p4), .val (.int p5), .val (.int (3 : Int32)), .val (.int (q3.toInt32)), .val (.int v1), .val (.ref b2), .val (.ref b9), .val (.ref b16), .val (.ref b102), .val (.long v118), .second, .val (.long (v119 + (q2 * (p4.toInt64)))), .second, .val (.int v125), .val (.int v131)] [])) _
      refine XS.lload X117.here hx rfl (hb hby at_268) rfl ?_
      show Steps p.tables e below (T117.setTop (mkF m 270 #[.val (.long q0), .second, .val (.long q1), .second, .val (.long q2), .second, .val (.long q3), .second, .val (.int p4), .val (.int p5), .val (.int (3 : Int32)), .val (.int (q3.toInt32)), .val (.int v1), .val (.ref b2), .val (.ref b9), .val (.ref b16), .val (.ref b102), .val (.long v118), .second, .val (.long (v119 + (q2 * (p4.toInt64)))), .second, .val (.int v125), .val (.int v131)] [(.long v118)])) _
      refine XS.lload X117.here hx rfl (hb hby at_270) rfl ?_
      show Steps p.tables e below (T117.setTop (mkF m 272 #[.val (.long q0), .second, .val (.long q1), .second, .val (.long q2), .second, .val (.long q3), .second, .val (.int p4), .val (.int p5), .val (.int (3 : Int32)), .val (.int (q3.toInt32)), .val (.int v1), .val (.ref b2), .val (.ref b9), .val (.ref b16), .val (.ref b102), .val (.long v118), .second, .val (.long (v119 + (q2 * (p4.toInt64)))), .second, .val (.int v125), .val (.int v131)] [(.long (v119 + (q2 * (p4.toInt64)))), (.long v118)])) _
      refine XS.lcmp X117.here hx rfl (hb hby at_272) rfl ?_
      show Steps p.tables e below (T117.setTop (mkF m 273 #[.val (.long q0), .second, .val (.long q1), .second, .val (.long q2), .second, .val (.long q3), .second, .val (.int p4), .val (.int p5), .val (.int (3 : Int32)), .val (.int (q3.toInt32)), .val (.int v1), .val (.ref b2), .val (.ref b9), .val (.ref b16), .val (.ref b102), .val (.long v118), .second, .val (.long (v119 + (q2 * (p4.toInt64)))), .second, .val (.int v125), .val (.int v131)] [(.int (lcmpW v118 (v119 + (q2 * (p4.toInt64)))))])) _
      refine own_dia (F := (mkF m 291 #[.val (.long q0), .second, .val (.long q1), .second, .val (.long q2), .second, .val (.long q3), .second, .val (.int p4), .val (.int p5), .val (.int (3 : Int32)), .val (.int (q3.toInt32)), .val (.int v1), .val (.ref b2), .val (.ref b9), .val (.ref b16), .val (.ref b102), .val (.long v118), .second, .val (.long (v119 + (q2 * (p4.toInt64)))), .second, .val (.int v125), .val (.int v131)] [(.int v137)])) ?_ ?_
      · intro kt
        by_cases hc132 : v118 = (v119 + (q2 * (p4.toInt64)))
        · show Steps p.tables e below (T117.setTop (mkF m 273 #[.val (.long q0), .second, .val (.long q1), .second, .val (.long q2), .second, .val (.long q3), .second, .val (.int p4), .val (.int p5), .val (.int (3 : Int32)), .val (.int (q3.toInt32)), .val (.int v1), .val (.ref b2), .val (.ref b9), .val (.ref b16), .val (.ref b102), .val (.long v118), .second, .val (.long (v119 + (q2 * (p4.toInt64)))), .second, .val (.int v125), .val (.int v131)] [(.int (lcmpW v118 (v119 + (q2 * (p4.toInt64)))))])) _
          refine XS.ifNo X117.here hx rfl (hb hby at_273) rfl ((if0 _ _).trans (teq ((lw_eq v118 (v119 + (q2 * (p4.toInt64)))).mpr hc132)).2) ?_
          show Steps p.tables e below (T117.setTop (mkF m 276 #[.val (.long q0), .second, .val (.long q1), .second, .val (.long q2), .second, .val (.long q3), .second, .val (.int p4), .val (.int p5), .val (.int (3 : Int32)), .val (.int (q3.toInt32)), .val (.int v1), .val (.ref b2), .val (.ref b9), .val (.ref b16), .val (.ref b102), .val (.long v118), .second, .val (.long (v119 + (q2 * (p4.toInt64)))), .second, .val (.int v125), .val (.int v131)] [])) _
          refine XS.iload X117.here hx rfl (hb hby at_276) rfl ?_
          show Steps p.tables e below (T117.setTop (mkF m 278 #[.val (.long q0), .second, .val (.long q1), .second, .val (.long q2), .second, .val (.long q3), .second, .val (.int p4), .val (.int p5), .val (.int (3 : Int32)), .val (.int (q3.toInt32)), .val (.int v1), .val (.ref b2), .val (.ref b9), .val (.ref b16), .val (.ref b102), .val (.long v118), .second, .val (.long (v119 + (q2 * (p4.toInt64)))), .second, .val (.int v125), .val (.int v131)] [(.int v125)])) _
          refine own_dia (F := (mkF m 291 #[.val (.long q0), .second, .val (.long q1), .second, .val (.long q2), .second, .val (.long q3), .second, .val (.int p4), .val (.int p5), .val (.int (3 : Int32)), .val (.int (q3.toInt32)), .val (.int v1), .val (.ref b2), .val (.ref b9), .val (.ref b16), .val (.ref b102), .val (.long v118), .second, .val (.long (v119 + (q2 * (p4.toInt64)))), .second, .val (.int v125), .val (.int v131)] [(.int v136)])) ?_ ?_
          · intro kt
            by_cases hc133 : v125 = (0 : Int32)
            · show Steps p.tables e below (T117.setTop (mkF m 278 #[.val (.long q0), .second, .val (.long q1), .second, .val (.long q2), .second, .val (.long q3), .second, .val (.int p4), .val (.int p5), .val (.int (3 : Int32)), .val (.int (q3.toInt32)), .val (.int v1), .val (.ref b2), .val (.ref b9), .val (.ref b16), .val (.ref b102), .val (.long v118), .second, .val (.long (v119 + (q2 * (p4.toInt64)))), .second, .val (.int v125), .val (.int v131)] [(.int v125)])) _
              refine XS.ifYes X117.here hx rfl (pc0 := 278) (pc' := 290) rfl (hb hby at_278) rfl ((if0 _ _).trans (teq hc133).1) (by decide) (by decide) ?_
              show Steps p.tables e below (T117.setTop (mkF m 290 #[.val (.long q0), .second, .val (.long q1), .second, .val (.long q2), .second, .val (.long q3), .second, .val (.int p4), .val (.int p5), .val (.int (3 : Int32)), .val (.int (q3.toInt32)), .val (.int v1), .val (.ref b2), .val (.ref b9), .val (.ref b16), .val (.ref b102), .val (.long v118), .second, .val (.long (v119 + (q2 * (p4.toInt64)))), .second, .val (.int v125), .val (.int v131)] [])) _
              refine XS.iconst X117.here hx rfl (hb hby at_290) ?_
              exact castTop (by rw [hv136, if_pos hc133] <;> rfl) kt
            · show Steps p.tables e below (T117.setTop (mkF m 278 #[.val (.long q0), .second, .val (.long q1), .second, .val (.long q2), .second, .val (.long q3), .second, .val (.int p4), .val (.int p5), .val (.int (3 : Int32)), .val (.int (q3.toInt32)), .val (.int v1), .val (.ref b2), .val (.ref b9), .val (.ref b16), .val (.ref b102), .val (.long v118), .second, .val (.long (v119 + (q2 * (p4.toInt64)))), .second, .val (.int v125), .val (.int v131)] [(.int v125)])) _
              refine XS.ifNo X117.here hx rfl (hb hby at_278) rfl ((if0 _ _).trans (feq hc133).1) ?_
              show Steps p.tables e below (T117.setTop (mkF m 281 #[.val (.long q0), .second, .val (.long q1), .second, .val (.long q2), .second, .val (.long q3), .second, .val (.int p4), .val (.int p5), .val (.int (3 : Int32)), .val (.int (q3.toInt32)), .val (.int v1), .val (.ref b2), .val (.ref b9), .val (.ref b16), .val (.ref b102), .val (.long v118), .second, .val (.long (v119 + (q2 * (p4.toInt64)))), .second, .val (.int v125), .val (.int v131)] [])) _
              refine XS.iload X117.here hx rfl (hb hby at_281) rfl ?_
              show Steps p.tables e below (T117.setTop (mkF m 283 #[.val (.long q0), .second, .val (.long q1), .second, .val (.long q2), .second, .val (.long q3), .second, .val (.int p4), .val (.int p5), .val (.int (3 : Int32)), .val (.int (q3.toInt32)), .val (.int v1), .val (.ref b2), .val (.ref b9), .val (.ref b16), .val (.ref b102), .val (.long v118), .second, .val (.long (v119 + (q2 * (p4.toInt64)))), .second, .val (.int v125), .val (.int v131)] [(.int v131)])) _
              refine own_dia (F := (mkF m 291 #[.val (.long q0), .second, .val (.long q1), .second, .val (.long q2), .second, .val (.long q3), .second, .val (.int p4), .val (.int p5), .val (.int (3 : Int32)), .val (.int (q3.toInt32)), .val (.int v1), .val (.ref b2), .val (.ref b9), .val (.ref b16), .val (.ref b102), .val (.long v118), .second, .val (.long (v119 + (q2 * (p4.toInt64)))), .second, .val (.int v125), .val (.int v131)] [(.int v135)])) ?_ ?_
              · intro kt
                by_cases hc134 : v131 = (0 : Int32)
                · show Steps p.tables e below (T117.setTop (mkF m 283 #[.val (.long q0), .second, .val (.long q1), .second, .val (.long q2), .second, .val (.long q3), .second, .val (.int p4), .val (.int p5), .val (.int (3 : Int32)), .val (.int (q3.toInt32)), .val (.int v1), .val (.ref b2), .val (.ref b9), .val (.ref b16), .val (.ref b102), .val (.long v118), .second, .val (.long (v119 + (q2 * (p4.toInt64)))), .second, .val (.int v125), .val (.int v131)] [(.int v131)])) _
                  refine XS.ifYes X117.here hx rfl (pc0 := 283) (pc' := 290) rfl (hb hby at_283) rfl ((if0 _ _).trans (teq hc134).1) (by decide) (by decide) ?_
                  show Steps p.tables e below (T117.setTop (mkF m 290 #[.val (.long q0), .second, .val (.long q1), .second, .val (.long q2), .second, .val (.long q3), .second, .val (.int p4), .val (.int p5), .val (.int (3 : Int32)), .val (.int (q3.toInt32)), .val (.int v1), .val (.ref b2), .val (.ref b9), .val (.ref b16), .val (.ref b102), .val (.long v118), .second, .val (.long (v119 + (q2 * (p4.toInt64)))), .second, .val (.int v125), .val (.int v131)] [])) _
                  refine XS.iconst X117.here hx rfl (hb hby at_290) ?_
                  exact castTop (by rw [hv135, if_pos hc134] <;> rfl) kt
                · show Steps p.tables e below (T117.setTop (mkF m 283 #[.val (.long q0), .second, .val (.long q1), .second, .val (.long q2), .second, .val (.long q3), .second, .val (.int p4), .val (.int p5), .val (.int (3 : Int32)), .val (.int (q3.toInt32)), .val (.int v1), .val (.ref b2), .val (.ref b9), .val (.ref b16), .val (.ref b102), .val (.long v118), .second, .val (.long (v119 + (q2 * (p4.toInt64)))), .second, .val (.int v125), .val (.int v131)] [(.int v131)])) _
                  refine XS.ifNo X117.here hx rfl (hb hby at_283) rfl ((if0 _ _).trans (feq hc134).1) ?_
                  show Steps p.tables e below (T117.setTop (mkF m 286 #[.val (.long q0), .second, .val (.long q1), .second, .val (.long q2), .second, .val (.long q3), .second, .val (.int p4), .val (.int p5), .val (.int (3 : Int32)), .val (.int (q3.toInt32)), .val (.int v1), .val (.ref b2), .val (.ref b9), .val (.ref b16), .val (.ref b102), .val (.long v118), .second, .val (.long (v119 + (q2 * (p4.toInt64)))), .second, .val (.int v125), .val (.int v131)] [])) _
                  refine XS.iconst X117.here hx rfl (hb hby at_286) ?_
                  show Steps p.tables e below (T117.setTop (mkF m 287 #[.val (.long q0), .second, .val (.long q1), .second, .val (.long q2), .second, .val (.long q3), .second, .val (.int p4), .val (.int p5), .val (.int (3 : Int32)), .val (.int (q3.toInt32)), .val (.int v1), .val (.ref b2), .val (.ref b9), .val (.ref b16), .val (.ref b102), .val (.long v118), .second, .val (.long (v119 + (q2 * (p4.toInt64)))), .second, .val (.int v125), .val (.int v131)] [(.int (1 : Int32))])) _
                  refine XS.goto X117.here hx rfl (pc0 := 287) (pc' := 291) rfl (hb hby at_287) (by decide) (by decide) ?_
                  exact castTop (by rw [hv135, if_neg hc134] <;> rfl) kt
              exact castTop (by rw [hv136, if_neg hc133] <;> rfl) kt
          exact castTop (by rw [hv137, if_pos hc132] <;> rfl) kt
        · show Steps p.tables e below (T117.setTop (mkF m 273 #[.val (.long q0), .second, .val (.long q1), .second, .val (.long q2), .second, .val (.long q3), .second, .val (.int p4), .val (.int p5), .val (.int (3 : Int32)), .val (.int (q3.toInt32)), .val (.int v1), .val (.ref b2), .val (.ref b9), .val (.ref b16), .val (.ref b102), .val (.long v118), .second, .val (.long (v119 + (q2 * (p4.toInt64)))), .second, .val (.int v125), .val (.int v131)] [(.int (lcmpW v118 (v119 + (q2 * (p4.toInt64)))))])) _
          refine XS.ifYes X117.here hx rfl (pc0 := 273) (pc' := 290) rfl (hb hby at_273) rfl ((if0 _ _).trans (feq (fun q => hc132 ((lw_eq v118 (v119 + (q2 * (p4.toInt64)))).mp q))).2) (by decide) (by decide) ?_
          show Steps p.tables e below (T117.setTop (mkF m 290 #[.val (.long q0), .second, .val (.long q1), .second, .val (.long q2), .second, .val (.long q3), .second, .val (.int p4), .val (.int p5), .val (.int (3 : Int32)), .val (.int (q3.toInt32)), .val (.int v1), .val (.ref b2), .val (.ref b9), .val (.ref b16), .val (.ref b102), .val (.long v118), .second, .val (.long (v119 + (q2 * (p4.toInt64)))), .second, .val (.int v125), .val (.int v131)] [])) _
          refine XS.iconst X117.here hx rfl (hb hby at_290) ?_
          exact castTop (by rw [hv137, if_neg hc132] <;> rfl) kt
      show Steps p.tables e below (T117.setTop (mkF m 291 #[.val (.long q0), .second, .val (.long q1), .second, .val (.long q2), .second, .val (.long q3), .second, .val (.int p4), .val (.int p5), .val (.int (3 : Int32)), .val (.int (q3.toInt32)), .val (.int v1), .val (.ref b2), .val (.ref b9), .val (.ref b16), .val (.ref b102), .val (.long v118), .second, .val (.long (v119 + (q2 * (p4.toInt64)))), .second, .val (.int v125), .val (.int v131)] [(.int v137)])) _
      exact retN X117 hx (t := .boolean) Bd.returns (by simp) (hb hby at_291) hr
    · show Q0 h0 n0 _ T117.heap _
      refine ⟨?_, N117⟩
      have hfin : (nar .boolean v137) = (1 : Int32) := by
        exact (own_law_3 q0 q1 q2 q3 p4 v1 f4 f6 f8 f106 f108 f110 v118 v119 v123 v124 v125 v129 v130 v131 v135 v136 v137 hv1 hf4 hf6 hf8 hf106 hf108 hf110 hv118 hv119 hv123 hv124 hv125 hv129 hv130 hv131 hv135 hv136 hv137)
      rw [hfin]
set_option maxRecDepth 65536 in
set_option maxHeartbeats 40000000 in
theorem comes_1 {Post : Tables → Env → Array Value → State → Outcome → State → Prop} (hpost : ∀ tb e args s v u, (limb_1_1.after args s (.returned v) u = true ∧ limb_1_2.after args s (.returned v) u = true ∧ True) → FrameEnd s (.returned v) u (Jvm.fieldLocs frame_1_writes args s ++ Jvm.arrayLocs frame_1_arrays args s ++ Jvm.staticLocs frame_1_statics s) 16 128 → Post tb e args s (.returned v) u) :
    ArmFor flags0 classFile x code maxLocals ret World_1 tables_1 room_1 Calls_1 rest_1 Pre_1 Post := by
  intro l hfl _ _ p e ha hc hk s m args below hf hA hF happ hP
  obtain ⟨hcalls, hrest, hpre⟩ := hP
  obtain ⟨-, -, -, hnamed, -, -, -, hat⟩ := (Spec.applies_iff hf).mp happ
  obtain ⟨hg, hn⟩ := and_e (Cond.before_iff.mp (show (Jvm.Cond.and given_1 narrow_1).before args s = true from hpre))
  obtain ⟨gg1, gg2⟩ := and_e hg
  obtain ⟨gg3, gg4⟩ := and_e gg2
  obtain ⟨gg5, gg6⟩ := and_e gg4
  obtain ⟨gg7, gg8⟩ := and_e gg6
  obtain ⟨gg9, gg10⟩ := and_e gg8
  obtain ⟨gg11, gg12⟩ := and_e gg10
  obtain ⟨w0, w1, w2, w3, w4, w5, rfl⟩ : ∃ w0 w1 w2 w3 w4 w5 : Value, args = #[w0, w1, w2, w3, w4, w5] := by
    have hs : args.size = 6 := by simpa [Cond.value, given_1] using gg1
    obtain ⟨L⟩ := args
    match L, hs with
    | [w0, w1, w2, w3, w4, w5], _ => exact ⟨w0, w1, w2, w3, w4, w5, rfl⟩
  have hw := fun d (hd : d ∈ tables_1) => atoms_spec (ws := Jvm.Cond.code x code maxLocals ret :: tables_1) hat d (List.mem_cons_of_mem _ hd)
  have hfit : Fit s := fun {y c} hc i hi => by
    obtain ⟨ha, rfl⟩ := Array.getElem?_eq_some_iff.mp hc
    have q := List.all_eq_true.mp ((Array.all_eq_true_iff_forall_mem.mp hF) _ (Array.getElem_mem ha)) i (List.mem_range.mpr hi)
    simpa [Array.getElem?_eq_getElem hi] using q
  obtain ⟨i0, ei0⟩ := isL_v gg3
  obtain rfl : w0 = (.long i0) := Option.some.inj ei0
  obtain ⟨i1, ei1⟩ := isL_v gg5
  obtain rfl : w1 = (.long i1) := Option.some.inj ei1
  obtain ⟨i2, ei2⟩ := isL_v gg7
  obtain rfl : w2 = (.long i2) := Option.some.inj ei2
  obtain ⟨i3, ei3⟩ := isL_v gg9
  obtain rfl : w3 = (.long i3) := Option.some.inj ei3
  obtain ⟨i4, ei4⟩ := is_v gg11
  obtain rfl : w4 = (.int i4) := Option.some.inj ei4
  obtain ⟨i5, ei5⟩ := is_v gg12
  obtain rfl : w5 = (.int i5) := Option.some.inj ei5
  obtain ⟨n, o, h1, h2, h3, _, L, rfl, ⟨rfl, N⟩, hq⟩ := rm0 l s _ hw tables_1 i0 i1 i2 i3 i4 i5  s.heap s.heap.size (Nat.le_refl _)  p e ha hc hk s m _ below hf ((Spec.applies_iff_loose hf).mp happ).1 ⟨rfl, State.Warmed39.refl s, rfl⟩ trivial
  refine ⟨n, _, h1, h2, h3, hpost _ _ _ _ _ _ ⟨Cond.after_iff.mpr rfl, Cond.after_iff.mpr (eq_i res_at (Term.int_eval (1)) rfl), trivial⟩ ⟨hq.1, hq.2.1, (hq.2.2.sift fun y hy => Or.inr (N y hy)).mono (by decide) (by decide)⟩⟩
theorem main_1_1 : Claimed_1_1 := comes_1 fun _ _ _ _ _ _ h hF => ⟨h.1, hF⟩
theorem main_1_2 : Claimed_1_2 := comes_1 fun _ _ _ _ _ _ h hF => ⟨h.2.1, hF⟩
end Jvm.Pilot.@@N@@
namespace Jvm.Pilot.@@N@@
open Jvm Jvm.ClassFile Sem Op Lib Jvm.Free Jvm.Stand Jvm.Pilot.@@N@@.Jvm.D
/-! MADE BY PROGRAM (witnessworld.py) out of the Statement's table words and the real class files: 11 classes; the members and pool entries that the words name. The judged class is class 1, her method 1. -/
namespace start1
open Jvm.ClassFile
def u (s : String) : CpInfo := .utf8 (stringToUtf16 s)
/-- a pool by its gaps: so many unusable entries, then the entry; so many at the end -/
def gap : Nat → List CpInfo → List CpInfo
  | 0, r => r
  | n + 1, r => .unusable :: gap n r
def poolList (es : List (Nat × CpInfo)) (last : Nat) : List CpInfo := es.foldr (fun e r => gap e.1 (e.2 :: r)) (gap last [])
def pool (es : List (Nat × CpInfo)) (last : Nat) : Array CpInfo := ⟨poolList es last⟩
def fileOf (pool : Array CpInfo) (this : Nat) (attrs : Array Attribute := #[]) (ms : Array MethodInfo := #[]) (fl : Nat := 33) (sup : Nat := 0) (ifs : Array Nat := #[]) (fds : Array FieldInfo := #[]) : ClassFile where
  minorVersion := 0
  majorVersion := 65
  constantPool := pool
  accessFlags := fl
  thisClass := this
  superClass := sup
  interfaces := ifs
  fields := fds
  methods := ms
  attributes := attrs
def plain (name : String) (sup : Option ClassId) : Class where
  name := name
  kind := .ordinary
  loader := none
  accessFlags := 33
  super := sup
  interfaces := #[]
  cf := none
  fields := #[]
  methods := #[]
  instanceTypes := #[]
  staticTypes := #[]
  resolved := #[]
  callSites := []
  init := .initialized
  statics := none
  mirror := none

def pool0 : Array CpInfo := pool [(5, u "<init>"), (0, u "()V"), (1, .class_ 10), (1, u "java/lang/Object")] 113

def k0c0 : Code := { maxStack := 0, maxLocals := 1, code := object_method_1_code, exceptionTable := #[], attributes := #[] }
def k0m0 : Method := { name := "<init>", desc := "()V", sig := { parameters := [], returnType := none }, accessFlags := 1, code := some k0c0 }
/-- java/lang/Object -/
def k0 : Class := { plain "java/lang/Object" none with
  accessFlags := 33
  interfaces := #[]
  cf := some (fileOf pool0 8 #[] #[{ accessFlags := 1, nameIndex := 5, descriptorIndex := 6, attributes := #[] }] 33 0 #[] #[])
  fields := #[]
  methods := #[k0m0]
  instanceTypes := #[]
  staticTypes := #[]
  resolved := Array.replicate 124 none
  statics := none }

def pool1 : Array CpInfo := pool [(2, .class_ 4), (1, u "java/lang/Object"), (0, u "<init>"), (0, u "()V"), (0, .class_ 8), (0, u "com/example/paperloom/paperloom/CountSearch$Mean"), (0, .methodref 7 10), (0, .nameAndType 5 11), (0, u "([J[J)V"), (0, .methodref 7 13), (0, .nameAndType 14 15), (0, u "offset"), (0, u "([I)J"), (0, .class_ 17), (0, u "com/example/paperloom/paperloom/MeanOffsetPinLaw"), (2, u "law"), (0, u "(JJJJII)Z")] 11

def k1m0 : Method := { name := "<init>", desc := "()V", sig := { parameters := [], returnType := none }, accessFlags := 1, code := none }
def k1c1 : Code := { maxStack := 6, maxLocals := 23, code := code, exceptionTable := #[], attributes := #[] }
def k1m1 : Method := { name := "law", desc := "(JJJJII)Z", sig := { parameters := [.long, .long, .long, .long, .int, .int], returnType := some .boolean }, accessFlags := 9, code := some k1c1 }
/-- com/example/paperloom/paperloom/MeanOffsetPinLaw -/
def k1 : Class := { plain "com/example/paperloom/paperloom/MeanOffsetPinLaw" (some 0) with
  accessFlags := 49
  interfaces := #[]
  cf := some (fileOf pool1 16 #[] #[{ accessFlags := 1, nameIndex := 5, descriptorIndex := 6, attributes := #[] }, { accessFlags := 9, nameIndex := 20, descriptorIndex := 21, attributes := #[] }] 49 2 #[] #[])
  fields := #[]
  methods := #[k1m0, k1m1]
  instanceTypes := #[]
  staticTypes := #[]
  resolved := Array.replicate 33 none
  statics := none }

def pool2 : Array CpInfo := pool [(1, .methodref 2 3), (0, .class_ 4), (0, .nameAndType 5 6), (0, u "com/example/paperloom/paperloom/CountSearch$Mean"), (0, u "<init>"), (0, u "([J[JJJ)V"), (0, .methodref 8 9), (0, .class_ 10), (0, .nameAndType 5 11), (0, u "java/lang/Object"), (0, u "()V"), (0, .fieldref 2 13), (0, .nameAndType 14 15), (0, u "offset"), (0, u "[J"), (0, .fieldref 2 17), (0, .nameAndType 18 15), (0, u "weight"), (0, .fieldref 2 20), (0, .nameAndType 21 22), (0, u "startOffset"), (0, u "J"), (0, .fieldref 2 24), (0, .nameAndType 25 22), (0, u "startWeight"), (17, u "([I)J"), (2, u "([J[J)V"), (14, .class_ 62), (0, u "com/example/paperloom/paperloom/CountSearch")] 2

def k2c0 : Code := { maxStack := 7, maxLocals := 3, code := prog_8_method_1_code, exceptionTable := #[], attributes := #[] }
def k2m0 : Method := { name := "<init>", desc := "([J[J)V", sig := { parameters := [(.array .long), (.array .long)], returnType := none }, accessFlags := 0, code := some k2c0 }
def k2c1 : Code := { maxStack := 3, maxLocals := 7, code := prog_8_method_2_code, exceptionTable := #[], attributes := #[] }
def k2m1 : Method := { name := "<init>", desc := "([J[JJJ)V", sig := { parameters := [(.array .long), (.array .long), .long, .long], returnType := none }, accessFlags := 2, code := some k2c1 }
def k2c2 : Code := { maxStack := 6, maxLocals := 5, code := prog_8_method_6_code, exceptionTable := #[], attributes := #[] }
def k2m2 : Method := { name := "offset", desc := "([I)J", sig := { parameters := [(.array .int)], returnType := some .long }, accessFlags := 0, code := some k2c2 }
/-- com/example/paperloom/paperloom/CountSearch$Mean -/
def k2 : Class := { plain "com/example/paperloom/paperloom/CountSearch$Mean" (some 0) with
  accessFlags := 32
  interfaces := #[]
  cf := some (fileOf pool2 2 #[.nestHost 61] #[{ accessFlags := 0, nameIndex := 5, descriptorIndex := 46, attributes := #[] }, { accessFlags := 2, nameIndex := 5, descriptorIndex := 6, attributes := #[] }, { accessFlags := 0, nameIndex := 14, descriptorIndex := 43, attributes := #[] }] 32 8 #[] #[{ accessFlags := 18, nameIndex := 14, descriptorIndex := 15, attributes := #[] }, { accessFlags := 18, nameIndex := 18, descriptorIndex := 15, attributes := #[] }, { accessFlags := 18, nameIndex := 21, descriptorIndex := 22, attributes := #[] }, { accessFlags := 18, nameIndex := 25, descriptorIndex := 22, attributes := #[] }])
  fields := #[{ name := "offset", type := (.array .long), accessFlags := 18, slot := 0, constantValue := 0 }, { name := "weight", type := (.array .long), accessFlags := 18, slot := 1, constantValue := 0 }, { name := "startOffset", type := .long, accessFlags := 18, slot := 2, constantValue := 0 }, { name := "startWeight", type := .long, accessFlags := 18, slot := 3, constantValue := 0 }]
  methods := #[k2m0, k2m1, k2m2]
  instanceTypes := #[(.array .long), (.array .long), .long, .long]
  staticTypes := #[]
  resolved := Array.replicate 65 none
  statics := none }

def pool3 : Array CpInfo := pool [(1, u "java/lang/Cloneable"), (0, .class_ 1), (0, u "java/lang/Object"), (0, .class_ 3)] 3

/-- java/lang/Cloneable -/
def k3 : Class := { plain "java/lang/Cloneable" (some 0) with
  accessFlags := 1537
  interfaces := #[]
  cf := some (fileOf pool3 2 #[] #[] 1537 4 #[] #[])
  fields := #[]
  methods := #[]
  instanceTypes := #[]
  staticTypes := #[]
  resolved := Array.replicate 8 none
  statics := none }

def pool4 : Array CpInfo := pool [(1, u "java/io/Serializable"), (0, .class_ 1), (0, u "java/lang/Object"), (0, .class_ 3)] 3

/-- java/io/Serializable -/
def k4 : Class := { plain "java/io/Serializable" (some 0) with
  accessFlags := 1537
  interfaces := #[]
  cf := some (fileOf pool4 2 #[] #[] 1537 4 #[] #[])
  fields := #[]
  methods := #[]
  instanceTypes := #[]
  staticTypes := #[]
  resolved := Array.replicate 8 none
  statics := none }

/-- the primitive byte -/
def k5 : Class := { plain "byte" none with kind := .primitive 'B', accessFlags := 0x411 }
/-- [B -/
def k6 : Class := { plain "[B" (some 0) with kind := .array 5 .byte, interfaces := #[3, 4], accessFlags := 1041 }

/-- the primitive int -/
def k7 : Class := { plain "int" none with kind := .primitive 'I', accessFlags := 0x411 }
/-- [I -/
def k8 : Class := { plain "[I" (some 0) with kind := .array 7 .int, interfaces := #[3, 4], accessFlags := 1041 }

/-- the primitive long -/
def k9 : Class := { plain "long" none with kind := .primitive 'J', accessFlags := 0x411 }
/-- [J -/
def k10 : Class := { plain "[J" (some 0) with kind := .array 9 .long, interfaces := #[3, 4], accessFlags := 1041 }

def heap : Heap := #[]
def classes : Array Class := #[k0, k1, k2, k3, k4, k5, k6, k7, k8, k9, k10]
def interned : List (Array UInt16 × Addr) := []
def slotsUsed : Nat := 0
def theMethod : MethodId := ⟨1, 1⟩
def args0 : Array Value := #[.long 5, .long 5, .long 5, .long 5, .int 5, .int 5]
def aboutOver (below : List Frame) : State where
  vm := { classes := classes, interned := interned.toArray }
  heap := heap
  slotsUsed := slotsUsed
  threads := #[{ frames := .invoking theMethod args0 :: below }]
def below0 : List Frame := [.native { method := ⟨0, 0⟩, args := #[] }]
def about1 : State := aboutOver below0
def p0 : Program := .bare "" "" ""
def e0 : Env := launch0.env 0 0 0
theorem w_frames : about1.frames = Frame.invoking theMethod args0 :: below0 := rfl
set_option maxRecDepth 65536 in
theorem w_args : argsFit about1.vm theMethod args0 = true := by decide +kernel
set_option maxRecDepth 65536 in
theorem w_heap : heapFits about1 = true := by decide +kernel
set_option maxRecDepth 65536 in
theorem w_runnable : about1.curStatus? = some .runnable := by decide +kernel
set_option maxRecDepth 65536 in
theorem w_alone : about1.alone = true := by decide +kernel
set_option maxRecDepth 65536 in
theorem w_named : about1.methodNamed? x = some theMethod := by decide +kernel
set_option maxRecDepth 65536 in
theorem w_hears : about1.hears theMethod below0 = true := by decide +kernel
set_option maxRecDepth 65536 in
theorem w_ripe : about1.ripe theMethod args0 below0 = true := by decide +kernel
theorem w_running : about1.status = .running := rfl
set_option maxRecDepth 65536 in
theorem w_room : about1.hasRoom e0.platform room_1 = true :=
  launch0.hasRoom_least _ room_1 (by decide +kernel) (by decide +kernel) (by decide +kernel) (by decide +kernel) (by decide +kernel) (by decide +kernel)
theorem allAtoms_all (ts : List Jvm.Cond) (a : Array Jvm.Value) (st : Jvm.State) : (allAtoms ts).before a st = ts.all (fun c => c.before a st) := by
  induction ts with
  | nil => rfl
  | cons c t ih =>
    show (Jvm.Cond.and c (allAtoms t)).before a st = _
    rw [Jvm.Cond.before_and, ih, List.all_cons]
def words1 : List Jvm.Cond := Jvm.Cond.code x code maxLocals ret :: tables_1
/-- a 'code' word, met by the world's own term for the bytes: nothing is compared byte by byte -/
theorem code_word {y : MethodName} {bytes : ByteArray} {mx : Nat} {rt : Option FieldType} {a : Array Value} {s : State} {m : MethodId} {meth : Method} {c : Code} (h1 : s.methodNamed? y = some m) (h2 : s.vm.method? m = some meth) (h3 : meth.code = some c) (h4 : c.code = bytes)
    (h5 : (c.maxLocals == mx && c.exceptionTable.isEmpty && decide (c.maxStack ≤ mostOperands) && decide (meth.sig.returnType = rt) && !meth.locks && decide (parseMethodDescriptor y.desc = some meth.sig)) = true) : (Jvm.Cond.code y bytes mx rt).before a s = true := by
  simp only [Bool.and_eq_true, beq_iff_eq, Bool.not_eq_true', decide_eq_true_eq] at h5
  obtain ⟨⟨⟨⟨⟨g1, g2⟩, g3⟩, g4⟩, g5⟩, g6⟩ := h5
  simp [Cond.before, Cond.holds, Cond.value, h1, h2, h3, h4, g1, g2, g3, g4, g5, g6]
def isCode : Jvm.Cond → Bool
  | .code _ _ _ _ => true
  | _ => false
theorem all_split {L : List Jvm.Cond} {P : Jvm.Cond → Bool} (h1 : L.all (fun c => isCode c || P c) = true) (h2 : ∀ c ∈ L.filter isCode, P c = true) : L.all P = true := by
  refine List.all_eq_true.mpr fun c hc => ?_
  have h := List.all_eq_true.mp h1 c hc
  rcases Bool.eq_false_or_eq_true (isCode c) with hi | hi
  · exact h2 c (List.mem_filter.mpr ⟨hc, hi⟩)
  · simpa [hi] using h
set_option maxRecDepth 65536 in
theorem w_c0 : (Jvm.Cond.code x code maxLocals ret).before args0 about1 = true := code_word (m := ⟨1, 1⟩) (meth := k1m1) (c := k1c1) (by decide +kernel) rfl rfl rfl (by decide +kernel)
set_option maxRecDepth 65536 in
theorem w_c1 : (Jvm.Cond.code ({ cls := "com/example/paperloom/paperloom/CountSearch$Mean", name := "<init>", desc := "([J[J)V" } : Jvm.MethodName) prog_8_method_1_code (3 : Nat) (Option.none : Option Jvm.ClassFile.FieldType)).before args0 about1 = true := code_word (m := ⟨2, 0⟩) (meth := k2m0) (c := k2c0) (by decide +kernel) rfl rfl rfl (by decide +kernel)
set_option maxRecDepth 65536 in
theorem w_c2 : (Jvm.Cond.code ({ cls := "com/example/paperloom/paperloom/CountSearch$Mean", name := "<init>", desc := "([J[JJJ)V" } : Jvm.MethodName) prog_8_method_2_code (7 : Nat) (Option.none : Option Jvm.ClassFile.FieldType)).before args0 about1 = true := code_word (m := ⟨2, 1⟩) (meth := k2m1) (c := k2c1) (by decide +kernel) rfl rfl rfl (by decide +kernel)
set_option maxRecDepth 65536 in
theorem w_c3 : (Jvm.Cond.code ({ cls := "java/lang/Object", name := "<init>", desc := "()V" } : Jvm.MethodName) object_method_1_code (1 : Nat) (Option.none : Option Jvm.ClassFile.FieldType)).before args0 about1 = true := code_word (m := ⟨0, 0⟩) (meth := k0m0) (c := k0c0) (by decide +kernel) rfl rfl rfl (by decide +kernel)
set_option maxRecDepth 65536 in
theorem w_c4 : (Jvm.Cond.code ({ cls := "com/example/paperloom/paperloom/CountSearch$Mean", name := "offset", desc := "([I)J" } : Jvm.MethodName) prog_8_method_6_code (5 : Nat) (Option.some Jvm.ClassFile.FieldType.long)).before args0 about1 = true := code_word (m := ⟨2, 2⟩) (meth := k2m2) (c := k2c2) (by decide +kernel) rfl rfl rfl (by decide +kernel)
def codes1 : List Jvm.Cond := [Jvm.Cond.code x code maxLocals ret, Jvm.Cond.code ({ cls := "com/example/paperloom/paperloom/CountSearch$Mean", name := "<init>", desc := "([J[J)V" } : Jvm.MethodName) prog_8_method_1_code (3 : Nat) (Option.none : Option Jvm.ClassFile.FieldType), Jvm.Cond.code ({ cls := "com/example/paperloom/paperloom/CountSearch$Mean", name := "<init>", desc := "([J[JJJ)V" } : Jvm.MethodName) prog_8_method_2_code (7 : Nat) (Option.none : Option Jvm.ClassFile.FieldType), Jvm.Cond.code ({ cls := "java/lang/Object", name := "<init>", desc := "()V" } : Jvm.MethodName) object_method_1_code (1 : Nat) (Option.none : Option Jvm.ClassFile.FieldType), Jvm.Cond.code ({ cls := "com/example/paperloom/paperloom/CountSearch$Mean", name := "offset", desc := "([I)J" } : Jvm.MethodName) prog_8_method_6_code (5 : Nat) (Option.some Jvm.ClassFile.FieldType.long)]
set_option maxRecDepth 65536 in
theorem codes_eq : words1.filter isCode = codes1 := rfl
theorem w_codes : ∀ c ∈ words1.filter isCode, c.before args0 about1 = true := by
  rw [codes_eq]
  intro c hc
  simp only [codes1, List.mem_cons, List.not_mem_nil, or_false] at hc
  rcases hc with rfl | rfl | rfl | rfl | rfl
  · exact w_c0
  · exact w_c1
  · exact w_c2
  · exact w_c3
  · exact w_c4
set_option maxRecDepth 65536 in
theorem w_t1 : (words1.take 24).all (fun c => isCode c || c.before args0 about1) = true := by decide +kernel
set_option maxRecDepth 65536 in
theorem w_t2 : (words1.drop 24).all (fun c => isCode c || c.before args0 about1) = true := by decide +kernel
theorem w_tables : (allAtoms (Jvm.Cond.code x code maxLocals ret :: tables_1)).before args0 about1 = true := by
  rw [allAtoms_all]
  show words1.all (fun c => c.before args0 about1) = true
  refine all_split ?_ w_codes
  rw [← List.take_append_drop 24 words1, List.all_append, w_t1, w_t2]
  rfl
set_option maxRecDepth 65536 in
theorem w_case : (Jvm.Cond.and given_1 narrow_1).before args0 about1 = true := by decide +kernel
theorem w_applies : (headSpec (Jvm.Cond.code x code maxLocals ret :: tables_1) room_1).applies x e0.platform about1 = true :=
  (Spec.applies_iff w_frames).mpr ⟨w_running, w_runnable, w_alone, w_named, w_hears, w_ripe, w_room, w_tables⟩
theorem atStart : AtStart classFile x code maxLocals ret World_1 tables_1 room_1 Calls_1 rest_1 Pre_1 launch0 p0 e0 about1 theMethod args0 below0 :=
  ⟨lists_1, trivial, launch0.admits_env _ _ _, launch0.least_env, fairChoices_fair.cas, fairChoices_fair.clock, w_frames, w_args, w_heap, w_applies, trivial, trivial, w_case⟩
end start1
theorem witness_1 : WitnessClaimed_1 := ⟨start1.p0, start1.e0, start1.about1, start1.theMethod, start1.args0, start1.below0, start1.atStart⟩
end Jvm.Pilot.@@N@@
