import JvmDerived
import JvmDerived.Pilot.@@N@@Statement
import JvmDerived.Pilot.@@N@@Code
set_option linter.unusedVariables false
set_option linter.unusedSimpArgs false
namespace Jvm.Pilot.@@N@@
open Jvm Jvm.ClassFile Sem Op Lib Jvm.Free Jvm.Stand Jvm.LawKit Jvm.RoadKit Bundle Jvm.Pilot.@@N@@.Jvm.D
section OwnKit
variable {p : Program} {l : Launch} {e : Env} {R : Room} {s : State} {m : MethodId} {args : Array Value} {below : List Frame} {meth : Method} {c : Code} {T : State} {locs : List Loc} {cells slots : Nat} {Z : State} {h h' : Heap} {a b : Addr} {ty : FieldType} {n : Nat} {f f' : Nat → Value} {sl : Nat} {v : Value} {ws : List Addr}
theorem own_dia {t : State} {B F : JFrame} (hh : Steps p.tables e below (T.setTop F) t → Steps p.tables e below (T.setTop B) t) (k : Steps p.tables e below (T.setTop F) t) : Steps p.tables e below (T.setTop B) t := hh k
/-- the place j lies in an array of n places -/
abbrev own_in (j : Int32) (n : Nat) : Prop := 0 ≤ j.toInt ∧ j.toInt < n
theorem own_in_nat {j : Int32} (hj : own_in j n) : j.toNatClampNeg < n := by simp only [Int32.toNatClampNeg]; omega
theorem own_in_arr {cl : Cell} {j : Int32} (hs : cl.slots.size = n) (hj : own_in j n) : ¬ (j < 0 ∨ cl.slots.size ≤ j.toNatClampNeg) := by
  have := own_in_nat hj
  have k0 : (0 : Int32).toInt = 0 := by decide
  rw [Int32.lt_iff_toInt_lt, hs, k0]; omega
/-- an array: its kind, its length, and what each place holds -/
def AF (Z : State) (h : Heap) (a : Addr) (ty : FieldType) (n : Nat) (f : Nat → Value) : Prop := ∃ c : Cell, Arr Z h a c ty ∧ c.slots.size = n ∧ n < 2147483648 ∧ ∀ j, j < n → c.slots[j]? = some (f j)
theorem AF.lt (F : AF Z h a ty n f) : a < h.size := by obtain ⟨c, A, -⟩ := F; exact A.lt
theorem AF.small (F : AF Z h a ty n f) : n < 2147483648 := by obtain ⟨c, -, -, q, -⟩ := F; exact q
theorem AF.ext (F : AF Z h a ty n f) (E : Ext h h') : AF Z h' a ty n f := by obtain ⟨c, A, r⟩ := F; exact ⟨c, A.ext E, r⟩
theorem AF.other (F : AF Z h b ty n f) (W : Wr h h' a sl v) (q : b ≠ a) : AF Z h' b ty n f := by obtain ⟨c, A, r⟩ := F; exact ⟨c, A.other W q, r⟩
theorem AF.keep (F : AF Z h a ty n f) (K : Keep h h' ws) (q : a ∉ ws) : AF Z h' a ty n f := by obtain ⟨c, A, r⟩ := F; exact ⟨c, ⟨K.2.1 a c A.1 q, A.2⟩, r⟩
theorem AF.cong (F : AF Z h a ty n f) (q : ∀ j, j < n → f j = f' j) : AF Z h a ty n f' := by obtain ⟨c, A, r1, r2, r3⟩ := F; exact ⟨c, A, r1, r2, fun j hj => by rw [← q j hj]; exact r3 j hj⟩
theorem AF.new {k : ClassId} {z : Int32} (A : Arr Z h a (newA k ty z) ty) (q : ¬ z < 0) : AF Z h a ty z.toNatClampNeg (fun _ => defaultValue ty) := ⟨_, A, sz_new _ _ _, (back32 q).2, fun j hj => by simp [newA, hj]⟩
theorem AF.set (F : AF Z h a ty n f) {k : Nat} (W : Wr h h' a k v) : AF Z h' a ty n (fun i => if i = k then v else f i) := by
  obtain ⟨c, A, r1, r2, r3⟩ := F
  refine ⟨_, Arr.same W A, by rw [sz_set]; exact r1, r2, fun j hj => ?_⟩
  obtain ⟨cell, h1, -, h3, -⟩ := W
  cases h1.symm.trans A.1
  by_cases q : j = k
  · subst q; simp [Cell.setSlot, h3]
  · have q' : ¬ k = j := fun z => q z.symm
    simp only [Cell.setSlot, Array.getElem?_setIfInBounds, if_neg q, if_neg q']; exact r3 j hj
theorem own_updI {g fN : Nat → Int32} {x : Int32} {J k : Nat} (hk : k = J) (hf : fN = fun i => if i = J then x else g i) : ∀ j, j < n → (if j = k then Value.int x else Value.int (g j)) = Value.int (fN j) := by
  subst hk hf; intro j _; by_cases q : j = k <;> simp [q]
theorem own_updJ {g fN : Nat → Int64} {x : Int64} {J k : Nat} (hk : k = J) (hf : fN = fun i => if i = J then x else g i) : ∀ j, j < n → (if j = k then Value.long x else Value.long (g j)) = Value.long (fN j) := by
  subst hk hf; intro j _; by_cases q : j = k <;> simp [q]
theorem AF.ldI (X : Stand p l e R s m args below meth c T locs cells slots) (hx : p.tables.exec = Jvm.exec) (hZ : Z.Warmed39 s.vm) (eT : T.heap = h) {f : Nat → Int32} (A : AF Z h a .int n (fun j => .int (f j))) {j : Int32} (hj : own_in j n) {g : JFrame} (hg : g.method = m) {rest : List Value} (hs : g.stack = .int j :: .ref a :: rest) (hd : decode c.code g.pc = .ok (.iaload, 1)) (target : State)
    (k : Steps p.tables e below (T.setTop { g with pc := g.pc + 1, stack := .int (f j.toNatClampNeg) :: rest }) target) : Steps p.tables e below (T.setTop g) target := by
  obtain ⟨cl, A, r1, r2, r3⟩ := A
  exact X.iaload hx (j := j) (v := .int (f j.toNatClampNeg)) (by rw [eT]; exact A.1) (State.isArrayOf_alike hZ.alike A.2.1) A.2.2 (own_in_arr r1 hj) (r3 _ (own_in_nat hj)) hg hs hd _ k
theorem AF.ldJ (X : Stand p l e R s m args below meth c T locs cells slots) (hx : p.tables.exec = Jvm.exec) (hZ : Z.Warmed39 s.vm) (eT : T.heap = h) {f : Nat → Int64} (A : AF Z h a .long n (fun j => .long (f j))) {j : Int32} (hj : own_in j n) {g : JFrame} (hg : g.method = m) {rest : List Value} (hs : g.stack = .int j :: .ref a :: rest) (hd : decode c.code g.pc = .ok (.laload, 1)) (target : State)
    (k : Steps p.tables e below (T.setTop { g with pc := g.pc + 1, stack := .long (f j.toNatClampNeg) :: rest }) target) : Steps p.tables e below (T.setTop g) target := by
  obtain ⟨cl, A, r1, r2, r3⟩ := A
  exact X.laload hx (j := j) (v := .long (f j.toNatClampNeg)) (by rw [eT]; exact A.1) (State.isArrayOf_alike hZ.alike A.2.1) A.2.2 (own_in_arr r1 hj) (r3 _ (own_in_nat hj)) hg hs hd _ k
theorem AF.ldB (X : Stand p l e R s m args below meth c T locs cells slots) (hx : p.tables.exec = Jvm.exec) (hZ : Z.Warmed39 s.vm) (eT : T.heap = h) {f : Nat → Int32} (A : AF Z h a .byte n (fun j => .int (f j))) {j : Int32} (hj : own_in j n) {g : JFrame} (hg : g.method = m) {rest : List Value} (hs : g.stack = .int j :: .ref a :: rest) (hd : decode c.code g.pc = .ok (.baload, 1)) (target : State)
    (k : Steps p.tables e below (T.setTop { g with pc := g.pc + 1, stack := .int (f j.toNatClampNeg) :: rest }) target) : Steps p.tables e below (T.setTop g) target := by
  obtain ⟨cl, A, r1, r2, r3⟩ := A
  exact X.baloadBytes hx (j := j) (v := .int (f j.toNatClampNeg)) (by rw [eT]; exact A.1) (State.isArrayOf_alike hZ.alike A.2.1) A.2.2 (own_in_arr r1 hj) (r3 _ (own_in_nat hj)) hg hs hd _ k
theorem AF.len (X : Stand p l e R s m args below meth c T locs cells slots) (hx : p.tables.exec = Jvm.exec) (hZ : Z.Warmed39 s.vm) (eT : T.heap = h) (A : AF Z h a ty n f) {g : JFrame} (hg : g.method = m) {rest : List Value} (hs : g.stack = .ref a :: rest) (hd : decode c.code g.pc = .ok (.arraylength, 1)) (target : State)
    (k : Steps p.tables e below (T.setTop { g with pc := g.pc + 1, stack := .int (Int32.ofNat n) :: rest }) target) : Steps p.tables e below (T.setTop g) target := by
  obtain ⟨cl, A, r1, r2, r3⟩ := A
  subst r1
  exact X.arraylength hx (by rw [eT]; exact A.1) (State.isArrayOf_alike hZ.alike A.2.1) hg hs hd _ k
theorem AF.stI (X : Stand p l e R s m args below meth c T locs cells slots) (hx : p.tables.exec = Jvm.exec) (hZ : Z.Warmed39 s.vm) (eT : T.heap = h) (A : AF Z h a .int n f) {j x : Int32} (hj : own_in j n) {g : JFrame} (hg : g.method = m) {rest : List Value} (hs : g.stack = .int x :: .int j :: .ref a :: rest) (hd : decode c.code g.pc = .ok (.iastore, 1)) :
    ∃ T' h', Stand p l e R s m args below meth c T' (locs ++ [⟨a, j.toNatClampNeg⟩]) cells slots ∧ T'.heap = h' ∧ Wr h h' a j.toNatClampNeg (.int x) ∧ AF Z h' a .int n (fun i => if i = j.toNatClampNeg then .int x else f i) ∧ ∀ target, Steps p.tables e below (T'.setTop { g with pc := g.pc + 1, stack := rest }) target → Steps p.tables e below (T.setTop g) target := by
  have A0 := A
  obtain ⟨cl, A, r1, r2, r3⟩ := A
  obtain ⟨T', h', X', e', W, st⟩ := Jvm.RoadKit.stI X hx hZ eT A (j := j) (own_in_arr r1 hj) hg hs hd
  exact ⟨T', h', X', e', W, A0.set W, st⟩
theorem AF.stJ (X : Stand p l e R s m args below meth c T locs cells slots) (hx : p.tables.exec = Jvm.exec) (hZ : Z.Warmed39 s.vm) (eT : T.heap = h) (A : AF Z h a .long n f) {j : Int32} {x : Int64} (hj : own_in j n) {g : JFrame} (hg : g.method = m) {rest : List Value} (hs : g.stack = .long x :: .int j :: .ref a :: rest) (hd : decode c.code g.pc = .ok (.lastore, 1)) :
    ∃ T' h', Stand p l e R s m args below meth c T' (locs ++ [⟨a, j.toNatClampNeg⟩]) cells slots ∧ T'.heap = h' ∧ Wr h h' a j.toNatClampNeg (.long x) ∧ AF Z h' a .long n (fun i => if i = j.toNatClampNeg then .long x else f i) ∧ ∀ target, Steps p.tables e below (T'.setTop { g with pc := g.pc + 1, stack := rest }) target → Steps p.tables e below (T.setTop g) target := by
  have A0 := A
  obtain ⟨cl, A, r1, r2, r3⟩ := A
  obtain ⟨T', h', X', e', W, st⟩ := Jvm.RoadKit.stJ X hx hZ eT A (j := j) (own_in_arr r1 hj) hg hs hd
  exact ⟨T', h', X', e', W, A0.set W, st⟩
theorem AF.stB (X : Stand p l e R s m args below meth c T locs cells slots) (hx : p.tables.exec = Jvm.exec) (hZ : Z.Warmed39 s.vm) (eT : T.heap = h) (A : AF Z h a .byte n f) {j x : Int32} (hj : own_in j n) {g : JFrame} (hg : g.method = m) {rest : List Value} (hs : g.stack = .int x :: .int j :: .ref a :: rest) (hd : decode c.code g.pc = .ok (.bastore, 1)) :
    ∃ T' h', Stand p l e R s m args below meth c T' (locs ++ [⟨a, j.toNatClampNeg⟩]) cells slots ∧ T'.heap = h' ∧ Wr h h' a j.toNatClampNeg (.int x.toInt8.toInt32) ∧ AF Z h' a .byte n (fun i => if i = j.toNatClampNeg then .int x.toInt8.toInt32 else f i) ∧ ∀ target, Steps p.tables e below (T'.setTop { g with pc := g.pc + 1, stack := rest }) target → Steps p.tables e below (T.setTop g) target := by
  have A0 := A
  obtain ⟨cl, A, r1, r2, r3⟩ := A
  obtain ⟨T', h', X', e', W, st⟩ := Jvm.RoadKit.stB X hx hZ eT A (j := j) (own_in_arr r1 hj) hg hs hd
  exact ⟨T', h', X', e', W, A0.set W, st⟩
theorem own_cpyI {f g fN : Nat → Int32} {k : Nat} (hf : fN = fun j => if j < k then f j else g j) : ∀ j, j < n → (if j < k then Value.int (f j) else Value.int (g j)) = Value.int (fN j) := by
  subst hf; intro j _; by_cases q : j < k <;> simp [q]
theorem own_cpyJ {f g fN : Nat → Int64} {k : Nat} (hf : fN = fun j => if j < k then f j else g j) : ∀ j, j < n → (if j < k then Value.long (f j) else Value.long (g j)) = Value.long (fN j) := by
  subst hf; intro j _; by_cases q : j < k <;> simp [q]
theorem own_acW {own : String} {index : Nat} (h1 : (Jvm.Cond.methodLink own index Jvm.Stand.acN).before args s = true) (h2 : (Jvm.Cond.native Jvm.Stand.acN).before args s = true) (h3 : (Jvm.Cond.static Jvm.Stand.acN).before args s = true) (h4 : (Jvm.Cond.initialized "java/lang/System").before args s = true) : ∀ w ∈ Jvm.Free.XT.acW own index, w.before args s = true := by
  intro w hw
  change w ∈ [Jvm.Cond.methodLink own index Jvm.Stand.acN, Jvm.Cond.native Jvm.Stand.acN, Jvm.Cond.static Jvm.Stand.acN, Jvm.Cond.initialized "java/lang/System"] at hw
  simp only [List.mem_cons, List.not_mem_nil, or_false] at hw
  rcases hw with rfl | rfl | rfl | rfl
  · exact h1
  · exact h2
  · exact h3
  · exact h4
theorem own_isArr {c c' : Cell} (q : Z.isArrayOf c ty) (h1 : c'.cls = c.cls) (h2 : c'.vm = c.vm) : Z.isArrayOf c' ty := by
  obtain ⟨q1, k, q2, q3⟩ := q
  exact ⟨by rw [h2]; exact q1, k, by rw [h1]; exact q2, q3⟩
theorem AF.copy (X : Stand p l e R s m args below meth c T locs cells slots) (hx : p.tables.exec = Jvm.exec) (hZ : Z.Warmed39 s.vm) {own : String} {index : Nat} (hown : s.vm.findClass own = some m.cls) (hw : ∀ w ∈ Jvm.Free.XT.acW own index, w.before args s = true)
    (eT : T.heap = h) {k : Nat} {f' : Nat → Value} (A : AF Z h a ty n f) (B : AF Z h b ty k f') (hp : ty.isReference = false) {cnt : Nat} (hfit : ∀ j, j < cnt → fits ty (f j) = true) (h1 : cnt ≤ n) (h2 : cnt ≤ k) {jn : Int32} (hn : jn = Int32.ofNat cnt)
    {g : JFrame} (hg : g.method = m) (hsize : g.locals.size = c.maxLocals) {rest : List Value} (hs : g.stack = .int jn :: .int 0 :: .ref b :: .int 0 :: .ref a :: rest) (hd : decode c.code g.pc = .ok (.invokestatic index, 3))
    {W : Nat} (hW : 2 * g.monitorRoom + (rest.map fun v => v.category).sum ≤ W) (hfr : 1 ≤ R.frames) (hlo : W + 40 ≤ R.locals) :
    ∃ (T' : State) (h' : Heap) (L' : List Loc), Stand p l e R s m args below meth c T' (locs ++ L') cells slots ∧ T'.heap = h' ∧ (∀ y ∈ L', y.base = b) ∧ Keep h h' [b] ∧ AF Z h' b ty k (fun j => if j < cnt then f j else f' j) ∧
      ∀ target, Steps p.tables e below (T'.setTop { g with pc := g.pc + 3, stack := rest }) target → Steps p.tables e below (T.setTop g) target := by
  obtain ⟨ca, A, a1, a2, a3⟩ := A
  obtain ⟨cb, B, b1, b2, b3⟩ := B
  have tA : Jvm.Free.XT.Arr ty a ca T := ⟨by rw [eT]; exact A.1, State.isArrayOf_alike X.warmed.alike (State.isArrayOf_alike hZ.alike A.2.1), A.2.2, by omega⟩
  have tB : Jvm.Free.XT.Arr ty b cb T := ⟨by rw [eT]; exact B.1, State.isArrayOf_alike X.warmed.alike (State.isArrayOf_alike hZ.alike B.2.1), B.2.2, by omega⟩
  have ga : ∀ j, j < n → ca.slots.getD j .null = f j := fun j hj => by
    have q := a3 j hj
    rw [Array.getD_eq_getD_getElem?, q]; rfl
  obtain ⟨T', B', X', P, q1, q2, q3, q4, st⟩ := X.acopy hx (o := 0) (q := 0) (n := cnt) (jo := 0) (jq := 0) hown hw tA tB (by simp) rfl rfl hn (by omega) (by omega)
    (fun i hi => ⟨by rw [Nat.zero_add, ga i (by omega)]; exact hfit i hi, fun z => by rw [hp] at z; cases z⟩) hg hsize hs hd hW hfr hlo
  refine ⟨T', _, _, X', rfl, fun y hy => ?_, ⟨by rw [P.2.2, eT]; exact Nat.le_refl _, fun x cx hx' hn' => ?_, fun x cx hx' => ?_⟩, ⟨B', ⟨P.1, own_isArr B.2.1 q1 q2, by rw [q2]; exact B.2.2⟩, q3.trans b1, b2, fun j hj => ?_⟩, st⟩
  · simp only [copyLocs, List.mem_map] at hy
    obtain ⟨i, -, rfl⟩ := hy
    rfl
  · rw [P.2.1 x (fun z => hn' (by simp [z])), eT]; exact hx'
  · by_cases z : x = b
    · subst z
      cases hx'.symm.trans B.1
      exact ⟨B', P.1, q1, q2, q3⟩
    · exact ⟨cx, by rw [P.2.1 x z, eT]; exact hx', rfl, rfl, rfl⟩
  · show _ = some (if j < cnt then f j else f' j)
    rw [q4 j]
    by_cases z : j < cnt
    · rw [if_pos (by omega), if_pos z]
      have : 0 + (j - 0) = j := by omega
      rw [this, ga j (by omega)]
    · rw [if_neg (by omega), if_neg z]; exact b3 j hj
theorem own_nb (x : Int32) : nar .boolean x = x &&& 1 := rfl
theorem own_nar1 : nar .boolean 1 = 1 := rfl
theorem own_nar0 : nar .boolean 0 = 0 := rfl
theorem own_nbyte (x : Int32) : nar .byte x = x.toInt8.toInt32 := rfl
theorem own_nar_ite (q : Prop) [Decidable q] (x y : Int32) : nar .boolean (if q then x else y) = if q then nar .boolean x else nar .boolean y := by split <;> rfl
theorem own_pos_ne {x : Int64} (q : 0 < x) : x ≠ 0 := fun z => by subst z; exact absurd q (by decide)
theorem own_cat {w : Value} (q : w.isRef = true) : w.category = 1 := by cases w <;> first | rfl | (simp [Value.isRef] at q)
/-- a static field that holds v, in a heap that keeps all that was old at the start -/
def SO (Z : State) (n0 : Nat) (h : Heap) (C n d : String) (v : Value) : Prop := Sta Z Z.heap C n d v ∧ Old Z n0 h
theorem SO.ext {n0 : Nat} {C nm d : String} (F : SO Z n0 h C nm d v) (E : Ext h h') : SO Z n0 h' C nm d v := ⟨F.1, F.2.ext E⟩
theorem SO.wr {n0 : Nat} {C nm d : String} {w : Value} (F : SO Z n0 h C nm d v) (W : Wr h h' a sl w) (q : n0 ≤ a) : SO Z n0 h' C nm d v := ⟨F.1, F.2.wr W q⟩
theorem SO.keep {n0 : Nat} {C nm d : String} (F : SO Z n0 h C nm d v) (K : Keep h h' ws) (q : ∀ x ∈ ws, n0 ≤ x) : SO Z n0 h' C nm d v := ⟨F.1, F.2.keep K q⟩
theorem SO.sta {n0 : Nat} {C nm d : String} (F : SO Z n0 h C nm d v) : Sta Z h C nm d v := F.1.ext F.2.2
theorem own_selp {y : MethodName} {n : Nat} (wi : (Jvm.Cond.instantiable y.cls n).before args s = true) (hpriv : s.PrivateAt y) (hinst : (Jvm.Cond.instanceMethod y).before args s = true) (hy : y.cls ≠ "java/lang/invoke/MethodHandle" ∧ y.cls ≠ "java/lang/invoke/VarHandle") : (Jvm.Cond.selects y.cls y y).before args s = true := by
  obtain ⟨c, k, h1, h2, -, h4, -⟩ := Cond.instantiable_spec wi
  exact Jvm.Stand.selects_self_of_private h1 h2 (by simp only [Bool.or_eq_false_iff] at h4; exact h4.1) hpriv hinst hy
end OwnKit

theorem pn_0 : plainName "com/example/psilattice/psilattice/core/SortMarksAddPinLaw" = true := by first | (simp [plainName, overriddenIn]; done) | decide +kernel
theorem d1_0 : decode prog_29_method_1_code 0 = .ok (.aload_n 0, 1) := by decide +kernel
theorem d1_1 : decode prog_29_method_1_code 1 = .ok (.invokespecial 1, 3) := by decide +kernel
theorem d1_4 : decode prog_29_method_1_code 4 = .ok (.aload_n 0, 1) := by decide +kernel
theorem d1_5 : decode prog_29_method_1_code 5 = .ok (.iconst 0, 1) := by decide +kernel
theorem d1_6 : decode prog_29_method_1_code 6 = .ok (.newarray .int, 2) := by decide +kernel
theorem d1_8 : decode prog_29_method_1_code 8 = .ok (.putfield 7, 3) := by decide +kernel
theorem d1_11 : decode prog_29_method_1_code 11 = .ok (.return_, 1) := by decide +kernel
theorem pn_1 : plainName "com/example/psilattice/psilattice/core/SortMarks" = true := by first | (simp [plainName, overriddenIn]; done) | decide +kernel
theorem d3_0 : decode prog_29_method_2_code 0 = .ok (.aload_n 0, 1) := by decide +kernel
theorem d3_1 : decode prog_29_method_2_code 1 = .ok (.getfield 7, 3) := by decide +kernel
theorem d3_4 : decode prog_29_method_2_code 4 = .ok (.arraylength, 1) := by decide +kernel
theorem d3_5 : decode prog_29_method_2_code 5 = .ok (.iload_n 1, 1) := by decide +kernel
theorem d3_6 : decode prog_29_method_2_code 6 = .ok (.if_icmp .ge 25, 3) := by decide +kernel
theorem d3_9 : decode prog_29_method_2_code 9 = .ok (.aload_n 0, 1) := by decide +kernel
theorem d3_10 : decode prog_29_method_2_code 10 = .ok (.aload_n 0, 1) := by decide +kernel
theorem d3_11 : decode prog_29_method_2_code 11 = .ok (.getfield 7, 3) := by decide +kernel
theorem d3_14 : decode prog_29_method_2_code 14 = .ok (.iload_n 1, 1) := by decide +kernel
theorem d3_15 : decode prog_29_method_2_code 15 = .ok (.iconst 2, 1) := by decide +kernel
theorem d3_16 : decode prog_29_method_2_code 16 = .ok (.aload_n 0, 1) := by decide +kernel
theorem d3_17 : decode prog_29_method_2_code 17 = .ok (.getfield 7, 3) := by decide +kernel
theorem d3_20 : decode prog_29_method_2_code 20 = .ok (.arraylength, 1) := by decide +kernel
theorem d3_21 : decode prog_29_method_2_code 21 = .ok (.imul, 1) := by decide +kernel
theorem d3_22 : decode prog_29_method_2_code 22 = .ok (.invokestatic 13, 3) := by decide +kernel
theorem d3_25 : decode prog_29_method_2_code 25 = .ok (.invokestatic 19, 3) := by decide +kernel
theorem d3_28 : decode prog_29_method_2_code 28 = .ok (.putfield 7, 3) := by decide +kernel
theorem d3_31 : decode prog_29_method_2_code 31 = .ok (.aload_n 0, 1) := by decide +kernel
theorem d3_32 : decode prog_29_method_2_code 32 = .ok (.getfield 25, 3) := by decide +kernel
theorem d3_35 : decode prog_29_method_2_code 35 = .ok (.ldc 31, 2) := by decide +kernel
theorem d3_37 : decode prog_29_method_2_code 37 = .ok (.if_icmp .ne 16, 3) := by decide +kernel
theorem d3_53 : decode prog_29_method_2_code 53 = .ok (.aload_n 0, 1) := by decide +kernel
theorem d3_54 : decode prog_29_method_2_code 54 = .ok (.dup, 1) := by decide +kernel
theorem d3_55 : decode prog_29_method_2_code 55 = .ok (.getfield 25, 3) := by decide +kernel
theorem d3_58 : decode prog_29_method_2_code 58 = .ok (.iconst 1, 1) := by decide +kernel
theorem d3_59 : decode prog_29_method_2_code 59 = .ok (.iadd, 1) := by decide +kernel
theorem d3_60 : decode prog_29_method_2_code 60 = .ok (.putfield 25, 3) := by decide +kernel
theorem d3_63 : decode prog_29_method_2_code 63 = .ok (.return_, 1) := by decide +kernel
theorem pn_3 : plainName "com/example/psilattice/psilattice/core/SortMarks" = true := by first | (simp [plainName, overriddenIn]; done) | decide +kernel
theorem d4_0 : decode jdk_29_method_65_code 0 = .ok (.iload_n 0, 1) := by decide +kernel
theorem d4_1 : decode jdk_29_method_65_code 1 = .ok (.iload_n 1, 1) := by decide +kernel
theorem d4_2 : decode jdk_29_method_65_code 2 = .ok (.if_icmp .lt 7, 3) := by decide +kernel
theorem d4_5 : decode jdk_29_method_65_code 5 = .ok (.iload_n 0, 1) := by decide +kernel
theorem d4_6 : decode jdk_29_method_65_code 6 = .ok (.goto 4, 3) := by decide +kernel
theorem d4_9 : decode jdk_29_method_65_code 9 = .ok (.iload_n 1, 1) := by decide +kernel
theorem d4_10 : decode jdk_29_method_65_code 10 = .ok (.ireturn, 1) := by decide +kernel
theorem d5_0 : decode jdk_65_method_123_code 0 = .ok (.iload_n 1, 1) := by decide +kernel
theorem d5_1 : decode jdk_65_method_123_code 1 = .ok (.aload_n 0, 1) := by decide +kernel
theorem d5_2 : decode jdk_65_method_123_code 2 = .ok (.arraylength, 1) := by decide +kernel
theorem d5_3 : decode jdk_65_method_123_code 3 = .ok (.if_icmp .ne 11, 3) := by decide +kernel
theorem d5_14 : decode jdk_65_method_123_code 14 = .ok (.iload_n 1, 1) := by decide +kernel
theorem d5_15 : decode jdk_65_method_123_code 15 = .ok (.newarray .int, 2) := by decide +kernel
theorem d5_17 : decode jdk_65_method_123_code 17 = .ok (.astore_n 2, 1) := by decide +kernel
theorem d5_18 : decode jdk_65_method_123_code 18 = .ok (.aload_n 0, 1) := by decide +kernel
theorem d5_19 : decode jdk_65_method_123_code 19 = .ok (.iconst 0, 1) := by decide +kernel
theorem d5_20 : decode jdk_65_method_123_code 20 = .ok (.aload_n 2, 1) := by decide +kernel
theorem d5_21 : decode jdk_65_method_123_code 21 = .ok (.iconst 0, 1) := by decide +kernel
theorem d5_22 : decode jdk_65_method_123_code 22 = .ok (.aload_n 0, 1) := by decide +kernel
theorem d5_23 : decode jdk_65_method_123_code 23 = .ok (.arraylength, 1) := by decide +kernel
theorem d5_24 : decode jdk_65_method_123_code 24 = .ok (.iload_n 1, 1) := by decide +kernel
theorem d5_25 : decode jdk_65_method_123_code 25 = .ok (.invokestatic 304, 3) := by decide +kernel
theorem d5_28 : decode jdk_65_method_123_code 28 = .ok (.invokestatic 150, 3) := by decide +kernel
theorem d5_31 : decode jdk_65_method_123_code 31 = .ok (.aload_n 2, 1) := by decide +kernel
theorem d5_32 : decode jdk_65_method_123_code 32 = .ok (.areturn, 1) := by decide +kernel
theorem pn_5 : plainName "java/util/Arrays" = true := by first | (simp [plainName, overriddenIn]; done) | decide +kernel
theorem d6_0 : decode jdk_29_method_69_code 0 = .ok (.iload_n 0, 1) := by decide +kernel
theorem d6_1 : decode jdk_29_method_69_code 1 = .ok (.iload_n 1, 1) := by decide +kernel
theorem d6_2 : decode jdk_29_method_69_code 2 = .ok (.if_icmp .gt 7, 3) := by decide +kernel
theorem d6_5 : decode jdk_29_method_69_code 5 = .ok (.iload_n 0, 1) := by decide +kernel
theorem d6_6 : decode jdk_29_method_69_code 6 = .ok (.goto 4, 3) := by decide +kernel
theorem d6_9 : decode jdk_29_method_69_code 9 = .ok (.iload_n 1, 1) := by decide +kernel
theorem d6_10 : decode jdk_29_method_69_code 10 = .ok (.ireturn, 1) := by decide +kernel
theorem d7_0 : decode prog_29_method_3_code 0 = .ok (.aload_n 0, 1) := by decide +kernel
theorem d7_1 : decode prog_29_method_3_code 1 = .ok (.getfield 7, 3) := by decide +kernel
theorem d7_4 : decode prog_29_method_3_code 4 = .ok (.iload_n 1, 1) := by decide +kernel
theorem d7_5 : decode prog_29_method_3_code 5 = .ok (.iaload, 1) := by decide +kernel
theorem d7_6 : decode prog_29_method_3_code 6 = .ok (.aload_n 0, 1) := by decide +kernel
theorem d7_7 : decode prog_29_method_3_code 7 = .ok (.getfield 25, 3) := by decide +kernel
theorem d7_10 : decode prog_29_method_3_code 10 = .ok (.if_icmp .ne 7, 3) := by decide +kernel
theorem d7_13 : decode prog_29_method_3_code 13 = .ok (.iconst 1, 1) := by decide +kernel
theorem d7_14 : decode prog_29_method_3_code 14 = .ok (.goto 4, 3) := by decide +kernel
theorem d7_17 : decode prog_29_method_3_code 17 = .ok (.iconst 0, 1) := by decide +kernel
theorem d7_18 : decode prog_29_method_3_code 18 = .ok (.ireturn, 1) := by decide +kernel
theorem pn_7 : plainName "com/example/psilattice/psilattice/core/SortMarks" = true := by first | (simp [plainName, overriddenIn]; done) | decide +kernel
theorem d8_0 : decode prog_29_method_4_code 0 = .ok (.aload_n 0, 1) := by decide +kernel
theorem d8_1 : decode prog_29_method_4_code 1 = .ok (.getfield 7, 3) := by decide +kernel
theorem d8_4 : decode prog_29_method_4_code 4 = .ok (.iload_n 1, 1) := by decide +kernel
theorem d8_5 : decode prog_29_method_4_code 5 = .ok (.iaload, 1) := by decide +kernel
theorem d8_6 : decode prog_29_method_4_code 6 = .ok (.aload_n 0, 1) := by decide +kernel
theorem d8_7 : decode prog_29_method_4_code 7 = .ok (.getfield 25, 3) := by decide +kernel
theorem d8_10 : decode prog_29_method_4_code 10 = .ok (.if_icmp .eq 7, 3) := by decide +kernel
theorem d8_13 : decode prog_29_method_4_code 13 = .ok (.iconst 1, 1) := by decide +kernel
theorem d8_14 : decode prog_29_method_4_code 14 = .ok (.goto 4, 3) := by decide +kernel
theorem d8_17 : decode prog_29_method_4_code 17 = .ok (.iconst 0, 1) := by decide +kernel
theorem d8_18 : decode prog_29_method_4_code 18 = .ok (.istore_n 2, 1) := by decide +kernel
theorem d8_19 : decode prog_29_method_4_code 19 = .ok (.aload_n 0, 1) := by decide +kernel
theorem d8_20 : decode prog_29_method_4_code 20 = .ok (.getfield 7, 3) := by decide +kernel
theorem d8_23 : decode prog_29_method_4_code 23 = .ok (.iload_n 1, 1) := by decide +kernel
theorem d8_24 : decode prog_29_method_4_code 24 = .ok (.aload_n 0, 1) := by decide +kernel
theorem d8_25 : decode prog_29_method_4_code 25 = .ok (.getfield 25, 3) := by decide +kernel
theorem d8_28 : decode prog_29_method_4_code 28 = .ok (.iastore, 1) := by decide +kernel
theorem d8_29 : decode prog_29_method_4_code 29 = .ok (.iload_n 2, 1) := by decide +kernel
theorem d8_30 : decode prog_29_method_4_code 30 = .ok (.ireturn, 1) := by decide +kernel
theorem pn_8 : plainName "com/example/psilattice/psilattice/core/SortMarks" = true := by first | (simp [plainName, overriddenIn]; done) | decide +kernel
theorem pd_2 : parseMethodDescriptor "(II)I" = some ⟨[.int, .int], some .int⟩ := by decide +kernel
theorem pd_3 : parseMethodDescriptor "([II)[I" = some ⟨[(.array .int), .int], some (.array .int)⟩ := by decide +kernel
theorem pd_0 : parseMethodDescriptor "()V" = some ⟨[], none⟩ := by decide +kernel
theorem pd_1 : parseMethodDescriptor "(I)V" = some ⟨[.int], none⟩ := by decide +kernel
theorem pd_5 : parseMethodDescriptor "(I)Z" = some ⟨[.int], some .boolean⟩ := by decide +kernel

theorem ef_4 (m : MethodId) (p0 : Int32) (p1 : Int32) : entryFrame m #[(.int p0), (.int p1)] 2 = mkF m 0 #[.val (.int p0), .val (.int p1)] [] := by first | (simp [entryFrame, mkF, argsToLocals, Value.category]; done) | rfl
def own_max (p0 : Int32) (p1 : Int32) : Int32 := (if p0 < p1 then p1 else p0)
def Q4 (Z : State) (p0 : Int32) (p1 : Int32) (h0 : Heap) (n0 : Nat) (v : Option Value) (h : Heap) (L : List Loc) : Prop := v = some (.int (own_max p0 p1)) ∧ Fr n0 L ∧ h = h0
set_option maxRecDepth 65536 in
set_option maxHeartbeats 40000000 in
theorem rm4 (l : Launch) (Z : State) (A0 : Array Value) (hw : ∀ d ∈ tables_1, d.before A0 Z = true) (ws : List Jvm.Cond) (p0 : Int32) (p1 : Int32) (h0 : Heap) (n0 : Nat) (Z0 : n0 ≤ h0.size) :
    MetFree l (⟨"java/lang/Math", "max", "(II)I"⟩ : MethodName) (head1 (Jvm.Cond.code (⟨"java/lang/Math", "max", "(II)I"⟩ : MethodName) jdk_29_method_65_code 2 (some .int) :: ws) ({ frames := 0, cells := 0, slots := 0, locals := 0 } : Room)) (fun a U => a = #[(.int p0), (.int p1)] ∧ Z.Warmed39 U.vm ∧ U.heap = h0) (fun _ _ _ _ _ => True) (fun _ U o U' => ∃ v L, o = .returned v ∧ Q4 Z p0 p1 h0 n0 v U'.heap L ∧ FrameEnd U o U' L ({ frames := 0, cells := 0, slots := 0, locals := 0 } : Room).cells ({ frames := 0, cells := 0, slots := 0, locals := 0 } : Room).slots) := by
  refine MetFree.of_bodySF (Jvm.Free.JP.mathPlain rfl (by decide +kernel)) hisR ?_
  intro p e s m args below meth c s₁ Bd hml0 hP hK
  obtain ⟨rfl, hZ, hh⟩ := hP
  have hx := Bd.exec
  have hby := Bd.bytes
  have hml : c.maxLocals = 2 := hml0
  have hown : s.vm.findClass "java/lang/Math" = some m.cls := findClass_of_methodNamed Bd.named
  have hnm := (name_of_methodNamed Bd.named Bd.method).1
  have X0 : Stand p l e ({ frames := 0, cells := 0, slots := 0, locals := 0 } : Room) s m #[(.int p0), (.int p1)] below meth c s₁ [] 0 0 := Stand.of_body Bd
  have e0 : s₁.heap = h0 := by rw [← hh, Bd.state]; rfl
  have N0 := Fr.nil n0
  have pre0 : ∀ t, Steps p.tables e below (s₁.setTop (mkF m 0 #[.val (.int p0), .val (.int p1)] [])) t → Steps p.tables e below (s₁.setTop (entryFrame m #[(.int p0), (.int p1)] 2)) t := fun t k => castTop (ef_4 m p0 p1) k
  obtain ⟨v2, hv2⟩ : ∃ z : Int32, z = if p0 < p1 then p1 else p0 := ⟨_, rfl⟩
  obtain ⟨fs, hr, hrun, hended, hW, hsame⟩ := X0.leave (v := some (.int v2)) (fun h => by rw [Bd.returns] at h; cases h)
  refine ⟨_, _, pre0 _ ?_, hrun, hended, _, _, rfl, ?_, ⟨_, rfl⟩, hW, hsame.mono (by decide) (by decide)⟩
  · show Steps p.tables e below (s₁.setTop (mkF m 0 #[.val (.int p0), .val (.int p1)] [])) _
    refine XS.iloadN X0.here hx rfl (hb hby d4_0) rfl ?_
    show Steps p.tables e below (s₁.setTop (mkF m 1 #[.val (.int p0), .val (.int p1)] [(.int p0)])) _
    refine XS.iloadN X0.here hx rfl (hb hby d4_1) rfl ?_
    show Steps p.tables e below (s₁.setTop (mkF m 2 #[.val (.int p0), .val (.int p1)] [(.int p1), (.int p0)])) _
    refine own_dia (F := (mkF m 10 #[.val (.int p0), .val (.int p1)] [(.int v2)])) ?_ ?_
    · intro kt
      by_cases hc1 : p0 < p1
      · show Steps p.tables e below (s₁.setTop (mkF m 2 #[.val (.int p0), .val (.int p1)] [(.int p1), (.int p0)])) _
        refine XS.icmpYes X0.here hx rfl (pc0 := 2) (pc' := 9) rfl (hb hby d4_2) rfl (tlt hc1).1 (by decide) (by decide) ?_
        show Steps p.tables e below (s₁.setTop (mkF m 9 #[.val (.int p0), .val (.int p1)] [])) _
        refine XS.iloadN X0.here hx rfl (hb hby d4_9) rfl ?_
        exact castTop (by rw [hv2, if_pos hc1] <;> rfl) kt
      · show Steps p.tables e below (s₁.setTop (mkF m 2 #[.val (.int p0), .val (.int p1)] [(.int p1), (.int p0)])) _
        refine XS.icmpNo X0.here hx rfl (hb hby d4_2) rfl (flt hc1).1 ?_
        show Steps p.tables e below (s₁.setTop (mkF m 5 #[.val (.int p0), .val (.int p1)] [])) _
        refine XS.iloadN X0.here hx rfl (hb hby d4_5) rfl ?_
        show Steps p.tables e below (s₁.setTop (mkF m 6 #[.val (.int p0), .val (.int p1)] [(.int p0)])) _
        refine XS.goto X0.here hx rfl (pc0 := 6) (pc' := 10) rfl (hb hby d4_6) (by decide) (by decide) ?_
        exact castTop (by rw [hv2, if_neg hc1] <;> rfl) kt
    show Steps p.tables e below (s₁.setTop (mkF m 10 #[.val (.int p0), .val (.int p1)] [(.int v2)])) _
    exact retOut X0 hx Bd.returns rfl (Or.inl ⟨rfl, Or.inl rfl, _, rfl⟩) (hb hby d4_10) hr
  · show Q4 Z p0 p1 h0 n0 _ s₁.heap _
    subst hv2
    exact ⟨rfl, N0, e0⟩
theorem ef_6 (m : MethodId) (p0 : Int32) (p1 : Int32) : entryFrame m #[(.int p0), (.int p1)] 2 = mkF m 0 #[.val (.int p0), .val (.int p1)] [] := by first | (simp [entryFrame, mkF, argsToLocals, Value.category]; done) | rfl
def Q6 (Z : State) (p0 : Int32) (p1 : Int32) (h0 : Heap) (n0 : Nat) (v : Option Value) (h : Heap) (L : List Loc) : Prop := v = some (.int (if p1 < p0 then p1 else p0)) ∧ Fr n0 L ∧ h = h0
set_option maxRecDepth 65536 in
set_option maxHeartbeats 40000000 in
theorem rm6 (l : Launch) (Z : State) (A0 : Array Value) (hw : ∀ d ∈ tables_1, d.before A0 Z = true) (ws : List Jvm.Cond) (p0 : Int32) (p1 : Int32) (h0 : Heap) (n0 : Nat) (Z0 : n0 ≤ h0.size) :
    MetFree l (⟨"java/lang/Math", "min", "(II)I"⟩ : MethodName) (head1 (Jvm.Cond.code (⟨"java/lang/Math", "min", "(II)I"⟩ : MethodName) jdk_29_method_69_code 2 (some .int) :: ws) ({ frames := 0, cells := 0, slots := 0, locals := 0 } : Room)) (fun a U => a = #[(.int p0), (.int p1)] ∧ Z.Warmed39 U.vm ∧ U.heap = h0) (fun _ _ _ _ _ => True) (fun _ U o U' => ∃ v L, o = .returned v ∧ Q6 Z p0 p1 h0 n0 v U'.heap L ∧ FrameEnd U o U' L ({ frames := 0, cells := 0, slots := 0, locals := 0 } : Room).cells ({ frames := 0, cells := 0, slots := 0, locals := 0 } : Room).slots) := by
  refine MetFree.of_bodySF (Jvm.Free.JP.mathPlain rfl (by decide +kernel)) hisR ?_
  intro p e s m args below meth c s₁ Bd hml0 hP hK
  obtain ⟨rfl, hZ, hh⟩ := hP
  have hx := Bd.exec
  have hby := Bd.bytes
  have hml : c.maxLocals = 2 := hml0
  have hown : s.vm.findClass "java/lang/Math" = some m.cls := findClass_of_methodNamed Bd.named
  have hnm := (name_of_methodNamed Bd.named Bd.method).1
  have X0 : Stand p l e ({ frames := 0, cells := 0, slots := 0, locals := 0 } : Room) s m #[(.int p0), (.int p1)] below meth c s₁ [] 0 0 := Stand.of_body Bd
  have e0 : s₁.heap = h0 := by rw [← hh, Bd.state]; rfl
  have N0 := Fr.nil n0
  have pre0 : ∀ t, Steps p.tables e below (s₁.setTop (mkF m 0 #[.val (.int p0), .val (.int p1)] [])) t → Steps p.tables e below (s₁.setTop (entryFrame m #[(.int p0), (.int p1)] 2)) t := fun t k => castTop (ef_6 m p0 p1) k
  obtain ⟨v2, hv2⟩ : ∃ z : Int32, z = if p1 < p0 then p1 else p0 := ⟨_, rfl⟩
  obtain ⟨fs, hr, hrun, hended, hW, hsame⟩ := X0.leave (v := some (.int v2)) (fun h => by rw [Bd.returns] at h; cases h)
  refine ⟨_, _, pre0 _ ?_, hrun, hended, _, _, rfl, ?_, ⟨_, rfl⟩, hW, hsame.mono (by decide) (by decide)⟩
  · show Steps p.tables e below (s₁.setTop (mkF m 0 #[.val (.int p0), .val (.int p1)] [])) _
    refine XS.iloadN X0.here hx rfl (hb hby d6_0) rfl ?_
    show Steps p.tables e below (s₁.setTop (mkF m 1 #[.val (.int p0), .val (.int p1)] [(.int p0)])) _
    refine XS.iloadN X0.here hx rfl (hb hby d6_1) rfl ?_
    show Steps p.tables e below (s₁.setTop (mkF m 2 #[.val (.int p0), .val (.int p1)] [(.int p1), (.int p0)])) _
    refine own_dia (F := (mkF m 10 #[.val (.int p0), .val (.int p1)] [(.int v2)])) ?_ ?_
    · intro kt
      by_cases hc1 : p1 < p0
      · show Steps p.tables e below (s₁.setTop (mkF m 2 #[.val (.int p0), .val (.int p1)] [(.int p1), (.int p0)])) _
        refine XS.icmpYes X0.here hx rfl (pc0 := 2) (pc' := 9) rfl (hb hby d6_2) rfl (tlt hc1).2.2.1 (by decide) (by decide) ?_
        show Steps p.tables e below (s₁.setTop (mkF m 9 #[.val (.int p0), .val (.int p1)] [])) _
        refine XS.iloadN X0.here hx rfl (hb hby d6_9) rfl ?_
        exact castTop (by rw [hv2, if_pos hc1] <;> rfl) kt
      · show Steps p.tables e below (s₁.setTop (mkF m 2 #[.val (.int p0), .val (.int p1)] [(.int p1), (.int p0)])) _
        refine XS.icmpNo X0.here hx rfl (hb hby d6_2) rfl (flt hc1).2.2.1 ?_
        show Steps p.tables e below (s₁.setTop (mkF m 5 #[.val (.int p0), .val (.int p1)] [])) _
        refine XS.iloadN X0.here hx rfl (hb hby d6_5) rfl ?_
        show Steps p.tables e below (s₁.setTop (mkF m 6 #[.val (.int p0), .val (.int p1)] [(.int p0)])) _
        refine XS.goto X0.here hx rfl (pc0 := 6) (pc' := 10) rfl (hb hby d6_6) (by decide) (by decide) ?_
        exact castTop (by rw [hv2, if_neg hc1] <;> rfl) kt
    show Steps p.tables e below (s₁.setTop (mkF m 10 #[.val (.int p0), .val (.int p1)] [(.int v2)])) _
    exact retOut X0 hx Bd.returns rfl (Or.inl ⟨rfl, Or.inl rfl, _, rfl⟩) (hb hby d6_10) hr
  · show Q6 Z p0 p1 h0 n0 _ s₁.heap _
    subst hv2
    exact ⟨rfl, N0, e0⟩

theorem own_le_len {n : Nat} {p : Int32} (hn : n < 2147483648) (hle : ¬ p < Int32.ofNat n) : n ≤ p.toNatClampNeg := by
  rw [Int32.lt_iff_toInt_lt, Int32.toInt_ofNat_of_lt hn] at hle
  have : p.toNatClampNeg = p.toInt.toNat := rfl
  omega
theorem own_max_int (x y : Int32) : (own_max x y).toInt = max x.toInt y.toInt := by
  unfold own_max
  split
  · next h => rw [Int32.lt_iff_toInt_lt] at h; omega
  · next h => rw [Int32.lt_iff_toInt_lt] at h; omega
theorem own_two (n : Nat) (hn : n ≤ 8) : ((2 : Int32) * (Int32.ofNat n)).toInt = 2 * n := by
  have e := c_imul 2 (Int32.ofNat n)
  rw [Int32.toInt_ofNat_of_lt (by omega)] at e
  have k : (2 : Int32).toInt = 2 := by decide
  rw [k] at e
  have r := rng32 ((2 : Int32) * (Int32.ofNat n))
  omega
theorem own_grow (n : Nat) (p : Int32) (hs : n < 2147483648) (hc : Int32.ofNat n < p) (hp8 : p.toInt ≤ 8) : n < 8 ∧ n < p.toInt ∧ (own_max p ((2 : Int32) * (Int32.ofNat n))).toInt ≤ 16 ∧ n < (own_max p ((2 : Int32) * (Int32.ofNat n))).toInt ∧ p.toInt ≤ (own_max p ((2 : Int32) * (Int32.ofNat n))).toInt := by
  rw [Int32.lt_iff_toInt_lt, Int32.toInt_ofNat_of_lt hs] at hc
  have h8 : n < 8 := by omega
  rw [own_max_int, own_two n (by omega)]
  omega

theorem ef_5 (m : MethodId) (a0 : Addr) (p1 : Int32) : entryFrame m #[(.ref a0), (.int p1)] 3 = mkF m 0 #[.val (.ref a0), .val (.int p1), .unset] [] := by first | (simp [entryFrame, mkF, argsToLocals, Value.category]; done) | rfl
def Q5 (Z : State) (a0 : Addr) (p1 : Int32) (n_a0 : Nat) (g_a0 : Nat → Int32) (h0 : Heap) (n0 : Nat) (v : Option Value) (h : Heap) (L : List Loc) : Prop := ∃ b1 : Addr, v = some (.ref b1) ∧ Fr n0 L ∧ Keep h0 h [] ∧ h0.size ≤ b1 ∧ AF Z h b1 .int (p1).toNatClampNeg (fun j => .int ((fun j => if j < n_a0 then g_a0 j else (fun _ => (0 : Int32)) j) j))
set_option maxRecDepth 65536 in
set_option maxHeartbeats 40000000 in
theorem rm5 (l : Launch) (Z : State) (A0 : Array Value) (hw : ∀ d ∈ tables_1, d.before A0 Z = true) (ws : List Jvm.Cond) (a0 : Addr) (p1 : Int32) (n_a0 : Nat) (g_a0 : Nat → Int32) (h0 : Heap) (n0 : Nat) (Z0 : n0 ≤ h0.size) (A_a0 : AF Z h0 a0 .int n_a0 (fun j => .int (g_a0 j))) (hc3 : ¬ (p1 = (Int32.ofNat n_a0))) (hneg : ¬ p1 < (0 : Int32)) (hcap : p1.toNatClampNeg ≤ 16) (hle : ¬ (p1 < (Int32.ofNat n_a0))) :
    MetFree l (⟨"java/util/Arrays", "copyOf", "([II)[I"⟩ : MethodName) (head1 (Jvm.Cond.code (⟨"java/util/Arrays", "copyOf", "([II)[I"⟩ : MethodName) jdk_65_method_123_code 3 (some (.array .int)) :: ws) ({ frames := 1, cells := 1, slots := 16, locals := 40 } : Room)) (fun a U => a = #[(.ref a0), (.int p1)] ∧ Z.Warmed39 U.vm ∧ U.heap = h0) (fun _ _ _ _ _ => True) (fun _ U o U' => ∃ v L, o = .returned v ∧ Q5 Z a0 p1 n_a0 g_a0 h0 n0 v U'.heap L ∧ FrameEnd U o U' L ({ frames := 1, cells := 1, slots := 16, locals := 40 } : Room).cells ({ frames := 1, cells := 1, slots := 16, locals := 40 } : Room).slots) := by
  refine MetFree.of_bodySF (plainFor_of_name pn_5) hisR ?_
  intro p e s m args below meth c s₁ Bd hml0 hP hK
  obtain ⟨rfl, hZ, hh⟩ := hP
  have hx := Bd.exec
  have hby := Bd.bytes
  have hml : c.maxLocals = 3 := hml0
  have hown : s.vm.findClass "java/util/Arrays" = some m.cls := findClass_of_methodNamed Bd.named
  have hnm := (name_of_methodNamed Bd.named Bd.method).1
  have X0 : Stand p l e ({ frames := 1, cells := 1, slots := 16, locals := 40 } : Room) s m #[(.ref a0), (.int p1)] below meth c s₁ [] 0 0 := Stand.of_body Bd
  have e0 : s₁.heap = h0 := by rw [← hh, Bd.state]; rfl
  have N0 := Fr.nil n0
  have pre0 : ∀ t, Steps p.tables e below (s₁.setTop (mkF m 0 #[.val (.ref a0), .val (.int p1), .unset] [])) t → Steps p.tables e below (s₁.setTop (entryFrame m #[(.ref a0), (.int p1)] 3)) t := fun t k => castTop (ef_5 m a0 p1) k
  obtain ⟨T1, h1, k1, X1, e1, E1, A1, st1⟩ := newP X0 hx hZ (hw _ (List.mem_of_getElem? (i := 10) rfl)) e0 (g := (mkF m 15 #[.val (.ref a0), .val (.int p1), .unset] [(.int p1)])) rfl (hb hby d5_15) rfl hneg (cap := 16) hcap (by decide) (by decide) (by decide)
  obtain ⟨b1, g1⟩ : ∃ z, z = h0.size := ⟨_, rfl⟩
  rw [← g1] at A1 st1
  have ne_a0_b1 : a0 ≠ b1 := Nat.ne_of_lt (Nat.lt_of_lt_of_le A_a0.lt (Nat.le_of_eq g1.symm))
  have nw_b1 : n0 ≤ b1 := Nat.le_trans (Nat.le_trans Z0 (Keep.refl h0 []).1) (Nat.le_of_eq g1.symm)
  have sz_b1 : h0.size ≤ b1 := Nat.le_trans (Keep.refl h0 []).1 (Nat.le_of_eq g1.symm)
  have K1 : Keep h0 h1 [] := (Keep.refl h0 []).ext E1
  have V1 : AF Z h1 b1 .int (p1).toNatClampNeg (fun j => .int ((fun _ => (0 : Int32)) j)) := AF.new A1 hneg
  have G2 : AF Z h1 a0 .int n_a0 (fun j => .int (g_a0 j)) := (A_a0.ext E1)
  obtain ⟨_, _, ⟨T3, L3, k3, n3⟩, -, X3, ⟨Lc3, hQ3, l3, y3, z3⟩, st3⟩ := Jvm.LawKit.callS X1 hx (y := (⟨"java/lang/Math", "min", "(II)I"⟩ : MethodName)) hown (mvT hZ (hw _ (List.mem_of_getElem? (i := 26) rfl))) (mvT hZ (hw _ (List.mem_of_getElem? (i := 27) rfl))) (mvT hZ (hw _ (List.mem_of_getElem? (i := 20) rfl))) (mvT hZ (hw _ (List.mem_of_getElem? (i := 28) rfl))) (by decide) (backOf (W := 4) (rm6 l Z A0 hw [] (Int32.ofNat n_a0) p1 h1 n0 (Nat.le_trans Z0 K1.1) ) hZ (hw _ (List.mem_of_getElem? (i := 28) rfl)) (hw _ (List.mem_of_getElem? (i := 20) rfl)) (by decide) (by decide)) (g := (mkF m 25 #[.val (.ref a0), .val (.int p1), .val (.ref b1)] [(.int p1), (.int (Int32.ofNat n_a0)), (.int (0 : Int32)), (.ref b1), (.int (0 : Int32)), (.ref a0)])) rfl (by rw [hml]; rfl) (argsL := [(.int (Int32.ofNat n_a0)), (.int p1)]) (rest := [(.int (0 : Int32)), (.ref b1), (.int (0 : Int32)), (.ref a0)]) (lenOf pd_2 rfl) rfl (by show 2 * 0 + _ ≤ _; exact Nat.le_of_eq rfl) (hb hby d5_25) (fun _ _ => ⟨rfl, e1, (by decide : 1 + 0 ≤ _), (by decide : 16 + 0 ≤ _)⟩)
  dsimp only [Pt.U, Pt.locs, Pt.cells, Pt.slots] at X3 l3 y3 z3 st3 hQ3
  subst l3 y3 z3
  obtain ⟨rfl, N3q, e3⟩ := hQ3
  have N3 := Fr.app N0 N3q
  obtain ⟨T4, h4, L4, X4, e4, M4, Kc4, A4, st4⟩ := AF.copy X3 hx hZ (index := 150) hown (own_acW (mvT hZ (hw _ (List.mem_of_getElem? (i := 29) rfl))) (mvT hZ (hw _ (List.mem_of_getElem? (i := 32) rfl))) (mvT hZ (hw _ (List.mem_of_getElem? (i := 30) rfl))) (mvT hZ (hw _ (List.mem_of_getElem? (i := 31) rfl)))) e3 G2 V1 rfl (cnt := n_a0) (fun _ _ => rfl) (Nat.le_refl _) (own_le_len A_a0.small hle) (if_neg hle) (g := (mkF m 28 #[.val (.ref a0), .val (.int p1), .val (.ref b1)] [(.int (if p1 < (Int32.ofNat n_a0) then p1 else (Int32.ofNat n_a0))), (.int (0 : Int32)), (.ref b1), (.int (0 : Int32)), (.ref a0)])) rfl (by rw [hml]; rfl) (rest := []) rfl (hb hby d5_28) (W := 0) (by show 2 * 0 + _ ≤ _; exact Nat.le_of_eq rfl) (by decide) (by decide)
  have K4 : Keep h0 h4 [] := K1.trans Kc4 (allS (Or.inr sz_b1) all0)
  have N4 := Fr.app N3 (fun y hy => by rw [M4 y hy]; exact nw_b1 : Fr n0 L4)
  obtain ⟨f5, hf5⟩ : ∃ f : Nat → Int32, f = (fun j => if j < n_a0 then g_a0 j else (fun _ => (0 : Int32)) j) := ⟨_, rfl⟩
  have V4 : AF Z h4 b1 .int (p1).toNatClampNeg (fun j => .int (f5 j)) := AF.cong A4 (own_cpyI hf5)
  obtain ⟨fs, hr, hrun, hended, hW, hsame⟩ := X4.leave (v := some (.ref b1)) (fun h => by rw [Bd.returns] at h; cases h)
  refine ⟨_, _, pre0 _ ?_, hrun, hended, _, _, rfl, ?_, ⟨_, rfl⟩, hW, hsame.mono (by decide) (by decide)⟩
  · show Steps p.tables e below (s₁.setTop (mkF m 0 #[.val (.ref a0), .val (.int p1), .unset] [])) _
    refine XS.iloadN X0.here hx rfl (hb hby d5_0) rfl ?_
    show Steps p.tables e below (s₁.setTop (mkF m 1 #[.val (.ref a0), .val (.int p1), .unset] [(.int p1)])) _
    refine XS.aloadN X0.here hx rfl (hb hby d5_1) rfl rfl ?_
    show Steps p.tables e below (s₁.setTop (mkF m 2 #[.val (.ref a0), .val (.int p1), .unset] [(.ref a0), (.int p1)])) _
    refine AF.len X0 hx hZ e0 A_a0 (g := (mkF m 2 #[.val (.ref a0), .val (.int p1), .unset] [(.ref a0), (.int p1)])) rfl rfl (hb hby d5_2) _ ?_
    show Steps p.tables e below (s₁.setTop (mkF m 3 #[.val (.ref a0), .val (.int p1), .unset] [(.int (Int32.ofNat n_a0)), (.int p1)])) _
    refine XS.icmpYes X0.here hx rfl (pc0 := 3) (pc' := 14) rfl (hb hby d5_3) rfl (feq hc3).2 (by decide) (by decide) ?_
    show Steps p.tables e below (s₁.setTop (mkF m 14 #[.val (.ref a0), .val (.int p1), .unset] [])) _
    refine XS.iloadN X0.here hx rfl (hb hby d5_14) rfl ?_
    show Steps p.tables e below (s₁.setTop (mkF m 15 #[.val (.ref a0), .val (.int p1), .unset] [(.int p1)])) _
    refine st1 _ ?_
    show Steps p.tables e below (T1.setTop (mkF m 17 #[.val (.ref a0), .val (.int p1), .unset] [(.ref b1)])) _
    refine XS.astoreN X1.here hx rfl (hb hby d5_17) rfl rfl (l' := #[.val (.ref a0), .val (.int p1), .val (.ref b1)]) rfl ?_
    show Steps p.tables e below (T1.setTop (mkF m 18 #[.val (.ref a0), .val (.int p1), .val (.ref b1)] [])) _
    refine XS.aloadN X1.here hx rfl (hb hby d5_18) rfl rfl ?_
    show Steps p.tables e below (T1.setTop (mkF m 19 #[.val (.ref a0), .val (.int p1), .val (.ref b1)] [(.ref a0)])) _
    refine XS.iconst X1.here hx rfl (hb hby d5_19) ?_
    show Steps p.tables e below (T1.setTop (mkF m 20 #[.val (.ref a0), .val (.int p1), .val (.ref b1)] [(.int (0 : Int32)), (.ref a0)])) _
    refine XS.aloadN X1.here hx rfl (hb hby d5_20) rfl rfl ?_
    show Steps p.tables e below (T1.setTop (mkF m 21 #[.val (.ref a0), .val (.int p1), .val (.ref b1)] [(.ref b1), (.int (0 : Int32)), (.ref a0)])) _
    refine XS.iconst X1.here hx rfl (hb hby d5_21) ?_
    show Steps p.tables e below (T1.setTop (mkF m 22 #[.val (.ref a0), .val (.int p1), .val (.ref b1)] [(.int (0 : Int32)), (.ref b1), (.int (0 : Int32)), (.ref a0)])) _
    refine XS.aloadN X1.here hx rfl (hb hby d5_22) rfl rfl ?_
    show Steps p.tables e below (T1.setTop (mkF m 23 #[.val (.ref a0), .val (.int p1), .val (.ref b1)] [(.ref a0), (.int (0 : Int32)), (.ref b1), (.int (0 : Int32)), (.ref a0)])) _
    refine AF.len X1 hx hZ e1 G2 (g := (mkF m 23 #[.val (.ref a0), .val (.int p1), .val (.ref b1)] [(.ref a0), (.int (0 : Int32)), (.ref b1), (.int (0 : Int32)), (.ref a0)])) rfl rfl (hb hby d5_23) _ ?_
    show Steps p.tables e below (T1.setTop (mkF m 24 #[.val (.ref a0), .val (.int p1), .val (.ref b1)] [(.int (Int32.ofNat n_a0)), (.int (0 : Int32)), (.ref b1), (.int (0 : Int32)), (.ref a0)])) _
    refine XS.iloadN X1.here hx rfl (hb hby d5_24) rfl ?_
    show Steps p.tables e below (T1.setTop (mkF m 25 #[.val (.ref a0), .val (.int p1), .val (.ref b1)] [(.int p1), (.int (Int32.ofNat n_a0)), (.int (0 : Int32)), (.ref b1), (.int (0 : Int32)), (.ref a0)])) _
    refine st3 _ ?_
    show Steps p.tables e below (T3.setTop (mkF m 28 #[.val (.ref a0), .val (.int p1), .val (.ref b1)] [(.int (if p1 < (Int32.ofNat n_a0) then p1 else (Int32.ofNat n_a0))), (.int (0 : Int32)), (.ref b1), (.int (0 : Int32)), (.ref a0)])) _
    refine st4 _ ?_
    show Steps p.tables e below (T4.setTop (mkF m 31 #[.val (.ref a0), .val (.int p1), .val (.ref b1)] [])) _
    refine XS.aloadN X4.here hx rfl (hb hby d5_31) rfl rfl ?_
    show Steps p.tables e below (T4.setTop (mkF m 32 #[.val (.ref a0), .val (.int p1), .val (.ref b1)] [(.ref b1)])) _
    exact retOut X4 hx Bd.returns rfl (Or.inr (Or.inr (Or.inr (Or.inr ⟨rfl, rfl, rfl⟩)))) (hb hby d5_32) hr
  · show Q5 Z a0 p1 n_a0 g_a0 h0 n0 _ T4.heap _
    rw [e4]
    subst hf5
    exact ⟨b1, rfl, N4, K4, sz_b1, V4⟩
theorem ef_1 (m : MethodId) (a0 : Addr) : entryFrame m #[(.ref a0)] 1 = mkF m 0 #[.val (.ref a0)] [] := by first | (simp [entryFrame, mkF, argsToLocals, Value.category]; done) | rfl
def Q1 (Z : State) (a0 : Addr) (w_marks_a0 : Value) (w_mark_a0 : Int32) (h0 : Heap) (n0 : Nat) (v : Option Value) (h : Heap) (L : List Loc) : Prop := ∃ b2 : Addr, v = none ∧ Fr n0 L ∧ Keep h0 h [a0] ∧ h0.size ≤ b2 ∧ Exa Z h a0 "com/example/psilattice/psilattice/core/SortMarks" ∧ Fld Z h a0 "com/example/psilattice/psilattice/core/SortMarks" "marks" "[I" (.ref b2) ∧ Fld Z h a0 "com/example/psilattice/psilattice/core/SortMarks" "mark" "I" (.int w_mark_a0) ∧ AF Z h b2 .int 0 (fun j => .int ((fun _ => (0 : Int32)) j))
set_option maxRecDepth 65536 in
set_option maxHeartbeats 40000000 in
theorem rm1 (l : Launch) (Z : State) (A0 : Array Value) (hw : ∀ d ∈ tables_1, d.before A0 Z = true) (ws : List Jvm.Cond) (a0 : Addr) (w_marks_a0 : Value) (w_mark_a0 : Int32) (h0 : Heap) (n0 : Nat) (Z0 : n0 ≤ h0.size) (E_a0 : Exa Z h0 a0 "com/example/psilattice/psilattice/core/SortMarks") (F_marks_a0 : Fld Z h0 a0 "com/example/psilattice/psilattice/core/SortMarks" "marks" "[I" w_marks_a0) (F_mark_a0 : Fld Z h0 a0 "com/example/psilattice/psilattice/core/SortMarks" "mark" "I" (.int w_mark_a0)) (nw_a0 : n0 ≤ a0) :
    MetFree l (⟨"com/example/psilattice/psilattice/core/SortMarks", "<init>", "()V"⟩ : MethodName) (head1 (Jvm.Cond.code (⟨"com/example/psilattice/psilattice/core/SortMarks", "<init>", "()V"⟩ : MethodName) prog_29_method_1_code 1 none :: ws) ({ frames := 1, cells := 1, slots := 0, locals := 12 } : Room)) (fun a U => a = #[(.ref a0)] ∧ Z.Warmed39 U.vm ∧ U.heap = h0) (fun _ _ _ _ _ => True) (fun _ U o U' => ∃ v L, o = .returned v ∧ Q1 Z a0 w_marks_a0 w_mark_a0 h0 n0 v U'.heap L ∧ FrameEnd U o U' L ({ frames := 1, cells := 1, slots := 0, locals := 12 } : Room).cells ({ frames := 1, cells := 1, slots := 0, locals := 12 } : Room).slots) := by
  refine MetFree.of_bodySF (plainFor_of_name pn_1) hisR ?_
  intro p e s m args below meth c s₁ Bd hml0 hP hK
  obtain ⟨rfl, hZ, hh⟩ := hP
  have hx := Bd.exec
  have hby := Bd.bytes
  have hml : c.maxLocals = 1 := hml0
  have hown : s.vm.findClass "com/example/psilattice/psilattice/core/SortMarks" = some m.cls := findClass_of_methodNamed Bd.named
  have hnm := (name_of_methodNamed Bd.named Bd.method).1
  have X0 : Stand p l e ({ frames := 1, cells := 1, slots := 0, locals := 12 } : Room) s m #[(.ref a0)] below meth c s₁ [] 0 0 := Stand.of_body Bd
  have e0 : s₁.heap = h0 := by rw [← hh, Bd.state]; rfl
  have N0 := Fr.nil n0
  have pre0 : ∀ t, Steps p.tables e below (s₁.setTop (mkF m 0 #[.val (.ref a0)] [])) t → Steps p.tables e below (s₁.setTop (entryFrame m #[(.ref a0)] 1)) t := fun t k => castTop (ef_1 m a0) k
  obtain ⟨T1, X1, e1, st1⟩ := initO X0 hx hZ hown (hw _ (List.mem_of_getElem? (i := 7) rfl)) (hw _ (List.mem_of_getElem? (i := 8) rfl)) (hw _ (List.mem_of_getElem? (i := 9) rfl)) e0 (g := (mkF m 1 #[.val (.ref a0)] [(.ref a0)])) rfl (by rw [hml]; rfl) rfl (hb hby d1_1) (by decide) (W := 0) (by show 2 * 0 + _ ≤ _; exact Nat.le_of_eq rfl) (by decide)
  obtain ⟨T2, h2, k2, X2, e2, E2, A2, st2⟩ := newP X1 hx hZ (hw _ (List.mem_of_getElem? (i := 10) rfl)) e1 (g := (mkF m 6 #[.val (.ref a0)] [(.int (0 : Int32)), (.ref a0)])) rfl (hb hby d1_6) rfl (by decide) (cap := 0) (by decide) (by decide) (by decide) (by decide)
  obtain ⟨b2, g2⟩ : ∃ z, z = h0.size := ⟨_, rfl⟩
  rw [← g2] at A2 st2
  have ne_a0_b2 : a0 ≠ b2 := Nat.ne_of_lt (Nat.lt_of_lt_of_le E_a0.lt (Nat.le_of_eq g2.symm))
  have nw_b2 : n0 ≤ b2 := Nat.le_trans (Nat.le_trans Z0 (Keep.refl h0 [a0]).1) (Nat.le_of_eq g2.symm)
  have sz_b2 : h0.size ≤ b2 := Nat.le_trans (Keep.refl h0 [a0]).1 (Nat.le_of_eq g2.symm)
  have K2 : Keep h0 h2 [a0] := (Keep.refl h0 [a0]).ext E2
  have V2 : AF Z h2 b2 .int 0 (fun j => .int ((fun _ => (0 : Int32)) j)) := AF.new A2 (by decide)
  have G3 : Exa Z h2 a0 "com/example/psilattice/psilattice/core/SortMarks" := (E_a0.ext E2)
  have G4 : Fld Z h2 a0 "com/example/psilattice/psilattice/core/SortMarks" "marks" "[I" w_marks_a0 := (F_marks_a0.ext E2)
  obtain ⟨T5, h5, X5, e5, W5, st5⟩ := putF X2 hx hZ hown (host := "") (Or.inl (hw _ (List.mem_of_getElem? (i := 11) rfl))) Via.refl e2 G4 G3 (Or.inl (hw _ (List.mem_of_getElem? (i := 12) rfl))) (hw _ (List.mem_of_getElem? (i := 2) rfl)) (ty := (.array .int)) (by decide) rfl rfl (g := (mkF m 8 #[.val (.ref a0)] [(.ref b2), (.ref a0)])) rfl rfl (hb hby d1_8)
  have K5 : Keep h0 h5 [a0] := K2.wr W5 (Or.inl (by simp))
  have Fw5 : Fld Z h5 a0 "com/example/psilattice/psilattice/core/SortMarks" "marks" "[I" (.ref b2) := G4.same W5
  have N5 := Fr.snoc X5 N0 nw_a0
  obtain ⟨fs, hr, hrun, hended, hW, hsame⟩ := X5.leave (v := none) (fun _ => rfl)
  refine ⟨_, _, pre0 _ ?_, hrun, hended, _, _, rfl, ?_, ⟨_, rfl⟩, hW, hsame.mono (by decide) (by decide)⟩
  · show Steps p.tables e below (s₁.setTop (mkF m 0 #[.val (.ref a0)] [])) _
    refine XS.aloadN X0.here hx rfl (hb hby d1_0) rfl rfl ?_
    show Steps p.tables e below (s₁.setTop (mkF m 1 #[.val (.ref a0)] [(.ref a0)])) _
    refine st1 _ ?_
    show Steps p.tables e below (T1.setTop (mkF m 4 #[.val (.ref a0)] [])) _
    refine XS.aloadN X1.here hx rfl (hb hby d1_4) rfl rfl ?_
    show Steps p.tables e below (T1.setTop (mkF m 5 #[.val (.ref a0)] [(.ref a0)])) _
    refine XS.iconst X1.here hx rfl (hb hby d1_5) ?_
    show Steps p.tables e below (T1.setTop (mkF m 6 #[.val (.ref a0)] [(.int (0 : Int32)), (.ref a0)])) _
    refine st2 _ ?_
    show Steps p.tables e below (T2.setTop (mkF m 8 #[.val (.ref a0)] [(.ref b2), (.ref a0)])) _
    refine st5 _ ?_
    show Steps p.tables e below (T5.setTop (mkF m 11 #[.val (.ref a0)] [])) _
    exact X5.returnOut hx Bd.returns (hb hby d1_11) hr
  have G6 : Exa Z h5 a0 "com/example/psilattice/psilattice/core/SortMarks" := (G3.wr W5)
  have G7 : Fld Z h5 a0 "com/example/psilattice/psilattice/core/SortMarks" "mark" "I" (.int w_mark_a0) := ((F_mark_a0.ext E2).other W5 (Or.inr (slot_ne (Or.inl (hw _ (List.mem_of_getElem? (i := 34) rfl))) (Or.inl (hw _ (List.mem_of_getElem? (i := 12) rfl))) (by decide) (t := .int) (t' := (.array .int)) (by decide) (by decide))))
  have G8 : AF Z h5 b2 .int 0 (fun j => .int ((fun _ => (0 : Int32)) j)) := (V2.other W5 (Ne.symm ne_a0_b2))
  · show Q1 Z a0 w_marks_a0 w_mark_a0 h0 n0 _ T5.heap _
    rw [e5]
    exact ⟨b2, rfl, N5, K5, sz_b2, G6, Fw5, G7, G8⟩
theorem own_g1 (p1 : Int32) (n_w_marks_a0 : Nat) (hs : n_w_marks_a0 < 2147483648) (hc6 : (Int32.ofNat n_w_marks_a0) < p1) (hp8 : p1.toInt ≤ 8) : ¬ ((own_max p1 ((2 : Int32) * (Int32.ofNat n_w_marks_a0))) = (Int32.ofNat n_w_marks_a0)) := by
  obtain ⟨a1, a2, a3, a4, a5⟩ := own_grow n_w_marks_a0 p1 hs hc6 hp8
  intro q
  have q' := congrArg Int32.toInt q
  rw [Int32.toInt_ofNat_of_lt hs] at q'
  omega
theorem own_g2 (p1 : Int32) (n_w_marks_a0 : Nat) (hs : n_w_marks_a0 < 2147483648) (hc6 : (Int32.ofNat n_w_marks_a0) < p1) (hp8 : p1.toInt ≤ 8) : ¬ (own_max p1 ((2 : Int32) * (Int32.ofNat n_w_marks_a0))) < (0 : Int32) := by
  obtain ⟨a1, a2, a3, a4, a5⟩ := own_grow n_w_marks_a0 p1 hs hc6 hp8
  rw [Int32.lt_iff_toInt_lt]
  have k : (0 : Int32).toInt = 0 := by decide
  omega
theorem own_g3 (p1 : Int32) (n_w_marks_a0 : Nat) (hs : n_w_marks_a0 < 2147483648) (hc6 : (Int32.ofNat n_w_marks_a0) < p1) (hp8 : p1.toInt ≤ 8) : (own_max p1 ((2 : Int32) * (Int32.ofNat n_w_marks_a0))).toNatClampNeg ≤ 16 := by
  obtain ⟨a1, a2, a3, a4, a5⟩ := own_grow n_w_marks_a0 p1 hs hc6 hp8
  have k : ∀ x : Int32, x.toNatClampNeg = x.toInt.toNat := fun _ => rfl
  rw [k]
  omega
theorem own_g4 (p1 : Int32) (n_w_marks_a0 : Nat) (hs : n_w_marks_a0 < 2147483648) (hc6 : (Int32.ofNat n_w_marks_a0) < p1) (hp8 : p1.toInt ≤ 8) : ¬ ((own_max p1 ((2 : Int32) * (Int32.ofNat n_w_marks_a0))) < (Int32.ofNat n_w_marks_a0)) := by
  obtain ⟨a1, a2, a3, a4, a5⟩ := own_grow n_w_marks_a0 p1 hs hc6 hp8
  rw [Int32.lt_iff_toInt_lt, Int32.toInt_ofNat_of_lt hs]
  omega
theorem ef_3g (m : MethodId) (a0 : Addr) (p1 : Int32) : entryFrame m #[(.ref a0), (.int p1)] 2 = mkF m 0 #[.val (.ref a0), .val (.int p1)] [] := by first | (simp [entryFrame, mkF, argsToLocals, Value.category]; done) | rfl
def Q3g (Z : State) (a0 : Addr) (p1 : Int32) (w_marks_a0 : Addr) (w_mark_a0 : Int32) (n_w_marks_a0 : Nat) (g_w_marks_a0 : Nat → Int32) (h0 : Heap) (n0 : Nat) (v : Option Value) (h : Heap) (L : List Loc) : Prop := ∃ b9_b1 : Addr, v = none ∧ Fr n0 L ∧ Keep h0 h [a0] ∧ h0.size ≤ b9_b1 ∧ Exa Z h a0 "com/example/psilattice/psilattice/core/SortMarks" ∧ Fld Z h a0 "com/example/psilattice/psilattice/core/SortMarks" "marks" "[I" (.ref b9_b1) ∧ Fld Z h a0 "com/example/psilattice/psilattice/core/SortMarks" "mark" "I" (.int (w_mark_a0 + (1 : Int32))) ∧ AF Z h b9_b1 .int ((own_max p1 ((2 : Int32) * (Int32.ofNat n_w_marks_a0)))).toNatClampNeg (fun j => .int ((fun j => if j < n_w_marks_a0 then g_w_marks_a0 j else (fun _ => (0 : Int32)) j) j))
set_option maxRecDepth 65536 in
set_option maxHeartbeats 40000000 in
theorem rm3g (l : Launch) (Z : State) (A0 : Array Value) (hw : ∀ d ∈ tables_1, d.before A0 Z = true) (ws : List Jvm.Cond) (a0 : Addr) (p1 : Int32) (w_marks_a0 : Addr) (w_mark_a0 : Int32) (n_w_marks_a0 : Nat) (g_w_marks_a0 : Nat → Int32) (h0 : Heap) (n0 : Nat) (Z0 : n0 ≤ h0.size) (E_a0 : Exa Z h0 a0 "com/example/psilattice/psilattice/core/SortMarks") (F_marks_a0 : Fld Z h0 a0 "com/example/psilattice/psilattice/core/SortMarks" "marks" "[I" (.ref w_marks_a0)) (F_mark_a0 : Fld Z h0 a0 "com/example/psilattice/psilattice/core/SortMarks" "mark" "I" (.int w_mark_a0)) (A_w_marks_a0 : AF Z h0 w_marks_a0 .int n_w_marks_a0 (fun j => .int (g_w_marks_a0 j))) (nw_a0 : n0 ≤ a0) (hp8 : p1.toInt ≤ 8) (hc6 : (Int32.ofNat n_w_marks_a0) < p1) (hc37 : ¬ (w_mark_a0 = (2147483647 : Int32))) :
    MetFree l (⟨"com/example/psilattice/psilattice/core/SortMarks", "start", "(I)V"⟩ : MethodName) (head1 (Jvm.Cond.code (⟨"com/example/psilattice/psilattice/core/SortMarks", "start", "(I)V"⟩ : MethodName) prog_29_method_2_code 2 none :: ws) ({ frames := 2, cells := 1, slots := 16, locals := 55 } : Room)) (fun a U => a = #[(.ref a0), (.int p1)] ∧ Z.Warmed39 U.vm ∧ U.heap = h0) (fun _ _ _ _ _ => True) (fun _ U o U' => ∃ v L, o = .returned v ∧ Q3g Z a0 p1 w_marks_a0 w_mark_a0 n_w_marks_a0 g_w_marks_a0 h0 n0 v U'.heap L ∧ FrameEnd U o U' L ({ frames := 2, cells := 1, slots := 16, locals := 55 } : Room).cells ({ frames := 2, cells := 1, slots := 16, locals := 55 } : Room).slots) := by
  refine MetFree.of_bodySF (plainFor_of_name pn_3) hisR ?_
  intro p e s m args below meth c s₁ Bd hml0 hP hK
  obtain ⟨rfl, hZ, hh⟩ := hP
  have hx := Bd.exec
  have hby := Bd.bytes
  have hml : c.maxLocals = 2 := hml0
  have hown : s.vm.findClass "com/example/psilattice/psilattice/core/SortMarks" = some m.cls := findClass_of_methodNamed Bd.named
  have hnm := (name_of_methodNamed Bd.named Bd.method).1
  have X0 : Stand p l e ({ frames := 2, cells := 1, slots := 16, locals := 55 } : Room) s m #[(.ref a0), (.int p1)] below meth c s₁ [] 0 0 := Stand.of_body Bd
  have e0 : s₁.heap = h0 := by rw [← hh, Bd.state]; rfl
  have N0 := Fr.nil n0
  have pre0 : ∀ t, Steps p.tables e below (s₁.setTop (mkF m 0 #[.val (.ref a0), .val (.int p1)] [])) t → Steps p.tables e below (s₁.setTop (entryFrame m #[(.ref a0), (.int p1)] 2)) t := fun t k => castTop (ef_3g m a0 p1) k
  obtain ⟨T1, X1, e1, st1⟩ := getF X0 hx hZ hown (host := "") (Or.inl (hw _ (List.mem_of_getElem? (i := 11) rfl))) Via.refl e0 F_marks_a0 (g := (mkF m 1 #[.val (.ref a0), .val (.int p1)] [(.ref a0)])) rfl rfl (hb hby d3_1)
  obtain ⟨T2, X2, e2, st2⟩ := getF X1 hx hZ hown (host := "") (Or.inl (hw _ (List.mem_of_getElem? (i := 11) rfl))) Via.refl e1 F_marks_a0 (g := (mkF m 11 #[.val (.ref a0), .val (.int p1)] [(.ref a0), (.ref a0)])) rfl rfl (hb hby d3_11)
  obtain ⟨T3, X3, e3, st3⟩ := getF X2 hx hZ hown (host := "") (Or.inl (hw _ (List.mem_of_getElem? (i := 11) rfl))) Via.refl e2 F_marks_a0 (g := (mkF m 17 #[.val (.ref a0), .val (.int p1)] [(.ref a0), (.int (2 : Int32)), (.int p1), (.ref w_marks_a0), (.ref a0)])) rfl rfl (hb hby d3_17)
  obtain ⟨_, _, ⟨T4, L4, k4, n4⟩, -, X4, ⟨Lc4, hQ4, l4, y4, z4⟩, st4⟩ := Jvm.LawKit.callS X3 hx (y := (⟨"java/lang/Math", "max", "(II)I"⟩ : MethodName)) hown (mvT hZ (hw _ (List.mem_of_getElem? (i := 18) rfl))) (mvT hZ (hw _ (List.mem_of_getElem? (i := 19) rfl))) (mvT hZ (hw _ (List.mem_of_getElem? (i := 20) rfl))) (mvT hZ (hw _ (List.mem_of_getElem? (i := 21) rfl))) (by decide) (backOf (W := 2) (rm4 l Z A0 hw [] p1 ((2 : Int32) * (Int32.ofNat n_w_marks_a0)) h0 n0 (Nat.le_trans Z0 (Keep.refl h0 [a0]).1) ) hZ (hw _ (List.mem_of_getElem? (i := 21) rfl)) (hw _ (List.mem_of_getElem? (i := 20) rfl)) (by decide) (by decide)) (g := (mkF m 22 #[.val (.ref a0), .val (.int p1)] [(.int ((2 : Int32) * (Int32.ofNat n_w_marks_a0))), (.int p1), (.ref w_marks_a0), (.ref a0)])) rfl (by rw [hml]; rfl) (argsL := [(.int p1), (.int ((2 : Int32) * (Int32.ofNat n_w_marks_a0)))]) (rest := [(.ref w_marks_a0), (.ref a0)]) (lenOf pd_2 rfl) rfl (by show 2 * 0 + _ ≤ _; exact Nat.le_of_eq rfl) (hb hby d3_22) (fun _ _ => ⟨rfl, e3, (by decide : 0 + 0 ≤ _), (by decide : 0 + 0 ≤ _)⟩)
  dsimp only [Pt.U, Pt.locs, Pt.cells, Pt.slots] at X4 l4 y4 z4 st4 hQ4
  subst l4 y4 z4
  obtain ⟨rfl, N4q, e4⟩ := hQ4
  have N4 := Fr.app N0 N4q
  have hs := A_w_marks_a0.small
  have hp5 : ¬ ((own_max p1 ((2 : Int32) * (Int32.ofNat n_w_marks_a0))) = (Int32.ofNat n_w_marks_a0)) := (own_g1 p1 n_w_marks_a0 hs hc6 hp8)
  have hp6 : ¬ (own_max p1 ((2 : Int32) * (Int32.ofNat n_w_marks_a0))) < (0 : Int32) := (own_g2 p1 n_w_marks_a0 hs hc6 hp8)
  have hp7 : (own_max p1 ((2 : Int32) * (Int32.ofNat n_w_marks_a0))).toNatClampNeg ≤ 16 := (own_g3 p1 n_w_marks_a0 hs hc6 hp8)
  have hp8 : ¬ ((own_max p1 ((2 : Int32) * (Int32.ofNat n_w_marks_a0))) < (Int32.ofNat n_w_marks_a0)) := (own_g4 p1 n_w_marks_a0 hs hc6 hp8)
  obtain ⟨_, _, ⟨T9, L9, k9, n9⟩, -, X9, ⟨Lc9, hQ9, l9, y9, z9⟩, st9⟩ := Jvm.LawKit.callS X4 hx (y := (⟨"java/util/Arrays", "copyOf", "([II)[I"⟩ : MethodName)) hown (mvT hZ (hw _ (List.mem_of_getElem? (i := 22) rfl))) (mvT hZ (hw _ (List.mem_of_getElem? (i := 23) rfl))) (mvT hZ (hw _ (List.mem_of_getElem? (i := 24) rfl))) (mvT hZ (hw _ (List.mem_of_getElem? (i := 25) rfl))) (by decide) (backOf (W := 1) (rm5 l Z A0 hw [] w_marks_a0 (own_max p1 ((2 : Int32) * (Int32.ofNat n_w_marks_a0))) n_w_marks_a0 g_w_marks_a0 h0 n0 (Nat.le_trans Z0 (Keep.refl h0 [a0]).1) A_w_marks_a0 hp5 hp6 hp7 hp8) hZ (hw _ (List.mem_of_getElem? (i := 25) rfl)) (hw _ (List.mem_of_getElem? (i := 24) rfl)) (by decide) (by decide)) (g := (mkF m 25 #[.val (.ref a0), .val (.int p1)] [(.int (own_max p1 ((2 : Int32) * (Int32.ofNat n_w_marks_a0)))), (.ref w_marks_a0), (.ref a0)])) rfl (by rw [hml]; rfl) (argsL := [(.ref w_marks_a0), (.int (own_max p1 ((2 : Int32) * (Int32.ofNat n_w_marks_a0))))]) (rest := [(.ref a0)]) (lenOf pd_3 rfl) rfl (by show 2 * 0 + _ ≤ _; exact Nat.le_of_eq rfl) (hb hby d3_25) (fun _ _ => ⟨rfl, e4, (by decide : 0 + 1 ≤ _), (by decide : 0 + 16 ≤ _)⟩)
  dsimp only [Pt.U, Pt.locs, Pt.cells, Pt.slots] at X9 l9 y9 z9 st9 hQ9
  subst l9 y9 z9
  obtain ⟨b9_b1, rfl, N9q, Kc9, szb9_b1, P10⟩ := hQ9
  have ne_a0_b9_b1 : a0 ≠ b9_b1 := Nat.ne_of_lt (Nat.lt_of_lt_of_le E_a0.lt szb9_b1)
  have ne_w_marks_a0_b9_b1 : w_marks_a0 ≠ b9_b1 := Nat.ne_of_lt (Nat.lt_of_lt_of_le A_w_marks_a0.lt szb9_b1)
  have nw_b9_b1 : n0 ≤ b9_b1 := Nat.le_trans (Nat.le_trans Z0 (Keep.refl h0 [a0]).1) szb9_b1
  have sq_b9_b1 : h0.size ≤ b9_b1 := Nat.le_trans (Keep.refl h0 [a0]).1 szb9_b1
  have K9 : Keep h0 T9.heap [a0] := (Keep.refl h0 [a0]).trans Kc9 all0
  have N9 := Fr.app N4 N9q
  have G11 : Exa Z T9.heap a0 "com/example/psilattice/psilattice/core/SortMarks" := (E_a0.keep Kc9)
  have G12 : Fld Z T9.heap a0 "com/example/psilattice/psilattice/core/SortMarks" "marks" "[I" (.ref w_marks_a0) := (F_marks_a0.keep Kc9 nin0)
  obtain ⟨T13, h13, X13, e13, W13, st13⟩ := putF X9 hx hZ hown (host := "") (Or.inl (hw _ (List.mem_of_getElem? (i := 11) rfl))) Via.refl rfl G12 G11 (Or.inl (hw _ (List.mem_of_getElem? (i := 12) rfl))) (hw _ (List.mem_of_getElem? (i := 2) rfl)) (ty := (.array .int)) (by decide) rfl rfl (g := (mkF m 28 #[.val (.ref a0), .val (.int p1)] [(.ref b9_b1), (.ref a0)])) rfl rfl (hb hby d3_28)
  have K13 : Keep h0 h13 [a0] := K9.wr W13 (Or.inl (by simp))
  have Fw13 : Fld Z h13 a0 "com/example/psilattice/psilattice/core/SortMarks" "marks" "[I" (.ref b9_b1) := G12.same W13
  have N13 := Fr.snoc X13 N9 nw_a0
  have G14 : Fld Z h13 a0 "com/example/psilattice/psilattice/core/SortMarks" "mark" "I" (.int w_mark_a0) := ((F_mark_a0.keep Kc9 nin0).other W13 (Or.inr (slot_ne (Or.inl (hw _ (List.mem_of_getElem? (i := 34) rfl))) (Or.inl (hw _ (List.mem_of_getElem? (i := 12) rfl))) (by decide) (t := .int) (t' := (.array .int)) (by decide) (by decide))))
  obtain ⟨T15, X15, e15, st15⟩ := getF X13 hx hZ hown (host := "") (Or.inl (hw _ (List.mem_of_getElem? (i := 33) rfl))) Via.refl e13 G14 (g := (mkF m 32 #[.val (.ref a0), .val (.int p1)] [(.ref a0)])) rfl rfl (hb hby d3_32)
  obtain ⟨T16, X16, e16, st16⟩ := getF X15 hx hZ hown (host := "") (Or.inl (hw _ (List.mem_of_getElem? (i := 33) rfl))) Via.refl e15 G14 (g := (mkF m 55 #[.val (.ref a0), .val (.int p1)] [(.ref a0), (.ref a0)])) rfl rfl (hb hby d3_55)
  have G17 : Exa Z h13 a0 "com/example/psilattice/psilattice/core/SortMarks" := (G11.wr W13)
  obtain ⟨T18, h18, X18, e18, W18, st18⟩ := putF X16 hx hZ hown (host := "") (Or.inl (hw _ (List.mem_of_getElem? (i := 33) rfl))) Via.refl e16 G14 G17 (Or.inl (hw _ (List.mem_of_getElem? (i := 34) rfl))) (hw _ (List.mem_of_getElem? (i := 2) rfl)) (ty := .int) (by decide) rfl rfl (g := (mkF m 60 #[.val (.ref a0), .val (.int p1)] [(.int (w_mark_a0 + (1 : Int32))), (.ref a0)])) rfl rfl (hb hby d3_60)
  have K18 : Keep h0 h18 [a0] := K13.wr W18 (Or.inl (by simp))
  have Fw18 : Fld Z h18 a0 "com/example/psilattice/psilattice/core/SortMarks" "mark" "I" (.int (w_mark_a0 + (1 : Int32))) := G14.same W18
  have N18 := Fr.snoc X18 N13 nw_a0
  obtain ⟨fs, hr, hrun, hended, hW, hsame⟩ := X18.leave (v := none) (fun _ => rfl)
  refine ⟨_, _, pre0 _ ?_, hrun, hended, _, _, rfl, ?_, ⟨_, rfl⟩, hW, hsame.mono (by decide) (by decide)⟩
  · show Steps p.tables e below (s₁.setTop (mkF m 0 #[.val (.ref a0), .val (.int p1)] [])) _
    refine XS.aloadN X0.here hx rfl (hb hby d3_0) rfl rfl ?_
    show Steps p.tables e below (s₁.setTop (mkF m 1 #[.val (.ref a0), .val (.int p1)] [(.ref a0)])) _
    refine st1 _ ?_
    show Steps p.tables e below (T1.setTop (mkF m 4 #[.val (.ref a0), .val (.int p1)] [(.ref w_marks_a0)])) _
    refine AF.len X1 hx hZ e1 A_w_marks_a0 (g := (mkF m 4 #[.val (.ref a0), .val (.int p1)] [(.ref w_marks_a0)])) rfl rfl (hb hby d3_4) _ ?_
    show Steps p.tables e below (T1.setTop (mkF m 5 #[.val (.ref a0), .val (.int p1)] [(.int (Int32.ofNat n_w_marks_a0))])) _
    refine XS.iloadN X1.here hx rfl (hb hby d3_5) rfl ?_
    show Steps p.tables e below (T1.setTop (mkF m 6 #[.val (.ref a0), .val (.int p1)] [(.int p1), (.int (Int32.ofNat n_w_marks_a0))])) _
    refine XS.icmpNo X1.here hx rfl (hb hby d3_6) rfl (tlt hc6).2.1 ?_
    show Steps p.tables e below (T1.setTop (mkF m 9 #[.val (.ref a0), .val (.int p1)] [])) _
    refine XS.aloadN X1.here hx rfl (hb hby d3_9) rfl rfl ?_
    show Steps p.tables e below (T1.setTop (mkF m 10 #[.val (.ref a0), .val (.int p1)] [(.ref a0)])) _
    refine XS.aloadN X1.here hx rfl (hb hby d3_10) rfl rfl ?_
    show Steps p.tables e below (T1.setTop (mkF m 11 #[.val (.ref a0), .val (.int p1)] [(.ref a0), (.ref a0)])) _
    refine st2 _ ?_
    show Steps p.tables e below (T2.setTop (mkF m 14 #[.val (.ref a0), .val (.int p1)] [(.ref w_marks_a0), (.ref a0)])) _
    refine XS.iloadN X2.here hx rfl (hb hby d3_14) rfl ?_
    show Steps p.tables e below (T2.setTop (mkF m 15 #[.val (.ref a0), .val (.int p1)] [(.int p1), (.ref w_marks_a0), (.ref a0)])) _
    refine XS.iconst X2.here hx rfl (hb hby d3_15) ?_
    show Steps p.tables e below (T2.setTop (mkF m 16 #[.val (.ref a0), .val (.int p1)] [(.int (2 : Int32)), (.int p1), (.ref w_marks_a0), (.ref a0)])) _
    refine XS.aloadN X2.here hx rfl (hb hby d3_16) rfl rfl ?_
    show Steps p.tables e below (T2.setTop (mkF m 17 #[.val (.ref a0), .val (.int p1)] [(.ref a0), (.int (2 : Int32)), (.int p1), (.ref w_marks_a0), (.ref a0)])) _
    refine st3 _ ?_
    show Steps p.tables e below (T3.setTop (mkF m 20 #[.val (.ref a0), .val (.int p1)] [(.ref w_marks_a0), (.int (2 : Int32)), (.int p1), (.ref w_marks_a0), (.ref a0)])) _
    refine AF.len X3 hx hZ e3 A_w_marks_a0 (g := (mkF m 20 #[.val (.ref a0), .val (.int p1)] [(.ref w_marks_a0), (.int (2 : Int32)), (.int p1), (.ref w_marks_a0), (.ref a0)])) rfl rfl (hb hby d3_20) _ ?_
    show Steps p.tables e below (T3.setTop (mkF m 21 #[.val (.ref a0), .val (.int p1)] [(.int (Int32.ofNat n_w_marks_a0)), (.int (2 : Int32)), (.int p1), (.ref w_marks_a0), (.ref a0)])) _
    refine XS.imul X3.here hx rfl (hb hby d3_21) rfl ?_
    show Steps p.tables e below (T3.setTop (mkF m 22 #[.val (.ref a0), .val (.int p1)] [(.int ((2 : Int32) * (Int32.ofNat n_w_marks_a0))), (.int p1), (.ref w_marks_a0), (.ref a0)])) _
    refine st4 _ ?_
    show Steps p.tables e below (T4.setTop (mkF m 25 #[.val (.ref a0), .val (.int p1)] [(.int (own_max p1 ((2 : Int32) * (Int32.ofNat n_w_marks_a0)))), (.ref w_marks_a0), (.ref a0)])) _
    refine st9 _ ?_
    show Steps p.tables e below (T9.setTop (mkF m 28 #[.val (.ref a0), .val (.int p1)] [(.ref b9_b1), (.ref a0)])) _
    refine st13 _ ?_
    show Steps p.tables e below (T13.setTop (mkF m 31 #[.val (.ref a0), .val (.int p1)] [])) _
    refine XS.aloadN X13.here hx rfl (hb hby d3_31) rfl rfl ?_
    show Steps p.tables e below (T13.setTop (mkF m 32 #[.val (.ref a0), .val (.int p1)] [(.ref a0)])) _
    refine st15 _ ?_
    show Steps p.tables e below (T15.setTop (mkF m 35 #[.val (.ref a0), .val (.int p1)] [(.int w_mark_a0)])) _
    refine X15.ldcInt hx hown (mvT hZ (hw _ (List.mem_of_getElem? (i := 35) rfl))) (g := (mkF m 35 #[.val (.ref a0), .val (.int p1)] [(.int w_mark_a0)])) rfl (hb hby d3_35) _ ?_
    show Steps p.tables e below (T15.setTop (mkF m 37 #[.val (.ref a0), .val (.int p1)] [(.int (2147483647 : Int32)), (.int w_mark_a0)])) _
    refine XS.icmpYes X15.here hx rfl (pc0 := 37) (pc' := 53) rfl (hb hby d3_37) rfl (feq hc37).2 (by decide) (by decide) ?_
    show Steps p.tables e below (T15.setTop (mkF m 53 #[.val (.ref a0), .val (.int p1)] [])) _
    refine XS.aloadN X15.here hx rfl (hb hby d3_53) rfl rfl ?_
    show Steps p.tables e below (T15.setTop (mkF m 54 #[.val (.ref a0), .val (.int p1)] [(.ref a0)])) _
    refine XS.dup X15.here hx rfl (hb hby d3_54) rfl rfl ?_
    show Steps p.tables e below (T15.setTop (mkF m 55 #[.val (.ref a0), .val (.int p1)] [(.ref a0), (.ref a0)])) _
    refine st16 _ ?_
    show Steps p.tables e below (T16.setTop (mkF m 58 #[.val (.ref a0), .val (.int p1)] [(.int w_mark_a0), (.ref a0)])) _
    refine XS.iconst X16.here hx rfl (hb hby d3_58) ?_
    show Steps p.tables e below (T16.setTop (mkF m 59 #[.val (.ref a0), .val (.int p1)] [(.int (1 : Int32)), (.int w_mark_a0), (.ref a0)])) _
    refine XS.iadd X16.here hx rfl (hb hby d3_59) rfl ?_
    show Steps p.tables e below (T16.setTop (mkF m 60 #[.val (.ref a0), .val (.int p1)] [(.int (w_mark_a0 + (1 : Int32))), (.ref a0)])) _
    refine st18 _ ?_
    show Steps p.tables e below (T18.setTop (mkF m 63 #[.val (.ref a0), .val (.int p1)] [])) _
    exact X18.returnOut hx Bd.returns (hb hby d3_63) hr
  have G19 : Exa Z h18 a0 "com/example/psilattice/psilattice/core/SortMarks" := (G17.wr W18)
  have G20 : Fld Z h18 a0 "com/example/psilattice/psilattice/core/SortMarks" "marks" "[I" (.ref b9_b1) := (Fw13.other W18 (Or.inr (slot_ne (Or.inl (hw _ (List.mem_of_getElem? (i := 12) rfl))) (Or.inl (hw _ (List.mem_of_getElem? (i := 34) rfl))) (by decide) (t := (.array .int)) (t' := .int) (by decide) (by decide))))
  have G21 : AF Z h18 b9_b1 .int ((own_max p1 ((2 : Int32) * (Int32.ofNat n_w_marks_a0)))).toNatClampNeg (fun j => .int ((fun j => if j < n_w_marks_a0 then g_w_marks_a0 j else (fun _ => (0 : Int32)) j) j)) := ((P10.other W13 (Ne.symm ne_a0_b9_b1)).other W18 (Ne.symm ne_a0_b9_b1))
  · show Q3g Z a0 p1 w_marks_a0 w_mark_a0 n_w_marks_a0 g_w_marks_a0 h0 n0 _ T18.heap _
    rw [e18]
    exact ⟨b9_b1, rfl, N18, K18, sq_b9_b1, G19, G20, Fw18, G21⟩
theorem ef_3k (m : MethodId) (a0 : Addr) (p1 : Int32) : entryFrame m #[(.ref a0), (.int p1)] 2 = mkF m 0 #[.val (.ref a0), .val (.int p1)] [] := by first | (simp [entryFrame, mkF, argsToLocals, Value.category]; done) | rfl
def Q3k (Z : State) (a0 : Addr) (p1 : Int32) (w_marks_a0 : Addr) (w_mark_a0 : Int32) (n_w_marks_a0 : Nat) (g_w_marks_a0 : Nat → Int32) (h0 : Heap) (n0 : Nat) (v : Option Value) (h : Heap) (L : List Loc) : Prop := v = none ∧ Fr n0 L ∧ Keep h0 h [a0] ∧ Exa Z h a0 "com/example/psilattice/psilattice/core/SortMarks" ∧ Fld Z h a0 "com/example/psilattice/psilattice/core/SortMarks" "marks" "[I" (.ref w_marks_a0) ∧ Fld Z h a0 "com/example/psilattice/psilattice/core/SortMarks" "mark" "I" (.int (w_mark_a0 + (1 : Int32)))
set_option maxRecDepth 65536 in
set_option maxHeartbeats 40000000 in
theorem rm3k (l : Launch) (Z : State) (A0 : Array Value) (hw : ∀ d ∈ tables_1, d.before A0 Z = true) (ws : List Jvm.Cond) (a0 : Addr) (p1 : Int32) (w_marks_a0 : Addr) (w_mark_a0 : Int32) (n_w_marks_a0 : Nat) (g_w_marks_a0 : Nat → Int32) (h0 : Heap) (n0 : Nat) (Z0 : n0 ≤ h0.size) (E_a0 : Exa Z h0 a0 "com/example/psilattice/psilattice/core/SortMarks") (F_marks_a0 : Fld Z h0 a0 "com/example/psilattice/psilattice/core/SortMarks" "marks" "[I" (.ref w_marks_a0)) (F_mark_a0 : Fld Z h0 a0 "com/example/psilattice/psilattice/core/SortMarks" "mark" "I" (.int w_mark_a0)) (A_w_marks_a0 : AF Z h0 w_marks_a0 .int n_w_marks_a0 (fun j => .int (g_w_marks_a0 j))) (nw_a0 : n0 ≤ a0) (hc6 : ¬ ((Int32.ofNat n_w_marks_a0) < p1)) (hc37 : ¬ (w_mark_a0 = (2147483647 : Int32))) :
    MetFree l (⟨"com/example/psilattice/psilattice/core/SortMarks", "start", "(I)V"⟩ : MethodName) (head1 (Jvm.Cond.code (⟨"com/example/psilattice/psilattice/core/SortMarks", "start", "(I)V"⟩ : MethodName) prog_29_method_2_code 2 none :: ws) ({ frames := 0, cells := 0, slots := 0, locals := 0 } : Room)) (fun a U => a = #[(.ref a0), (.int p1)] ∧ Z.Warmed39 U.vm ∧ U.heap = h0) (fun _ _ _ _ _ => True) (fun _ U o U' => ∃ v L, o = .returned v ∧ Q3k Z a0 p1 w_marks_a0 w_mark_a0 n_w_marks_a0 g_w_marks_a0 h0 n0 v U'.heap L ∧ FrameEnd U o U' L ({ frames := 0, cells := 0, slots := 0, locals := 0 } : Room).cells ({ frames := 0, cells := 0, slots := 0, locals := 0 } : Room).slots) := by
  refine MetFree.of_bodySF (plainFor_of_name pn_3) hisR ?_
  intro p e s m args below meth c s₁ Bd hml0 hP hK
  obtain ⟨rfl, hZ, hh⟩ := hP
  have hx := Bd.exec
  have hby := Bd.bytes
  have hml : c.maxLocals = 2 := hml0
  have hown : s.vm.findClass "com/example/psilattice/psilattice/core/SortMarks" = some m.cls := findClass_of_methodNamed Bd.named
  have hnm := (name_of_methodNamed Bd.named Bd.method).1
  have X0 : Stand p l e ({ frames := 0, cells := 0, slots := 0, locals := 0 } : Room) s m #[(.ref a0), (.int p1)] below meth c s₁ [] 0 0 := Stand.of_body Bd
  have e0 : s₁.heap = h0 := by rw [← hh, Bd.state]; rfl
  have N0 := Fr.nil n0
  have pre0 : ∀ t, Steps p.tables e below (s₁.setTop (mkF m 0 #[.val (.ref a0), .val (.int p1)] [])) t → Steps p.tables e below (s₁.setTop (entryFrame m #[(.ref a0), (.int p1)] 2)) t := fun t k => castTop (ef_3k m a0 p1) k
  obtain ⟨T1, X1, e1, st1⟩ := getF X0 hx hZ hown (host := "") (Or.inl (hw _ (List.mem_of_getElem? (i := 11) rfl))) Via.refl e0 F_marks_a0 (g := (mkF m 1 #[.val (.ref a0), .val (.int p1)] [(.ref a0)])) rfl rfl (hb hby d3_1)
  obtain ⟨T2, X2, e2, st2⟩ := getF X1 hx hZ hown (host := "") (Or.inl (hw _ (List.mem_of_getElem? (i := 33) rfl))) Via.refl e1 F_mark_a0 (g := (mkF m 32 #[.val (.ref a0), .val (.int p1)] [(.ref a0)])) rfl rfl (hb hby d3_32)
  obtain ⟨T3, X3, e3, st3⟩ := getF X2 hx hZ hown (host := "") (Or.inl (hw _ (List.mem_of_getElem? (i := 33) rfl))) Via.refl e2 F_mark_a0 (g := (mkF m 55 #[.val (.ref a0), .val (.int p1)] [(.ref a0), (.ref a0)])) rfl rfl (hb hby d3_55)
  obtain ⟨T4, h4, X4, e4, W4, st4⟩ := putF X3 hx hZ hown (host := "") (Or.inl (hw _ (List.mem_of_getElem? (i := 33) rfl))) Via.refl e3 F_mark_a0 E_a0 (Or.inl (hw _ (List.mem_of_getElem? (i := 34) rfl))) (hw _ (List.mem_of_getElem? (i := 2) rfl)) (ty := .int) (by decide) rfl rfl (g := (mkF m 60 #[.val (.ref a0), .val (.int p1)] [(.int (w_mark_a0 + (1 : Int32))), (.ref a0)])) rfl rfl (hb hby d3_60)
  have K4 : Keep h0 h4 [a0] := (Keep.refl h0 [a0]).wr W4 (Or.inl (by simp))
  have Fw4 : Fld Z h4 a0 "com/example/psilattice/psilattice/core/SortMarks" "mark" "I" (.int (w_mark_a0 + (1 : Int32))) := F_mark_a0.same W4
  have N4 := Fr.snoc X4 N0 nw_a0
  obtain ⟨fs, hr, hrun, hended, hW, hsame⟩ := X4.leave (v := none) (fun _ => rfl)
  refine ⟨_, _, pre0 _ ?_, hrun, hended, _, _, rfl, ?_, ⟨_, rfl⟩, hW, hsame.mono (by decide) (by decide)⟩
  · show Steps p.tables e below (s₁.setTop (mkF m 0 #[.val (.ref a0), .val (.int p1)] [])) _
    refine XS.aloadN X0.here hx rfl (hb hby d3_0) rfl rfl ?_
    show Steps p.tables e below (s₁.setTop (mkF m 1 #[.val (.ref a0), .val (.int p1)] [(.ref a0)])) _
    refine st1 _ ?_
    show Steps p.tables e below (T1.setTop (mkF m 4 #[.val (.ref a0), .val (.int p1)] [(.ref w_marks_a0)])) _
    refine AF.len X1 hx hZ e1 A_w_marks_a0 (g := (mkF m 4 #[.val (.ref a0), .val (.int p1)] [(.ref w_marks_a0)])) rfl rfl (hb hby d3_4) _ ?_
    show Steps p.tables e below (T1.setTop (mkF m 5 #[.val (.ref a0), .val (.int p1)] [(.int (Int32.ofNat n_w_marks_a0))])) _
    refine XS.iloadN X1.here hx rfl (hb hby d3_5) rfl ?_
    show Steps p.tables e below (T1.setTop (mkF m 6 #[.val (.ref a0), .val (.int p1)] [(.int p1), (.int (Int32.ofNat n_w_marks_a0))])) _
    refine XS.icmpYes X1.here hx rfl (pc0 := 6) (pc' := 31) rfl (hb hby d3_6) rfl (flt hc6).2.1 (by decide) (by decide) ?_
    show Steps p.tables e below (T1.setTop (mkF m 31 #[.val (.ref a0), .val (.int p1)] [])) _
    refine XS.aloadN X1.here hx rfl (hb hby d3_31) rfl rfl ?_
    show Steps p.tables e below (T1.setTop (mkF m 32 #[.val (.ref a0), .val (.int p1)] [(.ref a0)])) _
    refine st2 _ ?_
    show Steps p.tables e below (T2.setTop (mkF m 35 #[.val (.ref a0), .val (.int p1)] [(.int w_mark_a0)])) _
    refine X2.ldcInt hx hown (mvT hZ (hw _ (List.mem_of_getElem? (i := 35) rfl))) (g := (mkF m 35 #[.val (.ref a0), .val (.int p1)] [(.int w_mark_a0)])) rfl (hb hby d3_35) _ ?_
    show Steps p.tables e below (T2.setTop (mkF m 37 #[.val (.ref a0), .val (.int p1)] [(.int (2147483647 : Int32)), (.int w_mark_a0)])) _
    refine XS.icmpYes X2.here hx rfl (pc0 := 37) (pc' := 53) rfl (hb hby d3_37) rfl (feq hc37).2 (by decide) (by decide) ?_
    show Steps p.tables e below (T2.setTop (mkF m 53 #[.val (.ref a0), .val (.int p1)] [])) _
    refine XS.aloadN X2.here hx rfl (hb hby d3_53) rfl rfl ?_
    show Steps p.tables e below (T2.setTop (mkF m 54 #[.val (.ref a0), .val (.int p1)] [(.ref a0)])) _
    refine XS.dup X2.here hx rfl (hb hby d3_54) rfl rfl ?_
    show Steps p.tables e below (T2.setTop (mkF m 55 #[.val (.ref a0), .val (.int p1)] [(.ref a0), (.ref a0)])) _
    refine st3 _ ?_
    show Steps p.tables e below (T3.setTop (mkF m 58 #[.val (.ref a0), .val (.int p1)] [(.int w_mark_a0), (.ref a0)])) _
    refine XS.iconst X3.here hx rfl (hb hby d3_58) ?_
    show Steps p.tables e below (T3.setTop (mkF m 59 #[.val (.ref a0), .val (.int p1)] [(.int (1 : Int32)), (.int w_mark_a0), (.ref a0)])) _
    refine XS.iadd X3.here hx rfl (hb hby d3_59) rfl ?_
    show Steps p.tables e below (T3.setTop (mkF m 60 #[.val (.ref a0), .val (.int p1)] [(.int (w_mark_a0 + (1 : Int32))), (.ref a0)])) _
    refine st4 _ ?_
    show Steps p.tables e below (T4.setTop (mkF m 63 #[.val (.ref a0), .val (.int p1)] [])) _
    exact X4.returnOut hx Bd.returns (hb hby d3_63) hr
  have G5 : Exa Z h4 a0 "com/example/psilattice/psilattice/core/SortMarks" := (E_a0.wr W4)
  have G6 : Fld Z h4 a0 "com/example/psilattice/psilattice/core/SortMarks" "marks" "[I" (.ref w_marks_a0) := (F_marks_a0.other W4 (Or.inr (slot_ne (Or.inl (hw _ (List.mem_of_getElem? (i := 12) rfl))) (Or.inl (hw _ (List.mem_of_getElem? (i := 34) rfl))) (by decide) (t := (.array .int)) (t' := .int) (by decide) (by decide))))
  · show Q3k Z a0 p1 w_marks_a0 w_mark_a0 n_w_marks_a0 g_w_marks_a0 h0 n0 _ T4.heap _
    rw [e4]
    exact ⟨rfl, N4, K4, G5, G6, Fw4⟩
theorem ef_7 (m : MethodId) (a0 : Addr) (p1 : Int32) : entryFrame m #[(.ref a0), (.int p1)] 2 = mkF m 0 #[.val (.ref a0), .val (.int p1)] [] := by first | (simp [entryFrame, mkF, argsToLocals, Value.category]; done) | rfl
def Q7 (Z : State) (a0 : Addr) (p1 : Int32) (w_marks_a0 : Addr) (w_mark_a0 : Int32) (n_w_marks_a0 : Nat) (g_w_marks_a0 : Nat → Int32) (h0 : Heap) (n0 : Nat) (v : Option Value) (h : Heap) (L : List Loc) : Prop := v = some (.int (nar .boolean (if (g_w_marks_a0 (p1).toNatClampNeg) = w_mark_a0 then (1 : Int32) else (0 : Int32)))) ∧ Fr n0 L ∧ h = h0
set_option maxRecDepth 65536 in
set_option maxHeartbeats 40000000 in
theorem rm7 (l : Launch) (Z : State) (A0 : Array Value) (hw : ∀ d ∈ tables_1, d.before A0 Z = true) (ws : List Jvm.Cond) (a0 : Addr) (p1 : Int32) (w_marks_a0 : Addr) (w_mark_a0 : Int32) (n_w_marks_a0 : Nat) (g_w_marks_a0 : Nat → Int32) (h0 : Heap) (n0 : Nat) (Z0 : n0 ≤ h0.size) (E_a0 : Exa Z h0 a0 "com/example/psilattice/psilattice/core/SortMarks") (F_marks_a0 : Fld Z h0 a0 "com/example/psilattice/psilattice/core/SortMarks" "marks" "[I" (.ref w_marks_a0)) (F_mark_a0 : Fld Z h0 a0 "com/example/psilattice/psilattice/core/SortMarks" "mark" "I" (.int w_mark_a0)) (A_w_marks_a0 : AF Z h0 w_marks_a0 .int n_w_marks_a0 (fun j => .int (g_w_marks_a0 j))) (hin5 : own_in p1 n_w_marks_a0) :
    MetFree l (⟨"com/example/psilattice/psilattice/core/SortMarks", "has", "(I)Z"⟩ : MethodName) (head1 (Jvm.Cond.code (⟨"com/example/psilattice/psilattice/core/SortMarks", "has", "(I)Z"⟩ : MethodName) prog_29_method_3_code 2 (some .boolean) :: ws) ({ frames := 0, cells := 0, slots := 0, locals := 0 } : Room)) (fun a U => a = #[(.ref a0), (.int p1)] ∧ Z.Warmed39 U.vm ∧ U.heap = h0) (fun _ _ _ _ _ => True) (fun _ U o U' => ∃ v L, o = .returned v ∧ Q7 Z a0 p1 w_marks_a0 w_mark_a0 n_w_marks_a0 g_w_marks_a0 h0 n0 v U'.heap L ∧ FrameEnd U o U' L ({ frames := 0, cells := 0, slots := 0, locals := 0 } : Room).cells ({ frames := 0, cells := 0, slots := 0, locals := 0 } : Room).slots) := by
  refine MetFree.of_bodySF (plainFor_of_name pn_7) hisR ?_
  intro p e s m args below meth c s₁ Bd hml0 hP hK
  obtain ⟨rfl, hZ, hh⟩ := hP
  have hx := Bd.exec
  have hby := Bd.bytes
  have hml : c.maxLocals = 2 := hml0
  have hown : s.vm.findClass "com/example/psilattice/psilattice/core/SortMarks" = some m.cls := findClass_of_methodNamed Bd.named
  have hnm := (name_of_methodNamed Bd.named Bd.method).1
  have X0 : Stand p l e ({ frames := 0, cells := 0, slots := 0, locals := 0 } : Room) s m #[(.ref a0), (.int p1)] below meth c s₁ [] 0 0 := Stand.of_body Bd
  have e0 : s₁.heap = h0 := by rw [← hh, Bd.state]; rfl
  have N0 := Fr.nil n0
  have pre0 : ∀ t, Steps p.tables e below (s₁.setTop (mkF m 0 #[.val (.ref a0), .val (.int p1)] [])) t → Steps p.tables e below (s₁.setTop (entryFrame m #[(.ref a0), (.int p1)] 2)) t := fun t k => castTop (ef_7 m a0 p1) k
  obtain ⟨T1, X1, e1, st1⟩ := getF X0 hx hZ hown (host := "") (Or.inl (hw _ (List.mem_of_getElem? (i := 11) rfl))) Via.refl e0 F_marks_a0 (g := (mkF m 1 #[.val (.ref a0), .val (.int p1)] [(.ref a0)])) rfl rfl (hb hby d7_1)
  obtain ⟨T2, X2, e2, st2⟩ := getF X1 hx hZ hown (host := "") (Or.inl (hw _ (List.mem_of_getElem? (i := 33) rfl))) Via.refl e1 F_mark_a0 (g := (mkF m 7 #[.val (.ref a0), .val (.int p1)] [(.ref a0), (.int (g_w_marks_a0 (p1).toNatClampNeg))])) rfl rfl (hb hby d7_7)
  obtain ⟨v4, hv4⟩ : ∃ z : Int32, z = if (g_w_marks_a0 (p1).toNatClampNeg) = w_mark_a0 then (1 : Int32) else (0 : Int32) := ⟨_, rfl⟩
  obtain ⟨fs, hr, hrun, hended, hW, hsame⟩ := X2.leave (v := some (.int (nar .boolean v4))) (fun h => by rw [Bd.returns] at h; cases h)
  refine ⟨_, _, pre0 _ ?_, hrun, hended, _, _, rfl, ?_, ⟨_, rfl⟩, hW, hsame.mono (by decide) (by decide)⟩
  · show Steps p.tables e below (s₁.setTop (mkF m 0 #[.val (.ref a0), .val (.int p1)] [])) _
    refine XS.aloadN X0.here hx rfl (hb hby d7_0) rfl rfl ?_
    show Steps p.tables e below (s₁.setTop (mkF m 1 #[.val (.ref a0), .val (.int p1)] [(.ref a0)])) _
    refine st1 _ ?_
    show Steps p.tables e below (T1.setTop (mkF m 4 #[.val (.ref a0), .val (.int p1)] [(.ref w_marks_a0)])) _
    refine XS.iloadN X1.here hx rfl (hb hby d7_4) rfl ?_
    show Steps p.tables e below (T1.setTop (mkF m 5 #[.val (.ref a0), .val (.int p1)] [(.int p1), (.ref w_marks_a0)])) _
    refine AF.ldI X1 hx hZ e1 A_w_marks_a0 hin5 (g := (mkF m 5 #[.val (.ref a0), .val (.int p1)] [(.int p1), (.ref w_marks_a0)])) rfl rfl (hb hby d7_5) _ ?_
    show Steps p.tables e below (T1.setTop (mkF m 6 #[.val (.ref a0), .val (.int p1)] [(.int (g_w_marks_a0 (p1).toNatClampNeg))])) _
    refine XS.aloadN X1.here hx rfl (hb hby d7_6) rfl rfl ?_
    show Steps p.tables e below (T1.setTop (mkF m 7 #[.val (.ref a0), .val (.int p1)] [(.ref a0), (.int (g_w_marks_a0 (p1).toNatClampNeg))])) _
    refine st2 _ ?_
    show Steps p.tables e below (T2.setTop (mkF m 10 #[.val (.ref a0), .val (.int p1)] [(.int w_mark_a0), (.int (g_w_marks_a0 (p1).toNatClampNeg))])) _
    refine own_dia (F := (mkF m 18 #[.val (.ref a0), .val (.int p1)] [(.int v4)])) ?_ ?_
    · intro kt
      by_cases hc3 : (g_w_marks_a0 (p1).toNatClampNeg) = w_mark_a0
      · show Steps p.tables e below (T2.setTop (mkF m 10 #[.val (.ref a0), .val (.int p1)] [(.int w_mark_a0), (.int (g_w_marks_a0 (p1).toNatClampNeg))])) _
        refine XS.icmpNo X2.here hx rfl (hb hby d7_10) rfl (teq hc3).2 ?_
        show Steps p.tables e below (T2.setTop (mkF m 13 #[.val (.ref a0), .val (.int p1)] [])) _
        refine XS.iconst X2.here hx rfl (hb hby d7_13) ?_
        show Steps p.tables e below (T2.setTop (mkF m 14 #[.val (.ref a0), .val (.int p1)] [(.int (1 : Int32))])) _
        refine XS.goto X2.here hx rfl (pc0 := 14) (pc' := 18) rfl (hb hby d7_14) (by decide) (by decide) ?_
        exact castTop (by rw [hv4, if_pos hc3] <;> rfl) kt
      · show Steps p.tables e below (T2.setTop (mkF m 10 #[.val (.ref a0), .val (.int p1)] [(.int w_mark_a0), (.int (g_w_marks_a0 (p1).toNatClampNeg))])) _
        refine XS.icmpYes X2.here hx rfl (pc0 := 10) (pc' := 17) rfl (hb hby d7_10) rfl (feq hc3).2 (by decide) (by decide) ?_
        show Steps p.tables e below (T2.setTop (mkF m 17 #[.val (.ref a0), .val (.int p1)] [])) _
        refine XS.iconst X2.here hx rfl (hb hby d7_17) ?_
        exact castTop (by rw [hv4, if_neg hc3] <;> rfl) kt
    show Steps p.tables e below (T2.setTop (mkF m 18 #[.val (.ref a0), .val (.int p1)] [(.int v4)])) _
    exact retN X2 hx (t := .boolean) Bd.returns (by simp) (hb hby d7_18) hr
  · show Q7 Z a0 p1 w_marks_a0 w_mark_a0 n_w_marks_a0 g_w_marks_a0 h0 n0 _ T2.heap _
    subst hv4
    exact ⟨rfl, N0, e2⟩
theorem ef_8 (m : MethodId) (a0 : Addr) (p1 : Int32) : entryFrame m #[(.ref a0), (.int p1)] 3 = mkF m 0 #[.val (.ref a0), .val (.int p1), .unset] [] := by first | (simp [entryFrame, mkF, argsToLocals, Value.category]; done) | rfl
def Q8 (Z : State) (a0 : Addr) (p1 : Int32) (w_marks_a0 : Addr) (w_mark_a0 : Int32) (n_w_marks_a0 : Nat) (g_w_marks_a0 : Nat → Int32) (h0 : Heap) (n0 : Nat) (v : Option Value) (h : Heap) (L : List Loc) : Prop := v = some (.int (nar .boolean (if (g_w_marks_a0 (p1).toNatClampNeg) = w_mark_a0 then (0 : Int32) else (1 : Int32)))) ∧ Fr n0 L ∧ Keep h0 h [w_marks_a0] ∧ AF Z h w_marks_a0 .int n_w_marks_a0 (fun j => .int ((fun i => if i = (p1).toNatClampNeg then w_mark_a0 else g_w_marks_a0 i) j))
set_option maxRecDepth 65536 in
set_option maxHeartbeats 40000000 in
theorem rm8 (l : Launch) (Z : State) (A0 : Array Value) (hw : ∀ d ∈ tables_1, d.before A0 Z = true) (ws : List Jvm.Cond) (a0 : Addr) (p1 : Int32) (w_marks_a0 : Addr) (w_mark_a0 : Int32) (n_w_marks_a0 : Nat) (g_w_marks_a0 : Nat → Int32) (h0 : Heap) (n0 : Nat) (Z0 : n0 ≤ h0.size) (E_a0 : Exa Z h0 a0 "com/example/psilattice/psilattice/core/SortMarks") (F_marks_a0 : Fld Z h0 a0 "com/example/psilattice/psilattice/core/SortMarks" "marks" "[I" (.ref w_marks_a0)) (F_mark_a0 : Fld Z h0 a0 "com/example/psilattice/psilattice/core/SortMarks" "mark" "I" (.int w_mark_a0)) (A_w_marks_a0 : AF Z h0 w_marks_a0 .int n_w_marks_a0 (fun j => .int (g_w_marks_a0 j))) (nw_w_marks_a0 : n0 ≤ w_marks_a0) (hin5 : own_in p1 n_w_marks_a0) (hin28 : own_in p1 n_w_marks_a0) :
    MetFree l (⟨"com/example/psilattice/psilattice/core/SortMarks", "add", "(I)Z"⟩ : MethodName) (head1 (Jvm.Cond.code (⟨"com/example/psilattice/psilattice/core/SortMarks", "add", "(I)Z"⟩ : MethodName) prog_29_method_4_code 3 (some .boolean) :: ws) ({ frames := 0, cells := 0, slots := 0, locals := 0 } : Room)) (fun a U => a = #[(.ref a0), (.int p1)] ∧ Z.Warmed39 U.vm ∧ U.heap = h0) (fun _ _ _ _ _ => True) (fun _ U o U' => ∃ v L, o = .returned v ∧ Q8 Z a0 p1 w_marks_a0 w_mark_a0 n_w_marks_a0 g_w_marks_a0 h0 n0 v U'.heap L ∧ FrameEnd U o U' L ({ frames := 0, cells := 0, slots := 0, locals := 0 } : Room).cells ({ frames := 0, cells := 0, slots := 0, locals := 0 } : Room).slots) := by
  refine MetFree.of_bodySF (plainFor_of_name pn_8) hisR ?_
  intro p e s m args below meth c s₁ Bd hml0 hP hK
  obtain ⟨rfl, hZ, hh⟩ := hP
  have hx := Bd.exec
  have hby := Bd.bytes
  have hml : c.maxLocals = 3 := hml0
  have hown : s.vm.findClass "com/example/psilattice/psilattice/core/SortMarks" = some m.cls := findClass_of_methodNamed Bd.named
  have hnm := (name_of_methodNamed Bd.named Bd.method).1
  have X0 : Stand p l e ({ frames := 0, cells := 0, slots := 0, locals := 0 } : Room) s m #[(.ref a0), (.int p1)] below meth c s₁ [] 0 0 := Stand.of_body Bd
  have e0 : s₁.heap = h0 := by rw [← hh, Bd.state]; rfl
  have N0 := Fr.nil n0
  have pre0 : ∀ t, Steps p.tables e below (s₁.setTop (mkF m 0 #[.val (.ref a0), .val (.int p1), .unset] [])) t → Steps p.tables e below (s₁.setTop (entryFrame m #[(.ref a0), (.int p1)] 3)) t := fun t k => castTop (ef_8 m a0 p1) k
  obtain ⟨T1, X1, e1, st1⟩ := getF X0 hx hZ hown (host := "") (Or.inl (hw _ (List.mem_of_getElem? (i := 11) rfl))) Via.refl e0 F_marks_a0 (g := (mkF m 1 #[.val (.ref a0), .val (.int p1), .unset] [(.ref a0)])) rfl rfl (hb hby d8_1)
  obtain ⟨T2, X2, e2, st2⟩ := getF X1 hx hZ hown (host := "") (Or.inl (hw _ (List.mem_of_getElem? (i := 33) rfl))) Via.refl e1 F_mark_a0 (g := (mkF m 7 #[.val (.ref a0), .val (.int p1), .unset] [(.ref a0), (.int (g_w_marks_a0 (p1).toNatClampNeg))])) rfl rfl (hb hby d8_7)
  obtain ⟨v4, hv4⟩ : ∃ z : Int32, z = if (g_w_marks_a0 (p1).toNatClampNeg) = w_mark_a0 then (0 : Int32) else (1 : Int32) := ⟨_, rfl⟩
  obtain ⟨T5, X5, e5, st5⟩ := getF X2 hx hZ hown (host := "") (Or.inl (hw _ (List.mem_of_getElem? (i := 11) rfl))) Via.refl e2 F_marks_a0 (g := (mkF m 20 #[.val (.ref a0), .val (.int p1), .val (.int v4)] [(.ref a0)])) rfl rfl (hb hby d8_20)
  obtain ⟨T6, X6, e6, st6⟩ := getF X5 hx hZ hown (host := "") (Or.inl (hw _ (List.mem_of_getElem? (i := 33) rfl))) Via.refl e5 F_mark_a0 (g := (mkF m 25 #[.val (.ref a0), .val (.int p1), .val (.int v4)] [(.ref a0), (.int p1), (.ref w_marks_a0)])) rfl rfl (hb hby d8_25)
  obtain ⟨T7, h7, X7, e7, W7, A7, st7⟩ := AF.stI X6 hx hZ e6 A_w_marks_a0 hin28 (g := (mkF m 28 #[.val (.ref a0), .val (.int p1), .val (.int v4)] [(.int w_mark_a0), (.int p1), (.ref w_marks_a0)])) rfl rfl (hb hby d8_28)
  have K7 : Keep h0 h7 [w_marks_a0] := (Keep.refl h0 [w_marks_a0]).wr W7 (Or.inl (by simp))
  obtain ⟨f8, hf8⟩ : ∃ f : Nat → Int32, f = (fun i => if i = (p1).toNatClampNeg then w_mark_a0 else g_w_marks_a0 i) := ⟨_, rfl⟩
  have V7 : AF Z h7 w_marks_a0 .int n_w_marks_a0 (fun j => .int (f8 j)) := AF.cong A7 (own_updI rfl hf8)
  have N7 := Fr.snoc X7 N0 nw_w_marks_a0
  obtain ⟨fs, hr, hrun, hended, hW, hsame⟩ := X7.leave (v := some (.int (nar .boolean v4))) (fun h => by rw [Bd.returns] at h; cases h)
  refine ⟨_, _, pre0 _ ?_, hrun, hended, _, _, rfl, ?_, ⟨_, rfl⟩, hW, hsame.mono (by decide) (by decide)⟩
  · show Steps p.tables e below (s₁.setTop (mkF m 0 #[.val (.ref a0), .val (.int p1), .unset] [])) _
    refine XS.aloadN X0.here hx rfl (hb hby d8_0) rfl rfl ?_
    show Steps p.tables e below (s₁.setTop (mkF m 1 #[.val (.ref a0), .val (.int p1), .unset] [(.ref a0)])) _
    refine st1 _ ?_
    show Steps p.tables e below (T1.setTop (mkF m 4 #[.val (.ref a0), .val (.int p1), .unset] [(.ref w_marks_a0)])) _
    refine XS.iloadN X1.here hx rfl (hb hby d8_4) rfl ?_
    show Steps p.tables e below (T1.setTop (mkF m 5 #[.val (.ref a0), .val (.int p1), .unset] [(.int p1), (.ref w_marks_a0)])) _
    refine AF.ldI X1 hx hZ e1 A_w_marks_a0 hin5 (g := (mkF m 5 #[.val (.ref a0), .val (.int p1), .unset] [(.int p1), (.ref w_marks_a0)])) rfl rfl (hb hby d8_5) _ ?_
    show Steps p.tables e below (T1.setTop (mkF m 6 #[.val (.ref a0), .val (.int p1), .unset] [(.int (g_w_marks_a0 (p1).toNatClampNeg))])) _
    refine XS.aloadN X1.here hx rfl (hb hby d8_6) rfl rfl ?_
    show Steps p.tables e below (T1.setTop (mkF m 7 #[.val (.ref a0), .val (.int p1), .unset] [(.ref a0), (.int (g_w_marks_a0 (p1).toNatClampNeg))])) _
    refine st2 _ ?_
    show Steps p.tables e below (T2.setTop (mkF m 10 #[.val (.ref a0), .val (.int p1), .unset] [(.int w_mark_a0), (.int (g_w_marks_a0 (p1).toNatClampNeg))])) _
    refine own_dia (F := (mkF m 18 #[.val (.ref a0), .val (.int p1), .unset] [(.int v4)])) ?_ ?_
    · intro kt
      by_cases hc3 : (g_w_marks_a0 (p1).toNatClampNeg) = w_mark_a0
      · show Steps p.tables e below (T2.setTop (mkF m 10 #[.val (.ref a0), .val (.int p1), .unset] [(.int w_mark_a0), (.int (g_w_marks_a0 (p1).toNatClampNeg))])) _
        refine XS.icmpYes X2.here hx rfl (pc0 := 10) (pc' := 17) rfl (hb hby d8_10) rfl (teq hc3).1 (by decide) (by decide) ?_
        show Steps p.tables e below (T2.setTop (mkF m 17 #[.val (.ref a0), .val (.int p1), .unset] [])) _
        refine XS.iconst X2.here hx rfl (hb hby d8_17) ?_
        exact castTop (by rw [hv4, if_pos hc3] <;> rfl) kt
      · show Steps p.tables e below (T2.setTop (mkF m 10 #[.val (.ref a0), .val (.int p1), .unset] [(.int w_mark_a0), (.int (g_w_marks_a0 (p1).toNatClampNeg))])) _
        refine XS.icmpNo X2.here hx rfl (hb hby d8_10) rfl (feq hc3).1 ?_
        show Steps p.tables e below (T2.setTop (mkF m 13 #[.val (.ref a0), .val (.int p1), .unset] [])) _
        refine XS.iconst X2.here hx rfl (hb hby d8_13) ?_
        show Steps p.tables e below (T2.setTop (mkF m 14 #[.val (.ref a0), .val (.int p1), .unset] [(.int (1 : Int32))])) _
        refine XS.goto X2.here hx rfl (pc0 := 14) (pc' := 18) rfl (hb hby d8_14) (by decide) (by decide) ?_
        exact castTop (by rw [hv4, if_neg hc3] <;> rfl) kt
    show Steps p.tables e below (T2.setTop (mkF m 18 #[.val (.ref a0), .val (.int p1), .unset] [(.int v4)])) _
    refine XS.istoreN X2.here hx rfl (hb hby d8_18) rfl (l' := #[.val (.ref a0), .val (.int p1), .val (.int v4)]) rfl ?_
    show Steps p.tables e below (T2.setTop (mkF m 19 #[.val (.ref a0), .val (.int p1), .val (.int v4)] [])) _
    refine XS.aloadN X2.here hx rfl (hb hby d8_19) rfl rfl ?_
    show Steps p.tables e below (T2.setTop (mkF m 20 #[.val (.ref a0), .val (.int p1), .val (.int v4)] [(.ref a0)])) _
    refine st5 _ ?_
    show Steps p.tables e below (T5.setTop (mkF m 23 #[.val (.ref a0), .val (.int p1), .val (.int v4)] [(.ref w_marks_a0)])) _
    refine XS.iloadN X5.here hx rfl (hb hby d8_23) rfl ?_
    show Steps p.tables e below (T5.setTop (mkF m 24 #[.val (.ref a0), .val (.int p1), .val (.int v4)] [(.int p1), (.ref w_marks_a0)])) _
    refine XS.aloadN X5.here hx rfl (hb hby d8_24) rfl rfl ?_
    show Steps p.tables e below (T5.setTop (mkF m 25 #[.val (.ref a0), .val (.int p1), .val (.int v4)] [(.ref a0), (.int p1), (.ref w_marks_a0)])) _
    refine st6 _ ?_
    show Steps p.tables e below (T6.setTop (mkF m 28 #[.val (.ref a0), .val (.int p1), .val (.int v4)] [(.int w_mark_a0), (.int p1), (.ref w_marks_a0)])) _
    refine st7 _ ?_
    show Steps p.tables e below (T7.setTop (mkF m 29 #[.val (.ref a0), .val (.int p1), .val (.int v4)] [])) _
    refine XS.iloadN X7.here hx rfl (hb hby d8_29) rfl ?_
    show Steps p.tables e below (T7.setTop (mkF m 30 #[.val (.ref a0), .val (.int p1), .val (.int v4)] [(.int v4)])) _
    exact retN X7 hx (t := .boolean) Bd.returns (by simp) (hb hby d8_30) hr
  · show Q8 Z a0 p1 w_marks_a0 w_mark_a0 n_w_marks_a0 g_w_marks_a0 h0 n0 _ T7.heap _
    rw [e7]
    subst hv4 hf8
    exact ⟨rfl, N7, K7, V7⟩

theorem own_n (p v : Int32) (hv : v = ((p &&& (7 : Int32)) + (1 : Int32))) : 1 ≤ v.toInt ∧ v.toInt ≤ 8 := by
  have m := c_mask p 7 3 (by decide) (by decide)
  have a := c_iadd (p &&& (7 : Int32)) 1
  have r := rng32 ((p &&& (7 : Int32)) + (1 : Int32))
  have k : (1 : Int32).toInt = 1 := by decide
  rw [k] at a
  rw [hv]
  omega
theorem own_i (p n v : Int32) (hn : 1 ≤ n.toInt) (hv : v = ((p &&& (2147483647 : Int32)) % n)) : 0 ≤ v.toInt ∧ v.toInt < n.toInt := by
  have m := c_mask p 2147483647 31 (by decide) (by decide)
  obtain ⟨a, b, -⟩ := (c_iremV (p &&& (2147483647 : Int32)) n).1 (by omega) (by omega)
  rw [hv]
  exact ⟨a, b⟩
theorem own_z (v : Int32) (h1 : 1 ≤ v.toInt) : (((own_max v ((2 : Int32) * (Int32.ofNat 0))).toNatClampNeg : Nat) : Int) = v.toInt := by
  have a := own_max_int v ((2 : Int32) * (Int32.ofNat 0))
  rw [own_two 0 (by omega)] at a
  have : (own_max v ((2 : Int32) * (Int32.ofNat 0))).toNatClampNeg = (own_max v ((2 : Int32) * (Int32.ofNat 0))).toInt.toNat := rfl
  omega
theorem own_ix {x y : Int32} (hx : 0 ≤ x.toInt) (hy : 0 ≤ y.toInt) : x.toNatClampNeg = y.toNatClampNeg ↔ x = y := by
  constructor
  · intro q
    have a : x.toNatClampNeg = x.toInt.toNat := rfl
    have b : y.toNatClampNeg = y.toInt.toNat := rfl
    apply Int32.toInt_inj.mp
    omega
  · intro q; rw [q]
theorem own_ofz (z : Nat) (v : Int32) (h : (z : Int) = v.toInt) : Int32.ofNat z = v := by
  have := rng32 v
  apply Int32.toInt_inj.mp
  rw [Int32.toInt_ofNat_of_lt (by omega), h]

theorem own_nz (p0 : Int32) (v1 : Int32) (hv1 : v1 = ((p0 &&& (7 : Int32)) + (1 : Int32))) : v1 ≠ (0 : Int32) := by
  obtain ⟨a1, a2⟩ := own_n _ v1 hv1
  intro q
  rw [q] at a1
  exact absurd a1 (by decide)
theorem own_hb (p0 : Int32) (v1 : Int32) (hv1 : v1 = ((p0 &&& (7 : Int32)) + (1 : Int32))) : v1.toInt ≤ 8 := by
  exact (own_n _ v1 hv1).2
theorem own_hc6 (p0 : Int32) (v1 : Int32) (hv1 : v1 = ((p0 &&& (7 : Int32)) + (1 : Int32))) : (Int32.ofNat 0) < v1 := by
  obtain ⟨a1, a2⟩ := own_n _ v1 hv1
  rw [Int32.lt_iff_toInt_lt]
  have k : (Int32.ofNat 0).toInt = 0 := by decide
  omega
theorem own_hin_55 (p0 : Int32) (p1 : Int32) (v1 : Int32) (v3 : Int32) (z26 : Nat) (hv1 : v1 = ((p0 &&& (7 : Int32)) + (1 : Int32))) (hv3 : v3 = ((p1 &&& (2147483647 : Int32)) % v1)) (hz26 : z26 = ((own_max v1 ((2 : Int32) * (Int32.ofNat 0)))).toNatClampNeg) : own_in v3 z26 := by
  obtain ⟨a1, a2⟩ := own_n _ v1 hv1
  obtain ⟨b1, b2⟩ := own_i _ v1 v3 a1 hv3
  have c := own_z v1 a1
  rw [← hz26] at c
  exact ⟨b1, by omega⟩
theorem own_hin_64 (p0 : Int32) (p1 : Int32) (v1 : Int32) (v3 : Int32) (z26 : Nat) (hv1 : v1 = ((p0 &&& (7 : Int32)) + (1 : Int32))) (hv3 : v3 = ((p1 &&& (2147483647 : Int32)) % v1)) (hz26 : z26 = ((own_max v1 ((2 : Int32) * (Int32.ofNat 0)))).toNatClampNeg) : own_in v3 z26 := by
  obtain ⟨a1, a2⟩ := own_n _ v1 hv1
  obtain ⟨b1, b2⟩ := own_i _ v1 v3 a1 hv3
  have c := own_z v1 a1
  rw [← hz26] at c
  exact ⟨b1, by omega⟩
theorem own_hin_73 (p0 : Int32) (p2 : Int32) (v1 : Int32) (v5 : Int32) (z26 : Nat) (hv1 : v1 = ((p0 &&& (7 : Int32)) + (1 : Int32))) (hv5 : v5 = ((p2 &&& (2147483647 : Int32)) % v1)) (hz26 : z26 = ((own_max v1 ((2 : Int32) * (Int32.ofNat 0)))).toNatClampNeg) : own_in v5 z26 := by
  obtain ⟨a1, a2⟩ := own_n _ v1 hv1
  obtain ⟨b1, b2⟩ := own_i _ v1 v5 a1 hv5
  have c := own_z v1 a1
  rw [← hz26] at c
  exact ⟨b1, by omega⟩
theorem own_hin_82 (p0 : Int32) (p3 : Int32) (v1 : Int32) (v7 : Int32) (z26 : Nat) (hv1 : v1 = ((p0 &&& (7 : Int32)) + (1 : Int32))) (hv7 : v7 = ((p3 &&& (2147483647 : Int32)) % v1)) (hz26 : z26 = ((own_max v1 ((2 : Int32) * (Int32.ofNat 0)))).toNatClampNeg) : own_in v7 z26 := by
  obtain ⟨a1, a2⟩ := own_n _ v1 hv1
  obtain ⟨b1, b2⟩ := own_i _ v1 v7 a1 hv7
  have c := own_z v1 a1
  rw [← hz26] at c
  exact ⟨b1, by omega⟩
theorem own_hin_91 (p0 : Int32) (p1 : Int32) (v1 : Int32) (v3 : Int32) (z26 : Nat) (hv1 : v1 = ((p0 &&& (7 : Int32)) + (1 : Int32))) (hv3 : v3 = ((p1 &&& (2147483647 : Int32)) % v1)) (hz26 : z26 = ((own_max v1 ((2 : Int32) * (Int32.ofNat 0)))).toNatClampNeg) : own_in v3 z26 := by
  obtain ⟨a1, a2⟩ := own_n _ v1 hv1
  obtain ⟨b1, b2⟩ := own_i _ v1 v3 a1 hv3
  have c := own_z v1 a1
  rw [← hz26] at c
  exact ⟨b1, by omega⟩
theorem own_hc6k (p0 : Int32) (v1 : Int32) (z26 : Nat) (hv1 : v1 = ((p0 &&& (7 : Int32)) + (1 : Int32))) (hz26 : z26 = ((own_max v1 ((2 : Int32) * (Int32.ofNat 0)))).toNatClampNeg) : ¬ ((Int32.ofNat z26) < v1) := by
  obtain ⟨a1, a2⟩ := own_n _ v1 hv1
  have c := own_z v1 a1
  rw [← hz26] at c
  rw [own_ofz z26 v1 c, Int32.lt_iff_toInt_lt]
  omega
theorem own_hin_107 (p0 : Int32) (p3 : Int32) (v1 : Int32) (v7 : Int32) (z26 : Nat) (hv1 : v1 = ((p0 &&& (7 : Int32)) + (1 : Int32))) (hv7 : v7 = ((p3 &&& (2147483647 : Int32)) % v1)) (hz26 : z26 = ((own_max v1 ((2 : Int32) * (Int32.ofNat 0)))).toNatClampNeg) : own_in v7 z26 := by
  obtain ⟨a1, a2⟩ := own_n _ v1 hv1
  obtain ⟨b1, b2⟩ := own_i _ v1 v7 a1 hv7
  have c := own_z v1 a1
  rw [← hz26] at c
  exact ⟨b1, by omega⟩
theorem own_hin_116 (p0 : Int32) (p2 : Int32) (v1 : Int32) (v5 : Int32) (z26 : Nat) (hv1 : v1 = ((p0 &&& (7 : Int32)) + (1 : Int32))) (hv5 : v5 = ((p2 &&& (2147483647 : Int32)) % v1)) (hz26 : z26 = ((own_max v1 ((2 : Int32) * (Int32.ofNat 0)))).toNatClampNeg) : own_in v5 z26 := by
  obtain ⟨a1, a2⟩ := own_n _ v1 hv1
  obtain ⟨b1, b2⟩ := own_i _ v1 v5 a1 hv5
  have c := own_z v1 a1
  rw [← hz26] at c
  exact ⟨b1, by omega⟩
theorem own_law (p0 : Int32) (p1 : Int32) (p2 : Int32) (p3 : Int32) (v1 : Int32) (v3 : Int32) (v5 : Int32) (v7 : Int32) (f14 : Nat → Int32) (f24 : Nat → Int32) (v29 : Int32) (f34 : Nat → Int32) (v36 : Int32) (f44 : Nat → Int32) (v46 : Int32) (v52 : Int32) (f57 : Nat → Int32) (v59 : Int32) (f74 : Nat → Int32) (v76 : Int32) (v82 : Int32) (v86 : Int32) (v90 : Int32) (v91 : Int32) (v96 : Int32) (v98 : Int32) (v99 : Int32) (v100 : Int32) (v101 : Int32) (v102 : Int32) (v103 : Int32) (v104 : Int32) (hv1 : v1 = ((p0 &&& (7 : Int32)) + (1 : Int32))) (hv3 : v3 = ((p1 &&& (2147483647 : Int32)) % v1)) (hv5 : v5 = ((p2 &&& (2147483647 : Int32)) % v1)) (hv7 : v7 = ((p3 &&& (2147483647 : Int32)) % v1)) (hf14 : f14 = (fun _ => (0 : Int32))) (hf24 : f24 = (fun j => if j < 0 then f14 j else (fun _ => (0 : Int32)) j)) (hv29 : v29 = (nar .boolean (if (f24 (v3).toNatClampNeg) = ((0 : Int32) + (1 : Int32)) then (1 : Int32) else (0 : Int32)))) (hf34 : f34 = (fun i => if i = (v3).toNatClampNeg then ((0 : Int32) + (1 : Int32)) else f24 i)) (hv36 : v36 = (nar .boolean (if (f24 (v3).toNatClampNeg) = ((0 : Int32) + (1 : Int32)) then (0 : Int32) else (1 : Int32)))) (hf44 : f44 = (fun i => if i = (v5).toNatClampNeg then ((0 : Int32) + (1 : Int32)) else f34 i)) (hv46 : v46 = (nar .boolean (if (f34 (v5).toNatClampNeg) = ((0 : Int32) + (1 : Int32)) then (0 : Int32) else (1 : Int32)))) (hv52 : v52 = (nar .boolean (if (f44 (v7).toNatClampNeg) = ((0 : Int32) + (1 : Int32)) then (1 : Int32) else (0 : Int32)))) (hf57 : f57 = (fun i => if i = (v3).toNatClampNeg then ((0 : Int32) + (1 : Int32)) else f44 i)) (hv59 : v59 = (nar .boolean (if (f44 (v3).toNatClampNeg) = ((0 : Int32) + (1 : Int32)) then (0 : Int32) else (1 : Int32)))) (hf74 : f74 = (fun i => if i = (v7).toNatClampNeg then (((0 : Int32) + (1 : Int32)) + (1 : Int32)) else f57 i)) (hv76 : v76 = (nar .boolean (if (f57 (v7).toNatClampNeg) = (((0 : Int32) + (1 : Int32)) + (1 : Int32)) then (0 : Int32) else (1 : Int32)))) (hv82 : v82 = (nar .boolean (if (f74 (v5).toNatClampNeg) = (((0 : Int32) + (1 : Int32)) + (1 : Int32)) then (1 : Int32) else (0 : Int32)))) (hv86 : v86 = (if v5 = v3 then (0 : Int32) else (1 : Int32))) (hv90 : v90 = (if v7 = v5 then (1 : Int32) else (0 : Int32))) (hv91 : v91 = (if v7 = v3 then (1 : Int32) else v90)) (hv96 : v96 = (if v5 = v7 then (1 : Int32) else (0 : Int32))) (hv98 : v98 = (if v82 = v96 then (1 : Int32) else (0 : Int32))) (hv99 : v99 = (if v76 = (0 : Int32) then (0 : Int32) else v98)) (hv100 : v100 = (if v59 = (0 : Int32) then v99 else (0 : Int32))) (hv101 : v101 = (if v52 = v91 then v100 else (0 : Int32))) (hv102 : v102 = (if v46 = v86 then v101 else (0 : Int32))) (hv103 : v103 = (if v36 = (0 : Int32) then (0 : Int32) else v102)) (hv104 : v104 = (if v29 = (0 : Int32) then v103 else (0 : Int32))) : (nar .boolean v104) = (1 : Int32) := by
  obtain ⟨a1, a2⟩ := own_n _ v1 hv1
  obtain ⟨x0, -⟩ := own_i _ v1 v3 a1 hv3
  obtain ⟨y0, -⟩ := own_i _ v1 v5 a1 hv5
  obtain ⟨z0, -⟩ := own_i _ v1 v7 a1 hv7
  have xy := own_ix y0 x0
  have zx := own_ix z0 x0
  have zy := own_ix z0 y0
  have xz := own_ix x0 z0
  have yz := own_ix y0 z0
  have yx := own_ix x0 y0
  clear a1 a2 x0 y0 z0 hv1 hv3 hv5 hv7
  have o1 : (0 : Int32) + (1 : Int32) = 1 := by decide
  have o2 : (1 : Int32) + (1 : Int32) = 2 := by decide
  subst hf14 hf24 hf34 hf44 hf57 hf74
  simp only [o1, o2] at *
  by_cases q1 : v5 = v3 <;> by_cases q2 : v7 = v3 <;> by_cases q3 : v7 = v5 <;> simp_all [own_nar_ite, own_nar0, own_nar1]
theorem ef_0 (m : MethodId) (p0 : Int32) (p1 : Int32) (p2 : Int32) (p3 : Int32) : entryFrame m #[(.int p0), (.int p1), (.int p2), (.int p3)] maxLocals = mkF m 0 #[.val (.int p0), .val (.int p1), .val (.int p2), .val (.int p3), .unset, .unset, .unset, .unset, .unset, .unset, .unset, .unset, .unset, .unset, .unset, .unset] [] := by first | (simp [entryFrame, mkF, argsToLocals, Value.category, maxLocals]; done) | rfl
def Q0 (h0 : Heap) (n0 : Nat) (v : Option Value) (h : Heap) (L : List Loc) : Prop := v = some (.int 1) ∧ Fr n0 L
set_option maxRecDepth 65536 in
set_option maxHeartbeats 40000000 in
theorem rm0 (l : Launch) (Z : State) (A0 : Array Value) (hw : ∀ d ∈ tables_1, d.before A0 Z = true) (ws : List Jvm.Cond) (p0 : Int32) (p1 : Int32) (p2 : Int32) (p3 : Int32) (h0 : Heap) (n0 : Nat) (Z0 : n0 ≤ h0.size) :
    MetFree l x (head1 (Jvm.Cond.code x code maxLocals ret :: ws) room_1) (fun a U => a = #[(.int p0), (.int p1), (.int p2), (.int p3)] ∧ Z.Warmed39 U.vm ∧ U.heap = h0) (fun _ _ _ _ _ => True) (fun _ U o U' => ∃ v L, o = .returned v ∧ Q0 h0 n0 v U'.heap L ∧ FrameEnd U o U' L 3 18) := by
  refine MetFree.of_bodySF (plainFor_of_name pn_0) hisR ?_
  intro p e s m args below meth c s₁ Bd hml0 hP hK
  obtain ⟨rfl, hZ, hh⟩ := hP
  have hx := Bd.exec
  have hby := Bd.bytes
  have hml : c.maxLocals = 16 := hml0
  have hown : s.vm.findClass "com/example/psilattice/psilattice/core/SortMarksAddPinLaw" = some m.cls := findClass_of_methodNamed Bd.named
  have hnm := (name_of_methodNamed Bd.named Bd.method).1
  have X0 : Stand p l e room_1 s m #[(.int p0), (.int p1), (.int p2), (.int p3)] below meth c s₁ [] 0 0 := Stand.of_body Bd
  have e0 : s₁.heap = h0 := by rw [← hh, Bd.state]; rfl
  have N0 := Fr.nil n0
  have pre0 : ∀ t, Steps p.tables e below (s₁.setTop (mkF m 0 #[.val (.int p0), .val (.int p1), .val (.int p2), .val (.int p3), .unset, .unset, .unset, .unset, .unset, .unset, .unset, .unset, .unset, .unset, .unset, .unset] [])) t → Steps p.tables e below (s₁.setTop (entryFrame m #[(.int p0), (.int p1), (.int p2), (.int p3)] maxLocals)) t := fun t k => castTop (ef_0 m p0 p1 p2 p3) k
  obtain ⟨v1, hv1⟩ : ∃ z : Int32, z = ((p0 &&& (7 : Int32)) + (1 : Int32)) := ⟨_, rfl⟩
  have hz2 : v1 ≠ (0 : Int32) := (own_nz p0 v1 hv1)
  obtain ⟨v3, hv3⟩ : ∃ z : Int32, z = ((p1 &&& (2147483647 : Int32)) % v1) := ⟨_, rfl⟩
  have hz4 : v1 ≠ (0 : Int32) := (own_nz p0 v1 hv1)
  obtain ⟨v5, hv5⟩ : ∃ z : Int32, z = ((p2 &&& (2147483647 : Int32)) % v1) := ⟨_, rfl⟩
  have hz6 : v1 ≠ (0 : Int32) := (own_nz p0 v1 hv1)
  obtain ⟨v7, hv7⟩ : ∃ z : Int32, z = ((p3 &&& (2147483647 : Int32)) % v1) := ⟨_, rfl⟩
  obtain ⟨T8, h8, X8, e8, E8, A8, D8, -, st8⟩ := newO X0 hx hZ hown (hw _ (List.mem_of_getElem? (i := 1) rfl)) (hw _ (List.mem_of_getElem? (i := 2) rfl)) (hw _ (List.mem_of_getElem? (i := 3) rfl)) e0 (g := (mkF m 35 #[.val (.int p0), .val (.int p1), .val (.int p2), .val (.int p3), .val (.int v1), .val (.int v3), .val (.int v5), .val (.int v7), .unset, .unset, .unset, .unset, .unset, .unset, .unset, .unset] [])) rfl (hb hby at_35) (by decide) (by decide)
  obtain ⟨b8, g8⟩ : ∃ z, z = h0.size := ⟨_, rfl⟩
  rw [← g8] at A8 D8 st8
  have nw_b8 : n0 ≤ b8 := Nat.le_trans (Nat.le_trans Z0 (Keep.refl h0 []).1) (Nat.le_of_eq g8.symm)
  have sz_b8 : h0.size ≤ b8 := Nat.le_trans (Keep.refl h0 []).1 (Nat.le_of_eq g8.symm)
  have K8 : Keep h0 h8 [] := (Keep.refl h0 []).ext E8
  have F_marks_b8 : Fld Z h8 b8 "com/example/psilattice/psilattice/core/SortMarks" "marks" "[I" .null := D8 (Or.inl (hw _ (List.mem_of_getElem? (i := 12) rfl))) (ty := (.array .int)) (by decide)
  have F_mark_b8 : Fld Z h8 b8 "com/example/psilattice/psilattice/core/SortMarks" "mark" "I" (.int (0 : Int32)) := D8 (Or.inl (hw _ (List.mem_of_getElem? (i := 34) rfl))) (ty := .int) (by decide)
  obtain ⟨_, _, ⟨T9, L9, k9, n9⟩, -, X9, ⟨Lc9, hQ9, l9, y9, z9⟩, st9⟩ := X8.specialBack hx (y := (⟨"com/example/psilattice/psilattice/core/SortMarks", "<init>", "()V"⟩ : MethodName)) rfl hown (mvT hZ (hw _ (List.mem_of_getElem? (i := 4) rfl))) (mvT hZ (hw _ (List.mem_of_getElem? (i := 5) rfl))) (mvT hZ (hw _ (List.mem_of_getElem? (i := 6) rfl))) (by decide) (backOf (W := 1) (rm1 l Z A0 hw [] b8 .null (0 : Int32) h8 n0 (Nat.le_trans Z0 K8.1) A8 F_marks_b8 F_mark_b8 nw_b8) hZ (hw _ (List.mem_of_getElem? (i := 6) rfl)) (hw _ (List.mem_of_getElem? (i := 3) rfl)) (by decide) (by decide)) (g := (mkF m 39 #[.val (.int p0), .val (.int p1), .val (.int p2), .val (.int p3), .val (.int v1), .val (.int v3), .val (.int v5), .val (.int v7), .unset, .unset, .unset, .unset, .unset, .unset, .unset, .unset] [(.ref b8), (.ref b8)])) rfl (by rw [hml]; rfl) (Steps.refl _) (a := b8) (argsL := []) (rest := [(.ref b8)]) (lenOf pd_0 rfl) rfl (by show 2 * 0 + _ ≤ _; exact Nat.le_of_eq rfl) (hb hby at_39) (fun _ _ => ⟨rfl, e8, (by decide : 1 + 1 ≤ _), (by decide : 2 + 0 ≤ _)⟩)
  dsimp only [Pt.U, Pt.locs, Pt.cells, Pt.slots] at X9 l9 y9 z9 st9 hQ9
  subst l9 y9 z9
  obtain ⟨b9_b2, rfl, N9q, Kc9, szb9_b2, P10, P11, P12, P13⟩ := hQ9
  have ne_b8_b9_b2 : b8 ≠ b9_b2 := Nat.ne_of_lt (Nat.lt_of_lt_of_le A8.lt szb9_b2)
  have nw_b9_b2 : n0 ≤ b9_b2 := Nat.le_trans (Nat.le_trans Z0 K8.1) szb9_b2
  have sq_b9_b2 : h0.size ≤ b9_b2 := Nat.le_trans K8.1 szb9_b2
  have K9 : Keep h0 T9.heap [] := K8.trans Kc9 (allS (Or.inr sz_b8) all0)
  obtain ⟨f14, hf14⟩ : ∃ f : Nat → Int32, f = (fun _ => (0 : Int32)) := ⟨_, rfl⟩
  have P15 : AF Z T9.heap b9_b2 .int 0 (fun j => .int (f14 j)) := by rw [hf14]; exact P13
  have N9 := Fr.app N0 N9q
  have hp16 : v1.toInt ≤ 8 := (own_hb p0 v1 hv1)
  have hp17 : (Int32.ofNat 0) < v1 := (own_hc6 p0 v1 hv1)
  have hp18 : ¬ ((0 : Int32) = (2147483647 : Int32)) := (by decide)
  obtain ⟨cq19, kq19, q19a, q19b, q19c⟩ := isOf hZ rfl P10
  obtain ⟨_, _, ⟨T19, L19, k19, n19⟩, -, X19, ⟨Lc19, hQ19, l19, y19, z19⟩, st19⟩ := X9.virtualBack hx (y := (⟨"com/example/psilattice/psilattice/core/SortMarks", "start", "(I)V"⟩ : MethodName)) (z := (⟨"com/example/psilattice/psilattice/core/SortMarks", "start", "(I)V"⟩ : MethodName)) hown (mvT hZ (hw _ (List.mem_of_getElem? (i := 13) rfl))) (mvT hZ (hw _ (List.mem_of_getElem? (i := 14) rfl))) (notFace_of_selects (args := #[]) (mvT hZ (hw _ (List.mem_of_getElem? (i := 16) rfl)))) (mvT hZ (hw _ (List.mem_of_getElem? (i := 16) rfl))) (mvT hZ (hw _ (List.mem_of_getElem? (i := 15) rfl))) (by decide) (backOf (W := 0) (rm3g l Z A0 hw [] b8 v1 b9_b2 (0 : Int32) 0 f14 T9.heap n0 (Nat.le_trans Z0 K9.1) P10 P11 P12 P15 nw_b8 hp16 hp17 hp18) hZ (hw _ (List.mem_of_getElem? (i := 17) rfl)) (hw _ (List.mem_of_getElem? (i := 3) rfl)) (by decide) (by decide)) q19a q19c (g := (mkF m 48 #[.val (.int p0), .val (.int p1), .val (.int p2), .val (.int p3), .val (.int v1), .val (.int v3), .val (.int v5), .val (.int v7), .val (.ref b8), .unset, .unset, .unset, .unset, .unset, .unset, .unset] [(.int v1), (.ref b8)])) rfl (by rw [hml]; rfl) (Steps.refl _) (argsL := [(.int v1)]) (rest := []) (lenOf pd_1 rfl) rfl (by show 2 * 0 + _ ≤ _; exact Nat.le_of_eq rfl) (hb hby at_48) (fun _ _ => ⟨rfl, rfl, (by decide : 2 + 1 ≤ _), (by decide : 2 + 16 ≤ _)⟩)
  dsimp only [Pt.U, Pt.locs, Pt.cells, Pt.slots] at X19 l19 y19 z19 st19 hQ19
  subst l19 y19 z19
  obtain ⟨b19_b9_b1, rfl, N19q, Kc19, szb19_b9_b1, P20, P21, P22, P23⟩ := hQ19
  have ne_b8_b19_b9_b1 : b8 ≠ b19_b9_b1 := Nat.ne_of_lt (Nat.lt_of_lt_of_le P10.lt szb19_b9_b1)
  have ne_b9_b2_b19_b9_b1 : b9_b2 ≠ b19_b9_b1 := Nat.ne_of_lt (Nat.lt_of_lt_of_le P15.lt szb19_b9_b1)
  have nw_b19_b9_b1 : n0 ≤ b19_b9_b1 := Nat.le_trans (Nat.le_trans Z0 K9.1) szb19_b9_b1
  have sq_b19_b9_b1 : h0.size ≤ b19_b9_b1 := Nat.le_trans K9.1 szb19_b9_b1
  have K19 : Keep h0 T19.heap [] := K9.trans Kc19 (allS (Or.inr sz_b8) all0)
  obtain ⟨f24, hf24⟩ : ∃ f : Nat → Int32, f = (fun j => if j < 0 then f14 j else (fun _ => (0 : Int32)) j) := ⟨_, rfl⟩
  obtain ⟨z26, hz26⟩ : ∃ z : Nat, z = ((own_max v1 ((2 : Int32) * (Int32.ofNat 0)))).toNatClampNeg := ⟨_, rfl⟩
  have P25 : AF Z T19.heap b19_b9_b1 .int z26 (fun j => .int (f24 j)) := by rw [hf24, hz26]; exact P23
  have N19 := Fr.app N9 N19q
  have hp27 : own_in v3 z26 := (own_hin_55 p0 p1 v1 v3 z26 hv1 hv3 hz26)
  obtain ⟨cq28, kq28, q28a, q28b, q28c⟩ := isOf hZ rfl P20
  obtain ⟨_, _, ⟨T28, L28, k28, n28⟩, -, X28, ⟨Lc28, hQ28, l28, y28, z28⟩, st28⟩ := X19.virtualBack hx (y := (⟨"com/example/psilattice/psilattice/core/SortMarks", "has", "(I)Z"⟩ : MethodName)) (z := (⟨"com/example/psilattice/psilattice/core/SortMarks", "has", "(I)Z"⟩ : MethodName)) hown (mvT hZ (hw _ (List.mem_of_getElem? (i := 36) rfl))) (mvT hZ (hw _ (List.mem_of_getElem? (i := 37) rfl))) (notFace_of_selects (args := #[]) (mvT hZ (hw _ (List.mem_of_getElem? (i := 39) rfl)))) (mvT hZ (hw _ (List.mem_of_getElem? (i := 39) rfl))) (mvT hZ (hw _ (List.mem_of_getElem? (i := 38) rfl))) (by decide) (backOf (W := 0) (rm7 l Z A0 hw [] b8 v3 b19_b9_b1 ((0 : Int32) + (1 : Int32)) z26 f24 T19.heap n0 (Nat.le_trans Z0 K19.1) P20 P21 P22 P25 hp27) hZ (hw _ (List.mem_of_getElem? (i := 40) rfl)) (hw _ (List.mem_of_getElem? (i := 3) rfl)) (by decide) (by decide)) q28a q28c (g := (mkF m 55 #[.val (.int p0), .val (.int p1), .val (.int p2), .val (.int p3), .val (.int v1), .val (.int v3), .val (.int v5), .val (.int v7), .val (.ref b8), .unset, .unset, .unset, .unset, .unset, .unset, .unset] [(.int v3), (.ref b8)])) rfl (by rw [hml]; rfl) (Steps.refl _) (argsL := [(.int v3)]) (rest := []) (lenOf pd_5 rfl) rfl (by show 2 * 0 + _ ≤ _; exact Nat.le_of_eq rfl) (hb hby at_55) (fun _ _ => ⟨rfl, rfl, (by decide : 3 + 0 ≤ _), (by decide : 18 + 0 ≤ _)⟩)
  dsimp only [Pt.U, Pt.locs, Pt.cells, Pt.slots] at X28 l28 y28 z28 st28 hQ28
  subst l28 y28 z28
  obtain ⟨rfl, N28q, e28⟩ := hQ28
  have N28 := Fr.app N19 N28q
  obtain ⟨v29, hv29⟩ : ∃ z : Int32, z = (nar .boolean (if (f24 (v3).toNatClampNeg) = ((0 : Int32) + (1 : Int32)) then (1 : Int32) else (0 : Int32))) := ⟨_, rfl⟩
  have hp30 : own_in v3 z26 := (own_hin_64 p0 p1 v1 v3 z26 hv1 hv3 hz26)
  have hp31 : own_in v3 z26 := (own_hin_64 p0 p1 v1 v3 z26 hv1 hv3 hz26)
  obtain ⟨cq32, kq32, q32a, q32b, q32c⟩ := isOf hZ e28 P20
  obtain ⟨_, _, ⟨T32, L32, k32, n32⟩, -, X32, ⟨Lc32, hQ32, l32, y32, z32⟩, st32⟩ := X28.virtualBack hx (y := (⟨"com/example/psilattice/psilattice/core/SortMarks", "add", "(I)Z"⟩ : MethodName)) (z := (⟨"com/example/psilattice/psilattice/core/SortMarks", "add", "(I)Z"⟩ : MethodName)) hown (mvT hZ (hw _ (List.mem_of_getElem? (i := 41) rfl))) (mvT hZ (hw _ (List.mem_of_getElem? (i := 42) rfl))) (notFace_of_selects (args := #[]) (mvT hZ (hw _ (List.mem_of_getElem? (i := 44) rfl)))) (mvT hZ (hw _ (List.mem_of_getElem? (i := 44) rfl))) (mvT hZ (hw _ (List.mem_of_getElem? (i := 43) rfl))) (by decide) (backOf (W := 0) (rm8 l Z A0 hw [] b8 v3 b19_b9_b1 ((0 : Int32) + (1 : Int32)) z26 f24 T19.heap n0 (Nat.le_trans Z0 K19.1) P20 P21 P22 P25 nw_b19_b9_b1 hp30 hp31) hZ (hw _ (List.mem_of_getElem? (i := 45) rfl)) (hw _ (List.mem_of_getElem? (i := 3) rfl)) (by decide) (by decide)) q32a q32c (g := (mkF m 64 #[.val (.int p0), .val (.int p1), .val (.int p2), .val (.int p3), .val (.int v1), .val (.int v3), .val (.int v5), .val (.int v7), .val (.ref b8), .val (.int v29), .unset, .unset, .unset, .unset, .unset, .unset] [(.int v3), (.ref b8)])) rfl (by rw [hml]; rfl) (Steps.refl _) (argsL := [(.int v3)]) (rest := []) (lenOf pd_5 rfl) rfl (by show 2 * 0 + _ ≤ _; exact Nat.le_of_eq rfl) (hb hby at_64) (fun _ _ => ⟨rfl, e28, (by decide : 3 + 0 ≤ _), (by decide : 18 + 0 ≤ _)⟩)
  dsimp only [Pt.U, Pt.locs, Pt.cells, Pt.slots] at X32 l32 y32 z32 st32 hQ32
  subst l32 y32 z32
  obtain ⟨rfl, N32q, Kc32, P33⟩ := hQ32
  have K32 : Keep h0 T32.heap [] := K19.trans Kc32 (allS (Or.inr sq_b19_b9_b1) all0)
  obtain ⟨f34, hf34⟩ : ∃ f : Nat → Int32, f = (fun i => if i = (v3).toNatClampNeg then ((0 : Int32) + (1 : Int32)) else f24 i) := ⟨_, rfl⟩
  have P35 : AF Z T32.heap b19_b9_b1 .int z26 (fun j => .int (f34 j)) := by rw [hf34]; exact P33
  have N32 := Fr.app N28 N32q
  obtain ⟨v36, hv36⟩ : ∃ z : Int32, z = (nar .boolean (if (f24 (v3).toNatClampNeg) = ((0 : Int32) + (1 : Int32)) then (0 : Int32) else (1 : Int32))) := ⟨_, rfl⟩
  have G37 : Exa Z T32.heap b8 "com/example/psilattice/psilattice/core/SortMarks" := (P20.keep Kc32)
  have G38 : Fld Z T32.heap b8 "com/example/psilattice/psilattice/core/SortMarks" "marks" "[I" (.ref b19_b9_b1) := (P21.keep Kc32 (ninS ne_b8_b19_b9_b1 nin0))
  have G39 : Fld Z T32.heap b8 "com/example/psilattice/psilattice/core/SortMarks" "mark" "I" (.int ((0 : Int32) + (1 : Int32))) := (P22.keep Kc32 (ninS ne_b8_b19_b9_b1 nin0))
  have hp40 : own_in v5 z26 := (own_hin_73 p0 p2 v1 v5 z26 hv1 hv5 hz26)
  have hp41 : own_in v5 z26 := (own_hin_73 p0 p2 v1 v5 z26 hv1 hv5 hz26)
  obtain ⟨cq42, kq42, q42a, q42b, q42c⟩ := isOf hZ rfl G37
  obtain ⟨_, _, ⟨T42, L42, k42, n42⟩, -, X42, ⟨Lc42, hQ42, l42, y42, z42⟩, st42⟩ := X32.virtualBack hx (y := (⟨"com/example/psilattice/psilattice/core/SortMarks", "add", "(I)Z"⟩ : MethodName)) (z := (⟨"com/example/psilattice/psilattice/core/SortMarks", "add", "(I)Z"⟩ : MethodName)) hown (mvT hZ (hw _ (List.mem_of_getElem? (i := 41) rfl))) (mvT hZ (hw _ (List.mem_of_getElem? (i := 42) rfl))) (notFace_of_selects (args := #[]) (mvT hZ (hw _ (List.mem_of_getElem? (i := 44) rfl)))) (mvT hZ (hw _ (List.mem_of_getElem? (i := 44) rfl))) (mvT hZ (hw _ (List.mem_of_getElem? (i := 43) rfl))) (by decide) (backOf (W := 0) (rm8 l Z A0 hw [] b8 v5 b19_b9_b1 ((0 : Int32) + (1 : Int32)) z26 f34 T32.heap n0 (Nat.le_trans Z0 K32.1) G37 G38 G39 P35 nw_b19_b9_b1 hp40 hp41) hZ (hw _ (List.mem_of_getElem? (i := 45) rfl)) (hw _ (List.mem_of_getElem? (i := 3) rfl)) (by decide) (by decide)) q42a q42c (g := (mkF m 73 #[.val (.int p0), .val (.int p1), .val (.int p2), .val (.int p3), .val (.int v1), .val (.int v3), .val (.int v5), .val (.int v7), .val (.ref b8), .val (.int v29), .val (.int v36), .unset, .unset, .unset, .unset, .unset] [(.int v5), (.ref b8)])) rfl (by rw [hml]; rfl) (Steps.refl _) (argsL := [(.int v5)]) (rest := []) (lenOf pd_5 rfl) rfl (by show 2 * 0 + _ ≤ _; exact Nat.le_of_eq rfl) (hb hby at_73) (fun _ _ => ⟨rfl, rfl, (by decide : 3 + 0 ≤ _), (by decide : 18 + 0 ≤ _)⟩)
  dsimp only [Pt.U, Pt.locs, Pt.cells, Pt.slots] at X42 l42 y42 z42 st42 hQ42
  subst l42 y42 z42
  obtain ⟨rfl, N42q, Kc42, P43⟩ := hQ42
  have K42 : Keep h0 T42.heap [] := K32.trans Kc42 (allS (Or.inr sq_b19_b9_b1) all0)
  obtain ⟨f44, hf44⟩ : ∃ f : Nat → Int32, f = (fun i => if i = (v5).toNatClampNeg then ((0 : Int32) + (1 : Int32)) else f34 i) := ⟨_, rfl⟩
  have P45 : AF Z T42.heap b19_b9_b1 .int z26 (fun j => .int (f44 j)) := by rw [hf44]; exact P43
  have N42 := Fr.app N32 N42q
  obtain ⟨v46, hv46⟩ : ∃ z : Int32, z = (nar .boolean (if (f34 (v5).toNatClampNeg) = ((0 : Int32) + (1 : Int32)) then (0 : Int32) else (1 : Int32))) := ⟨_, rfl⟩
  have G47 : Exa Z T42.heap b8 "com/example/psilattice/psilattice/core/SortMarks" := (G37.keep Kc42)
  have G48 : Fld Z T42.heap b8 "com/example/psilattice/psilattice/core/SortMarks" "marks" "[I" (.ref b19_b9_b1) := (G38.keep Kc42 (ninS ne_b8_b19_b9_b1 nin0))
  have G49 : Fld Z T42.heap b8 "com/example/psilattice/psilattice/core/SortMarks" "mark" "I" (.int ((0 : Int32) + (1 : Int32))) := (G39.keep Kc42 (ninS ne_b8_b19_b9_b1 nin0))
  have hp50 : own_in v7 z26 := (own_hin_82 p0 p3 v1 v7 z26 hv1 hv7 hz26)
  obtain ⟨cq51, kq51, q51a, q51b, q51c⟩ := isOf hZ rfl G47
  obtain ⟨_, _, ⟨T51, L51, k51, n51⟩, -, X51, ⟨Lc51, hQ51, l51, y51, z51⟩, st51⟩ := X42.virtualBack hx (y := (⟨"com/example/psilattice/psilattice/core/SortMarks", "has", "(I)Z"⟩ : MethodName)) (z := (⟨"com/example/psilattice/psilattice/core/SortMarks", "has", "(I)Z"⟩ : MethodName)) hown (mvT hZ (hw _ (List.mem_of_getElem? (i := 36) rfl))) (mvT hZ (hw _ (List.mem_of_getElem? (i := 37) rfl))) (notFace_of_selects (args := #[]) (mvT hZ (hw _ (List.mem_of_getElem? (i := 39) rfl)))) (mvT hZ (hw _ (List.mem_of_getElem? (i := 39) rfl))) (mvT hZ (hw _ (List.mem_of_getElem? (i := 38) rfl))) (by decide) (backOf (W := 0) (rm7 l Z A0 hw [] b8 v7 b19_b9_b1 ((0 : Int32) + (1 : Int32)) z26 f44 T42.heap n0 (Nat.le_trans Z0 K42.1) G47 G48 G49 P45 hp50) hZ (hw _ (List.mem_of_getElem? (i := 40) rfl)) (hw _ (List.mem_of_getElem? (i := 3) rfl)) (by decide) (by decide)) q51a q51c (g := (mkF m 82 #[.val (.int p0), .val (.int p1), .val (.int p2), .val (.int p3), .val (.int v1), .val (.int v3), .val (.int v5), .val (.int v7), .val (.ref b8), .val (.int v29), .val (.int v36), .val (.int v46), .unset, .unset, .unset, .unset] [(.int v7), (.ref b8)])) rfl (by rw [hml]; rfl) (Steps.refl _) (argsL := [(.int v7)]) (rest := []) (lenOf pd_5 rfl) rfl (by show 2 * 0 + _ ≤ _; exact Nat.le_of_eq rfl) (hb hby at_82) (fun _ _ => ⟨rfl, rfl, (by decide : 3 + 0 ≤ _), (by decide : 18 + 0 ≤ _)⟩)
  dsimp only [Pt.U, Pt.locs, Pt.cells, Pt.slots] at X51 l51 y51 z51 st51 hQ51
  subst l51 y51 z51
  obtain ⟨rfl, N51q, e51⟩ := hQ51
  have N51 := Fr.app N42 N51q
  obtain ⟨v52, hv52⟩ : ∃ z : Int32, z = (nar .boolean (if (f44 (v7).toNatClampNeg) = ((0 : Int32) + (1 : Int32)) then (1 : Int32) else (0 : Int32))) := ⟨_, rfl⟩
  have hp53 : own_in v3 z26 := (own_hin_91 p0 p1 v1 v3 z26 hv1 hv3 hz26)
  have hp54 : own_in v3 z26 := (own_hin_91 p0 p1 v1 v3 z26 hv1 hv3 hz26)
  obtain ⟨cq55, kq55, q55a, q55b, q55c⟩ := isOf hZ e51 G47
  obtain ⟨_, _, ⟨T55, L55, k55, n55⟩, -, X55, ⟨Lc55, hQ55, l55, y55, z55⟩, st55⟩ := X51.virtualBack hx (y := (⟨"com/example/psilattice/psilattice/core/SortMarks", "add", "(I)Z"⟩ : MethodName)) (z := (⟨"com/example/psilattice/psilattice/core/SortMarks", "add", "(I)Z"⟩ : MethodName)) hown (mvT hZ (hw _ (List.mem_of_getElem? (i := 41) rfl))) (mvT hZ (hw _ (List.mem_of_getElem? (i := 42) rfl))) (notFace_of_selects (args := #[]) (mvT hZ (hw _ (List.mem_of_getElem? (i := 44) rfl)))) (mvT hZ (hw _ (List.mem_of_getElem? (i := 44) rfl))) (mvT hZ (hw _ (List.mem_of_getElem? (i := 43) rfl))) (by decide) (backOf (W := 0) (rm8 l Z A0 hw [] b8 v3 b19_b9_b1 ((0 : Int32) + (1 : Int32)) z26 f44 T42.heap n0 (Nat.le_trans Z0 K42.1) G47 G48 G49 P45 nw_b19_b9_b1 hp53 hp54) hZ (hw _ (List.mem_of_getElem? (i := 45) rfl)) (hw _ (List.mem_of_getElem? (i := 3) rfl)) (by decide) (by decide)) q55a q55c (g := (mkF m 91 #[.val (.int p0), .val (.int p1), .val (.int p2), .val (.int p3), .val (.int v1), .val (.int v3), .val (.int v5), .val (.int v7), .val (.ref b8), .val (.int v29), .val (.int v36), .val (.int v46), .val (.int v52), .unset, .unset, .unset] [(.int v3), (.ref b8)])) rfl (by rw [hml]; rfl) (Steps.refl _) (argsL := [(.int v3)]) (rest := []) (lenOf pd_5 rfl) rfl (by show 2 * 0 + _ ≤ _; exact Nat.le_of_eq rfl) (hb hby at_91) (fun _ _ => ⟨rfl, e51, (by decide : 3 + 0 ≤ _), (by decide : 18 + 0 ≤ _)⟩)
  dsimp only [Pt.U, Pt.locs, Pt.cells, Pt.slots] at X55 l55 y55 z55 st55 hQ55
  subst l55 y55 z55
  obtain ⟨rfl, N55q, Kc55, P56⟩ := hQ55
  have K55 : Keep h0 T55.heap [] := K42.trans Kc55 (allS (Or.inr sq_b19_b9_b1) all0)
  obtain ⟨f57, hf57⟩ : ∃ f : Nat → Int32, f = (fun i => if i = (v3).toNatClampNeg then ((0 : Int32) + (1 : Int32)) else f44 i) := ⟨_, rfl⟩
  have P58 : AF Z T55.heap b19_b9_b1 .int z26 (fun j => .int (f57 j)) := by rw [hf57]; exact P56
  have N55 := Fr.app N51 N55q
  obtain ⟨v59, hv59⟩ : ∃ z : Int32, z = (nar .boolean (if (f44 (v3).toNatClampNeg) = ((0 : Int32) + (1 : Int32)) then (0 : Int32) else (1 : Int32))) := ⟨_, rfl⟩
  have G60 : Exa Z T55.heap b8 "com/example/psilattice/psilattice/core/SortMarks" := (G47.keep Kc55)
  have G61 : Fld Z T55.heap b8 "com/example/psilattice/psilattice/core/SortMarks" "marks" "[I" (.ref b19_b9_b1) := (G48.keep Kc55 (ninS ne_b8_b19_b9_b1 nin0))
  have G62 : Fld Z T55.heap b8 "com/example/psilattice/psilattice/core/SortMarks" "mark" "I" (.int ((0 : Int32) + (1 : Int32))) := (G49.keep Kc55 (ninS ne_b8_b19_b9_b1 nin0))
  have hp63 : ¬ ((Int32.ofNat z26) < v1) := (own_hc6k p0 v1 z26 hv1 hz26)
  have hp64 : ¬ (((0 : Int32) + (1 : Int32)) = (2147483647 : Int32)) := (by decide)
  obtain ⟨cq65, kq65, q65a, q65b, q65c⟩ := isOf hZ rfl G60
  obtain ⟨_, _, ⟨T65, L65, k65, n65⟩, -, X65, ⟨Lc65, hQ65, l65, y65, z65⟩, st65⟩ := X55.virtualBack hx (y := (⟨"com/example/psilattice/psilattice/core/SortMarks", "start", "(I)V"⟩ : MethodName)) (z := (⟨"com/example/psilattice/psilattice/core/SortMarks", "start", "(I)V"⟩ : MethodName)) hown (mvT hZ (hw _ (List.mem_of_getElem? (i := 13) rfl))) (mvT hZ (hw _ (List.mem_of_getElem? (i := 14) rfl))) (notFace_of_selects (args := #[]) (mvT hZ (hw _ (List.mem_of_getElem? (i := 16) rfl)))) (mvT hZ (hw _ (List.mem_of_getElem? (i := 16) rfl))) (mvT hZ (hw _ (List.mem_of_getElem? (i := 15) rfl))) (by decide) (backOf (W := 0) (rm3k l Z A0 hw [] b8 v1 b19_b9_b1 ((0 : Int32) + (1 : Int32)) z26 f57 T55.heap n0 (Nat.le_trans Z0 K55.1) G60 G61 G62 P58 nw_b8 hp63 hp64) hZ (hw _ (List.mem_of_getElem? (i := 17) rfl)) (hw _ (List.mem_of_getElem? (i := 3) rfl)) (by decide) (by decide)) q65a q65c (g := (mkF m 100 #[.val (.int p0), .val (.int p1), .val (.int p2), .val (.int p3), .val (.int v1), .val (.int v3), .val (.int v5), .val (.int v7), .val (.ref b8), .val (.int v29), .val (.int v36), .val (.int v46), .val (.int v52), .val (.int v59), .unset, .unset] [(.int v1), (.ref b8)])) rfl (by rw [hml]; rfl) (Steps.refl _) (argsL := [(.int v1)]) (rest := []) (lenOf pd_1 rfl) rfl (by show 2 * 0 + _ ≤ _; exact Nat.le_of_eq rfl) (hb hby at_100) (fun _ _ => ⟨rfl, rfl, (by decide : 3 + 0 ≤ _), (by decide : 18 + 0 ≤ _)⟩)
  dsimp only [Pt.U, Pt.locs, Pt.cells, Pt.slots] at X65 l65 y65 z65 st65 hQ65
  subst l65 y65 z65
  obtain ⟨rfl, N65q, Kc65, P66, P67, P68⟩ := hQ65
  have K65 : Keep h0 T65.heap [] := K55.trans Kc65 (allS (Or.inr sz_b8) all0)
  have N65 := Fr.app N55 N65q
  have G69 : AF Z T65.heap b19_b9_b1 .int z26 (fun j => .int (f57 j)) := (P58.keep Kc65 (ninS (Ne.symm ne_b8_b19_b9_b1) nin0))
  have hp70 : own_in v7 z26 := (own_hin_107 p0 p3 v1 v7 z26 hv1 hv7 hz26)
  have hp71 : own_in v7 z26 := (own_hin_107 p0 p3 v1 v7 z26 hv1 hv7 hz26)
  obtain ⟨cq72, kq72, q72a, q72b, q72c⟩ := isOf hZ rfl P66
  obtain ⟨_, _, ⟨T72, L72, k72, n72⟩, -, X72, ⟨Lc72, hQ72, l72, y72, z72⟩, st72⟩ := X65.virtualBack hx (y := (⟨"com/example/psilattice/psilattice/core/SortMarks", "add", "(I)Z"⟩ : MethodName)) (z := (⟨"com/example/psilattice/psilattice/core/SortMarks", "add", "(I)Z"⟩ : MethodName)) hown (mvT hZ (hw _ (List.mem_of_getElem? (i := 41) rfl))) (mvT hZ (hw _ (List.mem_of_getElem? (i := 42) rfl))) (notFace_of_selects (args := #[]) (mvT hZ (hw _ (List.mem_of_getElem? (i := 44) rfl)))) (mvT hZ (hw _ (List.mem_of_getElem? (i := 44) rfl))) (mvT hZ (hw _ (List.mem_of_getElem? (i := 43) rfl))) (by decide) (backOf (W := 0) (rm8 l Z A0 hw [] b8 v7 b19_b9_b1 (((0 : Int32) + (1 : Int32)) + (1 : Int32)) z26 f57 T65.heap n0 (Nat.le_trans Z0 K65.1) P66 P67 P68 G69 nw_b19_b9_b1 hp70 hp71) hZ (hw _ (List.mem_of_getElem? (i := 45) rfl)) (hw _ (List.mem_of_getElem? (i := 3) rfl)) (by decide) (by decide)) q72a q72c (g := (mkF m 107 #[.val (.int p0), .val (.int p1), .val (.int p2), .val (.int p3), .val (.int v1), .val (.int v3), .val (.int v5), .val (.int v7), .val (.ref b8), .val (.int v29), .val (.int v36), .val (.int v46), .val (.int v52), .val (.int v59), .unset, .unset] [(.int v7), (.ref b8)])) rfl (by rw [hml]; rfl) (Steps.refl _) (argsL := [(.int v7)]) (rest := []) (lenOf pd_5 rfl) rfl (by show 2 * 0 + _ ≤ _; exact Nat.le_of_eq rfl) (hb hby at_107) (fun _ _ => ⟨rfl, rfl, (by decide : 3 + 0 ≤ _), (by decide : 18 + 0 ≤ _)⟩)
  dsimp only [Pt.U, Pt.locs, Pt.cells, Pt.slots] at X72 l72 y72 z72 st72 hQ72
  subst l72 y72 z72
  obtain ⟨rfl, N72q, Kc72, P73⟩ := hQ72
  have K72 : Keep h0 T72.heap [] := K65.trans Kc72 (allS (Or.inr sq_b19_b9_b1) all0)
  obtain ⟨f74, hf74⟩ : ∃ f : Nat → Int32, f = (fun i => if i = (v7).toNatClampNeg then (((0 : Int32) + (1 : Int32)) + (1 : Int32)) else f57 i) := ⟨_, rfl⟩
  have P75 : AF Z T72.heap b19_b9_b1 .int z26 (fun j => .int (f74 j)) := by rw [hf74]; exact P73
  have N72 := Fr.app N65 N72q
  obtain ⟨v76, hv76⟩ : ∃ z : Int32, z = (nar .boolean (if (f57 (v7).toNatClampNeg) = (((0 : Int32) + (1 : Int32)) + (1 : Int32)) then (0 : Int32) else (1 : Int32))) := ⟨_, rfl⟩
  have G77 : Exa Z T72.heap b8 "com/example/psilattice/psilattice/core/SortMarks" := (P66.keep Kc72)
  have G78 : Fld Z T72.heap b8 "com/example/psilattice/psilattice/core/SortMarks" "marks" "[I" (.ref b19_b9_b1) := (P67.keep Kc72 (ninS ne_b8_b19_b9_b1 nin0))
  have G79 : Fld Z T72.heap b8 "com/example/psilattice/psilattice/core/SortMarks" "mark" "I" (.int (((0 : Int32) + (1 : Int32)) + (1 : Int32))) := (P68.keep Kc72 (ninS ne_b8_b19_b9_b1 nin0))
  have hp80 : own_in v5 z26 := (own_hin_116 p0 p2 v1 v5 z26 hv1 hv5 hz26)
  obtain ⟨cq81, kq81, q81a, q81b, q81c⟩ := isOf hZ rfl G77
  obtain ⟨_, _, ⟨T81, L81, k81, n81⟩, -, X81, ⟨Lc81, hQ81, l81, y81, z81⟩, st81⟩ := X72.virtualBack hx (y := (⟨"com/example/psilattice/psilattice/core/SortMarks", "has", "(I)Z"⟩ : MethodName)) (z := (⟨"com/example/psilattice/psilattice/core/SortMarks", "has", "(I)Z"⟩ : MethodName)) hown (mvT hZ (hw _ (List.mem_of_getElem? (i := 36) rfl))) (mvT hZ (hw _ (List.mem_of_getElem? (i := 37) rfl))) (notFace_of_selects (args := #[]) (mvT hZ (hw _ (List.mem_of_getElem? (i := 39) rfl)))) (mvT hZ (hw _ (List.mem_of_getElem? (i := 39) rfl))) (mvT hZ (hw _ (List.mem_of_getElem? (i := 38) rfl))) (by decide) (backOf (W := 0) (rm7 l Z A0 hw [] b8 v5 b19_b9_b1 (((0 : Int32) + (1 : Int32)) + (1 : Int32)) z26 f74 T72.heap n0 (Nat.le_trans Z0 K72.1) G77 G78 G79 P75 hp80) hZ (hw _ (List.mem_of_getElem? (i := 40) rfl)) (hw _ (List.mem_of_getElem? (i := 3) rfl)) (by decide) (by decide)) q81a q81c (g := (mkF m 116 #[.val (.int p0), .val (.int p1), .val (.int p2), .val (.int p3), .val (.int v1), .val (.int v3), .val (.int v5), .val (.int v7), .val (.ref b8), .val (.int v29), .val (.int v36), .val (.int v46), .val (.int v52), .val (.int v59), .val (.int v76), .unset] [(.int v5), (.ref b8)])) rfl (by rw [hml]; rfl) (Steps.refl _) (argsL := [(.int v5)]) (rest := []) (lenOf pd_5 rfl) rfl (by show 2 * 0 + _ ≤ _; exact Nat.le_of_eq rfl) (hb hby at_116) (fun _ _ => ⟨rfl, rfl, (by decide : 3 + 0 ≤ _), (by decide : 18 + 0 ≤ _)⟩)
  dsimp only [Pt.U, Pt.locs, Pt.cells, Pt.slots] at X81 l81 y81 z81 st81 hQ81
  subst l81 y81 z81
  obtain ⟨rfl, N81q, e81⟩ := hQ81
  have N81 := Fr.app N72 N81q
  obtain ⟨v82, hv82⟩ : ∃ z : Int32, z = (nar .boolean (if (f74 (v5).toNatClampNeg) = (((0 : Int32) + (1 : Int32)) + (1 : Int32)) then (1 : Int32) else (0 : Int32))) := ⟨_, rfl⟩
  obtain ⟨v86, hv86⟩ : ∃ z : Int32, z = if v5 = v3 then (0 : Int32) else (1 : Int32) := ⟨_, rfl⟩
  obtain ⟨v90, hv90⟩ : ∃ z : Int32, z = if v7 = v5 then (1 : Int32) else (0 : Int32) := ⟨_, rfl⟩
  obtain ⟨v91, hv91⟩ : ∃ z : Int32, z = if v7 = v3 then (1 : Int32) else v90 := ⟨_, rfl⟩
  obtain ⟨v96, hv96⟩ : ∃ z : Int32, z = if v5 = v7 then (1 : Int32) else (0 : Int32) := ⟨_, rfl⟩
  obtain ⟨v98, hv98⟩ : ∃ z : Int32, z = if v82 = v96 then (1 : Int32) else (0 : Int32) := ⟨_, rfl⟩
  obtain ⟨v99, hv99⟩ : ∃ z : Int32, z = if v76 = (0 : Int32) then (0 : Int32) else v98 := ⟨_, rfl⟩
  obtain ⟨v100, hv100⟩ : ∃ z : Int32, z = if v59 = (0 : Int32) then v99 else (0 : Int32) := ⟨_, rfl⟩
  obtain ⟨v101, hv101⟩ : ∃ z : Int32, z = if v52 = v91 then v100 else (0 : Int32) := ⟨_, rfl⟩
  obtain ⟨v102, hv102⟩ : ∃ z : Int32, z = if v46 = v86 then v101 else (0 : Int32) := ⟨_, rfl⟩
  obtain ⟨v103, hv103⟩ : ∃ z : Int32, z = if v36 = (0 : Int32) then (0 : Int32) else v102 := ⟨_, rfl⟩
  obtain ⟨v104, hv104⟩ : ∃ z : Int32, z = if v29 = (0 : Int32) then v103 else (0 : Int32) := ⟨_, rfl⟩
  obtain ⟨fs, hr, hrun, hended, hW, hsame⟩ := X81.leave (v := some (.int (nar .boolean v104))) (fun h => by rw [Bd.returns] at h; cases h)
  refine ⟨_, _, pre0 _ ?_, hrun, hended, _, _, rfl, ?_, ⟨_, rfl⟩, hW, hsame.mono (by decide) (by decide)⟩
  · show Steps p.tables e below (s₁.setTop (mkF m 0 #[.val (.int p0), .val (.int p1), .val (.int p2), .val (.int p3), .unset, .unset, .unset, .unset, .unset, .unset, .unset, .unset, .unset, .unset, .unset, .unset] [])) _
    refine XS.iloadN X0.here hx rfl (hb hby at_0) rfl ?_
    show Steps p.tables e below (s₁.setTop (mkF m 1 #[.val (.int p0), .val (.int p1), .val (.int p2), .val (.int p3), .unset, .unset, .unset, .unset, .unset, .unset, .unset, .unset, .unset, .unset, .unset, .unset] [(.int p0)])) _
    refine XS.bipush X0.here hx rfl (hb hby at_1) ?_
    show Steps p.tables e below (s₁.setTop (mkF m 3 #[.val (.int p0), .val (.int p1), .val (.int p2), .val (.int p3), .unset, .unset, .unset, .unset, .unset, .unset, .unset, .unset, .unset, .unset, .unset, .unset] [(.int (7 : Int32)), (.int p0)])) _
    refine XS.iand X0.here hx rfl (hb hby at_3) rfl ?_
    show Steps p.tables e below (s₁.setTop (mkF m 4 #[.val (.int p0), .val (.int p1), .val (.int p2), .val (.int p3), .unset, .unset, .unset, .unset, .unset, .unset, .unset, .unset, .unset, .unset, .unset, .unset] [(.int (p0 &&& (7 : Int32)))])) _
    refine XS.iconst X0.here hx rfl (hb hby at_4) ?_
    show Steps p.tables e below (s₁.setTop (mkF m 5 #[.val (.int p0), .val (.int p1), .val (.int p2), .val (.int p3), .unset, .unset, .unset, .unset, .unset, .unset, .unset, .unset, .unset, .unset, .unset, .unset] [(.int (1 : Int32)), (.int (p0 &&& (7 : Int32)))])) _
    refine XS.iadd X0.here hx rfl (hb hby at_5) rfl ?_
    show Steps p.tables e below (s₁.setTop (mkF m 6 #[.val (.int p0), .val (.int p1), .val (.int p2), .val (.int p3), .unset, .unset, .unset, .unset, .unset, .unset, .unset, .unset, .unset, .unset, .unset, .unset] [(.int ((p0 &&& (7 : Int32)) + (1 : Int32)))])) _
    refine castTop (g' := (mkF m 6 #[.val (.int p0), .val (.int p1), .val (.int p2), .val (.int p3), .unset, .unset, .unset, .unset, .unset, .unset, .unset, .unset, .unset, .unset, .unset, .unset] [(.int v1)])) (by rw [hv1] <;> rfl) ?_
    show Steps p.tables e below (s₁.setTop (mkF m 6 #[.val (.int p0), .val (.int p1), .val (.int p2), .val (.int p3), .unset, .unset, .unset, .unset, .unset, .unset, .unset, .unset, .unset, .unset, .unset, .unset] [(.int v1)])) _
    refine XS.istore X0.here hx rfl (hb hby at_6) rfl (l' := #[.val (.int p0), .val (.int p1), .val (.int p2), .val (.int p3), .val (.int v1), .unset, .unset, .unset, .unset, .unset, .unset, .unset, .unset, .unset, .unset, .unset]) rfl ?_
    show Steps p.tables e below (s₁.setTop (mkF m 8 #[.val (.int p0), .val (.int p1), .val (.int p2), .val (.int p3), .val (.int v1), .unset, .unset, .unset, .unset, .unset, .unset, .unset, .unset, .unset, .unset, .unset] [])) _
    refine XS.iloadN X0.here hx rfl (hb hby at_8) rfl ?_
    show Steps p.tables e below (s₁.setTop (mkF m 9 #[.val (.int p0), .val (.int p1), .val (.int p2), .val (.int p3), .val (.int v1), .unset, .unset, .unset, .unset, .unset, .unset, .unset, .unset, .unset, .unset, .unset] [(.int p1)])) _
    refine X0.ldcInt hx hown (mvT hZ (hw _ (List.mem_of_getElem? (i := 0) rfl))) (g := (mkF m 9 #[.val (.int p0), .val (.int p1), .val (.int p2), .val (.int p3), .val (.int v1), .unset, .unset, .unset, .unset, .unset, .unset, .unset, .unset, .unset, .unset, .unset] [(.int p1)])) rfl (hb hby at_9) _ ?_
    show Steps p.tables e below (s₁.setTop (mkF m 11 #[.val (.int p0), .val (.int p1), .val (.int p2), .val (.int p3), .val (.int v1), .unset, .unset, .unset, .unset, .unset, .unset, .unset, .unset, .unset, .unset, .unset] [(.int (2147483647 : Int32)), (.int p1)])) _
    refine XS.iand X0.here hx rfl (hb hby at_11) rfl ?_
    show Steps p.tables e below (s₁.setTop (mkF m 12 #[.val (.int p0), .val (.int p1), .val (.int p2), .val (.int p3), .val (.int v1), .unset, .unset, .unset, .unset, .unset, .unset, .unset, .unset, .unset, .unset, .unset] [(.int (p1 &&& (2147483647 : Int32)))])) _
    refine XS.iload X0.here hx rfl (hb hby at_12) rfl ?_
    show Steps p.tables e below (s₁.setTop (mkF m 14 #[.val (.int p0), .val (.int p1), .val (.int p2), .val (.int p3), .val (.int v1), .unset, .unset, .unset, .unset, .unset, .unset, .unset, .unset, .unset, .unset, .unset] [(.int v1), (.int (p1 &&& (2147483647 : Int32)))])) _
    refine iremM X0 hx rfl (hb hby at_14) rfl hz2 ?_
    show Steps p.tables e below (s₁.setTop (mkF m 15 #[.val (.int p0), .val (.int p1), .val (.int p2), .val (.int p3), .val (.int v1), .unset, .unset, .unset, .unset, .unset, .unset, .unset, .unset, .unset, .unset, .unset] [(.int ((p1 &&& (2147483647 : Int32)) % v1))])) _
    refine castTop (g' := (mkF m 15 #[.val (.int p0), .val (.int p1), .val (.int p2), .val (.int p3), .val (.int v1), .unset, .unset, .unset, .unset, .unset, .unset, .unset, .unset, .unset, .unset, .unset] [(.int v3)])) (by rw [hv3] <;> rfl) ?_
    show Steps p.tables e below (s₁.setTop (mkF m 15 #[.val (.int p0), .val (.int p1), .val (.int p2), .val (.int p3), .val (.int v1), .unset, .unset, .unset, .unset, .unset, .unset, .unset, .unset, .unset, .unset, .unset] [(.int v3)])) _
    refine XS.istore X0.here hx rfl (hb hby at_15) rfl (l' := #[.val (.int p0), .val (.int p1), .val (.int p2), .val (.int p3), .val (.int v1), .val (.int v3), .unset, .unset, .unset, .unset, .unset, .unset, .unset, .unset, .unset, .unset]) rfl ?_
    show Steps p.tables e below (s₁.setTop (mkF m 17 #[.val (.int p0), .val (.int p1), .val (.int p2), .val (.int p3), .val (.int v1), .val (.int v3), .unset, .unset, .unset, .unset, .unset, .unset, .unset, .unset, .unset, .unset] [])) _
    refine XS.iloadN X0.here hx rfl (hb hby at_17) rfl ?_
    show Steps p.tables e below (s₁.setTop (mkF m 18 #[.val (.int p0), .val (.int p1), .val (.int p2), .val (.int p3), .val (.int v1), .val (.int v3), .unset, .unset, .unset, .unset, .unset, .unset, .unset, .unset, .unset, .unset] [(.int p2)])) _
    refine X0.ldcInt hx hown (mvT hZ (hw _ (List.mem_of_getElem? (i := 0) rfl))) (g := (mkF m 18 #[.val (.int p0), .val (.int p1), .val (.int p2), .val (.int p3), .val (.int v1), .val (.int v3), .unset, .unset, .unset, .unset, .unset, .unset, .unset, .unset, .unset, .unset] [(.int p2)])) rfl (hb hby at_18) _ ?_
    show Steps p.tables e below (s₁.setTop (mkF m 20 #[.val (.int p0), .val (.int p1), .val (.int p2), .val (.int p3), .val (.int v1), .val (.int v3), .unset, .unset, .unset, .unset, .unset, .unset, .unset, .unset, .unset, .unset] [(.int (2147483647 : Int32)), (.int p2)])) _
    refine XS.iand X0.here hx rfl (hb hby at_20) rfl ?_
    show Steps p.tables e below (s₁.setTop (mkF m 21 #[.val (.int p0), .val (.int p1), .val (.int p2), .val (.int p3), .val (.int v1), .val (.int v3), .unset, .unset, .unset, .unset, .unset, .unset, .unset, .unset, .unset, .unset] [(.int (p2 &&& (2147483647 : Int32)))])) _
    refine XS.iload X0.here hx rfl (hb hby at_21) rfl ?_
    show Steps p.tables e below (s₁.setTop (mkF m 23 #[.val (.int p0), .val (.int p1), .val (.int p2), .val (.int p3), .val (.int v1), .val (.int v3), .unset, .unset, .unset, .unset, .unset, .unset, .unset, .unset, .unset, .unset] [(.int v1), (.int (p2 &&& (2147483647 : Int32)))])) _
    refine iremM X0 hx rfl (hb hby at_23) rfl hz4 ?_
    show Steps p.tables e below (s₁.setTop (mkF m 24 #[.val (.int p0), .val (.int p1), .val (.int p2), .val (.int p3), .val (.int v1), .val (.int v3), .unset, .unset, .unset, .unset, .unset, .unset, .unset, .unset, .unset, .unset] [(.int ((p2 &&& (2147483647 : Int32)) % v1))])) _
    refine castTop (g' := (mkF m 24 #[.val (.int p0), .val (.int p1), .val (.int p2), .val (.int p3), .val (.int v1), .val (.int v3), .unset, .unset, .unset, .unset, .unset, .unset, .unset, .unset, .unset, .unset] [(.int v5)])) (by rw [hv5] <;> rfl) ?_
    show Steps p.tables e below (s₁.setTop (mkF m 24 #[.val (.int p0), .val (.int p1), .val (.int p2), .val (.int p3), .val (.int v1), .val (.int v3), .unset, .unset, .unset, .unset, .unset, .unset, .unset, .unset, .unset, .unset] [(.int v5)])) _
    refine XS.istore X0.here hx rfl (hb hby at_24) rfl (l' := #[.val (.int p0), .val (.int p1), .val (.int p2), .val (.int p3), .val (.int v1), .val (.int v3), .val (.int v5), .unset, .unset, .unset, .unset, .unset, .unset, .unset, .unset, .unset]) rfl ?_
    show Steps p.tables e below (s₁.setTop (mkF m 26 #[.val (.int p0), .val (.int p1), .val (.int p2), .val (.int p3), .val (.int v1), .val (.int v3), .val (.int v5), .unset, .unset, .unset, .unset, .unset, .unset, .unset, .unset, .unset] [])) _
    refine XS.iloadN X0.here hx rfl (hb hby at_26) rfl ?_
    show Steps p.tables e below (s₁.setTop (mkF m 27 #[.val (.int p0), .val (.int p1), .val (.int p2), .val (.int p3), .val (.int v1), .val (.int v3), .val (.int v5), .unset, .unset, .unset, .unset, .unset, .unset, .unset, .unset, .unset] [(.int p3)])) _
    refine X0.ldcInt hx hown (mvT hZ (hw _ (List.mem_of_getElem? (i := 0) rfl))) (g := (mkF m 27 #[.val (.int p0), .val (.int p1), .val (.int p2), .val (.int p3), .val (.int v1), .val (.int v3), .val (.int v5), .unset, .unset, .unset, .unset, .unset, .unset, .unset, .unset, .unset] [(.int p3)])) rfl (hb hby at_27) _ ?_
    show Steps p.tables e below (s₁.setTop (mkF m 29 #[.val (.int p0), .val (.int p1), .val (.int p2), .val (.int p3), .val (.int v1), .val (.int v3), .val (.int v5), .unset, .unset, .unset, .unset, .unset, .unset, .unset, .unset, .unset] [(.int (2147483647 : Int32)), (.int p3)])) _
    refine XS.iand X0.here hx rfl (hb hby at_29) rfl ?_
    show Steps p.tables e below (s₁.setTop (mkF m 30 #[.val (.int p0), .val (.int p1), .val (.int p2), .val (.int p3), .val (.int v1), .val (.int v3), .val (.int v5), .unset, .unset, .unset, .unset, .unset, .unset, .unset, .unset, .unset] [(.int (p3 &&& (2147483647 : Int32)))])) _
    refine XS.iload X0.here hx rfl (hb hby at_30) rfl ?_
    show Steps p.tables e below (s₁.setTop (mkF m 32 #[.val (.int p0), .val (.int p1), .val (.int p2), .val (.int p3), .val (.int v1), .val (.int v3), .val (.int v5), .unset, .unset, .unset, .unset, .unset, .unset, .unset, .unset, .unset] [(.int v1), (.int (p3 &&& (2147483647 : Int32)))])) _
    refine iremM X0 hx rfl (hb hby at_32) rfl hz6 ?_
    show Steps p.tables e below (s₁.setTop (mkF m 33 #[.val (.int p0), .val (.int p1), .val (.int p2), .val (.int p3), .val (.int v1), .val (.int v3), .val (.int v5), .unset, .unset, .unset, .unset, .unset, .unset, .unset, .unset, .unset] [(.int ((p3 &&& (2147483647 : Int32)) % v1))])) _
    refine castTop (g' := (mkF m 33 #[.val (.int p0), .val (.int p1), .val (.int p2), .val (.int p3), .val (.int v1), .val (.int v3), .val (.int v5), .unset, .unset, .unset, .unset, .unset, .unset, .unset, .unset, .unset] [(.int v7)])) (by rw [hv7] <;> rfl) ?_
    show Steps p.tables e below (s₁.setTop (mkF m 33 #[.val (.int p0), .val (.int p1), .val (.int p2), .val (.int p3), .val (.int v1), .val (.int v3), .val (.int v5), .unset, .unset, .unset, .unset, .unset, .unset, .unset, .unset, .unset] [(.int v7)])) _
    refine XS.istore X0.here hx rfl (hb hby at_33) rfl (l' := #[.val (.int p0), .val (.int p1), .val (.int p2), .val (.int p3), .val (.int v1), .val (.int v3), .val (.int v5), .val (.int v7), .unset, .unset, .unset, .unset, .unset, .unset, .unset, .unset]) rfl ?_
    show Steps p.tables e below (s₁.setTop (mkF m 35 #[.val (.int p0), .val (.int p1), .val (.int p2), .val (.int p3), .val (.int v1), .val (.int v3), .val (.int v5), .val (.int v7), .unset, .unset, .unset, .unset, .unset, .unset, .unset, .unset] [])) _
    refine st8 _ ?_
    show Steps p.tables e below (T8.setTop (mkF m 38 #[.val (.int p0), .val (.int p1), .val (.int p2), .val (.int p3), .val (.int v1), .val (.int v3), .val (.int v5), .val (.int v7), .unset, .unset, .unset, .unset, .unset, .unset, .unset, .unset] [(.ref b8)])) _
    refine XS.dup X8.here hx rfl (hb hby at_38) rfl rfl ?_
    show Steps p.tables e below (T8.setTop (mkF m 39 #[.val (.int p0), .val (.int p1), .val (.int p2), .val (.int p3), .val (.int v1), .val (.int v3), .val (.int v5), .val (.int v7), .unset, .unset, .unset, .unset, .unset, .unset, .unset, .unset] [(.ref b8), (.ref b8)])) _
    refine st9.trans ?_
    show Steps p.tables e below (T9.setTop (mkF m 42 #[.val (.int p0), .val (.int p1), .val (.int p2), .val (.int p3), .val (.int v1), .val (.int v3), .val (.int v5), .val (.int v7), .unset, .unset, .unset, .unset, .unset, .unset, .unset, .unset] [(.ref b8)])) _
    refine XS.astore X9.here hx rfl (hb hby at_42) rfl rfl (l' := #[.val (.int p0), .val (.int p1), .val (.int p2), .val (.int p3), .val (.int v1), .val (.int v3), .val (.int v5), .val (.int v7), .val (.ref b8), .unset, .unset, .unset, .unset, .unset, .unset, .unset]) rfl ?_
    show Steps p.tables e below (T9.setTop (mkF m 44 #[.val (.int p0), .val (.int p1), .val (.int p2), .val (.int p3), .val (.int v1), .val (.int v3), .val (.int v5), .val (.int v7), .val (.ref b8), .unset, .unset, .unset, .unset, .unset, .unset, .unset] [])) _
    refine XS.aload X9.here hx rfl (hb hby at_44) rfl rfl ?_
    show Steps p.tables e below (T9.setTop (mkF m 46 #[.val (.int p0), .val (.int p1), .val (.int p2), .val (.int p3), .val (.int v1), .val (.int v3), .val (.int v5), .val (.int v7), .val (.ref b8), .unset, .unset, .unset, .unset, .unset, .unset, .unset] [(.ref b8)])) _
    refine XS.iload X9.here hx rfl (hb hby at_46) rfl ?_
    show Steps p.tables e below (T9.setTop (mkF m 48 #[.val (.int p0), .val (.int p1), .val (.int p2), .val (.int p3), .val (.int v1), .val (.int v3), .val (.int v5), .val (.int v7), .val (.ref b8), .unset, .unset, .unset, .unset, .unset, .unset, .unset] [(.int v1), (.ref b8)])) _
    refine st19.trans ?_
    show Steps p.tables e below (T19.setTop (mkF m 51 #[.val (.int p0), .val (.int p1), .val (.int p2), .val (.int p3), .val (.int v1), .val (.int v3), .val (.int v5), .val (.int v7), .val (.ref b8), .unset, .unset, .unset, .unset, .unset, .unset, .unset] [])) _
    refine XS.aload X19.here hx rfl (hb hby at_51) rfl rfl ?_
    show Steps p.tables e below (T19.setTop (mkF m 53 #[.val (.int p0), .val (.int p1), .val (.int p2), .val (.int p3), .val (.int v1), .val (.int v3), .val (.int v5), .val (.int v7), .val (.ref b8), .unset, .unset, .unset, .unset, .unset, .unset, .unset] [(.ref b8)])) _
    refine XS.iload X19.here hx rfl (hb hby at_53) rfl ?_
    show Steps p.tables e below (T19.setTop (mkF m 55 #[.val (.int p0), .val (.int p1), .val (.int p2), .val (.int p3), .val (.int v1), .val (.int v3), .val (.int v5), .val (.int v7), .val (.ref b8), .unset, .unset, .unset, .unset, .unset, .unset, .unset] [(.int v3), (.ref b8)])) _
    refine st28.trans ?_
    show Steps p.tables e below (T28.setTop (mkF m 58 #[.val (.int p0), .val (.int p1), .val (.int p2), .val (.int p3), .val (.int v1), .val (.int v3), .val (.int v5), .val (.int v7), .val (.ref b8), .unset, .unset, .unset, .unset, .unset, .unset, .unset] [(.int (nar .boolean (if (f24 (v3).toNatClampNeg) = ((0 : Int32) + (1 : Int32)) then (1 : Int32) else (0 : Int32))))])) _
    refine castTop (g' := (mkF m 58 #[.val (.int p0), .val (.int p1), .val (.int p2), .val (.int p3), .val (.int v1), .val (.int v3), .val (.int v5), .val (.int v7), .val (.ref b8), .unset, .unset, .unset, .unset, .unset, .unset, .unset] [(.int v29)])) (by rw [hv29] <;> rfl) ?_
    show Steps p.tables e below (T28.setTop (mkF m 58 #[.val (.int p0), .val (.int p1), .val (.int p2), .val (.int p3), .val (.int v1), .val (.int v3), .val (.int v5), .val (.int v7), .val (.ref b8), .unset, .unset, .unset, .unset, .unset, .unset, .unset] [(.int v29)])) _
    refine XS.istore X28.here hx rfl (hb hby at_58) rfl (l' := #[.val (.int p0), .val (.int p1), .val (.int p2), .val (.int p3), .val (.int v1), .val (.int v3), .val (.int v5), .val (.int v7), .val (.ref b8), .val (.int v29), .unset, .unset, .unset, .unset, .unset, .unset]) rfl ?_
    show Steps p.tables e below (T28.setTop (mkF m 60 #[.val (.int p0), .val (.int p1), .val (.int p2), .val (.int p3), .val (.int v1), .val (.int v3), .val (.int v5), .val (.int v7), .val (.ref b8), .val (.int v29), .unset, .unset, .unset, .unset, .unset, .unset] [])) _
    refine XS.aload X28.here hx rfl (hb hby at_60) rfl rfl ?_
    show Steps p.tables e below (T28.setTop (mkF m 62 #[.val (.int p0), .val (.int p1), .val (.int p2), .val (.int p3), .val (.int v1), .val (.int v3), .val (.int v5), .val (.int v7), .val (.ref b8), .val (.int v29), .unset, .unset, .unset, .unset, .unset, .unset] [(.ref b8)])) _
    refine XS.iload X28.here hx rfl (hb hby at_62) rfl ?_
    show Steps p.tables e below (T28.setTop (mkF m 64 #[.val (.int p0), .val (.int p1), .val (.int p2), .val (.int p3), .val (.int v1), .val (.int v3), .val (.int v5), .val (.int v7), .val (.ref b8), .val (.int v29), .unset, .unset, .unset, .unset, .unset, .unset] [(.int v3), (.ref b8)])) _
    refine st32.trans ?_
    show Steps p.tables e below (T32.setTop (mkF m 67 #[.val (.int p0), .val (.int p1), .val (.int p2), .val (.int p3), .val (.int v1), .val (.int v3), .val (.int v5), .val (.int v7), .val (.ref b8), .val (.int v29), .unset, .unset, .unset, .unset, .unset, .unset] [(.int (nar .boolean (if (f24 (v3).toNatClampNeg) = ((0 : Int32) + (1 : Int32)) then (0 : Int32) else (1 : Int32))))])) _
    refine castTop (g' := (mkF m 67 #[.val (.int p0), .val (.int p1), .val (.int p2), .val (.int p3), .val (.int v1), .val (.int v3), .val (.int v5), .val (.int v7), .val (.ref b8), .val (.int v29), .unset, .unset, .unset, .unset, .unset, .unset] [(.int v36)])) (by rw [hv36] <;> rfl) ?_
    show Steps p.tables e below (T32.setTop (mkF m 67 #[.val (.int p0), .val (.int p1), .val (.int p2), .val (.int p3), .val (.int v1), .val (.int v3), .val (.int v5), .val (.int v7), .val (.ref b8), .val (.int v29), .unset, .unset, .unset, .unset, .unset, .unset] [(.int v36)])) _
    refine XS.istore X32.here hx rfl (hb hby at_67) rfl (l' := #[.val (.int p0), .val (.int p1), .val (.int p2), .val (.int p3), .val (.int v1), .val (.int v3), .val (.int v5), .val (.int v7), .val (.ref b8), .val (.int v29), .val (.int v36), .unset, .unset, .unset, .unset, .unset]) rfl ?_
    show Steps p.tables e below (T32.setTop (mkF m 69 #[.val (.int p0), .val (.int p1), .val (.int p2), .val (.int p3), .val (.int v1), .val (.int v3), .val (.int v5), .val (.int v7), .val (.ref b8), .val (.int v29), .val (.int v36), .unset, .unset, .unset, .unset, .unset] [])) _
    refine XS.aload X32.here hx rfl (hb hby at_69) rfl rfl ?_
    show Steps p.tables e below (T32.setTop (mkF m 71 #[.val (.int p0), .val (.int p1), .val (.int p2), .val (.int p3), .val (.int v1), .val (.int v3), .val (.int v5), .val (.int v7), .val (.ref b8), .val (.int v29), .val (.int v36), .unset, .unset, .unset, .unset, .unset] [(.ref b8)])) _
    refine XS.iload X32.here hx rfl (hb hby at_71) rfl ?_
    show Steps p.tables e below (T32.setTop (mkF m 73 #[.val (.int p0), .val (.int p1), .val (.int p2), .val (.int p3), .val (.int v1), .val (.int v3), .val (.int v5), .val (.int v7), .val (.ref b8), .val (.int v29), .val (.int v36), .unset, .unset, .unset, .unset, .unset] [(.int v5), (.ref b8)])) _
    refine st42.trans ?_
    show Steps p.tables e below (T42.setTop (mkF m 76 #[.val (.int p0), .val (.int p1), .val (.int p2), .val (.int p3), .val (.int v1), .val (.int v3), .val (.int v5), .val (.int v7), .val (.ref b8), .val (.int v29), .val (.int v36), .unset, .unset, .unset, .unset, .unset] [(.int (nar .boolean (if (f34 (v5).toNatClampNeg) = ((0 : Int32) + (1 : Int32)) then (0 : Int32) else (1 : Int32))))])) _
    refine castTop (g' := (mkF m 76 #[.val (.int p0), .val (.int p1), .val (.int p2), .val (.int p3), .val (.int v1), .val (.int v3), .val (.int v5), .val (.int v7), .val (.ref b8), .val (.int v29), .val (.int v36), .unset, .unset, .unset, .unset, .unset] [(.int v46)])) (by rw [hv46] <;> rfl) ?_
    show Steps p.tables e below (T42.setTop (mkF m 76 #[.val (.int p0), .val (.int p1), .val (.int p2), .val (.int p3), .val (.int v1), .val (.int v3), .val (.int v5), .val (.int v7), .val (.ref b8), .val (.int v29), .val (.int v36), .unset, .unset, .unset, .unset, .unset] [(.int v46)])) _
    refine XS.istore X42.here hx rfl (hb hby at_76) rfl (l' := #[.val (.int p0), .val (.int p1), .val (.int p2), .val (.int p3), .val (.int v1), .val (.int v3), .val (.int v5), .val (.int v7), .val (.ref b8), .val (.int v29), .val (.int v36), .val (.int v46), .unset, .unset, .unset, .unset]) rfl ?_
    show Steps p.tables e below (T42.setTop (mkF m 78 #[.val (.int p0), .val (.int p1), .val (.int p2), .val (.int p3), .val (.int v1), .val (.int v3), .val (.int v5), .val (.int v7), .val (.ref b8), .val (.int v29), .val (.int v36), .val (.int v46), .unset, .unset, .unset, .unset] [])) _
    refine XS.aload X42.here hx rfl (hb hby at_78) rfl rfl ?_
    show Steps p.tables e below (T42.setTop (mkF m 80 #[.val (.int p0), .val (.int p1), .val (.int p2), .val (.int p3), .val (.int v1), .val (.int v3), .val (.int v5), .val (.int v7), .val (.ref b8), .val (.int v29), .val (.int v36), .val (.int v46), .unset, .unset, .unset, .unset] [(.ref b8)])) _
    refine XS.iload X42.here hx rfl (hb hby at_80) rfl ?_
    show Steps p.tables e below (T42.setTop (mkF m 82 #[.val (.int p0), .val (.int p1), .val (.int p2), .val (.int p3), .val (.int v1), .val (.int v3), .val (.int v5), .val (.int v7), .val (.ref b8), .val (.int v29), .val (.int v36), .val (.int v46), .unset, .unset, .unset, .unset] [(.int v7), (.ref b8)])) _
    refine st51.trans ?_
    show Steps p.tables e below (T51.setTop (mkF m 85 #[.val (.int p0), .val (.int p1), .val (.int p2), .val (.int p3), .val (.int v1), .val (.int v3), .val (.int v5), .val (.int v7), .val (.ref b8), .val (.int v29), .val (.int v36), .val (.int v46), .unset, .unset, .unset, .unset] [(.int (nar .boolean (if (f44 (v7).toNatClampNeg) = ((0 : Int32) + (1 : Int32)) then (1 : Int32) else (0 : Int32))))])) _
    refine castTop (g' := (mkF m 85 #[.val (.int p0), .val (.int p1), .val (.int p2), .val (.int p3), .val (.int v1), .val (.int v3), .val (.int v5), .val (.int v7), .val (.ref b8), .val (.int v29), .val (.int v36), .val (.int v46), .unset, .unset, .unset, .unset] [(.int v52)])) (by rw [hv52] <;> rfl) ?_
    show Steps p.tables e below (T51.setTop (mkF m 85 #[.val (.int p0), .val (.int p1), .val (.int p2), .val (.int p3), .val (.int v1), .val (.int v3), .val (.int v5), .val (.int v7), .val (.ref b8), .val (.int v29), .val (.int v36), .val (.int v46), .unset, .unset, .unset, .unset] [(.int v52)])) _
    refine XS.istore X51.here hx rfl (hb hby at_85) rfl (l' := #[.val (.int p0), .val (.int p1), .val (.int p2), .val (.int p3), .val (.int v1), .val (.int v3), .val (.int v5), .val (.int v7), .val (.ref b8), .val (.int v29), .val (.int v36), .val (.int v46), .val (.int v52), .unset, .unset, .unset]) rfl ?_
    show Steps p.tables e below (T51.setTop (mkF m 87 #[.val (.int p0), .val (.int p1), .val (.int p2), .val (.int p3), .val (.int v1), .val (.int v3), .val (.int v5), .val (.int v7), .val (.ref b8), .val (.int v29), .val (.int v36), .val (.int v46), .val (.int v52), .unset, .unset, .unset] [])) _
    refine XS.aload X51.here hx rfl (hb hby at_87) rfl rfl ?_
    show Steps p.tables e below (T51.setTop (mkF m 89 #[.val (.int p0), .val (.int p1), .val (.int p2), .val (.int p3), .val (.int v1), .val (.int v3), .val (.int v5), .val (.int v7), .val (.ref b8), .val (.int v29), .val (.int v36), .val (.int v46), .val (.int v52), .unset, .unset, .unset] [(.ref b8)])) _
    refine XS.iload X51.here hx rfl (hb hby at_89) rfl ?_
    show Steps p.tables e below (T51.setTop (mkF m 91 #[.val (.int p0), .val (.int p1), .val (.int p2), .val (.int p3), .val (.int v1), .val (.int v3), .val (.int v5), .val (.int v7), .val (.ref b8), .val (.int v29), .val (.int v36), .val (.int v46), .val (.int v52), .unset, .unset, .unset] [(.int v3), (.ref b8)])) _
    refine st55.trans ?_
    show Steps p.tables e below (T55.setTop (mkF m 94 #[.val (.int p0), .val (.int p1), .val (.int p2), .val (.int p3), .val (.int v1), .val (.int v3), .val (.int v5), .val (.int v7), .val (.ref b8), .val (.int v29), .val (.int v36), .val (.int v46), .val (.int v52), .unset, .unset, .unset] [(.int (nar .boolean (if (f44 (v3).toNatClampNeg) = ((0 : Int32) + (1 : Int32)) then (0 : Int32) else (1 : Int32))))])) _
    refine castTop (g' := (mkF m 94 #[.val (.int p0), .val (.int p1), .val (.int p2), .val (.int p3), .val (.int v1), .val (.int v3), .val (.int v5), .val (.int v7), .val (.ref b8), .val (.int v29), .val (.int v36), .val (.int v46), .val (.int v52), .unset, .unset, .unset] [(.int v59)])) (by rw [hv59] <;> rfl) ?_
    show Steps p.tables e below (T55.setTop (mkF m 94 #[.val (.int p0), .val (.int p1), .val (.int p2), .val (.int p3), .val (.int v1), .val (.int v3), .val (.int v5), .val (.int v7), .val (.ref b8), .val (.int v29), .val (.int v36), .val (.int v46), .val (.int v52), .unset, .unset, .unset] [(.int v59)])) _
    refine XS.istore X55.here hx rfl (hb hby at_94) rfl (l' := #[.val (.int p0), .val (.int p1), .val (.int p2), .val (.int p3), .val (.int v1), .val (.int v3), .val (.int v5), .val (.int v7), .val (.ref b8), .val (.int v29), .val (.int v36), .val (.int v46), .val (.int v52), .val (.int v59), .unset, .unset]) rfl ?_
    show Steps p.tables e below (T55.setTop (mkF m 96 #[.val (.int p0), .val (.int p1), .val (.int p2), .val (.int p3), .val (.int v1), .val (.int v3), .val (.int v5), .val (.int v7), .val (.ref b8), .val (.int v29), .val (.int v36), .val (.int v46), .val (.int v52), .val (.int v59), .unset, .unset] [])) _
    refine XS.aload X55.here hx rfl (hb hby at_96) rfl rfl ?_
    show Steps p.tables e below (T55.setTop (mkF m 98 #[.val (.int p0), .val (.int p1), .val (.int p2), .val (.int p3), .val (.int v1), .val (.int v3), .val (.int v5), .val (.int v7), .val (.ref b8), .val (.int v29), .val (.int v36), .val (.int v46), .val (.int v52), .val (.int v59), .unset, .unset] [(.ref b8)])) _
    refine XS.iload X55.here hx rfl (hb hby at_98) rfl ?_
    show Steps p.tables e below (T55.setTop (mkF m 100 #[.val (.int p0), .val (.int p1), .val (.int p2), .val (.int p3), .val (.int v1), .val (.int v3), .val (.int v5), .val (.int v7), .val (.ref b8), .val (.int v29), .val (.int v36), .val (.int v46), .val (.int v52), .val (.int v59), .unset, .unset] [(.int v1), (.ref b8)])) _
    refine st65.trans ?_
    show Steps p.tables e below (T65.setTop (mkF m 103 #[.val (.int p0), .val (.int p1), .val (.int p2), .val (.int p3), .val (.int v1), .val (.int v3), .val (.int v5), .val (.int v7), .val (.ref b8), .val (.int v29), .val (.int v36), .val (.int v46), .val (.int v52), .val (.int v59), .unset, .unset] [])) _
    refine XS.aload X65.here hx rfl (hb hby at_103) rfl rfl ?_
    show Steps p.tables e below (T65.setTop (mkF m 105 #[.val (.int p0), .val (.int p1), .val (.int p2), .val (.int p3), .val (.int v1), .val (.int v3), .val (.int v5), .val (.int v7), .val (.ref b8), .val (.int v29), .val (.int v36), .val (.int v46), .val (.int v52), .val (.int v59), .unset, .unset] [(.ref b8)])) _
    refine XS.iload X65.here hx rfl (hb hby at_105) rfl ?_
    show Steps p.tables e below (T65.setTop (mkF m 107 #[.val (.int p0), .val (.int p1), .val (.int p2), .val (.int p3), .val (.int v1), .val (.int v3), .val (.int v5), .val (.int v7), .val (.ref b8), .val (.int v29), .val (.int v36), .val (.int v46), .val (.int v52), .val (.int v59), .unset, .unset] [(.int v7), (.ref b8)])) _
    refine st72.trans ?_
    show Steps p.tables e below (T72.setTop (mkF m 110 #[.val (.int p0), .val (.int p1), .val (.int p2), .val (.int p3), .val (.int v1), .val (.int v3), .val (.int v5), .val (.int v7), .val (.ref b8), .val (.int v29), .val (.int v36), .val (.int v46), .val (.int v52), .val (.int v59), .unset, .unset] [(.int (nar .boolean (if (f57 (v7).toNatClampNeg) = (((0 : Int32) + (1 : Int32)) + (1 : Int32)) then (0 : Int32) else (1 : Int32))))])) _
    refine castTop (g' := (mkF m 110 #[.val (.int p0), .val (.int p1), .val (.int p2), .val (.int p3), .val (.int v1), .val (.int v3), .val (.int v5), .val (.int v7), .val (.ref b8), .val (.int v29), .val (.int v36), .val (.int v46), .val (.int v52), .val (.int v59), .unset, .unset] [(.int v76)])) (by rw [hv76] <;> rfl) ?_
    show Steps p.tables e below (T72.setTop (mkF m 110 #[.val (.int p0), .val (.int p1), .val (.int p2), .val (.int p3), .val (.int v1), .val (.int v3), .val (.int v5), .val (.int v7), .val (.ref b8), .val (.int v29), .val (.int v36), .val (.int v46), .val (.int v52), .val (.int v59), .unset, .unset] [(.int v76)])) _
    refine XS.istore X72.here hx rfl (hb hby at_110) rfl (l' := #[.val (.int p0), .val (.int p1), .val (.int p2), .val (.int p3), .val (.int v1), .val (.int v3), .val (.int v5), .val (.int v7), .val (.ref b8), .val (.int v29), .val (.int v36), .val (.int v46), .val (.int v52), .val (.int v59), .val (.int v76), .unset]) rfl ?_
    show Steps p.tables e below (T72.setTop (mkF m 112 #[.val (.int p0), .val (.int p1), .val (.int p2), .val (.int p3), .val (.int v1), .val (.int v3), .val (.int v5), .val (.int v7), .val (.ref b8), .val (.int v29), .val (.int v36), .val (.int v46), .val (.int v52), .val (.int v59), .val (.int v76), .unset] [])) _
    refine XS.aload X72.here hx rfl (hb hby at_112) rfl rfl ?_
    show Steps p.tables e below (T72.setTop (mkF m 114 #[.val (.int p0), .val (.int p1), .val (.int p2), .val (.int p3), .val (.int v1), .val (.int v3), .val (.int v5), .val (.int v7), .val (.ref b8), .val (.int v29), .val (.int v36), .val (.int v46), .val (.int v52), .val (.int v59), .val (.int v76), .unset] [(.ref b8)])) _
    refine XS.iload X72.here hx rfl (hb hby at_114) rfl ?_
    show Steps p.tables e below (T72.setTop (mkF m 116 #[.val (.int p0), .val (.int p1), .val (.int p2), .val (.int p3), .val (.int v1), .val (.int v3), .val (.int v5), .val (.int v7), .val (.ref b8), .val (.int v29), .val (.int v36), .val (.int v46), .val (.int v52), .val (.int v59), .val (.int v76), .unset] [(.int v5), (.ref b8)])) _
    refine st81.trans ?_
    show Steps p.tables e below (T81.setTop (mkF m 119 #[.val (.int p0), .val (.int p1), .val (.int p2), .val (.int p3), .val (.int v1), .val (.int v3), .val (.int v5), .val (.int v7), .val (.ref b8), .val (.int v29), .val (.int v36), .val (.int v46), .val (.int v52), .val (.int v59), .val (.int v76), .unset] [(.int (nar .boolean (if (f74 (v5).toNatClampNeg) = (((0 : Int32) + (1 : Int32)) + (1 : Int32)) then (1 : Int32) else (0 : Int32))))])) _
    refine castTop (g' := (mkF m 119 #[.val (.int p0), .val (.int p1), .val (.int p2), .val (.int p3), .val (.int v1), .val (.int v3), .val (.int v5), .val (.int v7), .val (.ref b8), .val (.int v29), .val (.int v36), .val (.int v46), .val (.int v52), .val (.int v59), .val (.int v76), .unset] [(.int v82)])) (by rw [hv82] <;> rfl) ?_
    show Steps p.tables e below (T81.setTop (mkF m 119 #[.val (.int p0), .val (.int p1), .val (.int p2), .val (.int p3), .val (.int v1), .val (.int v3), .val (.int v5), .val (.int v7), .val (.ref b8), .val (.int v29), .val (.int v36), .val (.int v46), .val (.int v52), .val (.int v59), .val (.int v76), .unset] [(.int v82)])) _
    refine XS.istore X81.here hx rfl (hb hby at_119) rfl (l' := #[.val (.int p0), .val (.int p1), .val (.int p2), .val (.int p3), .val (.int v1), .val (.int v3), .val (.int v5), .val (.int v7), .val (.ref b8), .val (.int v29), .val (.int v36), .val (.int v46), .val (.int v52), .val (.int v59), .val (.int v76), .val (.int v82)]) rfl ?_
    show Steps p.tables e below (T81.setTop (mkF m 121 #[.val (.int p0), .val (.int p1), .val (.int p2), .val (.int p3), .val (.int v1), .val (.int v3), .val (.int v5), .val (.int v7), .val (.ref b8), .val (.int v29), .val (.int v36), .val (.int v46), .val (.int v52), .val (.int v59), .val (.int v76), .val (.int v82)] [])) _
    refine XS.iload X81.here hx rfl (hb hby at_121) rfl ?_
    show Steps p.tables e below (T81.setTop (mkF m 123 #[.val (.int p0), .val (.int p1), .val (.int p2), .val (.int p3), .val (.int v1), .val (.int v3), .val (.int v5), .val (.int v7), .val (.ref b8), .val (.int v29), .val (.int v36), .val (.int v46), .val (.int v52), .val (.int v59), .val (.int v76), .val (.int v82)] [(.int v29)])) _
    refine own_dia (F := (mkF m 204 #[.val (.int p0), .val (.int p1), .val (.int p2), .val (.int p3), .val (.int v1), .val (.int v3), .val (.int v5), .val (.int v7), .val (.ref b8), .val (.int v29), .val (.int v36), .val (.int v46), .val (.int v52), .val (.int v59), .val (.int v76), .val (.int v82)] [(.int v104)])) ?_ ?_
    · intro kt
      by_cases hc83 : v29 = (0 : Int32)
      · show Steps p.tables e below (T81.setTop (mkF m 123 #[.val (.int p0), .val (.int p1), .val (.int p2), .val (.int p3), .val (.int v1), .val (.int v3), .val (.int v5), .val (.int v7), .val (.ref b8), .val (.int v29), .val (.int v36), .val (.int v46), .val (.int v52), .val (.int v59), .val (.int v76), .val (.int v82)] [(.int v29)])) _
        refine XS.ifNo X81.here hx rfl (hb hby at_123) rfl ((if0 _ _).trans (teq hc83).2) ?_
        show Steps p.tables e below (T81.setTop (mkF m 126 #[.val (.int p0), .val (.int p1), .val (.int p2), .val (.int p3), .val (.int v1), .val (.int v3), .val (.int v5), .val (.int v7), .val (.ref b8), .val (.int v29), .val (.int v36), .val (.int v46), .val (.int v52), .val (.int v59), .val (.int v76), .val (.int v82)] [])) _
        refine XS.iload X81.here hx rfl (hb hby at_126) rfl ?_
        show Steps p.tables e below (T81.setTop (mkF m 128 #[.val (.int p0), .val (.int p1), .val (.int p2), .val (.int p3), .val (.int v1), .val (.int v3), .val (.int v5), .val (.int v7), .val (.ref b8), .val (.int v29), .val (.int v36), .val (.int v46), .val (.int v52), .val (.int v59), .val (.int v76), .val (.int v82)] [(.int v36)])) _
        refine own_dia (F := (mkF m 204 #[.val (.int p0), .val (.int p1), .val (.int p2), .val (.int p3), .val (.int v1), .val (.int v3), .val (.int v5), .val (.int v7), .val (.ref b8), .val (.int v29), .val (.int v36), .val (.int v46), .val (.int v52), .val (.int v59), .val (.int v76), .val (.int v82)] [(.int v103)])) ?_ ?_
        · intro kt
          by_cases hc84 : v36 = (0 : Int32)
          · show Steps p.tables e below (T81.setTop (mkF m 128 #[.val (.int p0), .val (.int p1), .val (.int p2), .val (.int p3), .val (.int v1), .val (.int v3), .val (.int v5), .val (.int v7), .val (.ref b8), .val (.int v29), .val (.int v36), .val (.int v46), .val (.int v52), .val (.int v59), .val (.int v76), .val (.int v82)] [(.int v36)])) _
            refine XS.ifYes X81.here hx rfl (pc0 := 128) (pc' := 203) rfl (hb hby at_128) rfl ((if0 _ _).trans (teq hc84).1) (by decide) (by decide) ?_
            show Steps p.tables e below (T81.setTop (mkF m 203 #[.val (.int p0), .val (.int p1), .val (.int p2), .val (.int p3), .val (.int v1), .val (.int v3), .val (.int v5), .val (.int v7), .val (.ref b8), .val (.int v29), .val (.int v36), .val (.int v46), .val (.int v52), .val (.int v59), .val (.int v76), .val (.int v82)] [])) _
            refine XS.iconst X81.here hx rfl (hb hby at_203) ?_
            exact castTop (by rw [hv103, if_pos hc84] <;> rfl) kt
          · show Steps p.tables e below (T81.setTop (mkF m 128 #[.val (.int p0), .val (.int p1), .val (.int p2), .val (.int p3), .val (.int v1), .val (.int v3), .val (.int v5), .val (.int v7), .val (.ref b8), .val (.int v29), .val (.int v36), .val (.int v46), .val (.int v52), .val (.int v59), .val (.int v76), .val (.int v82)] [(.int v36)])) _
            refine XS.ifNo X81.here hx rfl (hb hby at_128) rfl ((if0 _ _).trans (feq hc84).1) ?_
            show Steps p.tables e below (T81.setTop (mkF m 131 #[.val (.int p0), .val (.int p1), .val (.int p2), .val (.int p3), .val (.int v1), .val (.int v3), .val (.int v5), .val (.int v7), .val (.ref b8), .val (.int v29), .val (.int v36), .val (.int v46), .val (.int v52), .val (.int v59), .val (.int v76), .val (.int v82)] [])) _
            refine XS.iload X81.here hx rfl (hb hby at_131) rfl ?_
            show Steps p.tables e below (T81.setTop (mkF m 133 #[.val (.int p0), .val (.int p1), .val (.int p2), .val (.int p3), .val (.int v1), .val (.int v3), .val (.int v5), .val (.int v7), .val (.ref b8), .val (.int v29), .val (.int v36), .val (.int v46), .val (.int v52), .val (.int v59), .val (.int v76), .val (.int v82)] [(.int v46)])) _
            refine XS.iload X81.here hx rfl (hb hby at_133) rfl ?_
            show Steps p.tables e below (T81.setTop (mkF m 135 #[.val (.int p0), .val (.int p1), .val (.int p2), .val (.int p3), .val (.int v1), .val (.int v3), .val (.int v5), .val (.int v7), .val (.ref b8), .val (.int v29), .val (.int v36), .val (.int v46), .val (.int v52), .val (.int v59), .val (.int v76), .val (.int v82)] [(.int v5), (.int v46)])) _
            refine XS.iload X81.here hx rfl (hb hby at_135) rfl ?_
            show Steps p.tables e below (T81.setTop (mkF m 137 #[.val (.int p0), .val (.int p1), .val (.int p2), .val (.int p3), .val (.int v1), .val (.int v3), .val (.int v5), .val (.int v7), .val (.ref b8), .val (.int v29), .val (.int v36), .val (.int v46), .val (.int v52), .val (.int v59), .val (.int v76), .val (.int v82)] [(.int v3), (.int v5), (.int v46)])) _
            refine own_dia (F := (mkF m 145 #[.val (.int p0), .val (.int p1), .val (.int p2), .val (.int p3), .val (.int v1), .val (.int v3), .val (.int v5), .val (.int v7), .val (.ref b8), .val (.int v29), .val (.int v36), .val (.int v46), .val (.int v52), .val (.int v59), .val (.int v76), .val (.int v82)] [(.int v86), (.int v46)])) ?_ ?_
            · intro kt
              by_cases hc85 : v5 = v3
              · show Steps p.tables e below (T81.setTop (mkF m 137 #[.val (.int p0), .val (.int p1), .val (.int p2), .val (.int p3), .val (.int v1), .val (.int v3), .val (.int v5), .val (.int v7), .val (.ref b8), .val (.int v29), .val (.int v36), .val (.int v46), .val (.int v52), .val (.int v59), .val (.int v76), .val (.int v82)] [(.int v3), (.int v5), (.int v46)])) _
                refine XS.icmpYes X81.here hx rfl (pc0 := 137) (pc' := 144) rfl (hb hby at_137) rfl (teq hc85).1 (by decide) (by decide) ?_
                show Steps p.tables e below (T81.setTop (mkF m 144 #[.val (.int p0), .val (.int p1), .val (.int p2), .val (.int p3), .val (.int v1), .val (.int v3), .val (.int v5), .val (.int v7), .val (.ref b8), .val (.int v29), .val (.int v36), .val (.int v46), .val (.int v52), .val (.int v59), .val (.int v76), .val (.int v82)] [(.int v46)])) _
                refine XS.iconst X81.here hx rfl (hb hby at_144) ?_
                exact castTop (by rw [hv86, if_pos hc85] <;> rfl) kt
              · show Steps p.tables e below (T81.setTop (mkF m 137 #[.val (.int p0), .val (.int p1), .val (.int p2), .val (.int p3), .val (.int v1), .val (.int v3), .val (.int v5), .val (.int v7), .val (.ref b8), .val (.int v29), .val (.int v36), .val (.int v46), .val (.int v52), .val (.int v59), .val (.int v76), .val (.int v82)] [(.int v3), (.int v5), (.int v46)])) _
                refine XS.icmpNo X81.here hx rfl (hb hby at_137) rfl (feq hc85).1 ?_
                show Steps p.tables e below (T81.setTop (mkF m 140 #[.val (.int p0), .val (.int p1), .val (.int p2), .val (.int p3), .val (.int v1), .val (.int v3), .val (.int v5), .val (.int v7), .val (.ref b8), .val (.int v29), .val (.int v36), .val (.int v46), .val (.int v52), .val (.int v59), .val (.int v76), .val (.int v82)] [(.int v46)])) _
                refine XS.iconst X81.here hx rfl (hb hby at_140) ?_
                show Steps p.tables e below (T81.setTop (mkF m 141 #[.val (.int p0), .val (.int p1), .val (.int p2), .val (.int p3), .val (.int v1), .val (.int v3), .val (.int v5), .val (.int v7), .val (.ref b8), .val (.int v29), .val (.int v36), .val (.int v46), .val (.int v52), .val (.int v59), .val (.int v76), .val (.int v82)] [(.int (1 : Int32)), (.int v46)])) _
                refine XS.goto X81.here hx rfl (pc0 := 141) (pc' := 145) rfl (hb hby at_141) (by decide) (by decide) ?_
                exact castTop (by rw [hv86, if_neg hc85] <;> rfl) kt
            show Steps p.tables e below (T81.setTop (mkF m 145 #[.val (.int p0), .val (.int p1), .val (.int p2), .val (.int p3), .val (.int v1), .val (.int v3), .val (.int v5), .val (.int v7), .val (.ref b8), .val (.int v29), .val (.int v36), .val (.int v46), .val (.int v52), .val (.int v59), .val (.int v76), .val (.int v82)] [(.int v86), (.int v46)])) _
            refine own_dia (F := (mkF m 204 #[.val (.int p0), .val (.int p1), .val (.int p2), .val (.int p3), .val (.int v1), .val (.int v3), .val (.int v5), .val (.int v7), .val (.ref b8), .val (.int v29), .val (.int v36), .val (.int v46), .val (.int v52), .val (.int v59), .val (.int v76), .val (.int v82)] [(.int v102)])) ?_ ?_
            · intro kt
              by_cases hc87 : v46 = v86
              · show Steps p.tables e below (T81.setTop (mkF m 145 #[.val (.int p0), .val (.int p1), .val (.int p2), .val (.int p3), .val (.int v1), .val (.int v3), .val (.int v5), .val (.int v7), .val (.ref b8), .val (.int v29), .val (.int v36), .val (.int v46), .val (.int v52), .val (.int v59), .val (.int v76), .val (.int v82)] [(.int v86), (.int v46)])) _
                refine XS.icmpNo X81.here hx rfl (hb hby at_145) rfl (teq hc87).2 ?_
                show Steps p.tables e below (T81.setTop (mkF m 148 #[.val (.int p0), .val (.int p1), .val (.int p2), .val (.int p3), .val (.int v1), .val (.int v3), .val (.int v5), .val (.int v7), .val (.ref b8), .val (.int v29), .val (.int v36), .val (.int v46), .val (.int v52), .val (.int v59), .val (.int v76), .val (.int v82)] [])) _
                refine XS.iload X81.here hx rfl (hb hby at_148) rfl ?_
                show Steps p.tables e below (T81.setTop (mkF m 150 #[.val (.int p0), .val (.int p1), .val (.int p2), .val (.int p3), .val (.int v1), .val (.int v3), .val (.int v5), .val (.int v7), .val (.ref b8), .val (.int v29), .val (.int v36), .val (.int v46), .val (.int v52), .val (.int v59), .val (.int v76), .val (.int v82)] [(.int v52)])) _
                refine XS.iload X81.here hx rfl (hb hby at_150) rfl ?_
                show Steps p.tables e below (T81.setTop (mkF m 152 #[.val (.int p0), .val (.int p1), .val (.int p2), .val (.int p3), .val (.int v1), .val (.int v3), .val (.int v5), .val (.int v7), .val (.ref b8), .val (.int v29), .val (.int v36), .val (.int v46), .val (.int v52), .val (.int v59), .val (.int v76), .val (.int v82)] [(.int v7), (.int v52)])) _
                refine XS.iload X81.here hx rfl (hb hby at_152) rfl ?_
                show Steps p.tables e below (T81.setTop (mkF m 154 #[.val (.int p0), .val (.int p1), .val (.int p2), .val (.int p3), .val (.int v1), .val (.int v3), .val (.int v5), .val (.int v7), .val (.ref b8), .val (.int v29), .val (.int v36), .val (.int v46), .val (.int v52), .val (.int v59), .val (.int v76), .val (.int v82)] [(.int v3), (.int v7), (.int v52)])) _
                refine own_dia (F := (mkF m 169 #[.val (.int p0), .val (.int p1), .val (.int p2), .val (.int p3), .val (.int v1), .val (.int v3), .val (.int v5), .val (.int v7), .val (.ref b8), .val (.int v29), .val (.int v36), .val (.int v46), .val (.int v52), .val (.int v59), .val (.int v76), .val (.int v82)] [(.int v91), (.int v52)])) ?_ ?_
                · intro kt
                  by_cases hc88 : v7 = v3
                  · show Steps p.tables e below (T81.setTop (mkF m 154 #[.val (.int p0), .val (.int p1), .val (.int p2), .val (.int p3), .val (.int v1), .val (.int v3), .val (.int v5), .val (.int v7), .val (.ref b8), .val (.int v29), .val (.int v36), .val (.int v46), .val (.int v52), .val (.int v59), .val (.int v76), .val (.int v82)] [(.int v3), (.int v7), (.int v52)])) _
                    refine XS.icmpYes X81.here hx rfl (pc0 := 154) (pc' := 164) rfl (hb hby at_154) rfl (teq hc88).1 (by decide) (by decide) ?_
                    show Steps p.tables e below (T81.setTop (mkF m 164 #[.val (.int p0), .val (.int p1), .val (.int p2), .val (.int p3), .val (.int v1), .val (.int v3), .val (.int v5), .val (.int v7), .val (.ref b8), .val (.int v29), .val (.int v36), .val (.int v46), .val (.int v52), .val (.int v59), .val (.int v76), .val (.int v82)] [(.int v52)])) _
                    refine XS.iconst X81.here hx rfl (hb hby at_164) ?_
                    show Steps p.tables e below (T81.setTop (mkF m 165 #[.val (.int p0), .val (.int p1), .val (.int p2), .val (.int p3), .val (.int v1), .val (.int v3), .val (.int v5), .val (.int v7), .val (.ref b8), .val (.int v29), .val (.int v36), .val (.int v46), .val (.int v52), .val (.int v59), .val (.int v76), .val (.int v82)] [(.int (1 : Int32)), (.int v52)])) _
                    refine XS.goto X81.here hx rfl (pc0 := 165) (pc' := 169) rfl (hb hby at_165) (by decide) (by decide) ?_
                    exact castTop (by rw [hv91, if_pos hc88] <;> rfl) kt
                  · show Steps p.tables e below (T81.setTop (mkF m 154 #[.val (.int p0), .val (.int p1), .val (.int p2), .val (.int p3), .val (.int v1), .val (.int v3), .val (.int v5), .val (.int v7), .val (.ref b8), .val (.int v29), .val (.int v36), .val (.int v46), .val (.int v52), .val (.int v59), .val (.int v76), .val (.int v82)] [(.int v3), (.int v7), (.int v52)])) _
                    refine XS.icmpNo X81.here hx rfl (hb hby at_154) rfl (feq hc88).1 ?_
                    show Steps p.tables e below (T81.setTop (mkF m 157 #[.val (.int p0), .val (.int p1), .val (.int p2), .val (.int p3), .val (.int v1), .val (.int v3), .val (.int v5), .val (.int v7), .val (.ref b8), .val (.int v29), .val (.int v36), .val (.int v46), .val (.int v52), .val (.int v59), .val (.int v76), .val (.int v82)] [(.int v52)])) _
                    refine XS.iload X81.here hx rfl (hb hby at_157) rfl ?_
                    show Steps p.tables e below (T81.setTop (mkF m 159 #[.val (.int p0), .val (.int p1), .val (.int p2), .val (.int p3), .val (.int v1), .val (.int v3), .val (.int v5), .val (.int v7), .val (.ref b8), .val (.int v29), .val (.int v36), .val (.int v46), .val (.int v52), .val (.int v59), .val (.int v76), .val (.int v82)] [(.int v7), (.int v52)])) _
                    refine XS.iload X81.here hx rfl (hb hby at_159) rfl ?_
                    show Steps p.tables e below (T81.setTop (mkF m 161 #[.val (.int p0), .val (.int p1), .val (.int p2), .val (.int p3), .val (.int v1), .val (.int v3), .val (.int v5), .val (.int v7), .val (.ref b8), .val (.int v29), .val (.int v36), .val (.int v46), .val (.int v52), .val (.int v59), .val (.int v76), .val (.int v82)] [(.int v5), (.int v7), (.int v52)])) _
                    refine own_dia (F := (mkF m 169 #[.val (.int p0), .val (.int p1), .val (.int p2), .val (.int p3), .val (.int v1), .val (.int v3), .val (.int v5), .val (.int v7), .val (.ref b8), .val (.int v29), .val (.int v36), .val (.int v46), .val (.int v52), .val (.int v59), .val (.int v76), .val (.int v82)] [(.int v90), (.int v52)])) ?_ ?_
                    · intro kt
                      by_cases hc89 : v7 = v5
                      · show Steps p.tables e below (T81.setTop (mkF m 161 #[.val (.int p0), .val (.int p1), .val (.int p2), .val (.int p3), .val (.int v1), .val (.int v3), .val (.int v5), .val (.int v7), .val (.ref b8), .val (.int v29), .val (.int v36), .val (.int v46), .val (.int v52), .val (.int v59), .val (.int v76), .val (.int v82)] [(.int v5), (.int v7), (.int v52)])) _
                        refine XS.icmpNo X81.here hx rfl (hb hby at_161) rfl (teq hc89).2 ?_
                        show Steps p.tables e below (T81.setTop (mkF m 164 #[.val (.int p0), .val (.int p1), .val (.int p2), .val (.int p3), .val (.int v1), .val (.int v3), .val (.int v5), .val (.int v7), .val (.ref b8), .val (.int v29), .val (.int v36), .val (.int v46), .val (.int v52), .val (.int v59), .val (.int v76), .val (.int v82)] [(.int v52)])) _
                        refine XS.iconst X81.here hx rfl (hb hby at_164) ?_
                        show Steps p.tables e below (T81.setTop (mkF m 165 #[.val (.int p0), .val (.int p1), .val (.int p2), .val (.int p3), .val (.int v1), .val (.int v3), .val (.int v5), .val (.int v7), .val (.ref b8), .val (.int v29), .val (.int v36), .val (.int v46), .val (.int v52), .val (.int v59), .val (.int v76), .val (.int v82)] [(.int (1 : Int32)), (.int v52)])) _
                        refine XS.goto X81.here hx rfl (pc0 := 165) (pc' := 169) rfl (hb hby at_165) (by decide) (by decide) ?_
                        exact castTop (by rw [hv90, if_pos hc89] <;> rfl) kt
                      · show Steps p.tables e below (T81.setTop (mkF m 161 #[.val (.int p0), .val (.int p1), .val (.int p2), .val (.int p3), .val (.int v1), .val (.int v3), .val (.int v5), .val (.int v7), .val (.ref b8), .val (.int v29), .val (.int v36), .val (.int v46), .val (.int v52), .val (.int v59), .val (.int v76), .val (.int v82)] [(.int v5), (.int v7), (.int v52)])) _
                        refine XS.icmpYes X81.here hx rfl (pc0 := 161) (pc' := 168) rfl (hb hby at_161) rfl (feq hc89).2 (by decide) (by decide) ?_
                        show Steps p.tables e below (T81.setTop (mkF m 168 #[.val (.int p0), .val (.int p1), .val (.int p2), .val (.int p3), .val (.int v1), .val (.int v3), .val (.int v5), .val (.int v7), .val (.ref b8), .val (.int v29), .val (.int v36), .val (.int v46), .val (.int v52), .val (.int v59), .val (.int v76), .val (.int v82)] [(.int v52)])) _
                        refine XS.iconst X81.here hx rfl (hb hby at_168) ?_
                        exact castTop (by rw [hv90, if_neg hc89] <;> rfl) kt
                    exact castTop (by rw [hv91, if_neg hc88] <;> rfl) kt
                show Steps p.tables e below (T81.setTop (mkF m 169 #[.val (.int p0), .val (.int p1), .val (.int p2), .val (.int p3), .val (.int v1), .val (.int v3), .val (.int v5), .val (.int v7), .val (.ref b8), .val (.int v29), .val (.int v36), .val (.int v46), .val (.int v52), .val (.int v59), .val (.int v76), .val (.int v82)] [(.int v91), (.int v52)])) _
                refine own_dia (F := (mkF m 204 #[.val (.int p0), .val (.int p1), .val (.int p2), .val (.int p3), .val (.int v1), .val (.int v3), .val (.int v5), .val (.int v7), .val (.ref b8), .val (.int v29), .val (.int v36), .val (.int v46), .val (.int v52), .val (.int v59), .val (.int v76), .val (.int v82)] [(.int v101)])) ?_ ?_
                · intro kt
                  by_cases hc92 : v52 = v91
                  · show Steps p.tables e below (T81.setTop (mkF m 169 #[.val (.int p0), .val (.int p1), .val (.int p2), .val (.int p3), .val (.int v1), .val (.int v3), .val (.int v5), .val (.int v7), .val (.ref b8), .val (.int v29), .val (.int v36), .val (.int v46), .val (.int v52), .val (.int v59), .val (.int v76), .val (.int v82)] [(.int v91), (.int v52)])) _
                    refine XS.icmpNo X81.here hx rfl (hb hby at_169) rfl (teq hc92).2 ?_
                    show Steps p.tables e below (T81.setTop (mkF m 172 #[.val (.int p0), .val (.int p1), .val (.int p2), .val (.int p3), .val (.int v1), .val (.int v3), .val (.int v5), .val (.int v7), .val (.ref b8), .val (.int v29), .val (.int v36), .val (.int v46), .val (.int v52), .val (.int v59), .val (.int v76), .val (.int v82)] [])) _
                    refine XS.iload X81.here hx rfl (hb hby at_172) rfl ?_
                    show Steps p.tables e below (T81.setTop (mkF m 174 #[.val (.int p0), .val (.int p1), .val (.int p2), .val (.int p3), .val (.int v1), .val (.int v3), .val (.int v5), .val (.int v7), .val (.ref b8), .val (.int v29), .val (.int v36), .val (.int v46), .val (.int v52), .val (.int v59), .val (.int v76), .val (.int v82)] [(.int v59)])) _
                    refine own_dia (F := (mkF m 204 #[.val (.int p0), .val (.int p1), .val (.int p2), .val (.int p3), .val (.int v1), .val (.int v3), .val (.int v5), .val (.int v7), .val (.ref b8), .val (.int v29), .val (.int v36), .val (.int v46), .val (.int v52), .val (.int v59), .val (.int v76), .val (.int v82)] [(.int v100)])) ?_ ?_
                    · intro kt
                      by_cases hc93 : v59 = (0 : Int32)
                      · show Steps p.tables e below (T81.setTop (mkF m 174 #[.val (.int p0), .val (.int p1), .val (.int p2), .val (.int p3), .val (.int v1), .val (.int v3), .val (.int v5), .val (.int v7), .val (.ref b8), .val (.int v29), .val (.int v36), .val (.int v46), .val (.int v52), .val (.int v59), .val (.int v76), .val (.int v82)] [(.int v59)])) _
                        refine XS.ifNo X81.here hx rfl (hb hby at_174) rfl ((if0 _ _).trans (teq hc93).2) ?_
                        show Steps p.tables e below (T81.setTop (mkF m 177 #[.val (.int p0), .val (.int p1), .val (.int p2), .val (.int p3), .val (.int v1), .val (.int v3), .val (.int v5), .val (.int v7), .val (.ref b8), .val (.int v29), .val (.int v36), .val (.int v46), .val (.int v52), .val (.int v59), .val (.int v76), .val (.int v82)] [])) _
                        refine XS.iload X81.here hx rfl (hb hby at_177) rfl ?_
                        show Steps p.tables e below (T81.setTop (mkF m 179 #[.val (.int p0), .val (.int p1), .val (.int p2), .val (.int p3), .val (.int v1), .val (.int v3), .val (.int v5), .val (.int v7), .val (.ref b8), .val (.int v29), .val (.int v36), .val (.int v46), .val (.int v52), .val (.int v59), .val (.int v76), .val (.int v82)] [(.int v76)])) _
                        refine own_dia (F := (mkF m 204 #[.val (.int p0), .val (.int p1), .val (.int p2), .val (.int p3), .val (.int v1), .val (.int v3), .val (.int v5), .val (.int v7), .val (.ref b8), .val (.int v29), .val (.int v36), .val (.int v46), .val (.int v52), .val (.int v59), .val (.int v76), .val (.int v82)] [(.int v99)])) ?_ ?_
                        · intro kt
                          by_cases hc94 : v76 = (0 : Int32)
                          · show Steps p.tables e below (T81.setTop (mkF m 179 #[.val (.int p0), .val (.int p1), .val (.int p2), .val (.int p3), .val (.int v1), .val (.int v3), .val (.int v5), .val (.int v7), .val (.ref b8), .val (.int v29), .val (.int v36), .val (.int v46), .val (.int v52), .val (.int v59), .val (.int v76), .val (.int v82)] [(.int v76)])) _
                            refine XS.ifYes X81.here hx rfl (pc0 := 179) (pc' := 203) rfl (hb hby at_179) rfl ((if0 _ _).trans (teq hc94).1) (by decide) (by decide) ?_
                            show Steps p.tables e below (T81.setTop (mkF m 203 #[.val (.int p0), .val (.int p1), .val (.int p2), .val (.int p3), .val (.int v1), .val (.int v3), .val (.int v5), .val (.int v7), .val (.ref b8), .val (.int v29), .val (.int v36), .val (.int v46), .val (.int v52), .val (.int v59), .val (.int v76), .val (.int v82)] [])) _
                            refine XS.iconst X81.here hx rfl (hb hby at_203) ?_
                            exact castTop (by rw [hv99, if_pos hc94] <;> rfl) kt
                          · show Steps p.tables e below (T81.setTop (mkF m 179 #[.val (.int p0), .val (.int p1), .val (.int p2), .val (.int p3), .val (.int v1), .val (.int v3), .val (.int v5), .val (.int v7), .val (.ref b8), .val (.int v29), .val (.int v36), .val (.int v46), .val (.int v52), .val (.int v59), .val (.int v76), .val (.int v82)] [(.int v76)])) _
                            refine XS.ifNo X81.here hx rfl (hb hby at_179) rfl ((if0 _ _).trans (feq hc94).1) ?_
                            show Steps p.tables e below (T81.setTop (mkF m 182 #[.val (.int p0), .val (.int p1), .val (.int p2), .val (.int p3), .val (.int v1), .val (.int v3), .val (.int v5), .val (.int v7), .val (.ref b8), .val (.int v29), .val (.int v36), .val (.int v46), .val (.int v52), .val (.int v59), .val (.int v76), .val (.int v82)] [])) _
                            refine XS.iload X81.here hx rfl (hb hby at_182) rfl ?_
                            show Steps p.tables e below (T81.setTop (mkF m 184 #[.val (.int p0), .val (.int p1), .val (.int p2), .val (.int p3), .val (.int v1), .val (.int v3), .val (.int v5), .val (.int v7), .val (.ref b8), .val (.int v29), .val (.int v36), .val (.int v46), .val (.int v52), .val (.int v59), .val (.int v76), .val (.int v82)] [(.int v82)])) _
                            refine XS.iload X81.here hx rfl (hb hby at_184) rfl ?_
                            show Steps p.tables e below (T81.setTop (mkF m 186 #[.val (.int p0), .val (.int p1), .val (.int p2), .val (.int p3), .val (.int v1), .val (.int v3), .val (.int v5), .val (.int v7), .val (.ref b8), .val (.int v29), .val (.int v36), .val (.int v46), .val (.int v52), .val (.int v59), .val (.int v76), .val (.int v82)] [(.int v5), (.int v82)])) _
                            refine XS.iload X81.here hx rfl (hb hby at_186) rfl ?_
                            show Steps p.tables e below (T81.setTop (mkF m 188 #[.val (.int p0), .val (.int p1), .val (.int p2), .val (.int p3), .val (.int v1), .val (.int v3), .val (.int v5), .val (.int v7), .val (.ref b8), .val (.int v29), .val (.int v36), .val (.int v46), .val (.int v52), .val (.int v59), .val (.int v76), .val (.int v82)] [(.int v7), (.int v5), (.int v82)])) _
                            refine own_dia (F := (mkF m 196 #[.val (.int p0), .val (.int p1), .val (.int p2), .val (.int p3), .val (.int v1), .val (.int v3), .val (.int v5), .val (.int v7), .val (.ref b8), .val (.int v29), .val (.int v36), .val (.int v46), .val (.int v52), .val (.int v59), .val (.int v76), .val (.int v82)] [(.int v96), (.int v82)])) ?_ ?_
                            · intro kt
                              by_cases hc95 : v5 = v7
                              · show Steps p.tables e below (T81.setTop (mkF m 188 #[.val (.int p0), .val (.int p1), .val (.int p2), .val (.int p3), .val (.int v1), .val (.int v3), .val (.int v5), .val (.int v7), .val (.ref b8), .val (.int v29), .val (.int v36), .val (.int v46), .val (.int v52), .val (.int v59), .val (.int v76), .val (.int v82)] [(.int v7), (.int v5), (.int v82)])) _
                                refine XS.icmpNo X81.here hx rfl (hb hby at_188) rfl (teq hc95).2 ?_
                                show Steps p.tables e below (T81.setTop (mkF m 191 #[.val (.int p0), .val (.int p1), .val (.int p2), .val (.int p3), .val (.int v1), .val (.int v3), .val (.int v5), .val (.int v7), .val (.ref b8), .val (.int v29), .val (.int v36), .val (.int v46), .val (.int v52), .val (.int v59), .val (.int v76), .val (.int v82)] [(.int v82)])) _
                                refine XS.iconst X81.here hx rfl (hb hby at_191) ?_
                                show Steps p.tables e below (T81.setTop (mkF m 192 #[.val (.int p0), .val (.int p1), .val (.int p2), .val (.int p3), .val (.int v1), .val (.int v3), .val (.int v5), .val (.int v7), .val (.ref b8), .val (.int v29), .val (.int v36), .val (.int v46), .val (.int v52), .val (.int v59), .val (.int v76), .val (.int v82)] [(.int (1 : Int32)), (.int v82)])) _
                                refine XS.goto X81.here hx rfl (pc0 := 192) (pc' := 196) rfl (hb hby at_192) (by decide) (by decide) ?_
                                exact castTop (by rw [hv96, if_pos hc95] <;> rfl) kt
                              · show Steps p.tables e below (T81.setTop (mkF m 188 #[.val (.int p0), .val (.int p1), .val (.int p2), .val (.int p3), .val (.int v1), .val (.int v3), .val (.int v5), .val (.int v7), .val (.ref b8), .val (.int v29), .val (.int v36), .val (.int v46), .val (.int v52), .val (.int v59), .val (.int v76), .val (.int v82)] [(.int v7), (.int v5), (.int v82)])) _
                                refine XS.icmpYes X81.here hx rfl (pc0 := 188) (pc' := 195) rfl (hb hby at_188) rfl (feq hc95).2 (by decide) (by decide) ?_
                                show Steps p.tables e below (T81.setTop (mkF m 195 #[.val (.int p0), .val (.int p1), .val (.int p2), .val (.int p3), .val (.int v1), .val (.int v3), .val (.int v5), .val (.int v7), .val (.ref b8), .val (.int v29), .val (.int v36), .val (.int v46), .val (.int v52), .val (.int v59), .val (.int v76), .val (.int v82)] [(.int v82)])) _
                                refine XS.iconst X81.here hx rfl (hb hby at_195) ?_
                                exact castTop (by rw [hv96, if_neg hc95] <;> rfl) kt
                            show Steps p.tables e below (T81.setTop (mkF m 196 #[.val (.int p0), .val (.int p1), .val (.int p2), .val (.int p3), .val (.int v1), .val (.int v3), .val (.int v5), .val (.int v7), .val (.ref b8), .val (.int v29), .val (.int v36), .val (.int v46), .val (.int v52), .val (.int v59), .val (.int v76), .val (.int v82)] [(.int v96), (.int v82)])) _
                            refine own_dia (F := (mkF m 204 #[.val (.int p0), .val (.int p1), .val (.int p2), .val (.int p3), .val (.int v1), .val (.int v3), .val (.int v5), .val (.int v7), .val (.ref b8), .val (.int v29), .val (.int v36), .val (.int v46), .val (.int v52), .val (.int v59), .val (.int v76), .val (.int v82)] [(.int v98)])) ?_ ?_
                            · intro kt
                              by_cases hc97 : v82 = v96
                              · show Steps p.tables e below (T81.setTop (mkF m 196 #[.val (.int p0), .val (.int p1), .val (.int p2), .val (.int p3), .val (.int v1), .val (.int v3), .val (.int v5), .val (.int v7), .val (.ref b8), .val (.int v29), .val (.int v36), .val (.int v46), .val (.int v52), .val (.int v59), .val (.int v76), .val (.int v82)] [(.int v96), (.int v82)])) _
                                refine XS.icmpNo X81.here hx rfl (hb hby at_196) rfl (teq hc97).2 ?_
                                show Steps p.tables e below (T81.setTop (mkF m 199 #[.val (.int p0), .val (.int p1), .val (.int p2), .val (.int p3), .val (.int v1), .val (.int v3), .val (.int v5), .val (.int v7), .val (.ref b8), .val (.int v29), .val (.int v36), .val (.int v46), .val (.int v52), .val (.int v59), .val (.int v76), .val (.int v82)] [])) _
                                refine XS.iconst X81.here hx rfl (hb hby at_199) ?_
                                show Steps p.tables e below (T81.setTop (mkF m 200 #[.val (.int p0), .val (.int p1), .val (.int p2), .val (.int p3), .val (.int v1), .val (.int v3), .val (.int v5), .val (.int v7), .val (.ref b8), .val (.int v29), .val (.int v36), .val (.int v46), .val (.int v52), .val (.int v59), .val (.int v76), .val (.int v82)] [(.int (1 : Int32))])) _
                                refine XS.goto X81.here hx rfl (pc0 := 200) (pc' := 204) rfl (hb hby at_200) (by decide) (by decide) ?_
                                exact castTop (by rw [hv98, if_pos hc97] <;> rfl) kt
                              · show Steps p.tables e below (T81.setTop (mkF m 196 #[.val (.int p0), .val (.int p1), .val (.int p2), .val (.int p3), .val (.int v1), .val (.int v3), .val (.int v5), .val (.int v7), .val (.ref b8), .val (.int v29), .val (.int v36), .val (.int v46), .val (.int v52), .val (.int v59), .val (.int v76), .val (.int v82)] [(.int v96), (.int v82)])) _
                                refine XS.icmpYes X81.here hx rfl (pc0 := 196) (pc' := 203) rfl (hb hby at_196) rfl (feq hc97).2 (by decide) (by decide) ?_
                                show Steps p.tables e below (T81.setTop (mkF m 203 #[.val (.int p0), .val (.int p1), .val (.int p2), .val (.int p3), .val (.int v1), .val (.int v3), .val (.int v5), .val (.int v7), .val (.ref b8), .val (.int v29), .val (.int v36), .val (.int v46), .val (.int v52), .val (.int v59), .val (.int v76), .val (.int v82)] [])) _
                                refine XS.iconst X81.here hx rfl (hb hby at_203) ?_
                                exact castTop (by rw [hv98, if_neg hc97] <;> rfl) kt
                            exact castTop (by rw [hv99, if_neg hc94] <;> rfl) kt
                        exact castTop (by rw [hv100, if_pos hc93] <;> rfl) kt
                      · show Steps p.tables e below (T81.setTop (mkF m 174 #[.val (.int p0), .val (.int p1), .val (.int p2), .val (.int p3), .val (.int v1), .val (.int v3), .val (.int v5), .val (.int v7), .val (.ref b8), .val (.int v29), .val (.int v36), .val (.int v46), .val (.int v52), .val (.int v59), .val (.int v76), .val (.int v82)] [(.int v59)])) _
                        refine XS.ifYes X81.here hx rfl (pc0 := 174) (pc' := 203) rfl (hb hby at_174) rfl ((if0 _ _).trans (feq hc93).2) (by decide) (by decide) ?_
                        show Steps p.tables e below (T81.setTop (mkF m 203 #[.val (.int p0), .val (.int p1), .val (.int p2), .val (.int p3), .val (.int v1), .val (.int v3), .val (.int v5), .val (.int v7), .val (.ref b8), .val (.int v29), .val (.int v36), .val (.int v46), .val (.int v52), .val (.int v59), .val (.int v76), .val (.int v82)] [])) _
                        refine XS.iconst X81.here hx rfl (hb hby at_203) ?_
                        exact castTop (by rw [hv100, if_neg hc93] <;> rfl) kt
                    exact castTop (by rw [hv101, if_pos hc92] <;> rfl) kt
                  · show Steps p.tables e below (T81.setTop (mkF m 169 #[.val (.int p0), .val (.int p1), .val (.int p2), .val (.int p3), .val (.int v1), .val (.int v3), .val (.int v5), .val (.int v7), .val (.ref b8), .val (.int v29), .val (.int v36), .val (.int v46), .val (.int v52), .val (.int v59), .val (.int v76), .val (.int v82)] [(.int v91), (.int v52)])) _
                    refine XS.icmpYes X81.here hx rfl (pc0 := 169) (pc' := 203) rfl (hb hby at_169) rfl (feq hc92).2 (by decide) (by decide) ?_
                    show Steps p.tables e below (T81.setTop (mkF m 203 #[.val (.int p0), .val (.int p1), .val (.int p2), .val (.int p3), .val (.int v1), .val (.int v3), .val (.int v5), .val (.int v7), .val (.ref b8), .val (.int v29), .val (.int v36), .val (.int v46), .val (.int v52), .val (.int v59), .val (.int v76), .val (.int v82)] [])) _
                    refine XS.iconst X81.here hx rfl (hb hby at_203) ?_
                    exact castTop (by rw [hv101, if_neg hc92] <;> rfl) kt
                exact castTop (by rw [hv102, if_pos hc87] <;> rfl) kt
              · show Steps p.tables e below (T81.setTop (mkF m 145 #[.val (.int p0), .val (.int p1), .val (.int p2), .val (.int p3), .val (.int v1), .val (.int v3), .val (.int v5), .val (.int v7), .val (.ref b8), .val (.int v29), .val (.int v36), .val (.int v46), .val (.int v52), .val (.int v59), .val (.int v76), .val (.int v82)] [(.int v86), (.int v46)])) _
                refine XS.icmpYes X81.here hx rfl (pc0 := 145) (pc' := 203) rfl (hb hby at_145) rfl (feq hc87).2 (by decide) (by decide) ?_
                show Steps p.tables e below (T81.setTop (mkF m 203 #[.val (.int p0), .val (.int p1), .val (.int p2), .val (.int p3), .val (.int v1), .val (.int v3), .val (.int v5), .val (.int v7), .val (.ref b8), .val (.int v29), .val (.int v36), .val (.int v46), .val (.int v52), .val (.int v59), .val (.int v76), .val (.int v82)] [])) _
                refine XS.iconst X81.here hx rfl (hb hby at_203) ?_
                exact castTop (by rw [hv102, if_neg hc87] <;> rfl) kt
            exact castTop (by rw [hv103, if_neg hc84] <;> rfl) kt
        exact castTop (by rw [hv104, if_pos hc83] <;> rfl) kt
      · show Steps p.tables e below (T81.setTop (mkF m 123 #[.val (.int p0), .val (.int p1), .val (.int p2), .val (.int p3), .val (.int v1), .val (.int v3), .val (.int v5), .val (.int v7), .val (.ref b8), .val (.int v29), .val (.int v36), .val (.int v46), .val (.int v52), .val (.int v59), .val (.int v76), .val (.int v82)] [(.int v29)])) _
        refine XS.ifYes X81.here hx rfl (pc0 := 123) (pc' := 203) rfl (hb hby at_123) rfl ((if0 _ _).trans (feq hc83).2) (by decide) (by decide) ?_
        show Steps p.tables e below (T81.setTop (mkF m 203 #[.val (.int p0), .val (.int p1), .val (.int p2), .val (.int p3), .val (.int v1), .val (.int v3), .val (.int v5), .val (.int v7), .val (.ref b8), .val (.int v29), .val (.int v36), .val (.int v46), .val (.int v52), .val (.int v59), .val (.int v76), .val (.int v82)] [])) _
        refine XS.iconst X81.here hx rfl (hb hby at_203) ?_
        exact castTop (by rw [hv104, if_neg hc83] <;> rfl) kt
    show Steps p.tables e below (T81.setTop (mkF m 204 #[.val (.int p0), .val (.int p1), .val (.int p2), .val (.int p3), .val (.int v1), .val (.int v3), .val (.int v5), .val (.int v7), .val (.ref b8), .val (.int v29), .val (.int v36), .val (.int v46), .val (.int v52), .val (.int v59), .val (.int v76), .val (.int v82)] [(.int v104)])) _
    exact retN X81 hx (t := .boolean) Bd.returns (by simp) (hb hby at_204) hr
  · show Q0 h0 n0 _ T81.heap _
    refine ⟨?_, N81⟩
    have hfin : (nar .boolean v104) = (1 : Int32) := by
      exact (own_law p0 p1 p2 p3 v1 v3 v5 v7 f14 f24 v29 f34 v36 f44 v46 v52 f57 v59 f74 v76 v82 v86 v90 v91 v96 v98 v99 v100 v101 v102 v103 v104 hv1 hv3 hv5 hv7 hf14 hf24 hv29 hf34 hv36 hf44 hv46 hv52 hf57 hv59 hf74 hv76 hv82 hv86 hv90 hv91 hv96 hv98 hv99 hv100 hv101 hv102 hv103 hv104)
    rw [hfin]
set_option maxRecDepth 65536 in
set_option maxHeartbeats 40000000 in
theorem comes_1 {Post : Tables → Env → Array Value → State → Outcome → State → Prop} (hpost : ∀ tb e args s v u, (limb_1_1.after args s (.returned v) u = true ∧ limb_1_2.after args s (.returned v) u = true ∧ True) → FrameEnd s (.returned v) u (Jvm.fieldLocs frame_1_writes args s ++ Jvm.arrayLocs frame_1_arrays args s ++ Jvm.staticLocs frame_1_statics s) 16 128 → Post tb e args s (.returned v) u) :
    ArmFor flags0 classFile x code maxLocals ret World_1 tables_1 room_1 Calls_1 rest_1 Pre_1 Post := by
  intro l hfl _ _ p e ha hc hk s m args below hf hA hF happ hP
  obtain ⟨hcalls, hrest, hpre⟩ := hP
  obtain ⟨-, -, -, hnamed, -, -, -, hat⟩ := (Spec.applies_iff hf).mp happ
  obtain ⟨hg, hn⟩ := and_e (Cond.before_iff.mp (show (Jvm.Cond.and given_1 narrow_1).before args s = true from hpre))
  obtain ⟨gg1, gg2⟩ := and_e hg
  obtain ⟨gg3, gg4⟩ := and_e gg2
  obtain ⟨gg5, gg6⟩ := and_e gg4
  obtain ⟨gg7, gg8⟩ := and_e gg6
  obtain ⟨w0, w1, w2, w3, rfl⟩ : ∃ w0 w1 w2 w3 : Value, args = #[w0, w1, w2, w3] := by
    have hs : args.size = 4 := by simpa [Cond.value, given_1] using gg1
    obtain ⟨L⟩ := args
    match L, hs with
    | [w0, w1, w2, w3], _ => exact ⟨w0, w1, w2, w3, rfl⟩
  have hw := fun d (hd : d ∈ tables_1) => atoms_spec (ws := Jvm.Cond.code x code maxLocals ret :: tables_1) hat d (List.mem_cons_of_mem _ hd)
  have hfit : Fit s := fun {y c} hc i hi => by
    obtain ⟨ha, rfl⟩ := Array.getElem?_eq_some_iff.mp hc
    have q := List.all_eq_true.mp ((Array.all_eq_true_iff_forall_mem.mp hF) _ (Array.getElem_mem ha)) i (List.mem_range.mpr hi)
    simpa [Array.getElem?_eq_getElem hi] using q
  obtain ⟨i0, ei0⟩ := is_v gg3
  obtain rfl : w0 = (.int i0) := Option.some.inj ei0
  obtain ⟨i1, ei1⟩ := is_v gg5
  obtain rfl : w1 = (.int i1) := Option.some.inj ei1
  obtain ⟨i2, ei2⟩ := is_v gg7
  obtain rfl : w2 = (.int i2) := Option.some.inj ei2
  obtain ⟨i3, ei3⟩ := is_v gg8
  obtain rfl : w3 = (.int i3) := Option.some.inj ei3
  obtain ⟨n, o, h1, h2, h3, _, L, rfl, ⟨rfl, N⟩, hq⟩ := rm0 l s _ hw tables_1 i0 i1 i2 i3  s.heap s.heap.size (Nat.le_refl _)  p e ha hc hk s m _ below hf ((Spec.applies_iff_loose hf).mp happ).1 ⟨rfl, State.Warmed39.refl s, rfl⟩ trivial
  refine ⟨n, _, h1, h2, h3, hpost _ _ _ _ _ _ ⟨Cond.after_iff.mpr rfl, Cond.after_iff.mpr (eq_i res_at (Term.int_eval (1)) rfl), trivial⟩ ⟨hq.1, hq.2.1, (hq.2.2.sift fun y hy => Or.inr (N y hy)).mono (by decide) (by decide)⟩⟩
theorem main_1_1 : Claimed_1_1 := comes_1 fun _ _ _ _ _ _ h hF => ⟨h.1, hF⟩
theorem main_1_2 : Claimed_1_2 := comes_1 fun _ _ _ _ _ _ h hF => ⟨h.2.1, hF⟩
end Jvm.Pilot.@@N@@
namespace Jvm.Pilot.@@N@@
open Jvm Jvm.ClassFile Sem Op Lib Jvm.Free Jvm.Stand Jvm.Pilot.@@N@@.Jvm.D
/-! MADE BY PROGRAM (witnessworld.py) out of the Statement's table words and the real class files: 12 classes; the members and pool entries that the words name. The judged class is class 1, her method 1. -/
namespace start1
open Jvm.ClassFile
def u (s : String) : CpInfo := .utf8 (stringToUtf16 s)
/-- a pool by its gaps: so many unusable entries, then the entry; so many at the end -/
def gap : Nat → List CpInfo → List CpInfo
  | 0, r => r
  | n + 1, r => .unusable :: gap n r
def poolList (es : List (Nat × CpInfo)) (last : Nat) : List CpInfo := es.foldr (fun e r => gap e.1 (e.2 :: r)) (gap last [])
def pool (es : List (Nat × CpInfo)) (last : Nat) : Array CpInfo := ⟨poolList es last⟩
def fileOf (pool : Array CpInfo) (this : Nat) (attrs : Array Attribute := #[]) (ms : Array MethodInfo := #[]) (fl : Nat := 33) (sup : Nat := 0) (ifs : Array Nat := #[]) (fds : Array FieldInfo := #[]) : ClassFile where
  minorVersion := 0
  majorVersion := 65
  constantPool := pool
  accessFlags := fl
  thisClass := this
  superClass := sup
  interfaces := ifs
  fields := fds
  methods := ms
  attributes := attrs
def plain (name : String) (sup : Option ClassId) : Class where
  name := name
  kind := .ordinary
  loader := none
  accessFlags := 33
  super := sup
  interfaces := #[]
  cf := none
  fields := #[]
  methods := #[]
  instanceTypes := #[]
  staticTypes := #[]
  resolved := #[]
  callSites := []
  init := .initialized
  statics := none
  mirror := none

def pool0 : Array CpInfo := pool [(5, u "<init>"), (0, u "()V"), (1, .class_ 10), (1, u "java/lang/Object")] 113

def k0c0 : Code := { maxStack := 0, maxLocals := 1, code := object_method_1_code, exceptionTable := #[], attributes := #[] }
def k0m0 : Method := { name := "<init>", desc := "()V", sig := { parameters := [], returnType := none }, accessFlags := 1, code := some k0c0 }
/-- java/lang/Object -/
def k0 : Class := { plain "java/lang/Object" none with
  accessFlags := 33
  interfaces := #[]
  cf := some (fileOf pool0 8 #[] #[{ accessFlags := 1, nameIndex := 5, descriptorIndex := 6, attributes := #[] }] 33 0 #[] #[])
  fields := #[]
  methods := #[k0m0]
  instanceTypes := #[]
  staticTypes := #[]
  resolved := Array.replicate 124 none
  statics := none }

def pool1 : Array CpInfo := pool [(2, .class_ 4), (0, .nameAndType 5 6), (0, u "java/lang/Object"), (0, u "<init>"), (0, u "()V"), (0, .integer 2147483647), (0, .class_ 9), (0, u "com/example/psilattice/psilattice/core/SortMarks"), (0, .methodref 8 3), (0, .methodref 8 12), (0, .nameAndType 13 14), (0, u "start"), (0, u "(I)V"), (0, .methodref 8 16), (0, .nameAndType 17 18), (0, u "has"), (0, u "(I)Z"), (0, .methodref 8 20), (0, .nameAndType 21 18), (0, u "add"), (0, .class_ 23), (0, u "com/example/psilattice/psilattice/core/SortMarksAddPinLaw"), (2, u "law"), (0, u "(IIII)Z")] 3

def k1m0 : Method := { name := "<init>", desc := "()V", sig := { parameters := [], returnType := none }, accessFlags := 1, code := none }
def k1c1 : Code := { maxStack := 3, maxLocals := 16, code := code, exceptionTable := #[], attributes := #[] }
def k1m1 : Method := { name := "law", desc := "(IIII)Z", sig := { parameters := [.int, .int, .int, .int], returnType := some .boolean }, accessFlags := 9, code := some k1c1 }
/-- com/example/psilattice/psilattice/core/SortMarksAddPinLaw -/
def k1 : Class := { plain "com/example/psilattice/psilattice/core/SortMarksAddPinLaw" (some 0) with
  accessFlags := 49
  interfaces := #[]
  cf := some (fileOf pool1 22 #[] #[{ accessFlags := 1, nameIndex := 5, descriptorIndex := 6, attributes := #[] }, { accessFlags := 9, nameIndex := 26, descriptorIndex := 27, attributes := #[] }] 49 2 #[] #[])
  fields := #[]
  methods := #[k1m0, k1m1]
  instanceTypes := #[]
  staticTypes := #[]
  resolved := Array.replicate 31 none
  statics := none }

def pool2 : Array CpInfo := pool [(1, .methodref 2 3), (0, .class_ 4), (0, .nameAndType 5 6), (0, u "java/lang/Object"), (0, u "<init>"), (0, u "()V"), (0, .fieldref 8 9), (0, .class_ 10), (0, .nameAndType 11 12), (0, u "com/example/psilattice/psilattice/core/SortMarks"), (0, u "marks"), (0, u "[I"), (0, .methodref 14 15), (0, .class_ 16), (0, .nameAndType 17 18), (0, u "java/lang/Math"), (0, u "max"), (0, u "(II)I"), (0, .methodref 20 21), (0, .class_ 22), (0, .nameAndType 23 24), (0, u "java/util/Arrays"), (0, u "copyOf"), (0, u "([II)[I"), (0, .fieldref 8 26), (0, .nameAndType 27 28), (0, u "mark"), (0, u "I"), (2, .integer 2147483647), (6, u "start"), (0, u "(I)V"), (1, u "has"), (0, u "(I)Z"), (0, u "add")] 2

def k2c0 : Code := { maxStack := 2, maxLocals := 1, code := prog_29_method_1_code, exceptionTable := #[], attributes := #[] }
def k2m0 : Method := { name := "<init>", desc := "()V", sig := { parameters := [], returnType := none }, accessFlags := 0, code := some k2c0 }
def k2c1 : Code := { maxStack := 5, maxLocals := 2, code := prog_29_method_2_code, exceptionTable := #[], attributes := #[] }
def k2m1 : Method := { name := "start", desc := "(I)V", sig := { parameters := [.int], returnType := none }, accessFlags := 0, code := some k2c1 }
def k2c2 : Code := { maxStack := 2, maxLocals := 2, code := prog_29_method_3_code, exceptionTable := #[], attributes := #[] }
def k2m2 : Method := { name := "has", desc := "(I)Z", sig := { parameters := [.int], returnType := some .boolean }, accessFlags := 0, code := some k2c2 }
def k2c3 : Code := { maxStack := 3, maxLocals := 3, code := prog_29_method_4_code, exceptionTable := #[], attributes := #[] }
def k2m3 : Method := { name := "add", desc := "(I)Z", sig := { parameters := [.int], returnType := some .boolean }, accessFlags := 0, code := some k2c3 }
/-- com/example/psilattice/psilattice/core/SortMarks -/
def k2 : Class := { plain "com/example/psilattice/psilattice/core/SortMarks" (some 0) with
  accessFlags := 48
  interfaces := #[]
  cf := some (fileOf pool2 8 #[] #[{ accessFlags := 0, nameIndex := 5, descriptorIndex := 6, attributes := #[] }, { accessFlags := 0, nameIndex := 38, descriptorIndex := 39, attributes := #[] }, { accessFlags := 0, nameIndex := 41, descriptorIndex := 42, attributes := #[] }, { accessFlags := 0, nameIndex := 43, descriptorIndex := 42, attributes := #[] }] 48 2 #[] #[{ accessFlags := 2, nameIndex := 11, descriptorIndex := 12, attributes := #[] }, { accessFlags := 2, nameIndex := 27, descriptorIndex := 28, attributes := #[] }])
  fields := #[{ name := "marks", type := (.array .int), accessFlags := 2, slot := 0, constantValue := 0 }, { name := "mark", type := .int, accessFlags := 2, slot := 1, constantValue := 0 }]
  methods := #[k2m0, k2m1, k2m2, k2m3]
  instanceTypes := #[(.array .int), .int]
  staticTypes := #[]
  resolved := Array.replicate 46 none
  statics := none }

def pool3 : Array CpInfo := pool [(1, .class_ 2), (0, u "java/lang/Math"), (1, .class_ 6), (1, u "java/lang/Object"), (0, u "<init>"), (0, u "()V"), (89, .class_ 100), (1, u "java/lang/Math$RandomNumberGeneratorHolder"), (71, u "negativeZeroFloatBits"), (0, u "J"), (2, u "negativeZeroDoubleBits"), (21, u "max"), (2, u "min"), (43, u "$assertionsDisabled"), (0, u "Z"), (88, u "(II)I"), (2, u "twoToTheDoubleScaleDown"), (0, u "D"), (4, u "twoToTheDoubleScaleUp"), (9, u "E"), (3, u "PI"), (2, u "TAU"), (2, u "DEGREES_TO_RADIANS"), (0, u "RADIANS_TO_DEGREES")] 94

def k3m0 : Method := { name := "<init>", desc := "()V", sig := { parameters := [], returnType := none }, accessFlags := 2, code := none }
def k3c1 : Code := { maxStack := 2, maxLocals := 2, code := jdk_29_method_65_code, exceptionTable := #[], attributes := #[] }
def k3m1 : Method := { name := "max", desc := "(II)I", sig := { parameters := [.int, .int], returnType := some .int }, accessFlags := 9, code := some k3c1 }
def k3c2 : Code := { maxStack := 2, maxLocals := 2, code := jdk_29_method_69_code, exceptionTable := #[], attributes := #[] }
def k3m2 : Method := { name := "min", desc := "(II)I", sig := { parameters := [.int, .int], returnType := some .int }, accessFlags := 9, code := some k3c2 }
/-- java/lang/Math -/
def k3 : Class := { plain "java/lang/Math" (some 0) with
  accessFlags := 49
  interfaces := #[]
  cf := some (fileOf pool3 1 #[.nestMembers #[98]] #[{ accessFlags := 2, nameIndex := 7, descriptorIndex := 8, attributes := #[] }, { accessFlags := 9, nameIndex := 198, descriptorIndex := 335, attributes := #[] }, { accessFlags := 9, nameIndex := 201, descriptorIndex := 335, attributes := #[] }] 49 4 #[] #[{ accessFlags := 25, nameIndex := 354, descriptorIndex := 339, attributes := #[] }, { accessFlags := 25, nameIndex := 358, descriptorIndex := 339, attributes := #[] }, { accessFlags := 25, nameIndex := 361, descriptorIndex := 339, attributes := #[] }, { accessFlags := 26, nameIndex := 364, descriptorIndex := 339, attributes := #[] }, { accessFlags := 26, nameIndex := 365, descriptorIndex := 339, attributes := #[] }, { accessFlags := 26, nameIndex := 172, descriptorIndex := 173, attributes := #[] }, { accessFlags := 26, nameIndex := 176, descriptorIndex := 173, attributes := #[] }, { accessFlags := 8, nameIndex := 344, descriptorIndex := 339, attributes := #[] }, { accessFlags := 8, nameIndex := 338, descriptorIndex := 339, attributes := #[] }, { accessFlags := 4120, nameIndex := 245, descriptorIndex := 246, attributes := #[] }])
  fields := #[{ name := "E", type := .double, accessFlags := 25, slot := 0, constantValue := 0 }, { name := "PI", type := .double, accessFlags := 25, slot := 1, constantValue := 0 }, { name := "TAU", type := .double, accessFlags := 25, slot := 2, constantValue := 0 }, { name := "DEGREES_TO_RADIANS", type := .double, accessFlags := 26, slot := 3, constantValue := 0 }, { name := "RADIANS_TO_DEGREES", type := .double, accessFlags := 26, slot := 4, constantValue := 0 }, { name := "negativeZeroFloatBits", type := .long, accessFlags := 26, slot := 5, constantValue := 0 }, { name := "negativeZeroDoubleBits", type := .long, accessFlags := 26, slot := 6, constantValue := 0 }, { name := "twoToTheDoubleScaleUp", type := .double, accessFlags := 8, slot := 7, constantValue := 0 }, { name := "twoToTheDoubleScaleDown", type := .double, accessFlags := 8, slot := 8, constantValue := 0 }, { name := "$assertionsDisabled", type := .boolean, accessFlags := 4120, slot := 9, constantValue := 0 }]
  methods := #[k3m0, k3m1, k3m2]
  instanceTypes := #[]
  staticTypes := #[.double, .double, .double, .double, .double, .long, .long, .double, .double, .boolean]
  resolved := Array.replicate 460 none
  statics := none }

def pool4 : Array CpInfo := pool [(2, .class_ 4), (1, u "java/lang/Object"), (0, u "<init>"), (0, u "()V"), (7, .class_ 16), (1, u "java/util/Arrays"), (57, .class_ 76), (1, u "java/util/Arrays$NaturalOrder"), (36, .class_ 115), (1, u "java/util/Arrays$LegacyMergeSort"), (1, u "Z"), (32, .methodref 151 152), (0, .class_ 153), (0, .nameAndType 154 155), (0, u "java/lang/System"), (0, u "arraycopy"), (0, u "(Ljava/lang/Object;ILjava/lang/Object;II)V"), (146, u "copyOf"), (1, .methodref 305 306), (0, .class_ 307), (0, .nameAndType 308 309), (0, u "java/lang/Math"), (0, u "min"), (0, u "(II)I"), (65, .class_ 376), (0, u "java/util/Arrays$ArrayList"), (68, u "$assertionsDisabled"), (269, u "MIN_ARRAY_SORT_GRAN"), (0, u "I"), (2, u "INSERTIONSORT_THRESHOLD"), (151, u "([II)[I"), (103, .class_ 976), (0, u "java/util/Arrays$ArrayItr")] 52

def k4m0 : Method := { name := "<init>", desc := "()V", sig := { parameters := [], returnType := none }, accessFlags := 2, code := none }
def k4c1 : Code := { maxStack := 6, maxLocals := 3, code := jdk_65_method_123_code, exceptionTable := #[], attributes := #[] }
def k4m1 : Method := { name := "copyOf", desc := "([II)[I", sig := { parameters := [(.array .int), .int], returnType := some (.array .int) }, accessFlags := 9, code := some k4c1 }
/-- java/util/Arrays -/
def k4 : Class := { plain "java/util/Arrays" (some 0) with
  accessFlags := 49
  interfaces := #[]
  cf := some (fileOf pool4 14 #[.nestMembers #[975, 375, 113, 74]] #[{ accessFlags := 2, nameIndex := 5, descriptorIndex := 6, attributes := #[] }, { accessFlags := 9, nameIndex := 302, descriptorIndex := 871, attributes := #[] }] 49 2 #[] #[{ accessFlags := 26, nameIndex := 715, descriptorIndex := 716, attributes := #[] }, { accessFlags := 26, nameIndex := 719, descriptorIndex := 716, attributes := #[] }, { accessFlags := 4120, nameIndex := 445, descriptorIndex := 117, attributes := #[] }])
  fields := #[{ name := "MIN_ARRAY_SORT_GRAN", type := .int, accessFlags := 26, slot := 0, constantValue := 0 }, { name := "INSERTIONSORT_THRESHOLD", type := .int, accessFlags := 26, slot := 1, constantValue := 0 }, { name := "$assertionsDisabled", type := .boolean, accessFlags := 4120, slot := 2, constantValue := 0 }]
  methods := #[k4m0, k4m1]
  instanceTypes := #[]
  staticTypes := #[.int, .int, .boolean]
  resolved := Array.replicate 1029 none
  statics := none }

def pool5 : Array CpInfo := pool [(2, .class_ 4), (1, u "java/lang/Object"), (0, u "<init>"), (0, u "()V"), (1, .class_ 10), (1, u "java/lang/System"), (0, u "allowSecurityManager"), (0, u "I"), (16, u "cons"), (0, u "Ljava/io/Console;"), (77, .class_ 110), (1, u "java/lang/System$CallersHolder"), (43, u "initialErrStream"), (0, u "Ljava/io/PrintStream;"), (19, u "security"), (0, u "Ljava/lang/SecurityManager;"), (31, .class_ 209), (0, u "java/lang/System$1"), (7, u "props"), (0, u "Ljava/util/Properties;"), (2, u "lineSeparator"), (0, u "Ljava/lang/String;"), (96, .class_ 321), (1, u "java/lang/System$LoggerFinder"), (5, .class_ 328), (0, u "java/lang/System$Logger"), (67, u "err"), (2, u "out"), (91, u "notSupportedJnuEncoding"), (15, u "in"), (17, u "initialIn"), (0, u "Ljava/io/InputStream;"), (35, u "bootLayer"), (0, u "Ljava/lang/ModuleLayer;"), (99, .class_ 664), (0, u "java/lang/System$2"), (9, u "NEVER"), (2, u "MAYBE"), (49, u "arraycopy"), (0, u "(Ljava/lang/Object;ILjava/lang/Object;II)V"), (72, .class_ 802), (0, u "java/lang/System$Logger$Level")] 31

def k5m0 : Method := { name := "<init>", desc := "()V", sig := { parameters := [], returnType := none }, accessFlags := 2, code := none }
def k5m1 : Method := { name := "arraycopy", desc := "(Ljava/lang/Object;ILjava/lang/Object;II)V", sig := { parameters := [(.object "java/lang/Object"), .int, (.object "java/lang/Object"), .int, .int], returnType := none }, accessFlags := 265, code := none }
/-- java/lang/System -/
def k5 : Class := { plain "java/lang/System" (some 0) with
  accessFlags := 49
  interfaces := #[]
  cf := some (fileOf pool5 8 #[.nestMembers #[319, 327, 801, 108, 663, 208]] #[{ accessFlags := 2, nameIndex := 5, descriptorIndex := 6, attributes := #[] }, { accessFlags := 265, nameIndex := 727, descriptorIndex := 728, attributes := #[] }] 49 2 #[] #[{ accessFlags := 25, nameIndex := 507, descriptorIndex := 526, attributes := #[] }, { accessFlags := 25, nameIndex := 399, descriptorIndex := 155, attributes := #[] }, { accessFlags := 25, nameIndex := 396, descriptorIndex := 155, attributes := #[] }, { accessFlags := 10, nameIndex := 525, descriptorIndex := 526, attributes := #[] }, { accessFlags := 26, nameIndex := 674, descriptorIndex := 12, attributes := #[] }, { accessFlags := 26, nameIndex := 677, descriptorIndex := 12, attributes := #[] }, { accessFlags := 10, nameIndex := 11, descriptorIndex := 12, attributes := #[] }, { accessFlags := 74, nameIndex := 175, descriptorIndex := 176, attributes := #[] }, { accessFlags := 10, nameIndex := 491, descriptorIndex := 222, attributes := #[] }, { accessFlags := 74, nameIndex := 29, descriptorIndex := 30, attributes := #[] }, { accessFlags := 74, nameIndex := 154, descriptorIndex := 155, attributes := #[] }, { accessFlags := 10, nameIndex := 217, descriptorIndex := 218, attributes := #[] }, { accessFlags := 10, nameIndex := 221, descriptorIndex := 222, attributes := #[] }, { accessFlags := 8, nameIndex := 562, descriptorIndex := 563, attributes := #[] }])
  fields := #[{ name := "in", type := (.object "java/io/InputStream"), accessFlags := 25, slot := 0, constantValue := 0 }, { name := "out", type := (.object "java/io/PrintStream"), accessFlags := 25, slot := 1, constantValue := 0 }, { name := "err", type := (.object "java/io/PrintStream"), accessFlags := 25, slot := 2, constantValue := 0 }, { name := "initialIn", type := (.object "java/io/InputStream"), accessFlags := 10, slot := 3, constantValue := 0 }, { name := "NEVER", type := .int, accessFlags := 26, slot := 4, constantValue := 0 }, { name := "MAYBE", type := .int, accessFlags := 26, slot := 5, constantValue := 0 }, { name := "allowSecurityManager", type := .int, accessFlags := 10, slot := 6, constantValue := 0 }, { name := "security", type := (.object "java/lang/SecurityManager"), accessFlags := 74, slot := 7, constantValue := 0 }, { name := "notSupportedJnuEncoding", type := (.object "java/lang/String"), accessFlags := 10, slot := 8, constantValue := 0 }, { name := "cons", type := (.object "java/io/Console"), accessFlags := 74, slot := 9, constantValue := 0 }, { name := "initialErrStream", type := (.object "java/io/PrintStream"), accessFlags := 74, slot := 10, constantValue := 0 }, { name := "props", type := (.object "java/util/Properties"), accessFlags := 10, slot := 11, constantValue := 0 }, { name := "lineSeparator", type := (.object "java/lang/String"), accessFlags := 10, slot := 12, constantValue := 0 }, { name := "bootLayer", type := (.object "java/lang/ModuleLayer"), accessFlags := 8, slot := 13, constantValue := 0 }]
  methods := #[k5m0, k5m1]
  instanceTypes := #[]
  staticTypes := #[(.object "java/io/InputStream"), (.object "java/io/PrintStream"), (.object "java/io/PrintStream"), (.object "java/io/InputStream"), .int, .int, .int, (.object "java/lang/SecurityManager"), (.object "java/lang/String"), (.object "java/io/Console"), (.object "java/io/PrintStream"), (.object "java/util/Properties"), (.object "java/lang/String"), (.object "java/lang/ModuleLayer")]
  resolved := Array.replicate 834 none
  statics := none }

def pool6 : Array CpInfo := pool [(1, u "java/lang/Cloneable"), (0, .class_ 1), (0, u "java/lang/Object"), (0, .class_ 3)] 3

/-- java/lang/Cloneable -/
def k6 : Class := { plain "java/lang/Cloneable" (some 0) with
  accessFlags := 1537
  interfaces := #[]
  cf := some (fileOf pool6 2 #[] #[] 1537 4 #[] #[])
  fields := #[]
  methods := #[]
  instanceTypes := #[]
  staticTypes := #[]
  resolved := Array.replicate 8 none
  statics := none }

def pool7 : Array CpInfo := pool [(1, u "java/io/Serializable"), (0, .class_ 1), (0, u "java/lang/Object"), (0, .class_ 3)] 3

/-- java/io/Serializable -/
def k7 : Class := { plain "java/io/Serializable" (some 0) with
  accessFlags := 1537
  interfaces := #[]
  cf := some (fileOf pool7 2 #[] #[] 1537 4 #[] #[])
  fields := #[]
  methods := #[]
  instanceTypes := #[]
  staticTypes := #[]
  resolved := Array.replicate 8 none
  statics := none }

/-- the primitive byte -/
def k8 : Class := { plain "byte" none with kind := .primitive 'B', accessFlags := 0x411 }
/-- [B -/
def k9 : Class := { plain "[B" (some 0) with kind := .array 8 .byte, interfaces := #[6, 7], accessFlags := 1041 }

/-- the primitive int -/
def k10 : Class := { plain "int" none with kind := .primitive 'I', accessFlags := 0x411 }
/-- [I -/
def k11 : Class := { plain "[I" (some 0) with kind := .array 10 .int, interfaces := #[6, 7], accessFlags := 1041 }

def heap : Heap := #[]
def classes : Array Class := #[k0, k1, k2, k3, k4, k5, k6, k7, k8, k9, k10, k11]
def interned : List (Array UInt16 × Addr) := []
def slotsUsed : Nat := 0
def theMethod : MethodId := ⟨1, 1⟩
def args0 : Array Value := #[.int 5, .int 5, .int 5, .int 5]
def aboutOver (below : List Frame) : State where
  vm := { classes := classes, interned := interned.toArray }
  heap := heap
  slotsUsed := slotsUsed
  threads := #[{ frames := .invoking theMethod args0 :: below }]
def below0 : List Frame := [.native { method := ⟨0, 0⟩, args := #[] }]
def about1 : State := aboutOver below0
def p0 : Program := .bare "" "" ""
def e0 : Env := launch0.env 0 0 0
theorem w_frames : about1.frames = Frame.invoking theMethod args0 :: below0 := rfl
set_option maxRecDepth 65536 in
theorem w_args : argsFit about1.vm theMethod args0 = true := by decide +kernel
set_option maxRecDepth 65536 in
theorem w_heap : heapFits about1 = true := by decide +kernel
set_option maxRecDepth 65536 in
theorem w_runnable : about1.curStatus? = some .runnable := by decide +kernel
set_option maxRecDepth 65536 in
theorem w_alone : about1.alone = true := by decide +kernel
set_option maxRecDepth 65536 in
theorem w_named : about1.methodNamed? x = some theMethod := by decide +kernel
set_option maxRecDepth 65536 in
theorem w_hears : about1.hears theMethod below0 = true := by decide +kernel
set_option maxRecDepth 65536 in
theorem w_ripe : about1.ripe theMethod args0 below0 = true := by decide +kernel
theorem w_running : about1.status = .running := rfl
set_option maxRecDepth 65536 in
theorem w_room : about1.hasRoom e0.platform room_1 = true :=
  launch0.hasRoom_least _ room_1 (by decide +kernel) (by decide +kernel) (by decide +kernel) (by decide +kernel) (by decide +kernel) (by decide +kernel)
theorem allAtoms_all (ts : List Jvm.Cond) (a : Array Jvm.Value) (st : Jvm.State) : (allAtoms ts).before a st = ts.all (fun c => c.before a st) := by
  induction ts with
  | nil => rfl
  | cons c t ih =>
    show (Jvm.Cond.and c (allAtoms t)).before a st = _
    rw [Jvm.Cond.before_and, ih, List.all_cons]
def words1 : List Jvm.Cond := Jvm.Cond.code x code maxLocals ret :: tables_1
/-- a 'code' word, met by the world's own term for the bytes: nothing is compared byte by byte -/
theorem code_word {y : MethodName} {bytes : ByteArray} {mx : Nat} {rt : Option FieldType} {a : Array Value} {s : State} {m : MethodId} {meth : Method} {c : Code} (h1 : s.methodNamed? y = some m) (h2 : s.vm.method? m = some meth) (h3 : meth.code = some c) (h4 : c.code = bytes)
    (h5 : (c.maxLocals == mx && c.exceptionTable.isEmpty && decide (c.maxStack ≤ mostOperands) && decide (meth.sig.returnType = rt) && !meth.locks && decide (parseMethodDescriptor y.desc = some meth.sig)) = true) : (Jvm.Cond.code y bytes mx rt).before a s = true := by
  simp only [Bool.and_eq_true, beq_iff_eq, Bool.not_eq_true', decide_eq_true_eq] at h5
  obtain ⟨⟨⟨⟨⟨g1, g2⟩, g3⟩, g4⟩, g5⟩, g6⟩ := h5
  simp [Cond.before, Cond.holds, Cond.value, h1, h2, h3, h4, g1, g2, g3, g4, g5, g6]
def isCode : Jvm.Cond → Bool
  | .code _ _ _ _ => true
  | _ => false
theorem all_split {L : List Jvm.Cond} {P : Jvm.Cond → Bool} (h1 : L.all (fun c => isCode c || P c) = true) (h2 : ∀ c ∈ L.filter isCode, P c = true) : L.all P = true := by
  refine List.all_eq_true.mpr fun c hc => ?_
  have h := List.all_eq_true.mp h1 c hc
  rcases Bool.eq_false_or_eq_true (isCode c) with hi | hi
  · exact h2 c (List.mem_filter.mpr ⟨hc, hi⟩)
  · simpa [hi] using h
set_option maxRecDepth 65536 in
theorem w_c0 : (Jvm.Cond.code x code maxLocals ret).before args0 about1 = true := code_word (m := ⟨1, 1⟩) (meth := k1m1) (c := k1c1) (by decide +kernel) rfl rfl rfl (by decide +kernel)
set_option maxRecDepth 65536 in
theorem w_c1 : (Jvm.Cond.code ({ cls := "com/example/psilattice/psilattice/core/SortMarks", name := "<init>", desc := "()V" } : Jvm.MethodName) prog_29_method_1_code (1 : Nat) (Option.none : Option Jvm.ClassFile.FieldType)).before args0 about1 = true := code_word (m := ⟨2, 0⟩) (meth := k2m0) (c := k2c0) (by decide +kernel) rfl rfl rfl (by decide +kernel)
set_option maxRecDepth 65536 in
theorem w_c2 : (Jvm.Cond.code ({ cls := "java/lang/Object", name := "<init>", desc := "()V" } : Jvm.MethodName) object_method_1_code (1 : Nat) (Option.none : Option Jvm.ClassFile.FieldType)).before args0 about1 = true := code_word (m := ⟨0, 0⟩) (meth := k0m0) (c := k0c0) (by decide +kernel) rfl rfl rfl (by decide +kernel)
set_option maxRecDepth 65536 in
theorem w_c3 : (Jvm.Cond.code ({ cls := "com/example/psilattice/psilattice/core/SortMarks", name := "start", desc := "(I)V" } : Jvm.MethodName) prog_29_method_2_code (2 : Nat) (Option.none : Option Jvm.ClassFile.FieldType)).before args0 about1 = true := code_word (m := ⟨2, 1⟩) (meth := k2m1) (c := k2c1) (by decide +kernel) rfl rfl rfl (by decide +kernel)
set_option maxRecDepth 65536 in
theorem w_c4 : (Jvm.Cond.code ({ cls := "java/lang/Math", name := "max", desc := "(II)I" } : Jvm.MethodName) jdk_29_method_65_code (2 : Nat) (Option.some Jvm.ClassFile.FieldType.int)).before args0 about1 = true := code_word (m := ⟨3, 1⟩) (meth := k3m1) (c := k3c1) (by decide +kernel) rfl rfl rfl (by decide +kernel)
set_option maxRecDepth 65536 in
theorem w_c5 : (Jvm.Cond.code ({ cls := "java/util/Arrays", name := "copyOf", desc := "([II)[I" } : Jvm.MethodName) jdk_65_method_123_code (3 : Nat) (Option.some (Jvm.ClassFile.FieldType.array Jvm.ClassFile.FieldType.int))).before args0 about1 = true := code_word (m := ⟨4, 1⟩) (meth := k4m1) (c := k4c1) (by decide +kernel) rfl rfl rfl (by decide +kernel)
set_option maxRecDepth 65536 in
theorem w_c6 : (Jvm.Cond.code ({ cls := "java/lang/Math", name := "min", desc := "(II)I" } : Jvm.MethodName) jdk_29_method_69_code (2 : Nat) (Option.some Jvm.ClassFile.FieldType.int)).before args0 about1 = true := code_word (m := ⟨3, 2⟩) (meth := k3m2) (c := k3c2) (by decide +kernel) rfl rfl rfl (by decide +kernel)
set_option maxRecDepth 65536 in
theorem w_c7 : (Jvm.Cond.code ({ cls := "com/example/psilattice/psilattice/core/SortMarks", name := "has", desc := "(I)Z" } : Jvm.MethodName) prog_29_method_3_code (2 : Nat) (Option.some Jvm.ClassFile.FieldType.boolean)).before args0 about1 = true := code_word (m := ⟨2, 2⟩) (meth := k2m2) (c := k2c2) (by decide +kernel) rfl rfl rfl (by decide +kernel)
set_option maxRecDepth 65536 in
theorem w_c8 : (Jvm.Cond.code ({ cls := "com/example/psilattice/psilattice/core/SortMarks", name := "add", desc := "(I)Z" } : Jvm.MethodName) prog_29_method_4_code (3 : Nat) (Option.some Jvm.ClassFile.FieldType.boolean)).before args0 about1 = true := code_word (m := ⟨2, 3⟩) (meth := k2m3) (c := k2c3) (by decide +kernel) rfl rfl rfl (by decide +kernel)
def codes1 : List Jvm.Cond := [Jvm.Cond.code x code maxLocals ret, Jvm.Cond.code ({ cls := "com/example/psilattice/psilattice/core/SortMarks", name := "<init>", desc := "()V" } : Jvm.MethodName) prog_29_method_1_code (1 : Nat) (Option.none : Option Jvm.ClassFile.FieldType), Jvm.Cond.code ({ cls := "java/lang/Object", name := "<init>", desc := "()V" } : Jvm.MethodName) object_method_1_code (1 : Nat) (Option.none : Option Jvm.ClassFile.FieldType), Jvm.Cond.code ({ cls := "com/example/psilattice/psilattice/core/SortMarks", name := "start", desc := "(I)V" } : Jvm.MethodName) prog_29_method_2_code (2 : Nat) (Option.none : Option Jvm.ClassFile.FieldType), Jvm.Cond.code ({ cls := "java/lang/Math", name := "max", desc := "(II)I" } : Jvm.MethodName) jdk_29_method_65_code (2 : Nat) (Option.some Jvm.ClassFile.FieldType.int), Jvm.Cond.code ({ cls := "java/util/Arrays", name := "copyOf", desc := "([II)[I" } : Jvm.MethodName) jdk_65_method_123_code (3 : Nat) (Option.some (Jvm.ClassFile.FieldType.array Jvm.ClassFile.FieldType.int)), Jvm.Cond.code ({ cls := "java/lang/Math", name := "min", desc := "(II)I" } : Jvm.MethodName) jdk_29_method_69_code (2 : Nat) (Option.some Jvm.ClassFile.FieldType.int), Jvm.Cond.code ({ cls := "com/example/psilattice/psilattice/core/SortMarks", name := "has", desc := "(I)Z" } : Jvm.MethodName) prog_29_method_3_code (2 : Nat) (Option.some Jvm.ClassFile.FieldType.boolean), Jvm.Cond.code ({ cls := "com/example/psilattice/psilattice/core/SortMarks", name := "add", desc := "(I)Z" } : Jvm.MethodName) prog_29_method_4_code (3 : Nat) (Option.some Jvm.ClassFile.FieldType.boolean)]
set_option maxRecDepth 65536 in
theorem codes_eq : words1.filter isCode = codes1 := rfl
theorem w_codes : ∀ c ∈ words1.filter isCode, c.before args0 about1 = true := by
  rw [codes_eq]
  intro c hc
  simp only [codes1, List.mem_cons, List.not_mem_nil, or_false] at hc
  rcases hc with rfl | rfl | rfl | rfl | rfl | rfl | rfl | rfl | rfl
  · exact w_c0
  · exact w_c1
  · exact w_c2
  · exact w_c3
  · exact w_c4
  · exact w_c5
  · exact w_c6
  · exact w_c7
  · exact w_c8
set_option maxRecDepth 65536 in
theorem w_t1 : (words1.take 24).all (fun c => isCode c || c.before args0 about1) = true := by decide +kernel
set_option maxRecDepth 65536 in
theorem w_t2 : (words1.drop 24).all (fun c => isCode c || c.before args0 about1) = true := by decide +kernel
theorem w_tables : (allAtoms (Jvm.Cond.code x code maxLocals ret :: tables_1)).before args0 about1 = true := by
  rw [allAtoms_all]
  show words1.all (fun c => c.before args0 about1) = true
  refine all_split ?_ w_codes
  rw [← List.take_append_drop 24 words1, List.all_append, w_t1, w_t2]
  rfl
set_option maxRecDepth 65536 in
theorem w_case : (Jvm.Cond.and given_1 narrow_1).before args0 about1 = true := by decide +kernel
theorem w_applies : (headSpec (Jvm.Cond.code x code maxLocals ret :: tables_1) room_1).applies x e0.platform about1 = true :=
  (Spec.applies_iff w_frames).mpr ⟨w_running, w_runnable, w_alone, w_named, w_hears, w_ripe, w_room, w_tables⟩
theorem atStart : AtStart classFile x code maxLocals ret World_1 tables_1 room_1 Calls_1 rest_1 Pre_1 launch0 p0 e0 about1 theMethod args0 below0 :=
  ⟨lists_1, trivial, launch0.admits_env _ _ _, launch0.least_env, fairChoices_fair.cas, fairChoices_fair.clock, w_frames, w_args, w_heap, w_applies, trivial, trivial, w_case⟩
end start1
theorem witness_1 : WitnessClaimed_1 := ⟨start1.p0, start1.e0, start1.about1, start1.theMethod, start1.args0, start1.below0, start1.atStart⟩
end Jvm.Pilot.@@N@@
