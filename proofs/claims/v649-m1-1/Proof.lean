import JvmDerived
import JvmDerived.Pilot.@@N@@Statement
import JvmDerived.Pilot.@@N@@Code
set_option linter.unusedVariables false
set_option linter.unusedSimpArgs false
namespace Jvm.Pilot.@@N@@
open Jvm Jvm.ClassFile Sem Op Lib Jvm.Free Jvm.Stand Jvm.LawKit Jvm.RoadKit Bundle Jvm.Pilot.@@N@@.Jvm.D
section OwnKit
variable {p : Program} {l : Launch} {e : Env} {R : Room} {s : State} {m : MethodId} {args : Array Value} {below : List Frame} {meth : Method} {c : Code} {T : State} {locs : List Loc} {cells slots : Nat} {Z : State} {h h' : Heap} {a b : Addr} {ty : FieldType} {n : Nat} {f f' : Nat → Value} {sl : Nat} {v : Value} {ws : List Addr}
theorem own_dia {t : State} {B F : JFrame} (hh : Steps p.tables e below (T.setTop F) t → Steps p.tables e below (T.setTop B) t) (k : Steps p.tables e below (T.setTop F) t) : Steps p.tables e below (T.setTop B) t := hh k
/-- the place j lies in an array of n places -/
abbrev own_in (j : Int32) (n : Nat) : Prop := 0 ≤ j.toInt ∧ j.toInt < n
theorem own_in_nat {j : Int32} (hj : own_in j n) : j.toNatClampNeg < n := by simp only [Int32.toNatClampNeg]; omega
theorem own_in_arr {cl : Cell} {j : Int32} (hs : cl.slots.size = n) (hj : own_in j n) : ¬ (j < 0 ∨ cl.slots.size ≤ j.toNatClampNeg) := by
  have := own_in_nat hj
  have k0 : (0 : Int32).toInt = 0 := by decide
  rw [Int32.lt_iff_toInt_lt, hs, k0]; omega
/-- an array: its kind, its length, and what each place holds -/
def AF (Z : State) (h : Heap) (a : Addr) (ty : FieldType) (n : Nat) (f : Nat → Value) : Prop := ∃ c : Cell, Arr Z h a c ty ∧ c.slots.size = n ∧ n < 2147483648 ∧ ∀ j, j < n → c.slots[j]? = some (f j)
theorem AF.lt (F : AF Z h a ty n f) : a < h.size := by obtain ⟨c, A, -⟩ := F; exact A.lt
theorem AF.small (F : AF Z h a ty n f) : n < 2147483648 := by obtain ⟨c, -, -, q, -⟩ := F; exact q
theorem AF.ext (F : AF Z h a ty n f) (E : Ext h h') : AF Z h' a ty n f := by obtain ⟨c, A, r⟩ := F; exact ⟨c, A.ext E, r⟩
theorem AF.other (F : AF Z h b ty n f) (W : Wr h h' a sl v) (q : b ≠ a) : AF Z h' b ty n f := by obtain ⟨c, A, r⟩ := F; exact ⟨c, A.other W q, r⟩
theorem AF.keep (F : AF Z h a ty n f) (K : Keep h h' ws) (q : a ∉ ws) : AF Z h' a ty n f := by obtain ⟨c, A, r⟩ := F; exact ⟨c, ⟨K.2.1 a c A.1 q, A.2⟩, r⟩
theorem AF.cong (F : AF Z h a ty n f) (q : ∀ j, j < n → f j = f' j) : AF Z h a ty n f' := by obtain ⟨c, A, r1, r2, r3⟩ := F; exact ⟨c, A, r1, r2, fun j hj => by rw [← q j hj]; exact r3 j hj⟩
theorem AF.new {k : ClassId} {z : Int32} (A : Arr Z h a (newA k ty z) ty) (q : ¬ z < 0) : AF Z h a ty z.toNatClampNeg (fun _ => defaultValue ty) := ⟨_, A, sz_new _ _ _, (back32 q).2, fun j hj => by simp [newA, hj]⟩
theorem AF.set (F : AF Z h a ty n f) {k : Nat} (W : Wr h h' a k v) : AF Z h' a ty n (fun i => if i = k then v else f i) := by
  obtain ⟨c, A, r1, r2, r3⟩ := F
  refine ⟨_, Arr.same W A, by rw [sz_set]; exact r1, r2, fun j hj => ?_⟩
  obtain ⟨cell, h1, -, h3, -⟩ := W
  cases h1.symm.trans A.1
  by_cases q : j = k
  · subst q; simp [Cell.setSlot, h3]
  · have q' : ¬ k = j := fun z => q z.symm
    simp only [Cell.setSlot, Array.getElem?_setIfInBounds, if_neg q, if_neg q']; exact r3 j hj
theorem own_updI {g fN : Nat → Int32} {x : Int32} {J k : Nat} (hk : k = J) (hf : fN = fun i => if i = J then x else g i) : ∀ j, j < n → (if j = k then Value.int x else Value.int (g j)) = Value.int (fN j) := by
  subst hk hf; intro j _; by_cases q : j = k <;> simp [q]
theorem own_updJ {g fN : Nat → Int64} {x : Int64} {J k : Nat} (hk : k = J) (hf : fN = fun i => if i = J then x else g i) : ∀ j, j < n → (if j = k then Value.long x else Value.long (g j)) = Value.long (fN j) := by
  subst hk hf; intro j _; by_cases q : j = k <;> simp [q]
theorem AF.ldI (X : Stand p l e R s m args below meth c T locs cells slots) (hx : p.tables.exec = Jvm.exec) (hZ : Z.Warmed39 s.vm) (eT : T.heap = h) {f : Nat → Int32} (A : AF Z h a .int n (fun j => .int (f j))) {j : Int32} (hj : own_in j n) {g : JFrame} (hg : g.method = m) {rest : List Value} (hs : g.stack = .int j :: .ref a :: rest) (hd : decode c.code g.pc = .ok (.iaload, 1)) (target : State)
    (k : Steps p.tables e below (T.setTop { g with pc := g.pc + 1, stack := .int (f j.toNatClampNeg) :: rest }) target) : Steps p.tables e below (T.setTop g) target := by
  obtain ⟨cl, A, r1, r2, r3⟩ := A
  exact X.iaload hx (j := j) (v := .int (f j.toNatClampNeg)) (by rw [eT]; exact A.1) (State.isArrayOf_alike hZ.alike A.2.1) A.2.2 (own_in_arr r1 hj) (r3 _ (own_in_nat hj)) hg hs hd _ k
theorem AF.ldJ (X : Stand p l e R s m args below meth c T locs cells slots) (hx : p.tables.exec = Jvm.exec) (hZ : Z.Warmed39 s.vm) (eT : T.heap = h) {f : Nat → Int64} (A : AF Z h a .long n (fun j => .long (f j))) {j : Int32} (hj : own_in j n) {g : JFrame} (hg : g.method = m) {rest : List Value} (hs : g.stack = .int j :: .ref a :: rest) (hd : decode c.code g.pc = .ok (.laload, 1)) (target : State)
    (k : Steps p.tables e below (T.setTop { g with pc := g.pc + 1, stack := .long (f j.toNatClampNeg) :: rest }) target) : Steps p.tables e below (T.setTop g) target := by
  obtain ⟨cl, A, r1, r2, r3⟩ := A
  exact X.laload hx (j := j) (v := .long (f j.toNatClampNeg)) (by rw [eT]; exact A.1) (State.isArrayOf_alike hZ.alike A.2.1) A.2.2 (own_in_arr r1 hj) (r3 _ (own_in_nat hj)) hg hs hd _ k
theorem AF.ldB (X : Stand p l e R s m args below meth c T locs cells slots) (hx : p.tables.exec = Jvm.exec) (hZ : Z.Warmed39 s.vm) (eT : T.heap = h) {f : Nat → Int32} (A : AF Z h a .byte n (fun j => .int (f j))) {j : Int32} (hj : own_in j n) {g : JFrame} (hg : g.method = m) {rest : List Value} (hs : g.stack = .int j :: .ref a :: rest) (hd : decode c.code g.pc = .ok (.baload, 1)) (target : State)
    (k : Steps p.tables e below (T.setTop { g with pc := g.pc + 1, stack := .int (f j.toNatClampNeg) :: rest }) target) : Steps p.tables e below (T.setTop g) target := by
  obtain ⟨cl, A, r1, r2, r3⟩ := A
  exact X.baloadBytes hx (j := j) (v := .int (f j.toNatClampNeg)) (by rw [eT]; exact A.1) (State.isArrayOf_alike hZ.alike A.2.1) A.2.2 (own_in_arr r1 hj) (r3 _ (own_in_nat hj)) hg hs hd _ k
theorem AF.len (X : Stand p l e R s m args below meth c T locs cells slots) (hx : p.tables.exec = Jvm.exec) (hZ : Z.Warmed39 s.vm) (eT : T.heap = h) (A : AF Z h a ty n f) {g : JFrame} (hg : g.method = m) {rest : List Value} (hs : g.stack = .ref a :: rest) (hd : decode c.code g.pc = .ok (.arraylength, 1)) (target : State)
    (k : Steps p.tables e below (T.setTop { g with pc := g.pc + 1, stack := .int (Int32.ofNat n) :: rest }) target) : Steps p.tables e below (T.setTop g) target := by
  obtain ⟨cl, A, r1, r2, r3⟩ := A
  subst r1
  exact X.arraylength hx (by rw [eT]; exact A.1) (State.isArrayOf_alike hZ.alike A.2.1) hg hs hd _ k
theorem AF.stI (X : Stand p l e R s m args below meth c T locs cells slots) (hx : p.tables.exec = Jvm.exec) (hZ : Z.Warmed39 s.vm) (eT : T.heap = h) (A : AF Z h a .int n f) {j x : Int32} (hj : own_in j n) {g : JFrame} (hg : g.method = m) {rest : List Value} (hs : g.stack = .int x :: .int j :: .ref a :: rest) (hd : decode c.code g.pc = .ok (.iastore, 1)) :
    ∃ T' h', Stand p l e R s m args below meth c T' (locs ++ [⟨a, j.toNatClampNeg⟩]) cells slots ∧ T'.heap = h' ∧ Wr h h' a j.toNatClampNeg (.int x) ∧ AF Z h' a .int n (fun i => if i = j.toNatClampNeg then .int x else f i) ∧ ∀ target, Steps p.tables e below (T'.setTop { g with pc := g.pc + 1, stack := rest }) target → Steps p.tables e below (T.setTop g) target := by
  have A0 := A
  obtain ⟨cl, A, r1, r2, r3⟩ := A
  obtain ⟨T', h', X', e', W, st⟩ := Jvm.RoadKit.stI X hx hZ eT A (j := j) (own_in_arr r1 hj) hg hs hd
  exact ⟨T', h', X', e', W, A0.set W, st⟩
theorem AF.stJ (X : Stand p l e R s m args below meth c T locs cells slots) (hx : p.tables.exec = Jvm.exec) (hZ : Z.Warmed39 s.vm) (eT : T.heap = h) (A : AF Z h a .long n f) {j : Int32} {x : Int64} (hj : own_in j n) {g : JFrame} (hg : g.method = m) {rest : List Value} (hs : g.stack = .long x :: .int j :: .ref a :: rest) (hd : decode c.code g.pc = .ok (.lastore, 1)) :
    ∃ T' h', Stand p l e R s m args below meth c T' (locs ++ [⟨a, j.toNatClampNeg⟩]) cells slots ∧ T'.heap = h' ∧ Wr h h' a j.toNatClampNeg (.long x) ∧ AF Z h' a .long n (fun i => if i = j.toNatClampNeg then .long x else f i) ∧ ∀ target, Steps p.tables e below (T'.setTop { g with pc := g.pc + 1, stack := rest }) target → Steps p.tables e below (T.setTop g) target := by
  have A0 := A
  obtain ⟨cl, A, r1, r2, r3⟩ := A
  obtain ⟨T', h', X', e', W, st⟩ := Jvm.RoadKit.stJ X hx hZ eT A (j := j) (own_in_arr r1 hj) hg hs hd
  exact ⟨T', h', X', e', W, A0.set W, st⟩
theorem AF.stB (X : Stand p l e R s m args below meth c T locs cells slots) (hx : p.tables.exec = Jvm.exec) (hZ : Z.Warmed39 s.vm) (eT : T.heap = h) (A : AF Z h a .byte n f) {j x : Int32} (hj : own_in j n) {g : JFrame} (hg : g.method = m) {rest : List Value} (hs : g.stack = .int x :: .int j :: .ref a :: rest) (hd : decode c.code g.pc = .ok (.bastore, 1)) :
    ∃ T' h', Stand p l e R s m args below meth c T' (locs ++ [⟨a, j.toNatClampNeg⟩]) cells slots ∧ T'.heap = h' ∧ Wr h h' a j.toNatClampNeg (.int x.toInt8.toInt32) ∧ AF Z h' a .byte n (fun i => if i = j.toNatClampNeg then .int x.toInt8.toInt32 else f i) ∧ ∀ target, Steps p.tables e below (T'.setTop { g with pc := g.pc + 1, stack := rest }) target → Steps p.tables e below (T.setTop g) target := by
  have A0 := A
  obtain ⟨cl, A, r1, r2, r3⟩ := A
  obtain ⟨T', h', X', e', W, st⟩ := Jvm.RoadKit.stB X hx hZ eT A (j := j) (own_in_arr r1 hj) hg hs hd
  exact ⟨T', h', X', e', W, A0.set W, st⟩
theorem own_cpyI {f g fN : Nat → Int32} {k : Nat} (hf : fN = fun j => if j < k then f j else g j) : ∀ j, j < n → (if j < k then Value.int (f j) else Value.int (g j)) = Value.int (fN j) := by
  subst hf; intro j _; by_cases q : j < k <;> simp [q]
theorem own_cpyJ {f g fN : Nat → Int64} {k : Nat} (hf : fN = fun j => if j < k then f j else g j) : ∀ j, j < n → (if j < k then Value.long (f j) else Value.long (g j)) = Value.long (fN j) := by
  subst hf; intro j _; by_cases q : j < k <;> simp [q]
theorem own_acW {own : String} {index : Nat} (h1 : (Jvm.Cond.methodLink own index Jvm.Stand.acN).before args s = true) (h2 : (Jvm.Cond.native Jvm.Stand.acN).before args s = true) (h3 : (Jvm.Cond.static Jvm.Stand.acN).before args s = true) (h4 : (Jvm.Cond.initialized "java/lang/System").before args s = true) : ∀ w ∈ Jvm.Free.XT.acW own index, w.before args s = true := by
  intro w hw
  change w ∈ [Jvm.Cond.methodLink own index Jvm.Stand.acN, Jvm.Cond.native Jvm.Stand.acN, Jvm.Cond.static Jvm.Stand.acN, Jvm.Cond.initialized "java/lang/System"] at hw
  simp only [List.mem_cons, List.not_mem_nil, or_false] at hw
  rcases hw with rfl | rfl | rfl | rfl
  · exact h1
  · exact h2
  · exact h3
  · exact h4
theorem own_isArr {c c' : Cell} (q : Z.isArrayOf c ty) (h1 : c'.cls = c.cls) (h2 : c'.vm = c.vm) : Z.isArrayOf c' ty := by
  obtain ⟨q1, k, q2, q3⟩ := q
  exact ⟨by rw [h2]; exact q1, k, by rw [h1]; exact q2, q3⟩
theorem AF.copy (X : Stand p l e R s m args below meth c T locs cells slots) (hx : p.tables.exec = Jvm.exec) (hZ : Z.Warmed39 s.vm) {own : String} {index : Nat} (hown : s.vm.findClass own = some m.cls) (hw : ∀ w ∈ Jvm.Free.XT.acW own index, w.before args s = true)
    (eT : T.heap = h) {k : Nat} {f' : Nat → Value} (A : AF Z h a ty n f) (B : AF Z h b ty k f') (hp : ty.isReference = false) {cnt : Nat} (hfit : ∀ j, j < cnt → fits ty (f j) = true) (h1 : cnt ≤ n) (h2 : cnt ≤ k) {jn : Int32} (hn : jn = Int32.ofNat cnt)
    {g : JFrame} (hg : g.method = m) (hsize : g.locals.size = c.maxLocals) {rest : List Value} (hs : g.stack = .int jn :: .int 0 :: .ref b :: .int 0 :: .ref a :: rest) (hd : decode c.code g.pc = .ok (.invokestatic index, 3))
    {W : Nat} (hW : 2 * g.monitorRoom + (rest.map fun v => v.category).sum ≤ W) (hfr : 1 ≤ R.frames) (hlo : W + 40 ≤ R.locals) :
    ∃ (T' : State) (h' : Heap) (L' : List Loc), Stand p l e R s m args below meth c T' (locs ++ L') cells slots ∧ T'.heap = h' ∧ (∀ y ∈ L', y.base = b) ∧ Keep h h' [b] ∧ AF Z h' b ty k (fun j => if j < cnt then f j else f' j) ∧
      ∀ target, Steps p.tables e below (T'.setTop { g with pc := g.pc + 3, stack := rest }) target → Steps p.tables e below (T.setTop g) target := by
  obtain ⟨ca, A, a1, a2, a3⟩ := A
  obtain ⟨cb, B, b1, b2, b3⟩ := B
  have tA : Jvm.Free.XT.Arr ty a ca T := ⟨by rw [eT]; exact A.1, State.isArrayOf_alike X.warmed.alike (State.isArrayOf_alike hZ.alike A.2.1), A.2.2, by omega⟩
  have tB : Jvm.Free.XT.Arr ty b cb T := ⟨by rw [eT]; exact B.1, State.isArrayOf_alike X.warmed.alike (State.isArrayOf_alike hZ.alike B.2.1), B.2.2, by omega⟩
  have ga : ∀ j, j < n → ca.slots.getD j .null = f j := fun j hj => by
    have q := a3 j hj
    rw [Array.getD_eq_getD_getElem?, q]; rfl
  obtain ⟨T', B', X', P, q1, q2, q3, q4, st⟩ := X.acopy hx (o := 0) (q := 0) (n := cnt) (jo := 0) (jq := 0) hown hw tA tB (by simp) rfl rfl hn (by omega) (by omega)
    (fun i hi => ⟨by rw [Nat.zero_add, ga i (by omega)]; exact hfit i hi, fun z => by rw [hp] at z; cases z⟩) hg hsize hs hd hW hfr hlo
  refine ⟨T', _, _, X', rfl, fun y hy => ?_, ⟨by rw [P.2.2, eT]; exact Nat.le_refl _, fun x cx hx' hn' => ?_, fun x cx hx' => ?_⟩, ⟨B', ⟨P.1, own_isArr B.2.1 q1 q2, by rw [q2]; exact B.2.2⟩, q3.trans b1, b2, fun j hj => ?_⟩, st⟩
  · simp only [copyLocs, List.mem_map] at hy
    obtain ⟨i, -, rfl⟩ := hy
    rfl
  · rw [P.2.1 x (fun z => hn' (by simp [z])), eT]; exact hx'
  · by_cases z : x = b
    · subst z
      cases hx'.symm.trans B.1
      exact ⟨B', P.1, q1, q2, q3⟩
    · exact ⟨cx, by rw [P.2.1 x z, eT]; exact hx', rfl, rfl, rfl⟩
  · show _ = some (if j < cnt then f j else f' j)
    rw [q4 j]
    by_cases z : j < cnt
    · rw [if_pos (by omega), if_pos z]
      have : 0 + (j - 0) = j := by omega
      rw [this, ga j (by omega)]
    · rw [if_neg (by omega), if_neg z]; exact b3 j hj
theorem own_nb (x : Int32) : nar .boolean x = x &&& 1 := rfl
theorem own_nar1 : nar .boolean 1 = 1 := rfl
theorem own_nar0 : nar .boolean 0 = 0 := rfl
theorem own_nbyte (x : Int32) : nar .byte x = x.toInt8.toInt32 := rfl
theorem own_nar_ite (q : Prop) [Decidable q] (x y : Int32) : nar .boolean (if q then x else y) = if q then nar .boolean x else nar .boolean y := by split <;> rfl
theorem own_pos_ne {x : Int64} (q : 0 < x) : x ≠ 0 := fun z => by subst z; exact absurd q (by decide)
theorem own_cat {w : Value} (q : w.isRef = true) : w.category = 1 := by cases w <;> first | rfl | (simp [Value.isRef] at q)
/-- a static field that holds v, in a heap that keeps all that was old at the start -/
def SO (Z : State) (n0 : Nat) (h : Heap) (C n d : String) (v : Value) : Prop := Sta Z Z.heap C n d v ∧ Old Z n0 h
theorem SO.ext {n0 : Nat} {C nm d : String} (F : SO Z n0 h C nm d v) (E : Ext h h') : SO Z n0 h' C nm d v := ⟨F.1, F.2.ext E⟩
theorem SO.wr {n0 : Nat} {C nm d : String} {w : Value} (F : SO Z n0 h C nm d v) (W : Wr h h' a sl w) (q : n0 ≤ a) : SO Z n0 h' C nm d v := ⟨F.1, F.2.wr W q⟩
theorem SO.keep {n0 : Nat} {C nm d : String} (F : SO Z n0 h C nm d v) (K : Keep h h' ws) (q : ∀ x ∈ ws, n0 ≤ x) : SO Z n0 h' C nm d v := ⟨F.1, F.2.keep K q⟩
theorem SO.sta {n0 : Nat} {C nm d : String} (F : SO Z n0 h C nm d v) : Sta Z h C nm d v := F.1.ext F.2.2
theorem own_selp {y : MethodName} {n : Nat} (wi : (Jvm.Cond.instantiable y.cls n).before args s = true) (hpriv : s.PrivateAt y) (hinst : (Jvm.Cond.instanceMethod y).before args s = true) (hy : y.cls ≠ "java/lang/invoke/MethodHandle" ∧ y.cls ≠ "java/lang/invoke/VarHandle") : (Jvm.Cond.selects y.cls y y).before args s = true := by
  obtain ⟨c, k, h1, h2, -, h4, -⟩ := Cond.instantiable_spec wi
  exact Jvm.Stand.selects_self_of_private h1 h2 (by simp only [Bool.or_eq_false_iff] at h4; exact h4.1) hpriv hinst hy
end OwnKit

theorem pn_0 : plainName "com/example/paperloom/paperloom/ItemSharesEvenSquaresPinLaw" = true := by first | (simp [plainName, overriddenIn]; done) | decide +kernel
theorem d1_0 : decode jdk_29_method_70_code 0 = .ok (.lload_n 0, 1) := by decide +kernel
theorem d1_1 : decode jdk_29_method_70_code 1 = .ok (.lload_n 2, 1) := by decide +kernel
theorem d1_2 : decode jdk_29_method_70_code 2 = .ok (.lcmp, 1) := by decide +kernel
theorem d1_3 : decode jdk_29_method_70_code 3 = .ok (.ifCond .gt 7, 3) := by decide +kernel
theorem d1_6 : decode jdk_29_method_70_code 6 = .ok (.lload_n 0, 1) := by decide +kernel
theorem d1_7 : decode jdk_29_method_70_code 7 = .ok (.goto 4, 3) := by decide +kernel
theorem d1_10 : decode jdk_29_method_70_code 10 = .ok (.lload_n 2, 1) := by decide +kernel
theorem d1_11 : decode jdk_29_method_70_code 11 = .ok (.lreturn, 1) := by decide +kernel
theorem d2_0 : decode prog_23_method_7_code 0 = .ok (.lconst 0, 1) := by decide +kernel
theorem d2_1 : decode prog_23_method_7_code 1 = .ok (.lstore 4, 2) := by decide +kernel
theorem d2_3 : decode prog_23_method_7_code 3 = .ok (.lload_n 2, 1) := by decide +kernel
theorem d2_4 : decode prog_23_method_7_code 4 = .ok (.lconst 0, 1) := by decide +kernel
theorem d2_5 : decode prog_23_method_7_code 5 = .ok (.lcmp, 1) := by decide +kernel
theorem d2_6 : decode prog_23_method_7_code 6 = .ok (.ifCond .le 38, 3) := by decide +kernel
theorem d2_9 : decode prog_23_method_7_code 9 = .ok (.lload_n 0, 1) := by decide +kernel
theorem d2_10 : decode prog_23_method_7_code 10 = .ok (.lload_n 2, 1) := by decide +kernel
theorem d2_11 : decode prog_23_method_7_code 11 = .ok (.ldiv, 1) := by decide +kernel
theorem d2_12 : decode prog_23_method_7_code 12 = .ok (.lstore 6, 2) := by decide +kernel
theorem d2_14 : decode prog_23_method_7_code 14 = .ok (.lload_n 0, 1) := by decide +kernel
theorem d2_15 : decode prog_23_method_7_code 15 = .ok (.lload_n 2, 1) := by decide +kernel
theorem d2_16 : decode prog_23_method_7_code 16 = .ok (.lrem, 1) := by decide +kernel
theorem d2_17 : decode prog_23_method_7_code 17 = .ok (.lstore 8, 2) := by decide +kernel
theorem d2_19 : decode prog_23_method_7_code 19 = .ok (.lload 6, 2) := by decide +kernel
theorem d2_21 : decode prog_23_method_7_code 21 = .ok (.lload 6, 2) := by decide +kernel
theorem d2_23 : decode prog_23_method_7_code 23 = .ok (.lmul, 1) := by decide +kernel
theorem d2_24 : decode prog_23_method_7_code 24 = .ok (.lload_n 2, 1) := by decide +kernel
theorem d2_25 : decode prog_23_method_7_code 25 = .ok (.lload 8, 2) := by decide +kernel
theorem d2_27 : decode prog_23_method_7_code 27 = .ok (.lsub, 1) := by decide +kernel
theorem d2_28 : decode prog_23_method_7_code 28 = .ok (.lmul, 1) := by decide +kernel
theorem d2_29 : decode prog_23_method_7_code 29 = .ok (.lload 6, 2) := by decide +kernel
theorem d2_31 : decode prog_23_method_7_code 31 = .ok (.lconst 1, 1) := by decide +kernel
theorem d2_32 : decode prog_23_method_7_code 32 = .ok (.ladd, 1) := by decide +kernel
theorem d2_33 : decode prog_23_method_7_code 33 = .ok (.lload 6, 2) := by decide +kernel
theorem d2_35 : decode prog_23_method_7_code 35 = .ok (.lconst 1, 1) := by decide +kernel
theorem d2_36 : decode prog_23_method_7_code 36 = .ok (.ladd, 1) := by decide +kernel
theorem d2_37 : decode prog_23_method_7_code 37 = .ok (.lmul, 1) := by decide +kernel
theorem d2_38 : decode prog_23_method_7_code 38 = .ok (.lload 8, 2) := by decide +kernel
theorem d2_40 : decode prog_23_method_7_code 40 = .ok (.lmul, 1) := by decide +kernel
theorem d2_41 : decode prog_23_method_7_code 41 = .ok (.ladd, 1) := by decide +kernel
theorem d2_42 : decode prog_23_method_7_code 42 = .ok (.lstore 4, 2) := by decide +kernel
theorem d2_44 : decode prog_23_method_7_code 44 = .ok (.lload 4, 2) := by decide +kernel
theorem d2_46 : decode prog_23_method_7_code 46 = .ok (.lreturn, 1) := by decide +kernel
theorem pn_2 : plainName "com/example/paperloom/paperloom/ItemShares" = true := by first | (simp [plainName, overriddenIn]; done) | decide +kernel
theorem pd_0 : parseMethodDescriptor "(JJ)J" = some ⟨[.long, .long], some .long⟩ := by decide +kernel

theorem ef_1 (m : MethodId) (q0 : Int64) (q1 : Int64) : entryFrame m #[(.long q0), (.long q1)] 4 = mkF m 0 #[.val (.long q0), .second, .val (.long q1), .second] [] := by first | (simp [entryFrame, mkF, argsToLocals, Value.category]; done) | rfl
def Q1 (Z : State) (q0 : Int64) (q1 : Int64) (h0 : Heap) (n0 : Nat) (v : Option Value) (h : Heap) (L : List Loc) : Prop := v = some (.long (if q1 < q0 then q1 else q0)) ∧ Fr n0 L ∧ h = h0
set_option maxRecDepth 65536 in
set_option maxHeartbeats 40000000 in
theorem rm1 (l : Launch) (Z : State) (A0 : Array Value) (hw : ∀ d ∈ tables_1, d.before A0 Z = true) (ws : List Jvm.Cond) (q0 : Int64) (q1 : Int64) (h0 : Heap) (n0 : Nat) (Z0 : n0 ≤ h0.size) :
    MetFree l (⟨"java/lang/Math", "min", "(JJ)J"⟩ : MethodName) (head1 (Jvm.Cond.code (⟨"java/lang/Math", "min", "(JJ)J"⟩ : MethodName) jdk_29_method_70_code 4 (some .long) :: ws) ({ frames := 0, cells := 0, slots := 0, locals := 0 } : Room)) (fun a U => a = #[(.long q0), (.long q1)] ∧ Z.Warmed39 U.vm ∧ U.heap = h0) (fun _ _ _ _ _ => True) (fun _ U o U' => ∃ v L, o = .returned v ∧ Q1 Z q0 q1 h0 n0 v U'.heap L ∧ FrameEnd U o U' L ({ frames := 0, cells := 0, slots := 0, locals := 0 } : Room).cells ({ frames := 0, cells := 0, slots := 0, locals := 0 } : Room).slots) := by
  refine MetFree.of_bodySF (Jvm.Free.JP.mathPlain rfl (by decide +kernel)) hisR ?_
  intro p e s m args below meth c s₁ Bd hml0 hP hK
  obtain ⟨rfl, hZ, hh⟩ := hP
  have hx := Bd.exec
  have hby := Bd.bytes
  have hml : c.maxLocals = 4 := hml0
  have hown : s.vm.findClass "java/lang/Math" = some m.cls := findClass_of_methodNamed Bd.named
  have hnm := (name_of_methodNamed Bd.named Bd.method).1
  have X0 : Stand p l e ({ frames := 0, cells := 0, slots := 0, locals := 0 } : Room) s m #[(.long q0), (.long q1)] below meth c s₁ [] 0 0 := Stand.of_body Bd
  have e0 : s₁.heap = h0 := by rw [← hh, Bd.state]; rfl
  have N0 := Fr.nil n0
  have pre0 : ∀ t, Steps p.tables e below (s₁.setTop (mkF m 0 #[.val (.long q0), .second, .val (.long q1), .second] [])) t → Steps p.tables e below (s₁.setTop (entryFrame m #[(.long q0), (.long q1)] 4)) t := fun t k => castTop (ef_1 m q0 q1) k
  obtain ⟨v2, hv2⟩ : ∃ z : Int64, z = if q1 < q0 then q1 else q0 := ⟨_, rfl⟩
  obtain ⟨fs, hr, hrun, hended, hW, hsame⟩ := X0.leave (v := some (.long v2)) (fun h => by rw [Bd.returns] at h; cases h)
  refine ⟨_, _, pre0 _ ?_, hrun, hended, _, _, rfl, ?_, ⟨_, rfl⟩, hW, hsame.mono (by decide) (by decide)⟩
  · show Steps p.tables e below (s₁.setTop (mkF m 0 #[.val (.long q0), .second, .val (.long q1), .second] [])) _
    refine XS.lloadN X0.here hx rfl (hb hby d1_0) rfl ?_
    show Steps p.tables e below (s₁.setTop (mkF m 1 #[.val (.long q0), .second, .val (.long q1), .second] [(.long q0)])) _
    refine XS.lloadN X0.here hx rfl (hb hby d1_1) rfl ?_
    show Steps p.tables e below (s₁.setTop (mkF m 2 #[.val (.long q0), .second, .val (.long q1), .second] [(.long q1), (.long q0)])) _
    refine XS.lcmp X0.here hx rfl (hb hby d1_2) rfl ?_
    show Steps p.tables e below (s₁.setTop (mkF m 3 #[.val (.long q0), .second, .val (.long q1), .second] [(.int (lcmpW q0 q1))])) _
    refine own_dia (F := (mkF m 11 #[.val (.long q0), .second, .val (.long q1), .second] [(.long v2)])) ?_ ?_
    · intro kt
      by_cases hc1 : q1 < q0
      · show Steps p.tables e below (s₁.setTop (mkF m 3 #[.val (.long q0), .second, .val (.long q1), .second] [(.int (lcmpW q0 q1))])) _
        refine XS.ifYes X0.here hx rfl (pc0 := 3) (pc' := 10) rfl (hb hby d1_3) rfl ((if0 _ _).trans (tlt ((lw_gt q0 q1).mpr hc1)).2.2.1) (by decide) (by decide) ?_
        show Steps p.tables e below (s₁.setTop (mkF m 10 #[.val (.long q0), .second, .val (.long q1), .second] [])) _
        refine XS.lloadN X0.here hx rfl (hb hby d1_10) rfl ?_
        exact castTop (by rw [hv2, if_pos hc1] <;> rfl) kt
      · show Steps p.tables e below (s₁.setTop (mkF m 3 #[.val (.long q0), .second, .val (.long q1), .second] [(.int (lcmpW q0 q1))])) _
        refine XS.ifNo X0.here hx rfl (hb hby d1_3) rfl ((if0 _ _).trans (flt (fun q => hc1 ((lw_gt q0 q1).mp q))).2.2.1) ?_
        show Steps p.tables e below (s₁.setTop (mkF m 6 #[.val (.long q0), .second, .val (.long q1), .second] [])) _
        refine XS.lloadN X0.here hx rfl (hb hby d1_6) rfl ?_
        show Steps p.tables e below (s₁.setTop (mkF m 7 #[.val (.long q0), .second, .val (.long q1), .second] [(.long q0)])) _
        refine XS.goto X0.here hx rfl (pc0 := 7) (pc' := 11) rfl (hb hby d1_7) (by decide) (by decide) ?_
        exact castTop (by rw [hv2, if_neg hc1] <;> rfl) kt
    show Steps p.tables e below (s₁.setTop (mkF m 11 #[.val (.long q0), .second, .val (.long q1), .second] [(.long v2)])) _
    exact retOut X0 hx Bd.returns rfl (Or.inr (Or.inl ⟨rfl, rfl, _, rfl⟩)) (hb hby d1_11) hr
  · show Q1 Z q0 q1 h0 n0 _ s₁.heap _
    subst hv2
    exact ⟨rfl, N0, e0⟩
theorem ef_2 (m : MethodId) (q0 : Int64) (q1 : Int64) : entryFrame m #[(.long q0), (.long q1)] 10 = mkF m 0 #[.val (.long q0), .second, .val (.long q1), .second, .unset, .unset, .unset, .unset, .unset, .unset] [] := by first | (simp [entryFrame, mkF, argsToLocals, Value.category]; done) | rfl
def own_es (q0 : Int64) (q1 : Int64) : Int64 := (if (0 : Int64) < q1 then ((((q0 / q1) * (q0 / q1)) * (q1 - (q0 % q1))) + ((((q0 / q1) + (1 : Int64)) * ((q0 / q1) + (1 : Int64))) * (q0 % q1))) else (0 : Int64))
def Q2 (Z : State) (q0 : Int64) (q1 : Int64) (h0 : Heap) (n0 : Nat) (v : Option Value) (h : Heap) (L : List Loc) : Prop := v = some (.long (own_es q0 q1)) ∧ Fr n0 L ∧ h = h0
set_option maxRecDepth 65536 in
set_option maxHeartbeats 40000000 in
theorem rm2 (l : Launch) (Z : State) (A0 : Array Value) (hw : ∀ d ∈ tables_1, d.before A0 Z = true) (ws : List Jvm.Cond) (q0 : Int64) (q1 : Int64) (h0 : Heap) (n0 : Nat) (Z0 : n0 ≤ h0.size) :
    MetFree l (⟨"com/example/paperloom/paperloom/ItemShares", "evenSquares", "(JJ)J"⟩ : MethodName) (head1 (Jvm.Cond.code (⟨"com/example/paperloom/paperloom/ItemShares", "evenSquares", "(JJ)J"⟩ : MethodName) prog_23_method_7_code 10 (some .long) :: ws) ({ frames := 0, cells := 0, slots := 0, locals := 0 } : Room)) (fun a U => a = #[(.long q0), (.long q1)] ∧ Z.Warmed39 U.vm ∧ U.heap = h0) (fun _ _ _ _ _ => True) (fun _ U o U' => ∃ v L, o = .returned v ∧ Q2 Z q0 q1 h0 n0 v U'.heap L ∧ FrameEnd U o U' L ({ frames := 0, cells := 0, slots := 0, locals := 0 } : Room).cells ({ frames := 0, cells := 0, slots := 0, locals := 0 } : Room).slots) := by
  refine MetFree.of_bodySF (plainFor_of_name pn_2) hisR ?_
  intro p e s m args below meth c s₁ Bd hml0 hP hK
  obtain ⟨rfl, hZ, hh⟩ := hP
  have hx := Bd.exec
  have hby := Bd.bytes
  have hml : c.maxLocals = 10 := hml0
  have hown : s.vm.findClass "com/example/paperloom/paperloom/ItemShares" = some m.cls := findClass_of_methodNamed Bd.named
  have hnm := (name_of_methodNamed Bd.named Bd.method).1
  have X0 : Stand p l e ({ frames := 0, cells := 0, slots := 0, locals := 0 } : Room) s m #[(.long q0), (.long q1)] below meth c s₁ [] 0 0 := Stand.of_body Bd
  have e0 : s₁.heap = h0 := by rw [← hh, Bd.state]; rfl
  have N0 := Fr.nil n0
  have pre0 : ∀ t, Steps p.tables e below (s₁.setTop (mkF m 0 #[.val (.long q0), .second, .val (.long q1), .second, .unset, .unset, .unset, .unset, .unset, .unset] [])) t → Steps p.tables e below (s₁.setTop (entryFrame m #[(.long q0), (.long q1)] 10)) t := fun t k => castTop (ef_2 m q0 q1) k
  obtain ⟨v2, hv2⟩ : ∃ z : Int64, z = ((((q0 / q1) * (q0 / q1)) * (q1 - (q0 % q1))) + ((((q0 / q1) + (1 : Int64)) * ((q0 / q1) + (1 : Int64))) * (q0 % q1))) := ⟨_, rfl⟩
  obtain ⟨v3, hv3⟩ : ∃ z : Int64, z = if (0 : Int64) < q1 then v2 else (0 : Int64) := ⟨_, rfl⟩
  obtain ⟨sl4, hsl4⟩ : ∃ z : Slot, z = if (0 : Int64) < q1 then .val (.long (q0 / q1)) else .unset := ⟨_, rfl⟩
  obtain ⟨sl5, hsl5⟩ : ∃ z : Slot, z = if (0 : Int64) < q1 then .second else .unset := ⟨_, rfl⟩
  obtain ⟨sl6, hsl6⟩ : ∃ z : Slot, z = if (0 : Int64) < q1 then .val (.long (q0 % q1)) else .unset := ⟨_, rfl⟩
  obtain ⟨sl7, hsl7⟩ : ∃ z : Slot, z = if (0 : Int64) < q1 then .second else .unset := ⟨_, rfl⟩
  obtain ⟨fs, hr, hrun, hended, hW, hsame⟩ := X0.leave (v := some (.long v3)) (fun h => by rw [Bd.returns] at h; cases h)
  refine ⟨_, _, pre0 _ ?_, hrun, hended, _, _, rfl, ?_, ⟨_, rfl⟩, hW, hsame.mono (by decide) (by decide)⟩
  · show Steps p.tables e below (s₁.setTop (mkF m 0 #[.val (.long q0), .second, .val (.long q1), .second, .unset, .unset, .unset, .unset, .unset, .unset] [])) _
    refine XS.lconst X0.here hx rfl (hb hby d2_0) ?_
    show Steps p.tables e below (s₁.setTop (mkF m 1 #[.val (.long q0), .second, .val (.long q1), .second, .unset, .unset, .unset, .unset, .unset, .unset] [(.long (0 : Int64))])) _
    refine XS.lstore X0.here hx rfl (hb hby d2_1) rfl (l' := #[.val (.long q0), .second, .val (.long q1), .second, .val (.long (0 : Int64)), .second, .unset, .unset, .unset, .unset]) rfl ?_
    show Steps p.tables e below (s₁.setTop (mkF m 3 #[.val (.long q0), .second, .val (.long q1), .second, .val (.long (0 : Int64)), .second, .unset, .unset, .unset, .unset] [])) _
    refine XS.lloadN X0.here hx rfl (hb hby d2_3) rfl ?_
    show Steps p.tables e below (s₁.setTop (mkF m 4 #[.val (.long q0), .second, .val (.long q1), .second, .val (.long (0 : Int64)), .second, .unset, .unset, .unset, .unset] [(.long q1)])) _
    refine XS.lconst X0.here hx rfl (hb hby d2_4) ?_
    show Steps p.tables e below (s₁.setTop (mkF m 5 #[.val (.long q0), .second, .val (.long q1), .second, .val (.long (0 : Int64)), .second, .unset, .unset, .unset, .unset] [(.long (0 : Int64)), (.long q1)])) _
    refine XS.lcmp X0.here hx rfl (hb hby d2_5) rfl ?_
    show Steps p.tables e below (s₁.setTop (mkF m 6 #[.val (.long q0), .second, .val (.long q1), .second, .val (.long (0 : Int64)), .second, .unset, .unset, .unset, .unset] [(.int (lcmpW q1 (0 : Int64)))])) _
    refine own_dia (F := (mkF m 44 #[.val (.long q0), .second, .val (.long q1), .second, .val (.long v3), .second, sl4, sl5, sl6, sl7] [])) ?_ ?_
    · intro kt
      by_cases hc1 : (0 : Int64) < q1
      · show Steps p.tables e below (s₁.setTop (mkF m 6 #[.val (.long q0), .second, .val (.long q1), .second, .val (.long (0 : Int64)), .second, .unset, .unset, .unset, .unset] [(.int (lcmpW q1 (0 : Int64)))])) _
        refine XS.ifNo X0.here hx rfl (hb hby d2_6) rfl ((if0 _ _).trans (tlt ((lw_gt q1 (0 : Int64)).mpr hc1)).2.2.2) ?_
        show Steps p.tables e below (s₁.setTop (mkF m 9 #[.val (.long q0), .second, .val (.long q1), .second, .val (.long (0 : Int64)), .second, .unset, .unset, .unset, .unset] [])) _
        refine XS.lloadN X0.here hx rfl (hb hby d2_9) rfl ?_
        show Steps p.tables e below (s₁.setTop (mkF m 10 #[.val (.long q0), .second, .val (.long q1), .second, .val (.long (0 : Int64)), .second, .unset, .unset, .unset, .unset] [(.long q0)])) _
        refine XS.lloadN X0.here hx rfl (hb hby d2_10) rfl ?_
        show Steps p.tables e below (s₁.setTop (mkF m 11 #[.val (.long q0), .second, .val (.long q1), .second, .val (.long (0 : Int64)), .second, .unset, .unset, .unset, .unset] [(.long q1), (.long q0)])) _
        refine XS.ldiv X0.here hx rfl (hb hby d2_11) rfl (own_pos_ne hc1) ?_
        show Steps p.tables e below (s₁.setTop (mkF m 12 #[.val (.long q0), .second, .val (.long q1), .second, .val (.long (0 : Int64)), .second, .unset, .unset, .unset, .unset] [(.long (q0 / q1))])) _
        refine XS.lstore X0.here hx rfl (hb hby d2_12) rfl (l' := #[.val (.long q0), .second, .val (.long q1), .second, .val (.long (0 : Int64)), .second, .val (.long (q0 / q1)), .second, .unset, .unset]) rfl ?_
        show Steps p.tables e below (s₁.setTop (mkF m 14 #[.val (.long q0), .second, .val (.long q1), .second, .val (.long (0 : Int64)), .second, .val (.long (q0 / q1)), .second, .unset, .unset] [])) _
        refine XS.lloadN X0.here hx rfl (hb hby d2_14) rfl ?_
        show Steps p.tables e below (s₁.setTop (mkF m 15 #[.val (.long q0), .second, .val (.long q1), .second, .val (.long (0 : Int64)), .second, .val (.long (q0 / q1)), .second, .unset, .unset] [(.long q0)])) _
        refine XS.lloadN X0.here hx rfl (hb hby d2_15) rfl ?_
        show Steps p.tables e below (s₁.setTop (mkF m 16 #[.val (.long q0), .second, .val (.long q1), .second, .val (.long (0 : Int64)), .second, .val (.long (q0 / q1)), .second, .unset, .unset] [(.long q1), (.long q0)])) _
        refine XS.lrem X0.here hx rfl (hb hby d2_16) rfl (own_pos_ne hc1) ?_
        rw [lrem_mod]
        show Steps p.tables e below (s₁.setTop (mkF m 17 #[.val (.long q0), .second, .val (.long q1), .second, .val (.long (0 : Int64)), .second, .val (.long (q0 / q1)), .second, .unset, .unset] [(.long (q0 % q1))])) _
        refine XS.lstore X0.here hx rfl (hb hby d2_17) rfl (l' := #[.val (.long q0), .second, .val (.long q1), .second, .val (.long (0 : Int64)), .second, .val (.long (q0 / q1)), .second, .val (.long (q0 % q1)), .second]) rfl ?_
        show Steps p.tables e below (s₁.setTop (mkF m 19 #[.val (.long q0), .second, .val (.long q1), .second, .val (.long (0 : Int64)), .second, .val (.long (q0 / q1)), .second, .val (.long (q0 % q1)), .second] [])) _
        refine XS.lload X0.here hx rfl (hb hby d2_19) rfl ?_
        show Steps p.tables e below (s₁.setTop (mkF m 21 #[.val (.long q0), .second, .val (.long q1), .second, .val (.long (0 : Int64)), .second, .val (.long (q0 / q1)), .second, .val (.long (q0 % q1)), .second] [(.long (q0 / q1))])) _
        refine XS.lload X0.here hx rfl (hb hby d2_21) rfl ?_
        show Steps p.tables e below (s₁.setTop (mkF m 23 #[.val (.long q0), .second, .val (.long q1), .second, .val (.long (0 : Int64)), .second, .val (.long (q0 / q1)), .second, .val (.long (q0 % q1)), .second] [(.long (q0 / q1)), (.long (q0 / q1))])) _
        refine XS.lmul X0.here hx rfl (hb hby d2_23) rfl ?_
        show Steps p.tables e below (s₁.setTop (mkF m 24 #[.val (.long q0), .second, .val (.long q1), .second, .val (.long (0 : Int64)), .second, .val (.long (q0 / q1)), .second, .val (.long (q0 % q1)), .second] [(.long ((q0 / q1) * (q0 / q1)))])) _
        refine XS.lloadN X0.here hx rfl (hb hby d2_24) rfl ?_
        show Steps p.tables e below (s₁.setTop (mkF m 25 #[.val (.long q0), .second, .val (.long q1), .second, .val (.long (0 : Int64)), .second, .val (.long (q0 / q1)), .second, .val (.long (q0 % q1)), .second] [(.long q1), (.long ((q0 / q1) * (q0 / q1)))])) _
        refine XS.lload X0.here hx rfl (hb hby d2_25) rfl ?_
        show Steps p.tables e below (s₁.setTop (mkF m 27 #[.val (.long q0), .second, .val (.long q1), .second, .val (.long (0 : Int64)), .second, .val (.long (q0 / q1)), .second, .val (.long (q0 % q1)), .second] [(.long (q0 % q1)), (.long q1), (.long ((q0 / q1) * (q0 / q1)))])) _
        refine XS.lsub X0.here hx rfl (hb hby d2_27) rfl ?_
        show Steps p.tables e below (s₁.setTop (mkF m 28 #[.val (.long q0), .second, .val (.long q1), .second, .val (.long (0 : Int64)), .second, .val (.long (q0 / q1)), .second, .val (.long (q0 % q1)), .second] [(.long (q1 - (q0 % q1))), (.long ((q0 / q1) * (q0 / q1)))])) _
        refine XS.lmul X0.here hx rfl (hb hby d2_28) rfl ?_
        show Steps p.tables e below (s₁.setTop (mkF m 29 #[.val (.long q0), .second, .val (.long q1), .second, .val (.long (0 : Int64)), .second, .val (.long (q0 / q1)), .second, .val (.long (q0 % q1)), .second] [(.long (((q0 / q1) * (q0 / q1)) * (q1 - (q0 % q1))))])) _
        refine XS.lload X0.here hx rfl (hb hby d2_29) rfl ?_
        show Steps p.tables e below (s₁.setTop (mkF m 31 #[.val (.long q0), .second, .val (.long q1), .second, .val (.long (0 : Int64)), .second, .val (.long (q0 / q1)), .second, .val (.long (q0 % q1)), .second] [(.long (q0 / q1)), (.long (((q0 / q1) * (q0 / q1)) * (q1 - (q0 % q1))))])) _
        refine XS.lconst X0.here hx rfl (hb hby d2_31) ?_
        show Steps p.tables e below (s₁.setTop (mkF m 32 #[.val (.long q0), .second, .val (.long q1), .second, .val (.long (0 : Int64)), .second, .val (.long (q0 / q1)), .second, .val (.long (q0 % q1)), .second] [(.long (1 : Int64)), (.long (q0 / q1)), (.long (((q0 / q1) * (q0 / q1)) * (q1 - (q0 % q1))))])) _
        refine XS.ladd X0.here hx rfl (hb hby d2_32) rfl ?_
        show Steps p.tables e below (s₁.setTop (mkF m 33 #[.val (.long q0), .second, .val (.long q1), .second, .val (.long (0 : Int64)), .second, .val (.long (q0 / q1)), .second, .val (.long (q0 % q1)), .second] [(.long ((q0 / q1) + (1 : Int64))), (.long (((q0 / q1) * (q0 / q1)) * (q1 - (q0 % q1))))])) _
        refine XS.lload X0.here hx rfl (hb hby d2_33) rfl ?_
        show Steps p.tables e below (s₁.setTop (mkF m 35 #[.val (.long q0), .second, .val (.long q1), .second, .val (.long (0 : Int64)), .second, .val (.long (q0 / q1)), .second, .val (.long (q0 % q1)), .second] [(.long (q0 / q1)), (.long ((q0 / q1) + (1 : Int64))), (.long (((q0 / q1) * (q0 / q1)) * (q1 - (q0 % q1))))])) _
        refine XS.lconst X0.here hx rfl (hb hby d2_35) ?_
        show Steps p.tables e below (s₁.setTop (mkF m 36 #[.val (.long q0), .second, .val (.long q1), .second, .val (.long (0 : Int64)), .second, .val (.long (q0 / q1)), .second, .val (.long (q0 % q1)), .second] [(.long (1 : Int64)), (.long (q0 / q1)), (.long ((q0 / q1) + (1 : Int64))), (.long (((q0 / q1) * (q0 / q1)) * (q1 - (q0 % q1))))])) _
        refine XS.ladd X0.here hx rfl (hb hby d2_36) rfl ?_
        show Steps p.tables e below (s₁.setTop (mkF m 37 #[.val (.long q0), .second, .val (.long q1), .second, .val (.long (0 : Int64)), .second, .val (.long (q0 / q1)), .second, .val (.long (q0 % q1)), .second] [(.long ((q0 / q1) + (1 : Int64))), (.long ((q0 / q1) + (1 : Int64))), (.long (((q0 / q1) * (q0 / q1)) * (q1 - (q0 % q1))))])) _
        refine XS.lmul X0.here hx rfl (hb hby d2_37) rfl ?_
        show Steps p.tables e below (s₁.setTop (mkF m 38 #[.val (.long q0), .second, .val (.long q1), .second, .val (.long (0 : Int64)), .second, .val (.long (q0 / q1)), .second, .val (.long (q0 % q1)), .second] [(.long (((q0 / q1) + (1 : Int64)) * ((q0 / q1) + (1 : Int64)))), (.long (((q0 / q1) * (q0 / q1)) * (q1 - (q0 % q1))))])) _
        refine XS.lload X0.here hx rfl (hb hby d2_38) rfl ?_
        show Steps p.tables e below (s₁.setTop (mkF m 40 #[.val (.long q0), .second, .val (.long q1), .second, .val (.long (0 : Int64)), .second, .val (.long (q0 / q1)), .second, .val (.long (q0 % q1)), .second] [(.long (q0 % q1)), (.long (((q0 / q1) + (1 : Int64)) * ((q0 / q1) + (1 : Int64)))), (.long (((q0 / q1) * (q0 / q1)) * (q1 - (q0 % q1))))])) _
        refine XS.lmul X0.here hx rfl (hb hby d2_40) rfl ?_
        show Steps p.tables e below (s₁.setTop (mkF m 41 #[.val (.long q0), .second, .val (.long q1), .second, .val (.long (0 : Int64)), .second, .val (.long (q0 / q1)), .second, .val (.long (q0 % q1)), .second] [(.long ((((q0 / q1) + (1 : Int64)) * ((q0 / q1) + (1 : Int64))) * (q0 % q1))), (.long (((q0 / q1) * (q0 / q1)) * (q1 - (q0 % q1))))])) _
        refine XS.ladd X0.here hx rfl (hb hby d2_41) rfl ?_
        show Steps p.tables e below (s₁.setTop (mkF m 42 #[.val (.long q0), .second, .val (.long q1), .second, .val (.long (0 : Int64)), .second, .val (.long (q0 / q1)), .second, .val (.long (q0 % q1)), .second] [(.long ((((q0 / q1) * (q0 / q1)) * (q1 - (q0 % q1))) + ((((q0 / q1) + (1 : Int64)) * ((q0 / q1) + (1 : Int64))) * (q0 % q1))))])) _
        refine castTop (g' := (mkF m 42 #[.val (.long q0), .second, .val (.long q1), .second, .val (.long (0 : Int64)), .second, .val (.long (q0 / q1)), .second, .val (.long (q0 % q1)), .second] [(.long v2)])) (by rw [hv2] <;> rfl) ?_
        show Steps p.tables e below (s₁.setTop (mkF m 42 #[.val (.long q0), .second, .val (.long q1), .second, .val (.long (0 : Int64)), .second, .val (.long (q0 / q1)), .second, .val (.long (q0 % q1)), .second] [(.long v2)])) _
        refine XS.lstore X0.here hx rfl (hb hby d2_42) rfl (l' := #[.val (.long q0), .second, .val (.long q1), .second, .val (.long v2), .second, .val (.long (q0 / q1)), .second, .val (.long (q0 % q1)), .second]) rfl ?_
        exact castTop (by rw [hv3, if_pos hc1, hsl4, if_pos hc1, hsl5, if_pos hc1, hsl6, if_pos hc1, hsl7, if_pos hc1] <;> rfl) kt
      · show Steps p.tables e below (s₁.setTop (mkF m 6 #[.val (.long q0), .second, .val (.long q1), .second, .val (.long (0 : Int64)), .second, .unset, .unset, .unset, .unset] [(.int (lcmpW q1 (0 : Int64)))])) _
        refine XS.ifYes X0.here hx rfl (pc0 := 6) (pc' := 44) rfl (hb hby d2_6) rfl ((if0 _ _).trans (flt (fun q => hc1 ((lw_gt q1 (0 : Int64)).mp q))).2.2.2) (by decide) (by decide) ?_
        exact castTop (by rw [hv3, if_neg hc1, hsl4, if_neg hc1, hsl5, if_neg hc1, hsl6, if_neg hc1, hsl7, if_neg hc1] <;> rfl) kt
    show Steps p.tables e below (s₁.setTop (mkF m 44 #[.val (.long q0), .second, .val (.long q1), .second, .val (.long v3), .second, sl4, sl5, sl6, sl7] [])) _
    refine XS.lload X0.here hx rfl (hb hby d2_44) rfl ?_
    show Steps p.tables e below (s₁.setTop (mkF m 46 #[.val (.long q0), .second, .val (.long q1), .second, .val (.long v3), .second, sl4, sl5, sl6, sl7] [(.long v3)])) _
    exact retOut X0 hx Bd.returns rfl (Or.inr (Or.inl ⟨rfl, rfl, _, rfl⟩)) (hb hby d2_46) hr
  · show Q2 Z q0 q1 h0 n0 _ s₁.heap _
    subst hv2 hv3 hsl4 hsl5 hsl6 hsl7
    exact ⟨rfl, N0, e0⟩

theorem own_es_pos (lo n : Int64) (hn : 0 < n.toInt) : own_es lo n = (((lo / n) * (lo / n)) * (n - (lo % n))) + ((((lo / n) + 1) * ((lo / n) + 1)) * (lo % n)) := by
  unfold own_es
  rw [if_pos (by rw [Int64.lt_iff_toInt_lt]; exact hn)]
theorem own_div (x n : Int64) (hx : 0 ≤ x.toInt) (hn : 0 < n.toInt) : (x / n).toInt = x.toInt / n.toInt ∧ (x % n).toInt = x.toInt % n.toInt := by
  have k : (-1 : Int64).toInt = -1 := by decide
  have ne : n ≠ -1 := fun q => by rw [q, k] at hn; omega
  refine ⟨(c_ldiv x n n.toInt rfl ne).1 hx, ?_⟩
  have z := (c_lrem x n n.toInt rfl).1 hx
  rw [lrem_mod] at z
  exact z
theorem own_step (lo n : Int64) (h0 : 0 ≤ lo.toInt) (h1 : lo.toInt < 9223372036854775807) (hn : 0 < n.toInt) : own_es (lo + 1) n - own_es lo n = (2 * (lo / n)) + 1 := by
  have k1 : (1 : Int64).toInt = 1 := by decide
  have k0 : (0 : Int64).toInt = 0 := by decide
  have e1 : (lo + 1).toInt = lo.toInt + 1 := by
    have a := c_ladd lo 1
    have r := rng64 (lo + 1)
    rw [k1] at a
    omega
  obtain ⟨d1, m1⟩ := own_div lo n h0 hn
  obtain ⟨d2, m2⟩ := own_div (lo + 1) n (by omega) hn
  rw [own_es_pos _ _ hn, own_es_pos _ _ hn]
  have hm0 := Int.emod_nonneg lo.toInt (show n.toInt ≠ 0 by omega)
  have hm1 := Int.emod_lt_of_pos lo.toInt hn
  have hdm := Int.emod_add_mul_ediv lo.toInt n.toInt
  have hq0 : 0 ≤ lo.toInt / n.toInt := Int.ediv_nonneg h0 (by omega)
  have hq1 : lo.toInt / n.toInt ≤ lo.toInt := Int.ediv_le_self _ h0
  have rn := rng64 n
  by_cases c : lo.toInt % n.toInt + 1 < n.toInt
  · obtain ⟨u1, u2⟩ := (Int.ediv_emod_unique (a := lo.toInt + 1) (b := n.toInt) (r := lo.toInt % n.toInt + 1) (q := lo.toInt / n.toInt) hn).mpr ⟨by omega, by omega, c⟩
    have f1 : (lo + 1) / n = lo / n := Int64.toInt_inj.mp (by rw [d2, d1, e1, u1])
    have f2 : (lo + 1) % n = lo % n + 1 := by
      apply Int64.toInt_inj.mp
      have a := c_ladd (lo % n) 1
      have r := rng64 (lo % n + 1)
      rw [k1] at a
      rw [m2, e1, u2]
      omega
    rw [f1, f2]
    generalize lo / n = q
    generalize lo % n = r
    grind
  · have hc : lo.toInt % n.toInt + 1 = n.toInt := by omega
    obtain ⟨u1, u2⟩ := (Int.ediv_emod_unique (a := lo.toInt + 1) (b := n.toInt) (r := 0) (q := lo.toInt / n.toInt + 1) hn).mpr ⟨by rw [Int.mul_add]; omega, by omega, hn⟩
    have f1 : (lo + 1) / n = lo / n + 1 := by
      apply Int64.toInt_inj.mp
      have a := c_ladd (lo / n) 1
      have r := rng64 (lo / n + 1)
      rw [k1] at a
      rw [d2, e1, u1]
      omega
    have f2 : (lo + 1) % n = 0 := Int64.toInt_inj.mp (by rw [m2, e1, u2, k0])
    have f3 : n = lo % n + 1 := by
      apply Int64.toInt_inj.mp
      have a := c_ladd (lo % n) 1
      have r := rng64 (lo % n + 1)
      rw [k1] at a
      omega
    rw [f1, f2]
    generalize lo / n = q at *
    generalize lo % n = r at *
    subst f3
    grind
theorem own_zero (n : Int64) : own_es 0 n = 0 := by
  by_cases hn : 0 < n.toInt
  · rw [own_es_pos _ _ hn]
    have k0 : (0 : Int64).toInt = 0 := by decide
    obtain ⟨d, m⟩ := own_div 0 n (by rw [k0]; omega) hn
    have z1 : (0 : Int64) / n = 0 := Int64.toInt_inj.mp (by rw [d, k0]; simp)
    have z2 : (0 : Int64) % n = 0 := Int64.toInt_inj.mp (by rw [m, k0]; simp)
    rw [z1, z2]
    grind
  · unfold own_es
    rw [if_neg (by rw [Int64.lt_iff_toInt_lt]; exact hn)]

theorem own_law (q0 : Int64) (q1 : Int64) (v2 : Int64) (v4 : Int64) (v6 : Int64) (v8 : Int64) (v13 : Int32) (v14 : Int32) (v15 : Int32) (v18 : Int32) (v19 : Int32) (r20 : Int32) (hv2 : v2 = (if (9223372036854775806 : Int64) < (q0 &&& (9223372036854775807 : Int64)) then (9223372036854775806 : Int64) else (q0 &&& (9223372036854775807 : Int64)))) (hv4 : v4 = (own_es v2 (q1 &&& (9223372036854775807 : Int64)))) (hv6 : v6 = (own_es (v2 + (1 : Int64)) (q1 &&& (9223372036854775807 : Int64)))) (hv8 : v8 = (own_es (0 : Int64) (q1 &&& (9223372036854775807 : Int64)))) (hv13 : v13 = (if v8 = (0 : Int64) then (1 : Int32) else (0 : Int32))) (hv14 : v14 = (if v6 = (0 : Int64) then v13 else (0 : Int32))) (hv15 : v15 = (if v4 = (0 : Int64) then v14 else (0 : Int32))) (hv18 : v18 = (if (v6 - v4) = (((2 : Int64) * (v2 / (q1 &&& (9223372036854775807 : Int64)))) + (1 : Int64)) then (1 : Int32) else (0 : Int32))) (hv19 : v19 = (if v8 = (0 : Int64) then v18 else (0 : Int32))) (hr20 : r20 = (if (q1 &&& (9223372036854775807 : Int64)) = (0 : Int64) then (nar .boolean v15) else (nar .boolean v19))) : r20 = (1 : Int32) := by
  have k0 : (0 : Int64).toInt = 0 := by decide
  have kM : (9223372036854775806 : Int64).toInt = 9223372036854775806 := by decide
  have a1 : (q0 &&& (9223372036854775807 : Int64)).toInt = q0.toInt % (2 ^ 63 : Nat) := c_maskL q0 _ 63 (by decide) (by decide)
  have a2 : (q1 &&& (9223372036854775807 : Int64)).toInt = q1.toInt % (2 ^ 63 : Nat) := c_maskL q1 _ 63 (by decide) (by decide)
  have b : 0 ≤ v2.toInt ∧ v2.toInt < 9223372036854775807 := by
    rw [hv2]
    by_cases c : (9223372036854775806 : Int64) < (q0 &&& (9223372036854775807 : Int64))
    · rw [if_pos c, kM]; omega
    · rw [if_neg c]; rw [Int64.lt_iff_toInt_lt, kM] at c; omega
  have z8 : v8 = 0 := by rw [hv8]; exact own_zero _
  generalize (q1 &&& (9223372036854775807 : Int64)) = n at *
  rw [hr20]
  by_cases c : n = (0 : Int64)
  · have e : ∀ x, own_es x n = 0 := fun x => by unfold own_es; rw [if_neg (by rw [c]; decide)]
    have z4 : v4 = 0 := by rw [hv4]; exact e _
    have z6 : v6 = 0 := by rw [hv6]; exact e _
    rw [if_pos c, hv15, if_pos z4, hv14, if_pos z6, hv13, if_pos z8, own_nar1]
  · have hn : 0 < n.toInt := by
      have : ¬ n.toInt = 0 := fun q => c (Int64.toInt_inj.mp (q.trans k0.symm))
      omega
    have s := own_step v2 n b.1 b.2 hn
    rw [← hv4, ← hv6] at s
    rw [if_neg c, hv19, if_pos z8, hv18, if_pos s, own_nar1]
theorem ef_0 (m : MethodId) (q0 : Int64) (q1 : Int64) : entryFrame m #[(.long q0), (.long q1)] maxLocals = mkF m 0 #[.val (.long q0), .second, .val (.long q1), .second, .unset, .unset, .unset, .unset, .unset, .unset, .unset, .unset, .unset, .unset, .unset, .unset, .unset, .unset] [] := by first | (simp [entryFrame, mkF, argsToLocals, Value.category, maxLocals]; done) | rfl
def Q0 (h0 : Heap) (n0 : Nat) (v : Option Value) (h : Heap) (L : List Loc) : Prop := v = some (.int 1) ∧ Fr n0 L
set_option maxRecDepth 65536 in
set_option maxHeartbeats 40000000 in
theorem rm0 (l : Launch) (Z : State) (A0 : Array Value) (hw : ∀ d ∈ tables_1, d.before A0 Z = true) (ws : List Jvm.Cond) (q0 : Int64) (q1 : Int64) (h0 : Heap) (n0 : Nat) (Z0 : n0 ≤ h0.size) :
    MetFree l x (head1 (Jvm.Cond.code x code maxLocals ret :: ws) room_1) (fun a U => a = #[(.long q0), (.long q1)] ∧ Z.Warmed39 U.vm ∧ U.heap = h0) (fun _ _ _ _ _ => True) (fun _ U o U' => ∃ v L, o = .returned v ∧ Q0 h0 n0 v U'.heap L ∧ FrameEnd U o U' L 0 0) := by
  refine MetFree.of_bodySF (plainFor_of_name pn_0) hisR ?_
  intro p e s m args below meth c s₁ Bd hml0 hP hK
  obtain ⟨rfl, hZ, hh⟩ := hP
  have hx := Bd.exec
  have hby := Bd.bytes
  have hml : c.maxLocals = 18 := hml0
  have hown : s.vm.findClass "com/example/paperloom/paperloom/ItemSharesEvenSquaresPinLaw" = some m.cls := findClass_of_methodNamed Bd.named
  have hnm := (name_of_methodNamed Bd.named Bd.method).1
  have X0 : Stand p l e room_1 s m #[(.long q0), (.long q1)] below meth c s₁ [] 0 0 := Stand.of_body Bd
  have e0 : s₁.heap = h0 := by rw [← hh, Bd.state]; rfl
  have N0 := Fr.nil n0
  have pre0 : ∀ t, Steps p.tables e below (s₁.setTop (mkF m 0 #[.val (.long q0), .second, .val (.long q1), .second, .unset, .unset, .unset, .unset, .unset, .unset, .unset, .unset, .unset, .unset, .unset, .unset, .unset, .unset] [])) t → Steps p.tables e below (s₁.setTop (entryFrame m #[(.long q0), (.long q1)] maxLocals)) t := fun t k => castTop (ef_0 m q0 q1) k
  obtain ⟨_, _, ⟨T1, L1, k1, n1⟩, -, X1, ⟨Lc1, hQ1, l1, y1, z1⟩, st1⟩ := Jvm.LawKit.callS X0 hx (y := (⟨"java/lang/Math", "min", "(JJ)J"⟩ : MethodName)) hown (mvT hZ (hw _ (List.mem_of_getElem? (i := 2) rfl))) (mvT hZ (hw _ (List.mem_of_getElem? (i := 3) rfl))) (mvT hZ (hw _ (List.mem_of_getElem? (i := 4) rfl))) (mvT hZ (hw _ (List.mem_of_getElem? (i := 5) rfl))) (by decide) (backOf (W := 0) (rm1 l Z A0 hw [] (q0 &&& (9223372036854775807 : Int64)) (9223372036854775806 : Int64) h0 n0 (Nat.le_trans Z0 (Keep.refl h0 []).1) ) hZ (hw _ (List.mem_of_getElem? (i := 5) rfl)) (hw _ (List.mem_of_getElem? (i := 4) rfl)) (by decide) (by decide)) (g := (mkF m 19 #[.val (.long q0), .second, .val (.long q1), .second, .val (.long (q0 &&& (9223372036854775807 : Int64))), .second, .val (.long (q1 &&& (9223372036854775807 : Int64))), .second, .unset, .unset, .unset, .unset, .unset, .unset, .unset, .unset, .unset, .unset] [(.long (9223372036854775806 : Int64)), (.long (q0 &&& (9223372036854775807 : Int64)))])) rfl (by rw [hml]; rfl) (argsL := [(.long (q0 &&& (9223372036854775807 : Int64))), (.long (9223372036854775806 : Int64))]) (rest := []) (lenOf pd_0 rfl) rfl (by show 2 * 0 + _ ≤ _; exact Nat.le_of_eq rfl) (hb hby at_19) (fun _ _ => ⟨rfl, e0, (by decide : 0 + 0 ≤ _), (by decide : 0 + 0 ≤ _)⟩)
  dsimp only [Pt.U, Pt.locs, Pt.cells, Pt.slots] at X1 l1 y1 z1 st1 hQ1
  subst l1 y1 z1
  obtain ⟨rfl, N1q, e1⟩ := hQ1
  have N1 := Fr.app N0 N1q
  obtain ⟨v2, hv2⟩ : ∃ z : Int64, z = (if (9223372036854775806 : Int64) < (q0 &&& (9223372036854775807 : Int64)) then (9223372036854775806 : Int64) else (q0 &&& (9223372036854775807 : Int64))) := ⟨_, rfl⟩
  obtain ⟨_, _, ⟨T3, L3, k3, n3⟩, -, X3, ⟨Lc3, hQ3, l3, y3, z3⟩, st3⟩ := Jvm.LawKit.callS X1 hx (y := (⟨"com/example/paperloom/paperloom/ItemShares", "evenSquares", "(JJ)J"⟩ : MethodName)) hown (mvT hZ (hw _ (List.mem_of_getElem? (i := 6) rfl))) (mvT hZ (hw _ (List.mem_of_getElem? (i := 7) rfl))) (mvT hZ (hw _ (List.mem_of_getElem? (i := 8) rfl))) (mvT hZ (hw _ (List.mem_of_getElem? (i := 9) rfl))) (by decide) (backOf (W := 0) (rm2 l Z A0 hw [] v2 (q1 &&& (9223372036854775807 : Int64)) h0 n0 (Nat.le_trans Z0 (Keep.refl h0 []).1) ) hZ (hw _ (List.mem_of_getElem? (i := 9) rfl)) (hw _ (List.mem_of_getElem? (i := 8) rfl)) (by decide) (by decide)) (g := (mkF m 34 #[.val (.long q0), .second, .val (.long q1), .second, .val (.long (q0 &&& (9223372036854775807 : Int64))), .second, .val (.long (q1 &&& (9223372036854775807 : Int64))), .second, .val (.long v2), .second, .val (.long (v2 + (1 : Int64))), .second, .unset, .unset, .unset, .unset, .unset, .unset] [(.long (q1 &&& (9223372036854775807 : Int64))), (.long v2)])) rfl (by rw [hml]; rfl) (argsL := [(.long v2), (.long (q1 &&& (9223372036854775807 : Int64)))]) (rest := []) (lenOf pd_0 rfl) rfl (by show 2 * 0 + _ ≤ _; exact Nat.le_of_eq rfl) (hb hby at_34) (fun _ _ => ⟨rfl, e1, (by decide : 0 + 0 ≤ _), (by decide : 0 + 0 ≤ _)⟩)
  dsimp only [Pt.U, Pt.locs, Pt.cells, Pt.slots] at X3 l3 y3 z3 st3 hQ3
  subst l3 y3 z3
  obtain ⟨rfl, N3q, e3⟩ := hQ3
  have N3 := Fr.app N1 N3q
  obtain ⟨v4, hv4⟩ : ∃ z : Int64, z = (own_es v2 (q1 &&& (9223372036854775807 : Int64))) := ⟨_, rfl⟩
  obtain ⟨_, _, ⟨T5, L5, k5, n5⟩, -, X5, ⟨Lc5, hQ5, l5, y5, z5⟩, st5⟩ := Jvm.LawKit.callS X3 hx (y := (⟨"com/example/paperloom/paperloom/ItemShares", "evenSquares", "(JJ)J"⟩ : MethodName)) hown (mvT hZ (hw _ (List.mem_of_getElem? (i := 6) rfl))) (mvT hZ (hw _ (List.mem_of_getElem? (i := 7) rfl))) (mvT hZ (hw _ (List.mem_of_getElem? (i := 8) rfl))) (mvT hZ (hw _ (List.mem_of_getElem? (i := 9) rfl))) (by decide) (backOf (W := 0) (rm2 l Z A0 hw [] (v2 + (1 : Int64)) (q1 &&& (9223372036854775807 : Int64)) h0 n0 (Nat.le_trans Z0 (Keep.refl h0 []).1) ) hZ (hw _ (List.mem_of_getElem? (i := 9) rfl)) (hw _ (List.mem_of_getElem? (i := 8) rfl)) (by decide) (by decide)) (g := (mkF m 43 #[.val (.long q0), .second, .val (.long q1), .second, .val (.long (q0 &&& (9223372036854775807 : Int64))), .second, .val (.long (q1 &&& (9223372036854775807 : Int64))), .second, .val (.long v2), .second, .val (.long (v2 + (1 : Int64))), .second, .val (.long v4), .second, .unset, .unset, .unset, .unset] [(.long (q1 &&& (9223372036854775807 : Int64))), (.long (v2 + (1 : Int64)))])) rfl (by rw [hml]; rfl) (argsL := [(.long (v2 + (1 : Int64))), (.long (q1 &&& (9223372036854775807 : Int64)))]) (rest := []) (lenOf pd_0 rfl) rfl (by show 2 * 0 + _ ≤ _; exact Nat.le_of_eq rfl) (hb hby at_43) (fun _ _ => ⟨rfl, e3, (by decide : 0 + 0 ≤ _), (by decide : 0 + 0 ≤ _)⟩)
  dsimp only [Pt.U, Pt.locs, Pt.cells, Pt.slots] at X5 l5 y5 z5 st5 hQ5
  subst l5 y5 z5
  obtain ⟨rfl, N5q, e5⟩ := hQ5
  have N5 := Fr.app N3 N5q
  obtain ⟨v6, hv6⟩ : ∃ z : Int64, z = (own_es (v2 + (1 : Int64)) (q1 &&& (9223372036854775807 : Int64))) := ⟨_, rfl⟩
  obtain ⟨_, _, ⟨T7, L7, k7, n7⟩, -, X7, ⟨Lc7, hQ7, l7, y7, z7⟩, st7⟩ := Jvm.LawKit.callS X5 hx (y := (⟨"com/example/paperloom/paperloom/ItemShares", "evenSquares", "(JJ)J"⟩ : MethodName)) hown (mvT hZ (hw _ (List.mem_of_getElem? (i := 6) rfl))) (mvT hZ (hw _ (List.mem_of_getElem? (i := 7) rfl))) (mvT hZ (hw _ (List.mem_of_getElem? (i := 8) rfl))) (mvT hZ (hw _ (List.mem_of_getElem? (i := 9) rfl))) (by decide) (backOf (W := 0) (rm2 l Z A0 hw [] (0 : Int64) (q1 &&& (9223372036854775807 : Int64)) h0 n0 (Nat.le_trans Z0 (Keep.refl h0 []).1) ) hZ (hw _ (List.mem_of_getElem? (i := 9) rfl)) (hw _ (List.mem_of_getElem? (i := 8) rfl)) (by decide) (by decide)) (g := (mkF m 51 #[.val (.long q0), .second, .val (.long q1), .second, .val (.long (q0 &&& (9223372036854775807 : Int64))), .second, .val (.long (q1 &&& (9223372036854775807 : Int64))), .second, .val (.long v2), .second, .val (.long (v2 + (1 : Int64))), .second, .val (.long v4), .second, .val (.long v6), .second, .unset, .unset] [(.long (q1 &&& (9223372036854775807 : Int64))), (.long (0 : Int64))])) rfl (by rw [hml]; rfl) (argsL := [(.long (0 : Int64)), (.long (q1 &&& (9223372036854775807 : Int64)))]) (rest := []) (lenOf pd_0 rfl) rfl (by show 2 * 0 + _ ≤ _; exact Nat.le_of_eq rfl) (hb hby at_51) (fun _ _ => ⟨rfl, e5, (by decide : 0 + 0 ≤ _), (by decide : 0 + 0 ≤ _)⟩)
  dsimp only [Pt.U, Pt.locs, Pt.cells, Pt.slots] at X7 l7 y7 z7 st7 hQ7
  subst l7 y7 z7
  obtain ⟨rfl, N7q, e7⟩ := hQ7
  have N7 := Fr.app N5 N7q
  obtain ⟨v8, hv8⟩ : ∃ z : Int64, z = (own_es (0 : Int64) (q1 &&& (9223372036854775807 : Int64))) := ⟨_, rfl⟩
  obtain ⟨v13, hv13⟩ : ∃ z : Int32, z = if v8 = (0 : Int64) then (1 : Int32) else (0 : Int32) := ⟨_, rfl⟩
  obtain ⟨v14, hv14⟩ : ∃ z : Int32, z = if v6 = (0 : Int64) then v13 else (0 : Int32) := ⟨_, rfl⟩
  obtain ⟨v15, hv15⟩ : ∃ z : Int32, z = if v4 = (0 : Int64) then v14 else (0 : Int32) := ⟨_, rfl⟩
  obtain ⟨v18, hv18⟩ : ∃ z : Int32, z = if (v6 - v4) = (((2 : Int64) * (v2 / (q1 &&& (9223372036854775807 : Int64)))) + (1 : Int64)) then (1 : Int32) else (0 : Int32) := ⟨_, rfl⟩
  obtain ⟨v19, hv19⟩ : ∃ z : Int32, z = if v8 = (0 : Int64) then v18 else (0 : Int32) := ⟨_, rfl⟩
  obtain ⟨r20, hr20⟩ : ∃ z : Int32, z = if (q1 &&& (9223372036854775807 : Int64)) = (0 : Int64) then (nar .boolean v15) else (nar .boolean v19) := ⟨_, rfl⟩
  obtain ⟨fs, hr, hrun, hended, hW, hsame⟩ := X7.leave (v := some (.int r20)) (fun h => by rw [Bd.returns] at h; cases h)
  refine ⟨_, _, pre0 _ ?_, hrun, hended, _, _, rfl, ?_, ⟨_, rfl⟩, hW, hsame.mono (by decide) (by decide)⟩
  · show Steps p.tables e below (s₁.setTop (mkF m 0 #[.val (.long q0), .second, .val (.long q1), .second, .unset, .unset, .unset, .unset, .unset, .unset, .unset, .unset, .unset, .unset, .unset, .unset, .unset, .unset] [])) _
    refine XS.lloadN X0.here hx rfl (hb hby at_0) rfl ?_
    show Steps p.tables e below (s₁.setTop (mkF m 1 #[.val (.long q0), .second, .val (.long q1), .second, .unset, .unset, .unset, .unset, .unset, .unset, .unset, .unset, .unset, .unset, .unset, .unset, .unset, .unset] [(.long q0)])) _
    refine X0.ldc2Long hx hown (mvT hZ (hw _ (List.mem_of_getElem? (i := 0) rfl))) (g := (mkF m 1 #[.val (.long q0), .second, .val (.long q1), .second, .unset, .unset, .unset, .unset, .unset, .unset, .unset, .unset, .unset, .unset, .unset, .unset, .unset, .unset] [(.long q0)])) rfl (hb hby at_1) _ ?_
    show Steps p.tables e below (s₁.setTop (mkF m 4 #[.val (.long q0), .second, .val (.long q1), .second, .unset, .unset, .unset, .unset, .unset, .unset, .unset, .unset, .unset, .unset, .unset, .unset, .unset, .unset] [(.long (9223372036854775807 : Int64)), (.long q0)])) _
    refine XS.land X0.here hx rfl (hb hby at_4) rfl ?_
    show Steps p.tables e below (s₁.setTop (mkF m 5 #[.val (.long q0), .second, .val (.long q1), .second, .unset, .unset, .unset, .unset, .unset, .unset, .unset, .unset, .unset, .unset, .unset, .unset, .unset, .unset] [(.long (q0 &&& (9223372036854775807 : Int64)))])) _
    refine XS.lstore X0.here hx rfl (hb hby at_5) rfl (l' := #[.val (.long q0), .second, .val (.long q1), .second, .val (.long (q0 &&& (9223372036854775807 : Int64))), .second, .unset, .unset, .unset, .unset, .unset, .unset, .unset, .unset, .unset, .unset, .unset, .unset]) rfl ?_
    show Steps p.tables e below (s₁.setTop (mkF m 7 #[.val (.long q0), .second, .val (.long q1), .second, .val (.long (q0 &&& (9223372036854775807 : Int64))), .second, .unset, .unset, .unset, .unset, .unset, .unset, .unset, .unset, .unset, .unset, .unset, .unset] [])) _
    refine XS.lloadN X0.here hx rfl (hb hby at_7) rfl ?_
    show Steps p.tables e below (s₁.setTop (mkF m 8 #[.val (.long q0), .second, .val (.long q1), .second, .val (.long (q0 &&& (9223372036854775807 : Int64))), .second, .unset, .unset, .unset, .unset, .unset, .unset, .unset, .unset, .unset, .unset, .unset, .unset] [(.long q1)])) _
    refine X0.ldc2Long hx hown (mvT hZ (hw _ (List.mem_of_getElem? (i := 0) rfl))) (g := (mkF m 8 #[.val (.long q0), .second, .val (.long q1), .second, .val (.long (q0 &&& (9223372036854775807 : Int64))), .second, .unset, .unset, .unset, .unset, .unset, .unset, .unset, .unset, .unset, .unset, .unset, .unset] [(.long q1)])) rfl (hb hby at_8) _ ?_
    show Steps p.tables e below (s₁.setTop (mkF m 11 #[.val (.long q0), .second, .val (.long q1), .second, .val (.long (q0 &&& (9223372036854775807 : Int64))), .second, .unset, .unset, .unset, .unset, .unset, .unset, .unset, .unset, .unset, .unset, .unset, .unset] [(.long (9223372036854775807 : Int64)), (.long q1)])) _
    refine XS.land X0.here hx rfl (hb hby at_11) rfl ?_
    show Steps p.tables e below (s₁.setTop (mkF m 12 #[.val (.long q0), .second, .val (.long q1), .second, .val (.long (q0 &&& (9223372036854775807 : Int64))), .second, .unset, .unset, .unset, .unset, .unset, .unset, .unset, .unset, .unset, .unset, .unset, .unset] [(.long (q1 &&& (9223372036854775807 : Int64)))])) _
    refine XS.lstore X0.here hx rfl (hb hby at_12) rfl (l' := #[.val (.long q0), .second, .val (.long q1), .second, .val (.long (q0 &&& (9223372036854775807 : Int64))), .second, .val (.long (q1 &&& (9223372036854775807 : Int64))), .second, .unset, .unset, .unset, .unset, .unset, .unset, .unset, .unset, .unset, .unset]) rfl ?_
    show Steps p.tables e below (s₁.setTop (mkF m 14 #[.val (.long q0), .second, .val (.long q1), .second, .val (.long (q0 &&& (9223372036854775807 : Int64))), .second, .val (.long (q1 &&& (9223372036854775807 : Int64))), .second, .unset, .unset, .unset, .unset, .unset, .unset, .unset, .unset, .unset, .unset] [])) _
    refine XS.lload X0.here hx rfl (hb hby at_14) rfl ?_
    show Steps p.tables e below (s₁.setTop (mkF m 16 #[.val (.long q0), .second, .val (.long q1), .second, .val (.long (q0 &&& (9223372036854775807 : Int64))), .second, .val (.long (q1 &&& (9223372036854775807 : Int64))), .second, .unset, .unset, .unset, .unset, .unset, .unset, .unset, .unset, .unset, .unset] [(.long (q0 &&& (9223372036854775807 : Int64)))])) _
    refine X0.ldc2Long hx hown (mvT hZ (hw _ (List.mem_of_getElem? (i := 1) rfl))) (g := (mkF m 16 #[.val (.long q0), .second, .val (.long q1), .second, .val (.long (q0 &&& (9223372036854775807 : Int64))), .second, .val (.long (q1 &&& (9223372036854775807 : Int64))), .second, .unset, .unset, .unset, .unset, .unset, .unset, .unset, .unset, .unset, .unset] [(.long (q0 &&& (9223372036854775807 : Int64)))])) rfl (hb hby at_16) _ ?_
    show Steps p.tables e below (s₁.setTop (mkF m 19 #[.val (.long q0), .second, .val (.long q1), .second, .val (.long (q0 &&& (9223372036854775807 : Int64))), .second, .val (.long (q1 &&& (9223372036854775807 : Int64))), .second, .unset, .unset, .unset, .unset, .unset, .unset, .unset, .unset, .unset, .unset] [(.long (9223372036854775806 : Int64)), (.long (q0 &&& (9223372036854775807 : Int64)))])) _
    refine st1 _ ?_
    show Steps p.tables e below (T1.setTop (mkF m 22 #[.val (.long q0), .second, .val (.long q1), .second, .val (.long (q0 &&& (9223372036854775807 : Int64))), .second, .val (.long (q1 &&& (9223372036854775807 : Int64))), .second, .unset, .unset, .unset, .unset, .unset, .unset, .unset, .unset, .unset, .unset] [(.long (if (9223372036854775806 : Int64) < (q0 &&& (9223372036854775807 : Int64)) then (9223372036854775806 : Int64) else (q0 &&& (9223372036854775807 : Int64))))])) _
    refine castTop (g' := (mkF m 22 #[.val (.long q0), .second, .val (.long q1), .second, .val (.long (q0 &&& (9223372036854775807 : Int64))), .second, .val (.long (q1 &&& (9223372036854775807 : Int64))), .second, .unset, .unset, .unset, .unset, .unset, .unset, .unset, .unset, .unset, .unset] [(.long v2)])) (by rw [hv2] <;> rfl) ?_
    show Steps p.tables e below (T1.setTop (mkF m 22 #[.val (.long q0), .second, .val (.long q1), .second, .val (.long (q0 &&& (9223372036854775807 : Int64))), .second, .val (.long (q1 &&& (9223372036854775807 : Int64))), .second, .unset, .unset, .unset, .unset, .unset, .unset, .unset, .unset, .unset, .unset] [(.long v2)])) _
    refine XS.lstore X1.here hx rfl (hb hby at_22) rfl (l' := #[.val (.long q0), .second, .val (.long q1), .second, .val (.long (q0 &&& (9223372036854775807 : Int64))), .second, .val (.long (q1 &&& (9223372036854775807 : Int64))), .second, .val (.long v2), .second, .unset, .unset, .unset, .unset, .unset, .unset, .unset, .unset]) rfl ?_
    show Steps p.tables e below (T1.setTop (mkF m 24 #[.val (.long q0), .second, .val (.long q1), .second, .val (.long (q0 &&& (9223372036854775807 : Int64))), .second, .val (.long (q1 &&& (9223372036854775807 : Int64))), .second, .val (.long v2), .second, .unset, .unset, .unset, .unset, .unset, .unset, .unset, .unset] [])) _
    refine XS.lload X1.here hx rfl (hb hby at_24) rfl ?_
    show Steps p.tables e below (T1.setTop (mkF m 26 #[.val (.long q0), .second, .val (.long q1), .second, .val (.long (q0 &&& (9223372036854775807 : Int64))), .second, .val (.long (q1 &&& (9223372036854775807 : Int64))), .second, .val (.long v2), .second, .unset, .unset, .unset, .unset, .unset, .unset, .unset, .unset] [(.long v2)])) _
    refine XS.lconst X1.here hx rfl (hb hby at_26) ?_
    show Steps p.tables e below (T1.setTop (mkF m 27 #[.val (.long q0), .second, .val (.long q1), .second, .val (.long (q0 &&& (9223372036854775807 : Int64))), .second, .val (.long (q1 &&& (9223372036854775807 : Int64))), .second, .val (.long v2), .second, .unset, .unset, .unset, .unset, .unset, .unset, .unset, .unset] [(.long (1 : Int64)), (.long v2)])) _
    refine XS.ladd X1.here hx rfl (hb hby at_27) rfl ?_
    show Steps p.tables e below (T1.setTop (mkF m 28 #[.val (.long q0), .second, .val (.long q1), .second, .val (.long (q0 &&& (9223372036854775807 : Int64))), .second, .val (.long (q1 &&& (9223372036854775807 : Int64))), .second, .val (.long v2), .second, .unset, .unset, .unset, .unset, .unset, .unset, .unset, .unset] [(.long (v2 + (1 : Int64)))])) _
    refine XS.lstore X1.here hx rfl (hb hby at_28) rfl (l' := #[.val (.long q0), .second, .val (.long q1), .second, .val (.long (q0 &&& (9223372036854775807 : Int64))), .second, .val (.long (q1 &&& (9223372036854775807 : Int64))), .second, .val (.long v2), .second, .val (.long (v2 + (1 : Int64))), .second, .unset, .unset, .unset, .unset, .unset, .unset]) rfl ?_
    show Steps p.tables e below (T1.setTop (mkF m 30 #[.val (.long q0), .second, .val (.long q1), .second, .val (.long (q0 &&& (9223372036854775807 : Int64))), .second, .val (.long (q1 &&& (9223372036854775807 : Int64))), .second, .val (.long v2), .second, .val (.long (v2 + (1 : Int64))), .second, .unset, .unset, .unset, .unset, .unset, .unset] [])) _
    refine XS.lload X1.here hx rfl (hb hby at_30) rfl ?_
    show Steps p.tables e below (T1.setTop (mkF m 32 #[.val (.long q0), .second, .val (.long q1), .second, .val (.long (q0 &&& (9223372036854775807 : Int64))), .second, .val (.long (q1 &&& (9223372036854775807 : Int64))), .second, .val (.long v2), .second, .val (.long (v2 + (1 : Int64))), .second, .unset, .unset, .unset, .unset, .unset, .unset] [(.long v2)])) _
    refine XS.lload X1.here hx rfl (hb hby at_32) rfl ?_
    show Steps p.tables e below (T1.setTop (mkF m 34 #[.val (.long q0), .second, .val (.long q1), .second, .val (.long (q0 &&& (9223372036854775807 : Int64))), .second, .val (.long (q1 &&& (9223372036854775807 : Int64))), .second, .val (.long v2), .second, .val (.long (v2 + (1 : Int64))), .second, .unset, .unset, .unset, .unset, .unset, .unset] [(.long (q1 &&& (9223372036854775807 : Int64))), (.long v2)])) _
    refine st3 _ ?_
    show Steps p.tables e below (T3.setTop (mkF m 37 #[.val (.long q0), .second, .val (.long q1), .second, .val (.long (q0 &&& (9223372036854775807 : Int64))), .second, .val (.long (q1 &&& (9223372036854775807 : Int64))), .second, .val (.long v2), .second, .val (.long (v2 + (1 : Int64))), .second, .unset, .unset, .unset, .unset, .unset, .unset] [(.long (own_es v2 (q1 &&& (9223372036854775807 : Int64))))])) _
    refine castTop (g' := (mkF m 37 #[.val (.long q0), .second, .val (.long q1), .second, .val (.long (q0 &&& (9223372036854775807 : Int64))), .second, .val (.long (q1 &&& (9223372036854775807 : Int64))), .second, .val (.long v2), .second, .val (.long (v2 + (1 : Int64))), .second, .unset, .unset, .unset, .unset, .unset, .unset] [(.long v4)])) (by rw [hv4] <;> rfl) ?_
    show Steps p.tables e below (T3.setTop (mkF m 37 #[.val (.long q0), .second, .val (.long q1), .second, .val (.long (q0 &&& (9223372036854775807 : Int64))), .second, .val (.long (q1 &&& (9223372036854775807 : Int64))), .second, .val (.long v2), .second, .val (.long (v2 + (1 : Int64))), .second, .unset, .unset, .unset, .unset, .unset, .unset] [(.long v4)])) _
    refine XS.lstore X3.here hx rfl (hb hby at_37) rfl (l' := #[.val (.long q0), .second, .val (.long q1), .second, .val (.long (q0 &&& (9223372036854775807 : Int64))), .second, .val (.long (q1 &&& (9223372036854775807 : Int64))), .second, .val (.long v2), .second, .val (.long (v2 + (1 : Int64))), .second, .val (.long v4), .second, .unset, .unset, .unset, .unset]) rfl ?_
    show Steps p.tables e below (T3.setTop (mkF m 39 #[.val (.long q0), .second, .val (.long q1), .second, .val (.long (q0 &&& (9223372036854775807 : Int64))), .second, .val (.long (q1 &&& (9223372036854775807 : Int64))), .second, .val (.long v2), .second, .val (.long (v2 + (1 : Int64))), .second, .val (.long v4), .second, .unset, .unset, .unset, .unset] [])) _
    refine XS.lload X3.here hx rfl (hb hby at_39) rfl ?_
    show Steps p.tables e below (T3.setTop (mkF m 41 #[.val (.long q0), .second, .val (.long q1), .second, .val (.long (q0 &&& (9223372036854775807 : Int64))), .second, .val (.long (q1 &&& (9223372036854775807 : Int64))), .second, .val (.long v2), .second, .val (.long (v2 + (1 : Int64))), .second, .val (.long v4), .second, .unset, .unset, .unset, .unset] [(.long (v2 + (1 : Int64)))])) _
    refine XS.lload X3.here hx rfl (hb hby at_41) rfl ?_
    show Steps p.tables e below (T3.setTop (mkF m 43 #[.val (.long q0), .second, .val (.long q1), .second, .val (.long (q0 &&& (9223372036854775807 : Int64))), .second, .val (.long (q1 &&& (9223372036854775807 : Int64))), .second, .val (.long v2), .second, .val (.long (v2 + (1 : Int64))), .second, .val (.long v4), .second, .unset, .unset, .unset, .unset] [(.long (q1 &&& (9223372036854775807 : Int64))), (.long (v2 + (1 : Int64)))])) _
    refine st5 _ ?_
    show Steps p.tables e below (T5.setTop (mkF m 46 #[.val (.long q0), .second, .val (.long q1), .second, .val (.long (q0 &&& (9223372036854775807 : Int64))), .second, .val (.long (q1 &&& (9223372036854775807 : Int64))), .second, .val (.long v2), .second, .val (.long (v2 + (1 : Int64))), .second, .val (.long v4), .second, .unset, .unset, .unset, .unset] [(.long (own_es (v2 + (1 : Int64)) (q1 &&& (9223372036854775807 : Int64))))])) _
    refine castTop (g' := (mkF m 46 #[.val (.long q0), .second, .val (.long q1), .second, .val (.long (q0 &&& (9223372036854775807 : Int64))), .second, .val (.long (q1 &&& (9223372036854775807 : Int64))), .second, .val (.long v2), .second, .val (.long (v2 + (1 : Int64))), .second, .val (.long v4), .second, .unset, .unset, .unset, .unset] [(.long v6)])) (by rw [hv6] <;> rfl) ?_
    show Steps p.tables e below (T5.setTop (mkF m 46 #[.val (.long q0), .second, .val (.long q1), .second, .val (.long (q0 &&& (9223372036854775807 : Int64))), .second, .val (.long (q1 &&& (9223372036854775807 : Int64))), .second, .val (.long v2), .second, .val (.long (v2 + (1 : Int64))), .second, .val (.long v4), .second, .unset, .unset, .unset, .unset] [(.long v6)])) _
    refine XS.lstore X5.here hx rfl (hb hby at_46) rfl (l' := #[.val (.long q0), .second, .val (.long q1), .second, .val (.long (q0 &&& (9223372036854775807 : Int64))), .second, .val (.long (q1 &&& (9223372036854775807 : Int64))), .second, .val (.long v2), .second, .val (.long (v2 + (1 : Int64))), .second, .val (.long v4), .second, .val (.long v6), .second, .unset, .unset]) rfl ?_
    show Steps p.tables e below (T5.setTop (mkF m 48 #[.val (.long q0), .second, .val (.long q1), .second, .val (.long (q0 &&& (9223372036854775807 : Int64))), .second, .val (.long (q1 &&& (9223372036854775807 : Int64))), .second, .val (.long v2), .second, .val (.long (v2 + (1 : Int64))), .second, .val (.long v4), .second, .val (.long v6), .second, .unset, .unset] [])) _
    refine XS.lconst X5.here hx rfl (hb hby at_48) ?_
    show Steps p.tables e below (T5.setTop (mkF m 49 #[.val (.long q0), .second, .val (.long q1), .second, .val (.long (q0 &&& (9223372036854775807 : Int64))), .second, .val (.long (q1 &&& (9223372036854775807 : Int64))), .second, .val (.long v2), .second, .val (.long (v2 + (1 : Int64))), .second, .val (.long v4), .second, .val (.long v6), .second, .unset, .unset] [(.long (0 : Int64))])) _
    refine XS.lload X5.here hx rfl (hb hby at_49) rfl ?_
    show Steps p.tables e below (T5.setTop (mkF m 51 #[.val (.long q0), .second, .val (.long q1), .second, .val (.long (q0 &&& (9223372036854775807 : Int64))), .second, .val (.long (q1 &&& (9223372036854775807 : Int64))), .second, .val (.long v2), .second, .val (.long (v2 + (1 : Int64))), .second, .val (.long v4), .second, .val (.long v6), .second, .unset, .unset] [(.long (q1 &&& (9223372036854775807 : Int64))), (.long (0 : Int64))])) _
    refine st7 _ ?_
    show Steps p.tables e below (T7.setTop (mkF m 54 #[.val (.long q0), .second, .val (.long q1), .second, .val (.long (q0 &&& (9223372036854775807 : Int64))), .second, .val (.long (q1 &&& (9223372036854775807 : Int64))), .second, .val (.long v2), .second, .val (.long (v2 + (1 : Int64))), .second, .val (.long v4), .second, .val (.long v6), .second, .unset, .unset] [(.long (own_es (0 : Int64) (q1 &&& (9223372036854775807 : Int64))))])) _
    refine castTop (g' := (mkF m 54 #[.val (.long q0), .second, .val (.long q1), .second, .val (.long (q0 &&& (9223372036854775807 : Int64))), .second, .val (.long (q1 &&& (9223372036854775807 : Int64))), .second, .val (.long v2), .second, .val (.long (v2 + (1 : Int64))), .second, .val (.long v4), .second, .val (.long v6), .second, .unset, .unset] [(.long v8)])) (by rw [hv8] <;> rfl) ?_
    show Steps p.tables e below (T7.setTop (mkF m 54 #[.val (.long q0), .second, .val (.long q1), .second, .val (.long (q0 &&& (9223372036854775807 : Int64))), .second, .val (.long (q1 &&& (9223372036854775807 : Int64))), .second, .val (.long v2), .second, .val (.long (v2 + (1 : Int64))), .second, .val (.long v4), .second, .val (.long v6), .second, .unset, .unset] [(.long v8)])) _
    refine XS.lstore X7.here hx rfl (hb hby at_54) rfl (l' := #[.val (.long q0), .second, .val (.long q1), .second, .val (.long (q0 &&& (9223372036854775807 : Int64))), .second, .val (.long (q1 &&& (9223372036854775807 : Int64))), .second, .val (.long v2), .second, .val (.long (v2 + (1 : Int64))), .second, .val (.long v4), .second, .val (.long v6), .second, .val (.long v8), .second]) rfl ?_
    show Steps p.tables e below (T7.setTop (mkF m 56 #[.val (.long q0), .second, .val (.long q1), .second, .val (.long (q0 &&& (9223372036854775807 : Int64))), .second, .val (.long (q1 &&& (9223372036854775807 : Int64))), .second, .val (.long v2), .second, .val (.long (v2 + (1 : Int64))), .second, .val (.long v4), .second, .val (.long v6), .second, .val (.long v8), .second] [])) _
    refine XS.lload X7.here hx rfl (hb hby at_56) rfl ?_
    show Steps p.tables e below (T7.setTop (mkF m 58 #[.val (.long q0), .second, .val (.long q1), .second, .val (.long (q0 &&& (9223372036854775807 : Int64))), .second, .val (.long (q1 &&& (9223372036854775807 : Int64))), .second, .val (.long v2), .second, .val (.long (v2 + (1 : Int64))), .second, .val (.long v4), .second, .val (.long v6), .second, .val (.long v8), .second] [(.long (q1 &&& (9223372036854775807 : Int64)))])) _
    refine XS.lconst X7.here hx rfl (hb hby at_58) ?_
    show Steps p.tables e below (T7.setTop (mkF m 59 #[.val (.long q0), .second, .val (.long q1), .second, .val (.long (q0 &&& (9223372036854775807 : Int64))), .second, .val (.long (q1 &&& (9223372036854775807 : Int64))), .second, .val (.long v2), .second, .val (.long (v2 + (1 : Int64))), .second, .val (.long v4), .second, .val (.long v6), .second, .val (.long v8), .second] [(.long (0 : Int64)), (.long (q1 &&& (9223372036854775807 : Int64)))])) _
    refine XS.lcmp X7.here hx rfl (hb hby at_59) rfl ?_
    by_cases hc9 : (q1 &&& (9223372036854775807 : Int64)) = (0 : Int64)
    · show Steps p.tables e below (T7.setTop (mkF m 60 #[.val (.long q0), .second, .val (.long q1), .second, .val (.long (q0 &&& (9223372036854775807 : Int64))), .second, .val (.long (q1 &&& (9223372036854775807 : Int64))), .second, .val (.long v2), .second, .val (.long (v2 + (1 : Int64))), .second, .val (.long v4), .second, .val (.long v6), .second, .val (.long v8), .second] [(.int (lcmpW (q1 &&& (9223372036854775807 : Int64)) (0 : Int64)))])) _
      refine XS.ifNo X7.here hx rfl (hb hby at_60) rfl ((if0 _ _).trans (teq ((lw_eq (q1 &&& (9223372036854775807 : Int64)) (0 : Int64)).mpr hc9)).2) ?_
      show Steps p.tables e below (T7.setTop (mkF m 63 #[.val (.long q0), .second, .val (.long q1), .second, .val (.long (q0 &&& (9223372036854775807 : Int64))), .second, .val (.long (q1 &&& (9223372036854775807 : Int64))), .second, .val (.long v2), .second, .val (.long (v2 + (1 : Int64))), .second, .val (.long v4), .second, .val (.long v6), .second, .val (.long v8), .second] [])) _
      refine XS.lload X7.here hx rfl (hb hby at_63) rfl ?_
      show Steps p.tables e below (T7.setTop (mkF m 65 #[.val (.long q0), .second, .val (.long q1), .second, .val (.long (q0 &&& (9223372036854775807 : Int64))), .second, .val (.long (q1 &&& (9223372036854775807 : Int64))), .second, .val (.long v2), .second, .val (.long (v2 + (1 : Int64))), .second, .val (.long v4), .second, .val (.long v6), .second, .val (.long v8), .second] [(.long v4)])) _
      refine XS.lconst X7.here hx rfl (hb hby at_65) ?_
      show Steps p.tables e below (T7.setTop (mkF m 66 #[.val (.long q0), .second, .val (.long q1), .second, .val (.long (q0 &&& (9223372036854775807 : Int64))), .second, .val (.long (q1 &&& (9223372036854775807 : Int64))), .second, .val (.long v2), .second, .val (.long (v2 + (1 : Int64))), .second, .val (.long v4), .second, .val (.long v6), .second, .val (.long v8), .second] [(.long (0 : Int64)), (.long v4)])) _
      refine XS.lcmp X7.here hx rfl (hb hby at_66) rfl ?_
      show Steps p.tables e below (T7.setTop (mkF m 67 #[.val (.long q0), .second, .val (.long q1), .second, .val (.long (q0 &&& (9223372036854775807 : Int64))), .second, .val (.long (q1 &&& (9223372036854775807 : Int64))), .second, .val (.long v2), .second, .val (.long (v2 + (1 : Int64))), .second, .val (.long v4), .second, .val (.long v6), .second, .val (.long v8), .second] [(.int (lcmpW v4 (0 : Int64)))])) _
      refine own_dia (F := (mkF m 89 #[.val (.long q0), .second, .val (.long q1), .second, .val (.long (q0 &&& (9223372036854775807 : Int64))), .second, .val (.long (q1 &&& (9223372036854775807 : Int64))), .second, .val (.long v2), .second, .val (.long (v2 + (1 : Int64))), .second, .val (.long v4), .second, .val (.long v6), .second, .val (.long v8), .second] [(.int v15)])) ?_ ?_
      · intro kt
        by_cases hc10 : v4 = (0 : Int64)
        · show Steps p.tables e below (T7.setTop (mkF m 67 #[.val (.long q0), .second, .val (.long q1), .second, .val (.long (q0 &&& (9223372036854775807 : Int64))), .second, .val (.long (q1 &&& (9223372036854775807 : Int64))), .second, .val (.long v2), .second, .val (.long (v2 + (1 : Int64))), .second, .val (.long v4), .second, .val (.long v6), .second, .val (.long v8), .second] [(.int (lcmpW v4 (0 : Int64)))])) _
          refine XS.ifNo X7.here hx rfl (hb hby at_67) rfl ((if0 _ _).trans (teq ((lw_eq v4 (0 : Int64)).mpr hc10)).2) ?_
          show Steps p.tables e below (T7.setTop (mkF m 70 #[.val (.long q0), .second, .val (.long q1), .second, .val (.long (q0 &&& (9223372036854775807 : Int64))), .second, .val (.long (q1 &&& (9223372036854775807 : Int64))), .second, .val (.long v2), .second, .val (.long (v2 + (1 : Int64))), .second, .val (.long v4), .second, .val (.long v6), .second, .val (.long v8), .second] [])) _
          refine XS.lload X7.here hx rfl (hb hby at_70) rfl ?_
          show Steps p.tables e below (T7.setTop (mkF m 72 #[.val (.long q0), .second, .val (.long q1), .second, .val (.long (q0 &&& (9223372036854775807 : Int64))), .second, .val (.long (q1 &&& (9223372036854775807 : Int64))), .second, .val (.long v2), .second, .val (.long (v2 + (1 : Int64))), .second, .val (.long v4), .second, .val (.long v6), .second, .val (.long v8), .second] [(.long v6)])) _
          refine XS.lconst X7.here hx rfl (hb hby at_72) ?_
          show Steps p.tables e below (T7.setTop (mkF m 73 #[.val (.long q0), .second, .val (.long q1), .second, .val (.long (q0 &&& (9223372036854775807 : Int64))), .second, .val (.long (q1 &&& (9223372036854775807 : Int64))), .second, .val (.long v2), .second, .val (.long (v2 + (1 : Int64))), .second, .val (.long v4), .second, .val (.long v6), .second, .val (.long v8), .second] [(.long (0 : Int64)), (.long v6)])) _
          refine XS.lcmp X7.here hx rfl (hb hby at_73) rfl ?_
          show Steps p.tables e below (T7.setTop (mkF m 74 #[.val (.long q0), .second, .val (.long q1), .second, .val (.long (q0 &&& (9223372036854775807 : Int64))), .second, .val (.long (q1 &&& (9223372036854775807 : Int64))), .second, .val (.long v2), .second, .val (.long (v2 + (1 : Int64))), .second, .val (.long v4), .second, .val (.long v6), .second, .val (.long v8), .second] [(.int (lcmpW v6 (0 : Int64)))])) _
          refine own_dia (F := (mkF m 89 #[.val (.long q0), .second, .val (.long q1), .second, .val (.long (q0 &&& (9223372036854775807 : Int64))), .second, .val (.long (q1 &&& (9223372036854775807 : Int64))), .second, .val (.long v2), .second, .val (.long (v2 + (1 : Int64))), .second, .val (.long v4), .second, .val (.long v6), .second, .val (.long v8), .second] [(.int v14)])) ?_ ?_
          · intro kt
            by_cases hc11 : v6 = (0 : Int64)
            · show Steps p.tables e below (T7.setTop (mkF m 74 #[.val (.long q0), .second, .val (.long q1), .second, .val (.long (q0 &&& (9223372036854775807 : Int64))), .second, .val (.long (q1 &&& (9223372036854775807 : Int64))), .second, .val (.long v2), .second, .val (.long (v2 + (1 : Int64))), .second, .val (.long v4), .second, .val (.long v6), .second, .val (.long v8), .second] [(.int (lcmpW v6 (0 : Int64)))])) _
              refine XS.ifNo X7.here hx rfl (hb hby at_74) rfl ((if0 _ _).trans (teq ((lw_eq v6 (0 : Int64)).mpr hc11)).2) ?_
              show Steps p.tables e below (T7.setTop (mkF m 77 #[.val (.long q0), .second, .val (.long q1), .second, .val (.long (q0 &&& (9223372036854775807 : Int64))), .second, .val (.long (q1 &&& (9223372036854775807 : Int64))), .second, .val (.long v2), .second, .val (.long (v2 + (1 : Int64))), .second, .val (.long v4), .second, .val (.long v6), .second, .val (.long v8), .second] [])) _
              refine XS.lload X7.here hx rfl (hb hby at_77) rfl ?_
              show Steps p.tables e below (T7.setTop (mkF m 79 #[.val (.long q0), .second, .val (.long q1), .second, .val (.long (q0 &&& (9223372036854775807 : Int64))), .second, .val (.long (q1 &&& (9223372036854775807 : Int64))), .second, .val (.long v2), .second, .val (.long (v2 + (1 : Int64))), .second, .val (.long v4), .second, .val (.long v6), .second, .val (.long v8), .second] [(.long v8)])) _
              refine XS.lconst X7.here hx rfl (hb hby at_79) ?_
              show Steps p.tables e below (T7.setTop (mkF m 80 #[.val (.long q0), .second, .val (.long q1), .second, .val (.long (q0 &&& (9223372036854775807 : Int64))), .second, .val (.long (q1 &&& (9223372036854775807 : Int64))), .second, .val (.long v2), .second, .val (.long (v2 + (1 : Int64))), .second, .val (.long v4), .second, .val (.long v6), .second, .val (.long v8), .second] [(.long (0 : Int64)), (.long v8)])) _
              refine XS.lcmp X7.here hx rfl (hb hby at_80) rfl ?_
              show Steps p.tables e below (T7.setTop (mkF m 81 #[.val (.long q0), .second, .val (.long q1), .second, .val (.long (q0 &&& (9223372036854775807 : Int64))), .second, .val (.long (q1 &&& (9223372036854775807 : Int64))), .second, .val (.long v2), .second, .val (.long (v2 + (1 : Int64))), .second, .val (.long v4), .second, .val (.long v6), .second, .val (.long v8), .second] [(.int (lcmpW v8 (0 : Int64)))])) _
              refine own_dia (F := (mkF m 89 #[.val (.long q0), .second, .val (.long q1), .second, .val (.long (q0 &&& (9223372036854775807 : Int64))), .second, .val (.long (q1 &&& (9223372036854775807 : Int64))), .second, .val (.long v2), .second, .val (.long (v2 + (1 : Int64))), .second, .val (.long v4), .second, .val (.long v6), .second, .val (.long v8), .second] [(.int v13)])) ?_ ?_
              · intro kt
                by_cases hc12 : v8 = (0 : Int64)
                · show Steps p.tables e below (T7.setTop (mkF m 81 #[.val (.long q0), .second, .val (.long q1), .second, .val (.long (q0 &&& (9223372036854775807 : Int64))), .second, .val (.long (q1 &&& (9223372036854775807 : Int64))), .second, .val (.long v2), .second, .val (.long (v2 + (1 : Int64))), .second, .val (.long v4), .second, .val (.long v6), .second, .val (.long v8), .second] [(.int (lcmpW v8 (0 : Int64)))])) _
                  refine XS.ifNo X7.here hx rfl (hb hby at_81) rfl ((if0 _ _).trans (teq ((lw_eq v8 (0 : Int64)).mpr hc12)).2) ?_
                  show Steps p.tables e below (T7.setTop (mkF m 84 #[.val (.long q0), .second, .val (.long q1), .second, .val (.long (q0 &&& (9223372036854775807 : Int64))), .second, .val (.long (q1 &&& (9223372036854775807 : Int64))), .second, .val (.long v2), .second, .val (.long (v2 + (1 : Int64))), .second, .val (.long v4), .second, .val (.long v6), .second, .val (.long v8), .second] [])) _
                  refine XS.iconst X7.here hx rfl (hb hby at_84) ?_
                  show Steps p.tables e below (T7.setTop (mkF m 85 #[.val (.long q0), .second, .val (.long q1), .second, .val (.long (q0 &&& (9223372036854775807 : Int64))), .second, .val (.long (q1 &&& (9223372036854775807 : Int64))), .second, .val (.long v2), .second, .val (.long (v2 + (1 : Int64))), .second, .val (.long v4), .second, .val (.long v6), .second, .val (.long v8), .second] [(.int (1 : Int32))])) _
                  refine XS.goto X7.here hx rfl (pc0 := 85) (pc' := 89) rfl (hb hby at_85) (by decide) (by decide) ?_
                  exact castTop (by rw [hv13, if_pos hc12] <;> rfl) kt
                · show Steps p.tables e below (T7.setTop (mkF m 81 #[.val (.long q0), .second, .val (.long q1), .second, .val (.long (q0 &&& (9223372036854775807 : Int64))), .second, .val (.long (q1 &&& (9223372036854775807 : Int64))), .second, .val (.long v2), .second, .val (.long (v2 + (1 : Int64))), .second, .val (.long v4), .second, .val (.long v6), .second, .val (.long v8), .second] [(.int (lcmpW v8 (0 : Int64)))])) _
                  refine XS.ifYes X7.here hx rfl (pc0 := 81) (pc' := 88) rfl (hb hby at_81) rfl ((if0 _ _).trans (feq (fun q => hc12 ((lw_eq v8 (0 : Int64)).mp q))).2) (by decide) (by decide) ?_
                  show Steps p.tables e below (T7.setTop (mkF m 88 #[.val (.long q0), .second, .val (.long q1), .second, .val (.long (q0 &&& (9223372036854775807 : Int64))), .second, .val (.long (q1 &&& (9223372036854775807 : Int64))), .second, .val (.long v2), .second, .val (.long (v2 + (1 : Int64))), .second, .val (.long v4), .second, .val (.long v6), .second, .val (.long v8), .second] [])) _
                  refine XS.iconst X7.here hx rfl (hb hby at_88) ?_
                  exact castTop (by rw [hv13, if_neg hc12] <;> rfl) kt
              exact castTop (by rw [hv14, if_pos hc11] <;> rfl) kt
            · show Steps p.tables e below (T7.setTop (mkF m 74 #[.val (.long q0), .second, .val (.long q1), .second, .val (.long (q0 &&& (9223372036854775807 : Int64))), .second, .val (.long (q1 &&& (9223372036854775807 : Int64))), .second, .val (.long v2), .second, .val (.long (v2 + (1 : Int64))), .second, .val (.long v4), .second, .val (.long v6), .second, .val (.long v8), .second] [(.int (lcmpW v6 (0 : Int64)))])) _
              refine XS.ifYes X7.here hx rfl (pc0 := 74) (pc' := 88) rfl (hb hby at_74) rfl ((if0 _ _).trans (feq (fun q => hc11 ((lw_eq v6 (0 : Int64)).mp q))).2) (by decide) (by decide) ?_
              show Steps p.tables e below (T7.setTop (mkF m 88 #[.val (.long q0), .second, .val (.long q1), .second, .val (.long (q0 &&& (9223372036854775807 : Int64))), .second, .val (.long (q1 &&& (9223372036854775807 : Int64))), .second, .val (.long v2), .second, .val (.long (v2 + (1 : Int64))), .second, .val (.long v4), .second, .val (.long v6), .second, .val (.long v8), .second] [])) _
              refine XS.iconst X7.here hx rfl (hb hby at_88) ?_
              exact castTop (by rw [hv14, if_neg hc11] <;> rfl) kt
          exact castTop (by rw [hv15, if_pos hc10] <;> rfl) kt
        · show Steps p.tables e below (T7.setTop (mkF m 67 #[.val (.long q0), .second, .val (.long q1), .second, .val (.long (q0 &&& (9223372036854775807 : Int64))), .second, .val (.long (q1 &&& (9223372036854775807 : Int64))), .second, .val (.long v2), .second, .val (.long (v2 + (1 : Int64))), .second, .val (.long v4), .second, .val (.long v6), .second, .val (.long v8), .second] [(.int (lcmpW v4 (0 : Int64)))])) _
          refine XS.ifYes X7.here hx rfl (pc0 := 67) (pc' := 88) rfl (hb hby at_67) rfl ((if0 _ _).trans (feq (fun q => hc10 ((lw_eq v4 (0 : Int64)).mp q))).2) (by decide) (by decide) ?_
          show Steps p.tables e below (T7.setTop (mkF m 88 #[.val (.long q0), .second, .val (.long q1), .second, .val (.long (q0 &&& (9223372036854775807 : Int64))), .second, .val (.long (q1 &&& (9223372036854775807 : Int64))), .second, .val (.long v2), .second, .val (.long (v2 + (1 : Int64))), .second, .val (.long v4), .second, .val (.long v6), .second, .val (.long v8), .second] [])) _
          refine XS.iconst X7.here hx rfl (hb hby at_88) ?_
          exact castTop (by rw [hv15, if_neg hc10] <;> rfl) kt
      rw [hr20, if_pos hc9] at hr
      show Steps p.tables e below (T7.setTop (mkF m 89 #[.val (.long q0), .second, .val (.long q1), .second, .val (.long (q0 &&& (9223372036854775807 : Int64))), .second, .val (.long (q1 &&& (9223372036854775807 : Int64))), .second, .val (.long v2), .second, .val (.long (v2 + (1 : Int64))), .second, .val (.long v4), .second, .val (.long v6), .second, .val (.long v8), .second] [(.int v15)])) _
      exact retN X7 hx (t := .boolean) Bd.returns (by simp) (hb hby at_89) hr
    · show Steps p.tables e below (T7.setTop (mkF m 60 #[.val (.long q0), .second, .val (.long q1), .second, .val (.long (q0 &&& (9223372036854775807 : Int64))), .second, .val (.long (q1 &&& (9223372036854775807 : Int64))), .second, .val (.long v2), .second, .val (.long (v2 + (1 : Int64))), .second, .val (.long v4), .second, .val (.long v6), .second, .val (.long v8), .second] [(.int (lcmpW (q1 &&& (9223372036854775807 : Int64)) (0 : Int64)))])) _
      refine XS.ifYes X7.here hx rfl (pc0 := 60) (pc' := 90) rfl (hb hby at_60) rfl ((if0 _ _).trans (feq (fun q => hc9 ((lw_eq (q1 &&& (9223372036854775807 : Int64)) (0 : Int64)).mp q))).2) (by decide) (by decide) ?_
      show Steps p.tables e below (T7.setTop (mkF m 90 #[.val (.long q0), .second, .val (.long q1), .second, .val (.long (q0 &&& (9223372036854775807 : Int64))), .second, .val (.long (q1 &&& (9223372036854775807 : Int64))), .second, .val (.long v2), .second, .val (.long (v2 + (1 : Int64))), .second, .val (.long v4), .second, .val (.long v6), .second, .val (.long v8), .second] [])) _
      refine XS.lload X7.here hx rfl (hb hby at_90) rfl ?_
      show Steps p.tables e below (T7.setTop (mkF m 92 #[.val (.long q0), .second, .val (.long q1), .second, .val (.long (q0 &&& (9223372036854775807 : Int64))), .second, .val (.long (q1 &&& (9223372036854775807 : Int64))), .second, .val (.long v2), .second, .val (.long (v2 + (1 : Int64))), .second, .val (.long v4), .second, .val (.long v6), .second, .val (.long v8), .second] [(.long v8)])) _
      refine XS.lconst X7.here hx rfl (hb hby at_92) ?_
      show Steps p.tables e below (T7.setTop (mkF m 93 #[.val (.long q0), .second, .val (.long q1), .second, .val (.long (q0 &&& (9223372036854775807 : Int64))), .second, .val (.long (q1 &&& (9223372036854775807 : Int64))), .second, .val (.long v2), .second, .val (.long (v2 + (1 : Int64))), .second, .val (.long v4), .second, .val (.long v6), .second, .val (.long v8), .second] [(.long (0 : Int64)), (.long v8)])) _
      refine XS.lcmp X7.here hx rfl (hb hby at_93) rfl ?_
      show Steps p.tables e below (T7.setTop (mkF m 94 #[.val (.long q0), .second, .val (.long q1), .second, .val (.long (q0 &&& (9223372036854775807 : Int64))), .second, .val (.long (q1 &&& (9223372036854775807 : Int64))), .second, .val (.long v2), .second, .val (.long (v2 + (1 : Int64))), .second, .val (.long v4), .second, .val (.long v6), .second, .val (.long v8), .second] [(.int (lcmpW v8 (0 : Int64)))])) _
      refine own_dia (F := (mkF m 122 #[.val (.long q0), .second, .val (.long q1), .second, .val (.long (q0 &&& (9223372036854775807 : Int64))), .second, .val (.long (q1 &&& (9223372036854775807 : Int64))), .second, .val (.long v2), .second, .val (.long (v2 + (1 : Int64))), .second, .val (.long v4), .second, .val (.long v6), .second, .val (.long v8), .second] [(.int v19)])) ?_ ?_
      · intro kt
        by_cases hc16 : v8 = (0 : Int64)
        · show Steps p.tables e below (T7.setTop (mkF m 94 #[.val (.long q0), .second, .val (.long q1), .second, .val (.long (q0 &&& (9223372036854775807 : Int64))), .second, .val (.long (q1 &&& (9223372036854775807 : Int64))), .second, .val (.long v2), .second, .val (.long (v2 + (1 : Int64))), .second, .val (.long v4), .second, .val (.long v6), .second, .val (.long v8), .second] [(.int (lcmpW v8 (0 : Int64)))])) _
          refine XS.ifNo X7.here hx rfl (hb hby at_94) rfl ((if0 _ _).trans (teq ((lw_eq v8 (0 : Int64)).mpr hc16)).2) ?_
          show Steps p.tables e below (T7.setTop (mkF m 97 #[.val (.long q0), .second, .val (.long q1), .second, .val (.long (q0 &&& (9223372036854775807 : Int64))), .second, .val (.long (q1 &&& (9223372036854775807 : Int64))), .second, .val (.long v2), .second, .val (.long (v2 + (1 : Int64))), .second, .val (.long v4), .second, .val (.long v6), .second, .val (.long v8), .second] [])) _
          refine XS.lload X7.here hx rfl (hb hby at_97) rfl ?_
          show Steps p.tables e below (T7.setTop (mkF m 99 #[.val (.long q0), .second, .val (.long q1), .second, .val (.long (q0 &&& (9223372036854775807 : Int64))), .second, .val (.long (q1 &&& (9223372036854775807 : Int64))), .second, .val (.long v2), .second, .val (.long (v2 + (1 : Int64))), .second, .val (.long v4), .second, .val (.long v6), .second, .val (.long v8), .second] [(.long v6)])) _
          refine XS.lload X7.here hx rfl (hb hby at_99) rfl ?_
          show Steps p.tables e below (T7.setTop (mkF m 101 #[.val (.long q0), .second, .val (.long q1), .second, .val (.long (q0 &&& (9223372036854775807 : Int64))), .second, .val (.long (q1 &&& (9223372036854775807 : Int64))), .second, .val (.long v2), .second, .val (.long (v2 + (1 : Int64))), .second, .val (.long v4), .second, .val (.long v6), .second, .val (.long v8), .second] [(.long v4), (.long v6)])) _
          refine XS.lsub X7.here hx rfl (hb hby at_101) rfl ?_
          show Steps p.tables e below (T7.setTop (mkF m 102 #[.val (.long q0), .second, .val (.long q1), .second, .val (.long (q0 &&& (9223372036854775807 : Int64))), .second, .val (.long (q1 &&& (9223372036854775807 : Int64))), .second, .val (.long v2), .second, .val (.long (v2 + (1 : Int64))), .second, .val (.long v4), .second, .val (.long v6), .second, .val (.long v8), .second] [(.long (v6 - v4))])) _
          refine X7.ldc2Long hx hown (mvT hZ (hw _ (List.mem_of_getElem? (i := 10) rfl))) (g := (mkF m 102 #[.val (.long q0), .second, .val (.long q1), .second, .val (.long (q0 &&& (9223372036854775807 : Int64))), .second, .val (.long (q1 &&& (9223372036854775807 : Int64))), .second, .val (.long v2), .second, .val (.long (v2 + (1 : Int64))), .second, .val (.long v4), .second, .val (.long v6), .second, .val (.long v8), .second] [(.long (v6 - v4))])) rfl (hb hby at_102) _ ?_
          show Steps p.tables e below (T7.setTop (mkF m 105 #[.val (.long q0), .second, .val (.long q1), .second, .val (.long (q0 &&& (9223372036854775807 : Int64))), .second, .val (.long (q1 &&& (9223372036854775807 : Int64))), .second, .val (.long v2), .second, .val (.long (v2 + (1 : Int64))), .second, .val (.long v4), .second, .val (.long v6), .second, .val (.long v8), .second] [(.long (2 : Int64)), (.long (v6 - v4))])) _
          refine XS.lload X7.here hx rfl (hb hby at_105) rfl ?_
          show Steps p.tables e below (T7.setTop (mkF m 107 #[.val (.long q0), .second, .val (.long q1), .second, .val (.long (q0 &&& (9223372036854775807 : Int64))), .second, .val (.long (q1 &&& (9223372036854775807 : Int64))), .second, .val (.long v2), .second, .val (.long (v2 + (1 : Int64))), .second, .val (.long v4), .second, .val (.long v6), .second, .val (.long v8), .second] [(.long v2), (.long (2 : Int64)), (.long (v6 - v4))])) _
          refine XS.lload X7.here hx rfl (hb hby at_107) rfl ?_
          show Steps p.tables e below (T7.setTop (mkF m 109 #[.val (.long q0), .second, .val (.long q1), .second, .val (.long (q0 &&& (9223372036854775807 : Int64))), .second, .val (.long (q1 &&& (9223372036854775807 : Int64))), .second, .val (.long v2), .second, .val (.long (v2 + (1 : Int64))), .second, .val (.long v4), .second, .val (.long v6), .second, .val (.long v8), .second] [(.long (q1 &&& (9223372036854775807 : Int64))), (.long v2), (.long (2 : Int64)), (.long (v6 - v4))])) _
          refine XS.ldiv X7.here hx rfl (hb hby at_109) rfl (fun q => hc9 q) ?_
          show Steps p.tables e below (T7.setTop (mkF m 110 #[.val (.long q0), .second, .val (.long q1), .second, .val (.long (q0 &&& (9223372036854775807 : Int64))), .second, .val (.long (q1 &&& (9223372036854775807 : Int64))), .second, .val (.long v2), .second, .val (.long (v2 + (1 : Int64))), .second, .val (.long v4), .second, .val (.long v6), .second, .val (.long v8), .second] [(.long (v2 / (q1 &&& (9223372036854775807 : Int64)))), (.long (2 : Int64)), (.long (v6 - v4))])) _
          refine XS.lmul X7.here hx rfl (hb hby at_110) rfl ?_
          show Steps p.tables e below (T7.setTop (mkF m 111 #[.val (.long q0), .second, .val (.long q1), .second, .val (.long (q0 &&& (9223372036854775807 : Int64))), .second, .val (.long (q1 &&& (9223372036854775807 : Int64))), .second, .val (.long v2), .second, .val (.long (v2 + (1 : Int64))), .second, .val (.long v4), .second, .val (.long v6), .second, .val (.long v8), .second] [(.long ((2 : Int64) * (v2 / (q1 &&& (9223372036854775807 : Int64))))), (.long (v6 - v4))])) _
          refine XS.lconst X7.here hx rfl (hb hby at_111) ?_
          show Steps p.tables e below (T7.setTop (mkF m 112 #[.val (.long q0), .second, .val (.long q1), .second, .val (.long (q0 &&& (9223372036854775807 : Int64))), .second, .val (.long (q1 &&& (9223372036854775807 : Int64))), .second, .val (.long v2), .second, .val (.long (v2 + (1 : Int64))), .second, .val (.long v4), .second, .val (.long v6), .second, .val (.long v8), .second] [(.long (1 : Int64)), (.long ((2 : Int64) * (v2 / (q1 &&& (9223372036854775807 : Int64))))), (.long (v6 - v4))])) _
          refine XS.ladd X7.here hx rfl (hb hby at_112) rfl ?_
          show Steps p.tables e below (T7.setTop (mkF m 113 #[.val (.long q0), .second, .val (.long q1), .second, .val (.long (q0 &&& (9223372036854775807 : Int64))), .second, .val (.long (q1 &&& (9223372036854775807 : Int64))), .second, .val (.long v2), .second, .val (.long (v2 + (1 : Int64))), .second, .val (.long v4), .second, .val (.long v6), .second, .val (.long v8), .second] [(.long (((2 : Int64) * (v2 / (q1 &&& (9223372036854775807 : Int64)))) + (1 : Int64))), (.long (v6 - v4))])) _
          refine XS.lcmp X7.here hx rfl (hb hby at_113) rfl ?_
          show Steps p.tables e below (T7.setTop (mkF m 114 #[.val (.long q0), .second, .val (.long q1), .second, .val (.long (q0 &&& (9223372036854775807 : Int64))), .second, .val (.long (q1 &&& (9223372036854775807 : Int64))), .second, .val (.long v2), .second, .val (.long (v2 + (1 : Int64))), .second, .val (.long v4), .second, .val (.long v6), .second, .val (.long v8), .second] [(.int (lcmpW (v6 - v4) (((2 : Int64) * (v2 / (q1 &&& (9223372036854775807 : Int64)))) + (1 : Int64))))])) _
          refine own_dia (F := (mkF m 122 #[.val (.long q0), .second, .val (.long q1), .second, .val (.long (q0 &&& (9223372036854775807 : Int64))), .second, .val (.long (q1 &&& (9223372036854775807 : Int64))), .second, .val (.long v2), .second, .val (.long (v2 + (1 : Int64))), .second, .val (.long v4), .second, .val (.long v6), .second, .val (.long v8), .second] [(.int v18)])) ?_ ?_
          · intro kt
            by_cases hc17 : (v6 - v4) = (((2 : Int64) * (v2 / (q1 &&& (9223372036854775807 : Int64)))) + (1 : Int64))
            · show Steps p.tables e below (T7.setTop (mkF m 114 #[.val (.long q0), .second, .val (.long q1), .second, .val (.long (q0 &&& (9223372036854775807 : Int64))), .second, .val (.long (q1 &&& (9223372036854775807 : Int64))), .second, .val (.long v2), .second, .val (.long (v2 + (1 : Int64))), .second, .val (.long v4), .second, .val (.long v6), .second, .val (.long v8), .second] [(.int (lcmpW (v6 - v4) (((2 : Int64) * (v2 / (q1 &&& (9223372036854775807 : Int64)))) + (1 : Int64))))])) _
              refine XS.ifNo X7.here hx rfl (hb hby at_114) rfl ((if0 _ _).trans (teq ((lw_eq (v6 - v4) (((2 : Int64) * (v2 / (q1 &&& (9223372036854775807 : Int64)))) + (1 : Int64))).mpr hc17)).2) ?_
              show Steps p.tables e below (T7.setTop (mkF m 117 #[.val (.long q0), .second, .val (.long q1), .second, .val (.long (q0 &&& (9223372036854775807 : Int64))), .second, .val (.long (q1 &&& (9223372036854775807 : Int64))), .second, .val (.long v2), .second, .val (.long (v2 + (1 : Int64))), .second, .val (.long v4), .second, .val (.long v6), .second, .val (.long v8), .second] [])) _
              refine XS.iconst X7.here hx rfl (hb hby at_117) ?_
              show Steps p.tables e below (T7.setTop (mkF m 118 #[.val (.long q0), .second, .val (.long q1), .second, .val (.long (q0 &&& (9223372036854775807 : Int64))), .second, .val (.long (q1 &&& (9223372036854775807 : Int64))), .second, .val (.long v2), .second, .val (.long (v2 + (1 : Int64))), .second, .val (.long v4), .second, .val (.long v6), .second, .val (.long v8), .second] [(.int (1 : Int32))])) _
              refine XS.goto X7.here hx rfl (pc0 := 118) (pc' := 122) rfl (hb hby at_118) (by decide) (by decide) ?_
              exact castTop (by rw [hv18, if_pos hc17] <;> rfl) kt
            · show Steps p.tables e below (T7.setTop (mkF m 114 #[.val (.long q0), .second, .val (.long q1), .second, .val (.long (q0 &&& (9223372036854775807 : Int64))), .second, .val (.long (q1 &&& (9223372036854775807 : Int64))), .second, .val (.long v2), .second, .val (.long (v2 + (1 : Int64))), .second, .val (.long v4), .second, .val (.long v6), .second, .val (.long v8), .second] [(.int (lcmpW (v6 - v4) (((2 : Int64) * (v2 / (q1 &&& (9223372036854775807 : Int64)))) + (1 : Int64))))])) _
              refine XS.ifYes X7.here hx rfl (pc0 := 114) (pc' := 121) rfl (hb hby at_114) rfl ((if0 _ _).trans (feq (fun q => hc17 ((lw_eq (v6 - v4) (((2 : Int64) * (v2 / (q1 &&& (9223372036854775807 : Int64)))) + (1 : Int64))).mp q))).2) (by decide) (by decide) ?_
              show Steps p.tables e below (T7.setTop (mkF m 121 #[.val (.long q0), .second, .val (.long q1), .second, .val (.long (q0 &&& (9223372036854775807 : Int64))), .second, .val (.long (q1 &&& (9223372036854775807 : Int64))), .second, .val (.long v2), .second, .val (.long (v2 + (1 : Int64))), .second, .val (.long v4), .second, .val (.long v6), .second, .val (.long v8), .second] [])) _
              refine XS.iconst X7.here hx rfl (hb hby at_121) ?_
              exact castTop (by rw [hv18, if_neg hc17] <;> rfl) kt
          exact castTop (by rw [hv19, if_pos hc16] <;> rfl) kt
        · show Steps p.tables e below (T7.setTop (mkF m 94 #[.val (.long q0), .second, .val (.long q1), .second, .val (.long (q0 &&& (9223372036854775807 : Int64))), .second, .val (.long (q1 &&& (9223372036854775807 : Int64))), .second, .val (.long v2), .second, .val (.long (v2 + (1 : Int64))), .second, .val (.long v4), .second, .val (.long v6), .second, .val (.long v8), .second] [(.int (lcmpW v8 (0 : Int64)))])) _
          refine XS.ifYes X7.here hx rfl (pc0 := 94) (pc' := 121) rfl (hb hby at_94) rfl ((if0 _ _).trans (feq (fun q => hc16 ((lw_eq v8 (0 : Int64)).mp q))).2) (by decide) (by decide) ?_
          show Steps p.tables e below (T7.setTop (mkF m 121 #[.val (.long q0), .second, .val (.long q1), .second, .val (.long (q0 &&& (9223372036854775807 : Int64))), .second, .val (.long (q1 &&& (9223372036854775807 : Int64))), .second, .val (.long v2), .second, .val (.long (v2 + (1 : Int64))), .second, .val (.long v4), .second, .val (.long v6), .second, .val (.long v8), .second] [])) _
          refine XS.iconst X7.here hx rfl (hb hby at_121) ?_
          exact castTop (by rw [hv19, if_neg hc16] <;> rfl) kt
      rw [hr20, if_neg hc9] at hr
      show Steps p.tables e below (T7.setTop (mkF m 122 #[.val (.long q0), .second, .val (.long q1), .second, .val (.long (q0 &&& (9223372036854775807 : Int64))), .second, .val (.long (q1 &&& (9223372036854775807 : Int64))), .second, .val (.long v2), .second, .val (.long (v2 + (1 : Int64))), .second, .val (.long v4), .second, .val (.long v6), .second, .val (.long v8), .second] [(.int v19)])) _
      exact retN X7 hx (t := .boolean) Bd.returns (by simp) (hb hby at_122) hr
  · show Q0 h0 n0 _ T7.heap _
    refine ⟨?_, N7⟩
    have hfin : r20 = (1 : Int32) := by
      exact (own_law q0 q1 v2 v4 v6 v8 v13 v14 v15 v18 v19 r20 hv2 hv4 hv6 hv8 hv13 hv14 hv15 hv18 hv19 hr20)
    rw [hfin]
set_option maxRecDepth 65536 in
set_option maxHeartbeats 40000000 in
theorem comes_1 {Post : Tables → Env → Array Value → State → Outcome → State → Prop} (hpost : ∀ tb e args s v u, (limb_1_1.after args s (.returned v) u = true ∧ limb_1_2.after args s (.returned v) u = true ∧ True) → FrameEnd s (.returned v) u (Jvm.fieldLocs frame_1_writes args s ++ Jvm.arrayLocs frame_1_arrays args s ++ Jvm.staticLocs frame_1_statics s) 0 0 → Post tb e args s (.returned v) u) :
    ArmFor flags0 classFile x code maxLocals ret World_1 tables_1 room_1 Calls_1 rest_1 Pre_1 Post := by
  intro l hfl _ _ p e ha hc hk s m args below hf hA hF happ hP
  obtain ⟨hcalls, hrest, hpre⟩ := hP
  obtain ⟨-, -, -, hnamed, -, -, -, hat⟩ := (Spec.applies_iff hf).mp happ
  obtain ⟨hg, hn⟩ := and_e (Cond.before_iff.mp (show (Jvm.Cond.and given_1 narrow_1).before args s = true from hpre))
  obtain ⟨gg1, gg2⟩ := and_e hg
  obtain ⟨gg3, gg4⟩ := and_e gg2
  obtain ⟨w0, w1, rfl⟩ : ∃ w0 w1 : Value, args = #[w0, w1] := by
    have hs : args.size = 2 := by simpa [Cond.value, given_1] using gg1
    obtain ⟨L⟩ := args
    match L, hs with
    | [w0, w1], _ => exact ⟨w0, w1, rfl⟩
  have hw := fun d (hd : d ∈ tables_1) => atoms_spec (ws := Jvm.Cond.code x code maxLocals ret :: tables_1) hat d (List.mem_cons_of_mem _ hd)
  have hfit : Fit s := fun {y c} hc i hi => by
    obtain ⟨ha, rfl⟩ := Array.getElem?_eq_some_iff.mp hc
    have q := List.all_eq_true.mp ((Array.all_eq_true_iff_forall_mem.mp hF) _ (Array.getElem_mem ha)) i (List.mem_range.mpr hi)
    simpa [Array.getElem?_eq_getElem hi] using q
  obtain ⟨i0, ei0⟩ := isL_v gg3
  obtain rfl : w0 = (.long i0) := Option.some.inj ei0
  obtain ⟨i1, ei1⟩ := isL_v gg4
  obtain rfl : w1 = (.long i1) := Option.some.inj ei1
  obtain ⟨n, o, h1, h2, h3, _, L, rfl, ⟨rfl, N⟩, hq⟩ := rm0 l s _ hw tables_1 i0 i1  s.heap s.heap.size (Nat.le_refl _)  p e ha hc hk s m _ below hf ((Spec.applies_iff_loose hf).mp happ).1 ⟨rfl, State.Warmed39.refl s, rfl⟩ trivial
  refine ⟨n, _, h1, h2, h3, hpost _ _ _ _ _ _ ⟨Cond.after_iff.mpr rfl, Cond.after_iff.mpr (eq_i res_at (Term.int_eval (1)) rfl), trivial⟩ ⟨hq.1, hq.2.1, (hq.2.2.sift fun y hy => Or.inr (N y hy)).mono (by decide) (by decide)⟩⟩
theorem main_1_1 : Claimed_1_1 := comes_1 fun _ _ _ _ _ _ h hF => ⟨h.1, hF⟩
theorem main_1_2 : Claimed_1_2 := comes_1 fun _ _ _ _ _ _ h hF => ⟨h.2.1, hF⟩
end Jvm.Pilot.@@N@@
namespace Jvm.Pilot.@@N@@
open Jvm Jvm.ClassFile Sem Op Lib Jvm.Free Jvm.Stand Jvm.Pilot.@@N@@.Jvm.D
/-! MADE BY PROGRAM (witnessworld.py) out of the Statement's table words and the real class files: 10 classes; the members and pool entries that the words name. The judged class is class 1, her method 1. -/
namespace start1
open Jvm.ClassFile
def u (s : String) : CpInfo := .utf8 (stringToUtf16 s)
/-- a pool by its gaps: so many unusable entries, then the entry; so many at the end -/
def gap : Nat → List CpInfo → List CpInfo
  | 0, r => r
  | n + 1, r => .unusable :: gap n r
def poolList (es : List (Nat × CpInfo)) (last : Nat) : List CpInfo := es.foldr (fun e r => gap e.1 (e.2 :: r)) (gap last [])
def pool (es : List (Nat × CpInfo)) (last : Nat) : Array CpInfo := ⟨poolList es last⟩
def fileOf (pool : Array CpInfo) (this : Nat) (attrs : Array Attribute := #[]) (ms : Array MethodInfo := #[]) (fl : Nat := 33) (sup : Nat := 0) (ifs : Array Nat := #[]) (fds : Array FieldInfo := #[]) : ClassFile where
  minorVersion := 0
  majorVersion := 65
  constantPool := pool
  accessFlags := fl
  thisClass := this
  superClass := sup
  interfaces := ifs
  fields := fds
  methods := ms
  attributes := attrs
def plain (name : String) (sup : Option ClassId) : Class where
  name := name
  kind := .ordinary
  loader := none
  accessFlags := 33
  super := sup
  interfaces := #[]
  cf := none
  fields := #[]
  methods := #[]
  instanceTypes := #[]
  staticTypes := #[]
  resolved := #[]
  callSites := []
  init := .initialized
  statics := none
  mirror := none

def pool0 : Array CpInfo := pool [(5, u "<init>"), (0, u "()V"), (1, .class_ 10), (1, u "java/lang/Object")] 113

def k0m0 : Method := { name := "<init>", desc := "()V", sig := { parameters := [], returnType := none }, accessFlags := 1, code := none }
/-- java/lang/Object -/
def k0 : Class := { plain "java/lang/Object" none with
  accessFlags := 33
  interfaces := #[]
  cf := some (fileOf pool0 8 #[] #[{ accessFlags := 1, nameIndex := 5, descriptorIndex := 6, attributes := #[] }] 33 0 #[] #[])
  fields := #[]
  methods := #[k0m0]
  instanceTypes := #[]
  staticTypes := #[]
  resolved := Array.replicate 124 none
  statics := none }

def pool1 : Array CpInfo := pool [(2, .class_ 4), (1, u "java/lang/Object"), (0, u "<init>"), (0, u "()V"), (2, .long 9223372036854775807), (1, .long 9223372036854775806), (1, .methodref 14 15), (0, .class_ 16), (0, .nameAndType 17 18), (0, u "java/lang/Math"), (0, u "min"), (0, u "(JJ)J"), (0, .methodref 20 21), (0, .class_ 22), (0, .nameAndType 23 18), (0, u "com/example/paperloom/paperloom/ItemShares"), (0, u "evenSquares"), (0, .long 2), (1, .class_ 27), (0, u "com/example/paperloom/paperloom/ItemSharesEvenSquaresPinLaw"), (2, u "law"), (0, u "(JJ)Z")] 3

def k1m0 : Method := { name := "<init>", desc := "()V", sig := { parameters := [], returnType := none }, accessFlags := 1, code := none }
def k1c1 : Code := { maxStack := 8, maxLocals := 18, code := code, exceptionTable := #[], attributes := #[] }
def k1m1 : Method := { name := "law", desc := "(JJ)Z", sig := { parameters := [.long, .long], returnType := some .boolean }, accessFlags := 9, code := some k1c1 }
/-- com/example/paperloom/paperloom/ItemSharesEvenSquaresPinLaw -/
def k1 : Class := { plain "com/example/paperloom/paperloom/ItemSharesEvenSquaresPinLaw" (some 0) with
  accessFlags := 49
  interfaces := #[]
  cf := some (fileOf pool1 26 #[] #[{ accessFlags := 1, nameIndex := 5, descriptorIndex := 6, attributes := #[] }, { accessFlags := 9, nameIndex := 30, descriptorIndex := 31, attributes := #[] }] 49 2 #[] #[])
  fields := #[]
  methods := #[k1m0, k1m1]
  instanceTypes := #[]
  staticTypes := #[]
  resolved := Array.replicate 35 none
  statics := none }

def pool2 : Array CpInfo := pool [(1, .class_ 2), (0, u "java/lang/Math"), (1, .class_ 6), (1, u "java/lang/Object"), (0, u "<init>"), (0, u "()V"), (89, .class_ 100), (1, u "java/lang/Math$RandomNumberGeneratorHolder"), (20, u "(JJ)J"), (50, u "negativeZeroFloatBits"), (0, u "J"), (2, u "negativeZeroDoubleBits"), (24, u "min"), (43, u "$assertionsDisabled"), (0, u "Z"), (91, u "twoToTheDoubleScaleDown"), (0, u "D"), (4, u "twoToTheDoubleScaleUp"), (9, u "E"), (3, u "PI"), (2, u "TAU"), (2, u "DEGREES_TO_RADIANS"), (0, u "RADIANS_TO_DEGREES")] 94

def k2m0 : Method := { name := "<init>", desc := "()V", sig := { parameters := [], returnType := none }, accessFlags := 2, code := none }
def k2c1 : Code := { maxStack := 4, maxLocals := 4, code := jdk_29_method_70_code, exceptionTable := #[], attributes := #[] }
def k2m1 : Method := { name := "min", desc := "(JJ)J", sig := { parameters := [.long, .long], returnType := some .long }, accessFlags := 9, code := some k2c1 }
/-- java/lang/Math -/
def k2 : Class := { plain "java/lang/Math" (some 0) with
  accessFlags := 49
  interfaces := #[]
  cf := some (fileOf pool2 1 #[.nestMembers #[98]] #[{ accessFlags := 2, nameIndex := 7, descriptorIndex := 8, attributes := #[] }, { accessFlags := 9, nameIndex := 201, descriptorIndex := 121, attributes := #[] }] 49 4 #[] #[{ accessFlags := 25, nameIndex := 354, descriptorIndex := 339, attributes := #[] }, { accessFlags := 25, nameIndex := 358, descriptorIndex := 339, attributes := #[] }, { accessFlags := 25, nameIndex := 361, descriptorIndex := 339, attributes := #[] }, { accessFlags := 26, nameIndex := 364, descriptorIndex := 339, attributes := #[] }, { accessFlags := 26, nameIndex := 365, descriptorIndex := 339, attributes := #[] }, { accessFlags := 26, nameIndex := 172, descriptorIndex := 173, attributes := #[] }, { accessFlags := 26, nameIndex := 176, descriptorIndex := 173, attributes := #[] }, { accessFlags := 8, nameIndex := 344, descriptorIndex := 339, attributes := #[] }, { accessFlags := 8, nameIndex := 338, descriptorIndex := 339, attributes := #[] }, { accessFlags := 4120, nameIndex := 245, descriptorIndex := 246, attributes := #[] }])
  fields := #[{ name := "E", type := .double, accessFlags := 25, slot := 0, constantValue := 0 }, { name := "PI", type := .double, accessFlags := 25, slot := 1, constantValue := 0 }, { name := "TAU", type := .double, accessFlags := 25, slot := 2, constantValue := 0 }, { name := "DEGREES_TO_RADIANS", type := .double, accessFlags := 26, slot := 3, constantValue := 0 }, { name := "RADIANS_TO_DEGREES", type := .double, accessFlags := 26, slot := 4, constantValue := 0 }, { name := "negativeZeroFloatBits", type := .long, accessFlags := 26, slot := 5, constantValue := 0 }, { name := "negativeZeroDoubleBits", type := .long, accessFlags := 26, slot := 6, constantValue := 0 }, { name := "twoToTheDoubleScaleUp", type := .double, accessFlags := 8, slot := 7, constantValue := 0 }, { name := "twoToTheDoubleScaleDown", type := .double, accessFlags := 8, slot := 8, constantValue := 0 }, { name := "$assertionsDisabled", type := .boolean, accessFlags := 4120, slot := 9, constantValue := 0 }]
  methods := #[k2m0, k2m1]
  instanceTypes := #[]
  staticTypes := #[.double, .double, .double, .double, .double, .long, .long, .double, .double, .boolean]
  resolved := Array.replicate 460 none
  statics := none }

def pool3 : Array CpInfo := pool [(2, .class_ 4), (1, u "java/lang/Object"), (3, .class_ 10), (1, u "com/example/paperloom/paperloom/ItemShares"), (0, u "members"), (0, u "[[I"), (2, u "offset"), (0, u "[J"), (2, u "inFirst"), (0, u "[Z"), (2, u "firstOffset"), (0, u "J"), (1, u "[I"), (2, u "drawn"), (2, u "rank"), (2, u "forced"), (12, u "spread"), (11, u "(JJ)J"), (19, .class_ 81), (0, u "com/example/paperloom/paperloom/ItemShares$Shares"), (26, u "sheet"), (0, u "[[J"), (2, u "sheetPrice"), (0, u "D"), (158, u "HALVINGS"), (0, u "I"), (2, u "UNITS"), (2, u "STEPS"), (14, u "evenSquares")] 53

def k3c0 : Code := { maxStack := 8, maxLocals := 10, code := prog_23_method_7_code, exceptionTable := #[], attributes := #[] }
def k3m0 : Method := { name := "evenSquares", desc := "(JJ)J", sig := { parameters := [.long, .long], returnType := some .long }, accessFlags := 8, code := some k3c0 }
/-- com/example/paperloom/paperloom/ItemShares -/
def k3 : Class := { plain "com/example/paperloom/paperloom/ItemShares" (some 0) with
  accessFlags := 32
  interfaces := #[]
  cf := some (fileOf pool3 8 #[.nestMembers #[80]] #[{ accessFlags := 8, nameIndex := 294, descriptorIndex := 60, attributes := #[] }] 32 2 #[] #[{ accessFlags := 26, nameIndex := 272, descriptorIndex := 273, attributes := #[] }, { accessFlags := 26, nameIndex := 276, descriptorIndex := 24, attributes := #[] }, { accessFlags := 26, nameIndex := 279, descriptorIndex := 273, attributes := #[] }, { accessFlags := 18, nameIndex := 11, descriptorIndex := 12, attributes := #[] }, { accessFlags := 18, nameIndex := 15, descriptorIndex := 16, attributes := #[] }, { accessFlags := 18, nameIndex := 19, descriptorIndex := 20, attributes := #[] }, { accessFlags := 18, nameIndex := 23, descriptorIndex := 24, attributes := #[] }, { accessFlags := 18, nameIndex := 29, descriptorIndex := 12, attributes := #[] }, { accessFlags := 18, nameIndex := 32, descriptorIndex := 26, attributes := #[] }, { accessFlags := 18, nameIndex := 48, descriptorIndex := 16, attributes := #[] }, { accessFlags := 18, nameIndex := 35, descriptorIndex := 26, attributes := #[] }, { accessFlags := 2, nameIndex := 108, descriptorIndex := 109, attributes := #[] }, { accessFlags := 2, nameIndex := 112, descriptorIndex := 113, attributes := #[] }])
  fields := #[{ name := "HALVINGS", type := .int, accessFlags := 26, slot := 0, constantValue := 0 }, { name := "UNITS", type := .long, accessFlags := 26, slot := 1, constantValue := 0 }, { name := "STEPS", type := .int, accessFlags := 26, slot := 2, constantValue := 0 }, { name := "members", type := (.array (.array .int)), accessFlags := 18, slot := 0, constantValue := 0 }, { name := "offset", type := (.array .long), accessFlags := 18, slot := 1, constantValue := 0 }, { name := "inFirst", type := (.array .boolean), accessFlags := 18, slot := 2, constantValue := 0 }, { name := "firstOffset", type := .long, accessFlags := 18, slot := 3, constantValue := 0 }, { name := "drawn", type := (.array (.array .int)), accessFlags := 18, slot := 4, constantValue := 0 }, { name := "rank", type := (.array .int), accessFlags := 18, slot := 5, constantValue := 0 }, { name := "spread", type := (.array .long), accessFlags := 18, slot := 6, constantValue := 0 }, { name := "forced", type := (.array .int), accessFlags := 18, slot := 7, constantValue := 0 }, { name := "sheet", type := (.array (.array .long)), accessFlags := 2, slot := 8, constantValue := 0 }, { name := "sheetPrice", type := .double, accessFlags := 2, slot := 9, constantValue := 0 }]
  methods := #[k3m0]
  instanceTypes := #[(.array (.array .int)), (.array .long), (.array .boolean), .long, (.array (.array .int)), (.array .int), (.array .long), (.array .int), (.array (.array .long)), .double]
  staticTypes := #[.int, .long, .int]
  resolved := Array.replicate 348 none
  statics := none }

def pool4 : Array CpInfo := pool [(1, u "java/lang/Cloneable"), (0, .class_ 1), (0, u "java/lang/Object"), (0, .class_ 3)] 3

/-- java/lang/Cloneable -/
def k4 : Class := { plain "java/lang/Cloneable" (some 0) with
  accessFlags := 1537
  interfaces := #[]
  cf := some (fileOf pool4 2 #[] #[] 1537 4 #[] #[])
  fields := #[]
  methods := #[]
  instanceTypes := #[]
  staticTypes := #[]
  resolved := Array.replicate 8 none
  statics := none }

def pool5 : Array CpInfo := pool [(1, u "java/io/Serializable"), (0, .class_ 1), (0, u "java/lang/Object"), (0, .class_ 3)] 3

/-- java/io/Serializable -/
def k5 : Class := { plain "java/io/Serializable" (some 0) with
  accessFlags := 1537
  interfaces := #[]
  cf := some (fileOf pool5 2 #[] #[] 1537 4 #[] #[])
  fields := #[]
  methods := #[]
  instanceTypes := #[]
  staticTypes := #[]
  resolved := Array.replicate 8 none
  statics := none }

/-- the primitive byte -/
def k6 : Class := { plain "byte" none with kind := .primitive 'B', accessFlags := 0x411 }
/-- [B -/
def k7 : Class := { plain "[B" (some 0) with kind := .array 6 .byte, interfaces := #[4, 5], accessFlags := 1041 }

/-- the primitive int -/
def k8 : Class := { plain "int" none with kind := .primitive 'I', accessFlags := 0x411 }
/-- [I -/
def k9 : Class := { plain "[I" (some 0) with kind := .array 8 .int, interfaces := #[4, 5], accessFlags := 1041 }

def heap : Heap := #[]
def classes : Array Class := #[k0, k1, k2, k3, k4, k5, k6, k7, k8, k9]
def interned : List (Array UInt16 × Addr) := []
def slotsUsed : Nat := 0
def theMethod : MethodId := ⟨1, 1⟩
def args0 : Array Value := #[.long 5, .long 5]
def aboutOver (below : List Frame) : State where
  vm := { classes := classes, interned := interned.toArray }
  heap := heap
  slotsUsed := slotsUsed
  threads := #[{ frames := .invoking theMethod args0 :: below }]
def below0 : List Frame := [.native { method := ⟨0, 0⟩, args := #[] }]
def about1 : State := aboutOver below0
def p0 : Program := .bare "" "" ""
def e0 : Env := launch0.env 0 0 0
theorem w_frames : about1.frames = Frame.invoking theMethod args0 :: below0 := rfl
set_option maxRecDepth 65536 in
theorem w_args : argsFit about1.vm theMethod args0 = true := by decide +kernel
set_option maxRecDepth 65536 in
theorem w_heap : heapFits about1 = true := by decide +kernel
set_option maxRecDepth 65536 in
theorem w_runnable : about1.curStatus? = some .runnable := by decide +kernel
set_option maxRecDepth 65536 in
theorem w_alone : about1.alone = true := by decide +kernel
set_option maxRecDepth 65536 in
theorem w_named : about1.methodNamed? x = some theMethod := by decide +kernel
set_option maxRecDepth 65536 in
theorem w_hears : about1.hears theMethod below0 = true := by decide +kernel
set_option maxRecDepth 65536 in
theorem w_ripe : about1.ripe theMethod args0 below0 = true := by decide +kernel
theorem w_running : about1.status = .running := rfl
set_option maxRecDepth 65536 in
theorem w_room : about1.hasRoom e0.platform room_1 = true :=
  launch0.hasRoom_least _ room_1 (by decide +kernel) (by decide +kernel) (by decide +kernel) (by decide +kernel) (by decide +kernel) (by decide +kernel)
theorem allAtoms_all (ts : List Jvm.Cond) (a : Array Jvm.Value) (st : Jvm.State) : (allAtoms ts).before a st = ts.all (fun c => c.before a st) := by
  induction ts with
  | nil => rfl
  | cons c t ih =>
    show (Jvm.Cond.and c (allAtoms t)).before a st = _
    rw [Jvm.Cond.before_and, ih, List.all_cons]
def words1 : List Jvm.Cond := Jvm.Cond.code x code maxLocals ret :: tables_1
/-- a 'code' word, met by the world's own term for the bytes: nothing is compared byte by byte -/
theorem code_word {y : MethodName} {bytes : ByteArray} {mx : Nat} {rt : Option FieldType} {a : Array Value} {s : State} {m : MethodId} {meth : Method} {c : Code} (h1 : s.methodNamed? y = some m) (h2 : s.vm.method? m = some meth) (h3 : meth.code = some c) (h4 : c.code = bytes)
    (h5 : (c.maxLocals == mx && c.exceptionTable.isEmpty && decide (c.maxStack ≤ mostOperands) && decide (meth.sig.returnType = rt) && !meth.locks && decide (parseMethodDescriptor y.desc = some meth.sig)) = true) : (Jvm.Cond.code y bytes mx rt).before a s = true := by
  simp only [Bool.and_eq_true, beq_iff_eq, Bool.not_eq_true', decide_eq_true_eq] at h5
  obtain ⟨⟨⟨⟨⟨g1, g2⟩, g3⟩, g4⟩, g5⟩, g6⟩ := h5
  simp [Cond.before, Cond.holds, Cond.value, h1, h2, h3, h4, g1, g2, g3, g4, g5, g6]
def isCode : Jvm.Cond → Bool
  | .code _ _ _ _ => true
  | _ => false
theorem all_split {L : List Jvm.Cond} {P : Jvm.Cond → Bool} (h1 : L.all (fun c => isCode c || P c) = true) (h2 : ∀ c ∈ L.filter isCode, P c = true) : L.all P = true := by
  refine List.all_eq_true.mpr fun c hc => ?_
  have h := List.all_eq_true.mp h1 c hc
  rcases Bool.eq_false_or_eq_true (isCode c) with hi | hi
  · exact h2 c (List.mem_filter.mpr ⟨hc, hi⟩)
  · simpa [hi] using h
set_option maxRecDepth 65536 in
theorem w_c0 : (Jvm.Cond.code x code maxLocals ret).before args0 about1 = true := code_word (m := ⟨1, 1⟩) (meth := k1m1) (c := k1c1) (by decide +kernel) rfl rfl rfl (by decide +kernel)
set_option maxRecDepth 65536 in
theorem w_c1 : (Jvm.Cond.code ({ cls := "java/lang/Math", name := "min", desc := "(JJ)J" } : Jvm.MethodName) jdk_29_method_70_code (4 : Nat) (Option.some Jvm.ClassFile.FieldType.long)).before args0 about1 = true := code_word (m := ⟨2, 1⟩) (meth := k2m1) (c := k2c1) (by decide +kernel) rfl rfl rfl (by decide +kernel)
set_option maxRecDepth 65536 in
theorem w_c2 : (Jvm.Cond.code ({ cls := "com/example/paperloom/paperloom/ItemShares", name := "evenSquares", desc := "(JJ)J" } : Jvm.MethodName) prog_23_method_7_code (10 : Nat) (Option.some Jvm.ClassFile.FieldType.long)).before args0 about1 = true := code_word (m := ⟨3, 0⟩) (meth := k3m0) (c := k3c0) (by decide +kernel) rfl rfl rfl (by decide +kernel)
def codes1 : List Jvm.Cond := [Jvm.Cond.code x code maxLocals ret, Jvm.Cond.code ({ cls := "java/lang/Math", name := "min", desc := "(JJ)J" } : Jvm.MethodName) jdk_29_method_70_code (4 : Nat) (Option.some Jvm.ClassFile.FieldType.long), Jvm.Cond.code ({ cls := "com/example/paperloom/paperloom/ItemShares", name := "evenSquares", desc := "(JJ)J" } : Jvm.MethodName) prog_23_method_7_code (10 : Nat) (Option.some Jvm.ClassFile.FieldType.long)]
set_option maxRecDepth 65536 in
theorem codes_eq : words1.filter isCode = codes1 := rfl
theorem w_codes : ∀ c ∈ words1.filter isCode, c.before args0 about1 = true := by
  rw [codes_eq]
  intro c hc
  simp only [codes1, List.mem_cons, List.not_mem_nil, or_false] at hc
  rcases hc with rfl | rfl | rfl
  · exact w_c0
  · exact w_c1
  · exact w_c2
set_option maxRecDepth 65536 in
theorem w_t1 : words1.all (fun c => isCode c || c.before args0 about1) = true := by decide +kernel
theorem w_tables : (allAtoms (Jvm.Cond.code x code maxLocals ret :: tables_1)).before args0 about1 = true := by
  rw [allAtoms_all]
  show words1.all (fun c => c.before args0 about1) = true
  refine all_split ?_ w_codes
  rw [w_t1]
set_option maxRecDepth 65536 in
theorem w_case : (Jvm.Cond.and given_1 narrow_1).before args0 about1 = true := by decide +kernel
theorem w_applies : (headSpec (Jvm.Cond.code x code maxLocals ret :: tables_1) room_1).applies x e0.platform about1 = true :=
  (Spec.applies_iff w_frames).mpr ⟨w_running, w_runnable, w_alone, w_named, w_hears, w_ripe, w_room, w_tables⟩
theorem atStart : AtStart classFile x code maxLocals ret World_1 tables_1 room_1 Calls_1 rest_1 Pre_1 launch0 p0 e0 about1 theMethod args0 below0 :=
  ⟨lists_1, trivial, launch0.admits_env _ _ _, launch0.least_env, fairChoices_fair.cas, fairChoices_fair.clock, w_frames, w_args, w_heap, w_applies, trivial, trivial, w_case⟩
end start1
theorem witness_1 : WitnessClaimed_1 := ⟨start1.p0, start1.e0, start1.about1, start1.theMethod, start1.args0, start1.below0, start1.atStart⟩
end Jvm.Pilot.@@N@@
