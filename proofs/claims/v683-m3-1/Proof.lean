import JvmDerived
import JvmDerived.Pilot.@@N@@Statement
import JvmDerived.Pilot.@@N@@Code
set_option linter.unusedVariables false
set_option linter.unusedSimpArgs false
namespace Jvm.Pilot.@@N@@
open Jvm Jvm.ClassFile Sem Op Lib Jvm.Free Jvm.Stand Jvm.LawKit Jvm.RoadKit Bundle Jvm.Pilot.@@N@@.Jvm.D
section OwnKit
variable {p : Program} {l : Launch} {e : Env} {R : Room} {s : State} {m : MethodId} {args : Array Value} {below : List Frame} {meth : Method} {c : Code} {T : State} {locs : List Loc} {cells slots : Nat} {Z : State} {h h' : Heap} {a b : Addr} {ty : FieldType} {n : Nat} {f f' : Nat → Value} {sl : Nat} {v : Value} {ws : List Addr}
theorem own_dia {t : State} {B F : JFrame} (hh : Steps p.tables e below (T.setTop F) t → Steps p.tables e below (T.setTop B) t) (k : Steps p.tables e below (T.setTop F) t) : Steps p.tables e below (T.setTop B) t := hh k
/-- the place j lies in an array of n places -/
abbrev own_in (j : Int32) (n : Nat) : Prop := 0 ≤ j.toInt ∧ j.toInt < n
theorem own_in_nat {j : Int32} (hj : own_in j n) : j.toNatClampNeg < n := by simp only [Int32.toNatClampNeg]; omega
theorem own_in_arr {cl : Cell} {j : Int32} (hs : cl.slots.size = n) (hj : own_in j n) : ¬ (j < 0 ∨ cl.slots.size ≤ j.toNatClampNeg) := by
  have := own_in_nat hj
  have k0 : (0 : Int32).toInt = 0 := by decide
  rw [Int32.lt_iff_toInt_lt, hs, k0]; omega
/-- an array: its kind, its length, and what each place holds -/
def AF (Z : State) (h : Heap) (a : Addr) (ty : FieldType) (n : Nat) (f : Nat → Value) : Prop := ∃ c : Cell, Arr Z h a c ty ∧ c.slots.size = n ∧ n < 2147483648 ∧ ∀ j, j < n → c.slots[j]? = some (f j)
theorem AF.lt (F : AF Z h a ty n f) : a < h.size := by obtain ⟨c, A, -⟩ := F; exact A.lt
theorem AF.small (F : AF Z h a ty n f) : n < 2147483648 := by obtain ⟨c, -, -, q, -⟩ := F; exact q
theorem AF.ext (F : AF Z h a ty n f) (E : Ext h h') : AF Z h' a ty n f := by obtain ⟨c, A, r⟩ := F; exact ⟨c, A.ext E, r⟩
theorem AF.other (F : AF Z h b ty n f) (W : Wr h h' a sl v) (q : b ≠ a) : AF Z h' b ty n f := by obtain ⟨c, A, r⟩ := F; exact ⟨c, A.other W q, r⟩
theorem AF.keep (F : AF Z h a ty n f) (K : Keep h h' ws) (q : a ∉ ws) : AF Z h' a ty n f := by obtain ⟨c, A, r⟩ := F; exact ⟨c, ⟨K.2.1 a c A.1 q, A.2⟩, r⟩
theorem AF.cong (F : AF Z h a ty n f) (q : ∀ j, j < n → f j = f' j) : AF Z h a ty n f' := by obtain ⟨c, A, r1, r2, r3⟩ := F; exact ⟨c, A, r1, r2, fun j hj => by rw [← q j hj]; exact r3 j hj⟩
theorem AF.new {k : ClassId} {z : Int32} (A : Arr Z h a (newA k ty z) ty) (q : ¬ z < 0) : AF Z h a ty z.toNatClampNeg (fun _ => defaultValue ty) := ⟨_, A, sz_new _ _ _, (back32 q).2, fun j hj => by simp [newA, hj]⟩
theorem AF.set (F : AF Z h a ty n f) {k : Nat} (W : Wr h h' a k v) : AF Z h' a ty n (fun i => if i = k then v else f i) := by
  obtain ⟨c, A, r1, r2, r3⟩ := F
  refine ⟨_, Arr.same W A, by rw [sz_set]; exact r1, r2, fun j hj => ?_⟩
  obtain ⟨cell, h1, -, h3, -⟩ := W
  cases h1.symm.trans A.1
  by_cases q : j = k
  · subst q; simp [Cell.setSlot, h3]
  · have q' : ¬ k = j := fun z => q z.symm
    simp only [Cell.setSlot, Array.getElem?_setIfInBounds, if_neg q, if_neg q']; exact r3 j hj
theorem own_updI {g fN : Nat → Int32} {x : Int32} {J k : Nat} (hk : k = J) (hf : fN = fun i => if i = J then x else g i) : ∀ j, j < n → (if j = k then Value.int x else Value.int (g j)) = Value.int (fN j) := by
  subst hk hf; intro j _; by_cases q : j = k <;> simp [q]
theorem own_updJ {g fN : Nat → Int64} {x : Int64} {J k : Nat} (hk : k = J) (hf : fN = fun i => if i = J then x else g i) : ∀ j, j < n → (if j = k then Value.long x else Value.long (g j)) = Value.long (fN j) := by
  subst hk hf; intro j _; by_cases q : j = k <;> simp [q]
theorem AF.ldI (X : Stand p l e R s m args below meth c T locs cells slots) (hx : p.tables.exec = Jvm.exec) (hZ : Z.Warmed39 s.vm) (eT : T.heap = h) {f : Nat → Int32} (A : AF Z h a .int n (fun j => .int (f j))) {j : Int32} (hj : own_in j n) {g : JFrame} (hg : g.method = m) {rest : List Value} (hs : g.stack = .int j :: .ref a :: rest) (hd : decode c.code g.pc = .ok (.iaload, 1)) (target : State)
    (k : Steps p.tables e below (T.setTop { g with pc := g.pc + 1, stack := .int (f j.toNatClampNeg) :: rest }) target) : Steps p.tables e below (T.setTop g) target := by
  obtain ⟨cl, A, r1, r2, r3⟩ := A
  exact X.iaload hx (j := j) (v := .int (f j.toNatClampNeg)) (by rw [eT]; exact A.1) (State.isArrayOf_alike hZ.alike A.2.1) A.2.2 (own_in_arr r1 hj) (r3 _ (own_in_nat hj)) hg hs hd _ k
theorem AF.ldJ (X : Stand p l e R s m args below meth c T locs cells slots) (hx : p.tables.exec = Jvm.exec) (hZ : Z.Warmed39 s.vm) (eT : T.heap = h) {f : Nat → Int64} (A : AF Z h a .long n (fun j => .long (f j))) {j : Int32} (hj : own_in j n) {g : JFrame} (hg : g.method = m) {rest : List Value} (hs : g.stack = .int j :: .ref a :: rest) (hd : decode c.code g.pc = .ok (.laload, 1)) (target : State)
    (k : Steps p.tables e below (T.setTop { g with pc := g.pc + 1, stack := .long (f j.toNatClampNeg) :: rest }) target) : Steps p.tables e below (T.setTop g) target := by
  obtain ⟨cl, A, r1, r2, r3⟩ := A
  exact X.laload hx (j := j) (v := .long (f j.toNatClampNeg)) (by rw [eT]; exact A.1) (State.isArrayOf_alike hZ.alike A.2.1) A.2.2 (own_in_arr r1 hj) (r3 _ (own_in_nat hj)) hg hs hd _ k
theorem AF.ldB (X : Stand p l e R s m args below meth c T locs cells slots) (hx : p.tables.exec = Jvm.exec) (hZ : Z.Warmed39 s.vm) (eT : T.heap = h) {f : Nat → Int32} (A : AF Z h a .byte n (fun j => .int (f j))) {j : Int32} (hj : own_in j n) {g : JFrame} (hg : g.method = m) {rest : List Value} (hs : g.stack = .int j :: .ref a :: rest) (hd : decode c.code g.pc = .ok (.baload, 1)) (target : State)
    (k : Steps p.tables e below (T.setTop { g with pc := g.pc + 1, stack := .int (f j.toNatClampNeg) :: rest }) target) : Steps p.tables e below (T.setTop g) target := by
  obtain ⟨cl, A, r1, r2, r3⟩ := A
  exact X.baloadBytes hx (j := j) (v := .int (f j.toNatClampNeg)) (by rw [eT]; exact A.1) (State.isArrayOf_alike hZ.alike A.2.1) A.2.2 (own_in_arr r1 hj) (r3 _ (own_in_nat hj)) hg hs hd _ k
theorem AF.len (X : Stand p l e R s m args below meth c T locs cells slots) (hx : p.tables.exec = Jvm.exec) (hZ : Z.Warmed39 s.vm) (eT : T.heap = h) (A : AF Z h a ty n f) {g : JFrame} (hg : g.method = m) {rest : List Value} (hs : g.stack = .ref a :: rest) (hd : decode c.code g.pc = .ok (.arraylength, 1)) (target : State)
    (k : Steps p.tables e below (T.setTop { g with pc := g.pc + 1, stack := .int (Int32.ofNat n) :: rest }) target) : Steps p.tables e below (T.setTop g) target := by
  obtain ⟨cl, A, r1, r2, r3⟩ := A
  subst r1
  exact X.arraylength hx (by rw [eT]; exact A.1) (State.isArrayOf_alike hZ.alike A.2.1) hg hs hd _ k
theorem AF.stI (X : Stand p l e R s m args below meth c T locs cells slots) (hx : p.tables.exec = Jvm.exec) (hZ : Z.Warmed39 s.vm) (eT : T.heap = h) (A : AF Z h a .int n f) {j x : Int32} (hj : own_in j n) {g : JFrame} (hg : g.method = m) {rest : List Value} (hs : g.stack = .int x :: .int j :: .ref a :: rest) (hd : decode c.code g.pc = .ok (.iastore, 1)) :
    ∃ T' h', Stand p l e R s m args below meth c T' (locs ++ [⟨a, j.toNatClampNeg⟩]) cells slots ∧ T'.heap = h' ∧ Wr h h' a j.toNatClampNeg (.int x) ∧ AF Z h' a .int n (fun i => if i = j.toNatClampNeg then .int x else f i) ∧ ∀ target, Steps p.tables e below (T'.setTop { g with pc := g.pc + 1, stack := rest }) target → Steps p.tables e below (T.setTop g) target := by
  have A0 := A
  obtain ⟨cl, A, r1, r2, r3⟩ := A
  obtain ⟨T', h', X', e', W, st⟩ := Jvm.RoadKit.stI X hx hZ eT A (j := j) (own_in_arr r1 hj) hg hs hd
  exact ⟨T', h', X', e', W, A0.set W, st⟩
theorem AF.stJ (X : Stand p l e R s m args below meth c T locs cells slots) (hx : p.tables.exec = Jvm.exec) (hZ : Z.Warmed39 s.vm) (eT : T.heap = h) (A : AF Z h a .long n f) {j : Int32} {x : Int64} (hj : own_in j n) {g : JFrame} (hg : g.method = m) {rest : List Value} (hs : g.stack = .long x :: .int j :: .ref a :: rest) (hd : decode c.code g.pc = .ok (.lastore, 1)) :
    ∃ T' h', Stand p l e R s m args below meth c T' (locs ++ [⟨a, j.toNatClampNeg⟩]) cells slots ∧ T'.heap = h' ∧ Wr h h' a j.toNatClampNeg (.long x) ∧ AF Z h' a .long n (fun i => if i = j.toNatClampNeg then .long x else f i) ∧ ∀ target, Steps p.tables e below (T'.setTop { g with pc := g.pc + 1, stack := rest }) target → Steps p.tables e below (T.setTop g) target := by
  have A0 := A
  obtain ⟨cl, A, r1, r2, r3⟩ := A
  obtain ⟨T', h', X', e', W, st⟩ := Jvm.RoadKit.stJ X hx hZ eT A (j := j) (own_in_arr r1 hj) hg hs hd
  exact ⟨T', h', X', e', W, A0.set W, st⟩
theorem AF.stB (X : Stand p l e R s m args below meth c T locs cells slots) (hx : p.tables.exec = Jvm.exec) (hZ : Z.Warmed39 s.vm) (eT : T.heap = h) (A : AF Z h a .byte n f) {j x : Int32} (hj : own_in j n) {g : JFrame} (hg : g.method = m) {rest : List Value} (hs : g.stack = .int x :: .int j :: .ref a :: rest) (hd : decode c.code g.pc = .ok (.bastore, 1)) :
    ∃ T' h', Stand p l e R s m args below meth c T' (locs ++ [⟨a, j.toNatClampNeg⟩]) cells slots ∧ T'.heap = h' ∧ Wr h h' a j.toNatClampNeg (.int x.toInt8.toInt32) ∧ AF Z h' a .byte n (fun i => if i = j.toNatClampNeg then .int x.toInt8.toInt32 else f i) ∧ ∀ target, Steps p.tables e below (T'.setTop { g with pc := g.pc + 1, stack := rest }) target → Steps p.tables e below (T.setTop g) target := by
  have A0 := A
  obtain ⟨cl, A, r1, r2, r3⟩ := A
  obtain ⟨T', h', X', e', W, st⟩ := Jvm.RoadKit.stB X hx hZ eT A (j := j) (own_in_arr r1 hj) hg hs hd
  exact ⟨T', h', X', e', W, A0.set W, st⟩
theorem own_cpyI {f g fN : Nat → Int32} {k : Nat} (hf : fN = fun j => if j < k then f j else g j) : ∀ j, j < n → (if j < k then Value.int (f j) else Value.int (g j)) = Value.int (fN j) := by
  subst hf; intro j _; by_cases q : j < k <;> simp [q]
theorem own_cpyJ {f g fN : Nat → Int64} {k : Nat} (hf : fN = fun j => if j < k then f j else g j) : ∀ j, j < n → (if j < k then Value.long (f j) else Value.long (g j)) = Value.long (fN j) := by
  subst hf; intro j _; by_cases q : j < k <;> simp [q]
theorem own_acW {own : String} {index : Nat} (h1 : (Jvm.Cond.methodLink own index Jvm.Stand.acN).before args s = true) (h2 : (Jvm.Cond.native Jvm.Stand.acN).before args s = true) (h3 : (Jvm.Cond.static Jvm.Stand.acN).before args s = true) (h4 : (Jvm.Cond.initialized "java/lang/System").before args s = true) : ∀ w ∈ Jvm.Free.XT.acW own index, w.before args s = true := by
  intro w hw
  change w ∈ [Jvm.Cond.methodLink own index Jvm.Stand.acN, Jvm.Cond.native Jvm.Stand.acN, Jvm.Cond.static Jvm.Stand.acN, Jvm.Cond.initialized "java/lang/System"] at hw
  simp only [List.mem_cons, List.not_mem_nil, or_false] at hw
  rcases hw with rfl | rfl | rfl | rfl
  · exact h1
  · exact h2
  · exact h3
  · exact h4
theorem own_isArr {c c' : Cell} (q : Z.isArrayOf c ty) (h1 : c'.cls = c.cls) (h2 : c'.vm = c.vm) : Z.isArrayOf c' ty := by
  obtain ⟨q1, k, q2, q3⟩ := q
  exact ⟨by rw [h2]; exact q1, k, by rw [h1]; exact q2, q3⟩
theorem AF.copy (X : Stand p l e R s m args below meth c T locs cells slots) (hx : p.tables.exec = Jvm.exec) (hZ : Z.Warmed39 s.vm) {own : String} {index : Nat} (hown : s.vm.findClass own = some m.cls) (hw : ∀ w ∈ Jvm.Free.XT.acW own index, w.before args s = true)
    (eT : T.heap = h) {k : Nat} {f' : Nat → Value} (A : AF Z h a ty n f) (B : AF Z h b ty k f') (hp : ty.isReference = false) {cnt : Nat} (hfit : ∀ j, j < cnt → fits ty (f j) = true) (h1 : cnt ≤ n) (h2 : cnt ≤ k) {jn : Int32} (hn : jn = Int32.ofNat cnt)
    {g : JFrame} (hg : g.method = m) (hsize : g.locals.size = c.maxLocals) {rest : List Value} (hs : g.stack = .int jn :: .int 0 :: .ref b :: .int 0 :: .ref a :: rest) (hd : decode c.code g.pc = .ok (.invokestatic index, 3))
    {W : Nat} (hW : 2 * g.monitorRoom + (rest.map fun v => v.category).sum ≤ W) (hfr : 1 ≤ R.frames) (hlo : W + 40 ≤ R.locals) :
    ∃ (T' : State) (h' : Heap) (L' : List Loc), Stand p l e R s m args below meth c T' (locs ++ L') cells slots ∧ T'.heap = h' ∧ (∀ y ∈ L', y.base = b) ∧ Keep h h' [b] ∧ AF Z h' b ty k (fun j => if j < cnt then f j else f' j) ∧
      ∀ target, Steps p.tables e below (T'.setTop { g with pc := g.pc + 3, stack := rest }) target → Steps p.tables e below (T.setTop g) target := by
  obtain ⟨ca, A, a1, a2, a3⟩ := A
  obtain ⟨cb, B, b1, b2, b3⟩ := B
  have tA : Jvm.Free.XT.Arr ty a ca T := ⟨by rw [eT]; exact A.1, State.isArrayOf_alike X.warmed.alike (State.isArrayOf_alike hZ.alike A.2.1), A.2.2, by omega⟩
  have tB : Jvm.Free.XT.Arr ty b cb T := ⟨by rw [eT]; exact B.1, State.isArrayOf_alike X.warmed.alike (State.isArrayOf_alike hZ.alike B.2.1), B.2.2, by omega⟩
  have ga : ∀ j, j < n → ca.slots.getD j .null = f j := fun j hj => by
    have q := a3 j hj
    rw [Array.getD_eq_getD_getElem?, q]; rfl
  obtain ⟨T', B', X', P, q1, q2, q3, q4, st⟩ := X.acopy hx (o := 0) (q := 0) (n := cnt) (jo := 0) (jq := 0) hown hw tA tB (by simp) rfl rfl hn (by omega) (by omega)
    (fun i hi => ⟨by rw [Nat.zero_add, ga i (by omega)]; exact hfit i hi, fun z => by rw [hp] at z; cases z⟩) hg hsize hs hd hW hfr hlo
  refine ⟨T', _, _, X', rfl, fun y hy => ?_, ⟨by rw [P.2.2, eT]; exact Nat.le_refl _, fun x cx hx' hn' => ?_, fun x cx hx' => ?_⟩, ⟨B', ⟨P.1, own_isArr B.2.1 q1 q2, by rw [q2]; exact B.2.2⟩, q3.trans b1, b2, fun j hj => ?_⟩, st⟩
  · simp only [copyLocs, List.mem_map] at hy
    obtain ⟨i, -, rfl⟩ := hy
    rfl
  · rw [P.2.1 x (fun z => hn' (by simp [z])), eT]; exact hx'
  · by_cases z : x = b
    · subst z
      cases hx'.symm.trans B.1
      exact ⟨B', P.1, q1, q2, q3⟩
    · exact ⟨cx, by rw [P.2.1 x z, eT]; exact hx', rfl, rfl, rfl⟩
  · show _ = some (if j < cnt then f j else f' j)
    rw [q4 j]
    by_cases z : j < cnt
    · rw [if_pos (by omega), if_pos z]
      have : 0 + (j - 0) = j := by omega
      rw [this, ga j (by omega)]
    · rw [if_neg (by omega), if_neg z]; exact b3 j hj
theorem own_nb (x : Int32) : nar .boolean x = x &&& 1 := rfl
theorem own_nar1 : nar .boolean 1 = 1 := rfl
theorem own_nar0 : nar .boolean 0 = 0 := rfl
theorem own_nbyte (x : Int32) : nar .byte x = x.toInt8.toInt32 := rfl
theorem own_nar_ite (q : Prop) [Decidable q] (x y : Int32) : nar .boolean (if q then x else y) = if q then nar .boolean x else nar .boolean y := by split <;> rfl
theorem own_pos_ne {x : Int64} (q : 0 < x) : x ≠ 0 := fun z => by subst z; exact absurd q (by decide)
theorem own_cat {w : Value} (q : w.isRef = true) : w.category = 1 := by cases w <;> first | rfl | (simp [Value.isRef] at q)
/-- a static field that holds v, in a heap that keeps all that was old at the start -/
def SO (Z : State) (n0 : Nat) (h : Heap) (C n d : String) (v : Value) : Prop := Sta Z Z.heap C n d v ∧ Old Z n0 h
theorem SO.ext {n0 : Nat} {C nm d : String} (F : SO Z n0 h C nm d v) (E : Ext h h') : SO Z n0 h' C nm d v := ⟨F.1, F.2.ext E⟩
theorem SO.wr {n0 : Nat} {C nm d : String} {w : Value} (F : SO Z n0 h C nm d v) (W : Wr h h' a sl w) (q : n0 ≤ a) : SO Z n0 h' C nm d v := ⟨F.1, F.2.wr W q⟩
theorem SO.keep {n0 : Nat} {C nm d : String} (F : SO Z n0 h C nm d v) (K : Keep h h' ws) (q : ∀ x ∈ ws, n0 ≤ x) : SO Z n0 h' C nm d v := ⟨F.1, F.2.keep K q⟩
theorem SO.sta {n0 : Nat} {C nm d : String} (F : SO Z n0 h C nm d v) : Sta Z h C nm d v := F.1.ext F.2.2
theorem own_selp {y : MethodName} {n : Nat} (wi : (Jvm.Cond.instantiable y.cls n).before args s = true) (hpriv : s.PrivateAt y) (hinst : (Jvm.Cond.instanceMethod y).before args s = true) (hy : y.cls ≠ "java/lang/invoke/MethodHandle" ∧ y.cls ≠ "java/lang/invoke/VarHandle") : (Jvm.Cond.selects y.cls y y).before args s = true := by
  obtain ⟨c, k, h1, h2, -, h4, -⟩ := Cond.instantiable_spec wi
  exact Jvm.Stand.selects_self_of_private h1 h2 (by simp only [Bool.or_eq_false_iff] at h4; exact h4.1) hpriv hinst hy
end OwnKit

theorem pn_0 : plainName "com/example/ezra/ezra/DirectoryBitmapPinLaw" = true := by first | (simp [plainName, overriddenIn]; done) | decide +kernel
theorem d1_0 : decode prog_5_method_1_code 0 = .ok (.aload_n 0, 1) := by decide +kernel
theorem d1_1 : decode prog_5_method_1_code 1 = .ok (.invokespecial 3, 3) := by decide +kernel
theorem d1_4 : decode prog_5_method_1_code 4 = .ok (.aload_n 0, 1) := by decide +kernel
theorem d1_5 : decode prog_5_method_1_code 5 = .ok (.aload_n 1, 1) := by decide +kernel
theorem d1_6 : decode prog_5_method_1_code 6 = .ok (.putfield 9, 3) := by decide +kernel
theorem d1_9 : decode prog_5_method_1_code 9 = .ok (.aload_n 0, 1) := by decide +kernel
theorem d1_10 : decode prog_5_method_1_code 10 = .ok (.aload_n 2, 1) := by decide +kernel
theorem d1_11 : decode prog_5_method_1_code 11 = .ok (.putfield 15, 3) := by decide +kernel
theorem d1_14 : decode prog_5_method_1_code 14 = .ok (.aload_n 0, 1) := by decide +kernel
theorem d1_15 : decode prog_5_method_1_code 15 = .ok (.aload_n 3, 1) := by decide +kernel
theorem d1_16 : decode prog_5_method_1_code 16 = .ok (.putfield 19, 3) := by decide +kernel
theorem d1_19 : decode prog_5_method_1_code 19 = .ok (.aload_n 0, 1) := by decide +kernel
theorem d1_20 : decode prog_5_method_1_code 20 = .ok (.aload 4, 2) := by decide +kernel
theorem d1_22 : decode prog_5_method_1_code 22 = .ok (.putfield 22, 3) := by decide +kernel
theorem d1_25 : decode prog_5_method_1_code 25 = .ok (.aload_n 0, 1) := by decide +kernel
theorem d1_26 : decode prog_5_method_1_code 26 = .ok (.aload 5, 2) := by decide +kernel
theorem d1_28 : decode prog_5_method_1_code 28 = .ok (.putfield 25, 3) := by decide +kernel
theorem d1_31 : decode prog_5_method_1_code 31 = .ok (.return_, 1) := by decide +kernel
theorem pn_1 : plainName "com/example/ezra/ezra/Block$Directory" = true := by first | (simp [plainName, overriddenIn]; done) | decide +kernel
theorem d2_0 : decode jdk_30_method_1_code 0 = .ok (.aload_n 0, 1) := by decide +kernel
theorem d2_1 : decode jdk_30_method_1_code 1 = .ok (.invokespecial 1, 3) := by decide +kernel
theorem d2_4 : decode jdk_30_method_1_code 4 = .ok (.return_, 1) := by decide +kernel
theorem pn_2 : plainName "java/lang/Record" = true := by first | (simp [plainName, overriddenIn]; done) | decide +kernel
theorem d4_0 : decode prog_5_method_7_code 0 = .ok (.aload_n 0, 1) := by decide +kernel
theorem d4_1 : decode prog_5_method_7_code 1 = .ok (.getfield 19, 3) := by decide +kernel
theorem d4_4 : decode prog_5_method_7_code 4 = .ok (.iload_n 1, 1) := by decide +kernel
theorem d4_5 : decode prog_5_method_7_code 5 = .ok (.iaload, 1) := by decide +kernel
theorem d4_6 : decode prog_5_method_7_code 6 = .ok (.iconst 1, 1) := by decide +kernel
theorem d4_7 : decode prog_5_method_7_code 7 = .ok (.if_icmp .ne 7, 3) := by decide +kernel
theorem d4_10 : decode prog_5_method_7_code 10 = .ok (.iconst 1, 1) := by decide +kernel
theorem d4_11 : decode prog_5_method_7_code 11 = .ok (.goto 4, 3) := by decide +kernel
theorem d4_14 : decode prog_5_method_7_code 14 = .ok (.iconst 0, 1) := by decide +kernel
theorem d4_15 : decode prog_5_method_7_code 15 = .ok (.ireturn, 1) := by decide +kernel
theorem pn_4 : plainName "com/example/ezra/ezra/Block$Directory" = true := by first | (simp [plainName, overriddenIn]; done) | decide +kernel
theorem pd_1 : parseMethodDescriptor "()V" = some ⟨[], none⟩ := by decide +kernel
theorem pd_0 : parseMethodDescriptor "([B[I[I[I[I)V" = some ⟨[(.array .byte), (.array .int), (.array .int), (.array .int), (.array .int)], none⟩ := by decide +kernel
theorem pd_2 : parseMethodDescriptor "(I)Z" = some ⟨[.int], some .boolean⟩ := by decide +kernel

theorem ef_2 (m : MethodId) (a0 : Addr) : entryFrame m #[(.ref a0)] 1 = mkF m 0 #[.val (.ref a0)] [] := by first | (simp [entryFrame, mkF, argsToLocals, Value.category]; done) | rfl
def Q2 (Z : State) (a0 : Addr) (h0 : Heap) (n0 : Nat) (v : Option Value) (h : Heap) (L : List Loc) : Prop := v = none ∧ Fr n0 L ∧ h = h0
set_option maxRecDepth 65536 in
set_option maxHeartbeats 40000000 in
theorem rm2 (l : Launch) (Z : State) (A0 : Array Value) (hw : ∀ d ∈ tables_1, d.before A0 Z = true) (ws : List Jvm.Cond) (a0 : Addr) (h0 : Heap) (n0 : Nat) (Z0 : n0 ≤ h0.size) :
    MetFree l (⟨"java/lang/Record", "<init>", "()V"⟩ : MethodName) (head1 (Jvm.Cond.code (⟨"java/lang/Record", "<init>", "()V"⟩ : MethodName) jdk_30_method_1_code 1 none :: ws) ({ frames := 1, cells := 0, slots := 0, locals := 12 } : Room)) (fun a U => a = #[(.ref a0)] ∧ Z.Warmed39 U.vm ∧ U.heap = h0) (fun _ _ _ _ _ => True) (fun _ U o U' => ∃ v L, o = .returned v ∧ Q2 Z a0 h0 n0 v U'.heap L ∧ FrameEnd U o U' L ({ frames := 1, cells := 0, slots := 0, locals := 12 } : Room).cells ({ frames := 1, cells := 0, slots := 0, locals := 12 } : Room).slots) := by
  refine MetFree.of_bodySF (plainFor_of_name pn_2) hisR ?_
  intro p e s m args below meth c s₁ Bd hml0 hP hK
  obtain ⟨rfl, hZ, hh⟩ := hP
  have hx := Bd.exec
  have hby := Bd.bytes
  have hml : c.maxLocals = 1 := hml0
  have hown : s.vm.findClass "java/lang/Record" = some m.cls := findClass_of_methodNamed Bd.named
  have hnm := (name_of_methodNamed Bd.named Bd.method).1
  have X0 : Stand p l e ({ frames := 1, cells := 0, slots := 0, locals := 12 } : Room) s m #[(.ref a0)] below meth c s₁ [] 0 0 := Stand.of_body Bd
  have e0 : s₁.heap = h0 := by rw [← hh, Bd.state]; rfl
  have N0 := Fr.nil n0
  have pre0 : ∀ t, Steps p.tables e below (s₁.setTop (mkF m 0 #[.val (.ref a0)] [])) t → Steps p.tables e below (s₁.setTop (entryFrame m #[(.ref a0)] 1)) t := fun t k => castTop (ef_2 m a0) k
  obtain ⟨T1, X1, e1, st1⟩ := initO X0 hx hZ hown (hw _ (List.mem_of_getElem? (i := 14) rfl)) (hw _ (List.mem_of_getElem? (i := 15) rfl)) (hw _ (List.mem_of_getElem? (i := 16) rfl)) e0 (g := (mkF m 1 #[.val (.ref a0)] [(.ref a0)])) rfl (by rw [hml]; rfl) rfl (hb hby d2_1) (by decide) (W := 0) (by show 2 * 0 + _ ≤ _; exact Nat.le_of_eq rfl) (by decide)
  obtain ⟨fs, hr, hrun, hended, hW, hsame⟩ := X1.leave (v := none) (fun _ => rfl)
  refine ⟨_, _, pre0 _ ?_, hrun, hended, _, _, rfl, ?_, ⟨_, rfl⟩, hW, hsame.mono (by decide) (by decide)⟩
  · show Steps p.tables e below (s₁.setTop (mkF m 0 #[.val (.ref a0)] [])) _
    refine XS.aloadN X0.here hx rfl (hb hby d2_0) rfl rfl ?_
    show Steps p.tables e below (s₁.setTop (mkF m 1 #[.val (.ref a0)] [(.ref a0)])) _
    refine st1 _ ?_
    show Steps p.tables e below (T1.setTop (mkF m 4 #[.val (.ref a0)] [])) _
    exact X1.returnOut hx Bd.returns (hb hby d2_4) hr
  · show Q2 Z a0 h0 n0 _ T1.heap _
    exact ⟨rfl, N0, e1⟩
theorem ef_1 (m : MethodId) (a0 : Addr) (a1 : Addr) (a2 : Addr) (a3 : Addr) (a4 : Addr) (a5 : Addr) : entryFrame m #[(.ref a0), (.ref a1), (.ref a2), (.ref a3), (.ref a4), (.ref a5)] 6 = mkF m 0 #[.val (.ref a0), .val (.ref a1), .val (.ref a2), .val (.ref a3), .val (.ref a4), .val (.ref a5)] [] := by first | (simp [entryFrame, mkF, argsToLocals, Value.category]; done) | rfl
def Q1 (Z : State) (a0 : Addr) (a1 : Addr) (a2 : Addr) (a3 : Addr) (a4 : Addr) (a5 : Addr) (w_bytes_a0 : Value) (w_slots_a0 : Value) (w_kinds_a0 : Value) (w_users_a0 : Value) (w_offsets_a0 : Value) (h0 : Heap) (n0 : Nat) (v : Option Value) (h : Heap) (L : List Loc) : Prop := v = none ∧ Fr n0 L ∧ Keep h0 h [a0] ∧ Exa Z h a0 "com/example/ezra/ezra/Block$Directory" ∧ Fld Z h a0 "com/example/ezra/ezra/Block$Directory" "bytes" "[B" (.ref a1) ∧ Fld Z h a0 "com/example/ezra/ezra/Block$Directory" "slots" "[I" (.ref a2) ∧ Fld Z h a0 "com/example/ezra/ezra/Block$Directory" "kinds" "[I" (.ref a3) ∧ Fld Z h a0 "com/example/ezra/ezra/Block$Directory" "users" "[I" (.ref a4) ∧ Fld Z h a0 "com/example/ezra/ezra/Block$Directory" "offsets" "[I" (.ref a5)
set_option maxRecDepth 65536 in
set_option maxHeartbeats 40000000 in
theorem rm1 (l : Launch) (Z : State) (A0 : Array Value) (hw : ∀ d ∈ tables_1, d.before A0 Z = true) (ws : List Jvm.Cond) (a0 : Addr) (a1 : Addr) (a2 : Addr) (a3 : Addr) (a4 : Addr) (a5 : Addr) (w_bytes_a0 : Value) (w_slots_a0 : Value) (w_kinds_a0 : Value) (w_users_a0 : Value) (w_offsets_a0 : Value) (h0 : Heap) (n0 : Nat) (Z0 : n0 ≤ h0.size) (E_a0 : Exa Z h0 a0 "com/example/ezra/ezra/Block$Directory") (F_bytes_a0 : Fld Z h0 a0 "com/example/ezra/ezra/Block$Directory" "bytes" "[B" w_bytes_a0) (F_slots_a0 : Fld Z h0 a0 "com/example/ezra/ezra/Block$Directory" "slots" "[I" w_slots_a0) (F_kinds_a0 : Fld Z h0 a0 "com/example/ezra/ezra/Block$Directory" "kinds" "[I" w_kinds_a0) (F_users_a0 : Fld Z h0 a0 "com/example/ezra/ezra/Block$Directory" "users" "[I" w_users_a0) (F_offsets_a0 : Fld Z h0 a0 "com/example/ezra/ezra/Block$Directory" "offsets" "[I" w_offsets_a0) (nw_a0 : n0 ≤ a0) :
    MetFree l (⟨"com/example/ezra/ezra/Block$Directory", "<init>", "([B[I[I[I[I)V"⟩ : MethodName) (head1 (Jvm.Cond.code (⟨"com/example/ezra/ezra/Block$Directory", "<init>", "([B[I[I[I[I)V"⟩ : MethodName) prog_5_method_1_code 6 none :: ws) ({ frames := 2, cells := 0, slots := 0, locals := 24 } : Room)) (fun a U => a = #[(.ref a0), (.ref a1), (.ref a2), (.ref a3), (.ref a4), (.ref a5)] ∧ Z.Warmed39 U.vm ∧ U.heap = h0) (fun _ _ _ _ _ => True) (fun _ U o U' => ∃ v L, o = .returned v ∧ Q1 Z a0 a1 a2 a3 a4 a5 w_bytes_a0 w_slots_a0 w_kinds_a0 w_users_a0 w_offsets_a0 h0 n0 v U'.heap L ∧ FrameEnd U o U' L ({ frames := 2, cells := 0, slots := 0, locals := 24 } : Room).cells ({ frames := 2, cells := 0, slots := 0, locals := 24 } : Room).slots) := by
  refine MetFree.of_bodySF (plainFor_of_name pn_1) hisR ?_
  intro p e s m args below meth c s₁ Bd hml0 hP hK
  obtain ⟨rfl, hZ, hh⟩ := hP
  have hx := Bd.exec
  have hby := Bd.bytes
  have hml : c.maxLocals = 6 := hml0
  have hown : s.vm.findClass "com/example/ezra/ezra/Block$Directory" = some m.cls := findClass_of_methodNamed Bd.named
  have hnm := (name_of_methodNamed Bd.named Bd.method).1
  have X0 : Stand p l e ({ frames := 2, cells := 0, slots := 0, locals := 24 } : Room) s m #[(.ref a0), (.ref a1), (.ref a2), (.ref a3), (.ref a4), (.ref a5)] below meth c s₁ [] 0 0 := Stand.of_body Bd
  have e0 : s₁.heap = h0 := by rw [← hh, Bd.state]; rfl
  have N0 := Fr.nil n0
  have pre0 : ∀ t, Steps p.tables e below (s₁.setTop (mkF m 0 #[.val (.ref a0), .val (.ref a1), .val (.ref a2), .val (.ref a3), .val (.ref a4), .val (.ref a5)] [])) t → Steps p.tables e below (s₁.setTop (entryFrame m #[(.ref a0), (.ref a1), (.ref a2), (.ref a3), (.ref a4), (.ref a5)] 6)) t := fun t k => castTop (ef_1 m a0 a1 a2 a3 a4 a5) k
  obtain ⟨_, _, ⟨T1, L1, k1, n1⟩, -, X1, ⟨Lc1, hQ1, l1, y1, z1⟩, st1⟩ := X0.specialBack hx (y := (⟨"java/lang/Record", "<init>", "()V"⟩ : MethodName)) rfl hown (mvT hZ (hw _ (List.mem_of_getElem? (i := 9) rfl))) (mvT hZ (hw _ (List.mem_of_getElem? (i := 10) rfl))) (mvT hZ (hw _ (List.mem_of_getElem? (i := 13) rfl))) (by decide) (backOf (W := 0) (rm2 l Z A0 hw [] a0 h0 n0 (Nat.le_trans Z0 (Keep.refl h0 [a0]).1) ) hZ (hw _ (List.mem_of_getElem? (i := 13) rfl)) (hw _ (List.mem_of_getElem? (i := 12) rfl)) (by decide) (by decide)) (g := (mkF m 1 #[.val (.ref a0), .val (.ref a1), .val (.ref a2), .val (.ref a3), .val (.ref a4), .val (.ref a5)] [(.ref a0)])) rfl (by rw [hml]; rfl) (Steps.refl _) (a := a0) (argsL := []) (rest := []) (lenOf pd_1 rfl) rfl (by show 2 * 0 + _ ≤ _; exact Nat.le_of_eq rfl) (hb hby d1_1) (fun _ _ => ⟨rfl, e0, (by decide : 0 + 0 ≤ _), (by decide : 0 + 0 ≤ _)⟩)
  dsimp only [Pt.U, Pt.locs, Pt.cells, Pt.slots] at X1 l1 y1 z1 st1 hQ1
  subst l1 y1 z1
  obtain ⟨rfl, N1q, e1⟩ := hQ1
  have N1 := Fr.app N0 N1q
  obtain ⟨T2, h2, X2, e2, W2, st2⟩ := putF X1 hx hZ hown (host := "") (Or.inl (hw _ (List.mem_of_getElem? (i := 17) rfl))) Via.refl e1 F_bytes_a0 E_a0 (Or.inr ⟨(hw _ (List.mem_of_getElem? (i := 18) rfl)), rfl, hnm⟩) (hw _ (List.mem_of_getElem? (i := 4) rfl)) (ty := (.array .byte)) (by decide) rfl rfl (g := (mkF m 6 #[.val (.ref a0), .val (.ref a1), .val (.ref a2), .val (.ref a3), .val (.ref a4), .val (.ref a5)] [(.ref a1), (.ref a0)])) rfl rfl (hb hby d1_6)
  have K2 : Keep h0 h2 [a0] := (Keep.refl h0 [a0]).wr W2 (Or.inl (by simp))
  have Fw2 : Fld Z h2 a0 "com/example/ezra/ezra/Block$Directory" "bytes" "[B" (.ref a1) := F_bytes_a0.same W2
  have N2 := Fr.snoc X2 N1 nw_a0
  have G3 : Exa Z h2 a0 "com/example/ezra/ezra/Block$Directory" := (E_a0.wr W2)
  have G4 : Fld Z h2 a0 "com/example/ezra/ezra/Block$Directory" "slots" "[I" w_slots_a0 := (F_slots_a0.other W2 (Or.inr (slot_ne (Or.inr (hw _ (List.mem_of_getElem? (i := 20) rfl))) (Or.inr (hw _ (List.mem_of_getElem? (i := 18) rfl))) (by decide) (t := (.array .int)) (t' := (.array .byte)) (by decide) (by decide))))
  obtain ⟨T5, h5, X5, e5, W5, st5⟩ := putF X2 hx hZ hown (host := "") (Or.inl (hw _ (List.mem_of_getElem? (i := 19) rfl))) Via.refl e2 G4 G3 (Or.inr ⟨(hw _ (List.mem_of_getElem? (i := 20) rfl)), rfl, hnm⟩) (hw _ (List.mem_of_getElem? (i := 4) rfl)) (ty := (.array .int)) (by decide) rfl rfl (g := (mkF m 11 #[.val (.ref a0), .val (.ref a1), .val (.ref a2), .val (.ref a3), .val (.ref a4), .val (.ref a5)] [(.ref a2), (.ref a0)])) rfl rfl (hb hby d1_11)
  have K5 : Keep h0 h5 [a0] := K2.wr W5 (Or.inl (by simp))
  have Fw5 : Fld Z h5 a0 "com/example/ezra/ezra/Block$Directory" "slots" "[I" (.ref a2) := G4.same W5
  have N5 := Fr.snoc X5 N2 nw_a0
  have G6 : Exa Z h5 a0 "com/example/ezra/ezra/Block$Directory" := (G3.wr W5)
  have G7 : Fld Z h5 a0 "com/example/ezra/ezra/Block$Directory" "kinds" "[I" w_kinds_a0 := ((F_kinds_a0.other W2 (Or.inr (slot_ne (Or.inr (hw _ (List.mem_of_getElem? (i := 22) rfl))) (Or.inr (hw _ (List.mem_of_getElem? (i := 18) rfl))) (by decide) (t := (.array .int)) (t' := (.array .byte)) (by decide) (by decide)))).other W5 (Or.inr (slot_ne (Or.inr (hw _ (List.mem_of_getElem? (i := 22) rfl))) (Or.inr (hw _ (List.mem_of_getElem? (i := 20) rfl))) (by decide) (t := (.array .int)) (t' := (.array .int)) (by decide) (by decide))))
  obtain ⟨T8, h8, X8, e8, W8, st8⟩ := putF X5 hx hZ hown (host := "") (Or.inl (hw _ (List.mem_of_getElem? (i := 21) rfl))) Via.refl e5 G7 G6 (Or.inr ⟨(hw _ (List.mem_of_getElem? (i := 22) rfl)), rfl, hnm⟩) (hw _ (List.mem_of_getElem? (i := 4) rfl)) (ty := (.array .int)) (by decide) rfl rfl (g := (mkF m 16 #[.val (.ref a0), .val (.ref a1), .val (.ref a2), .val (.ref a3), .val (.ref a4), .val (.ref a5)] [(.ref a3), (.ref a0)])) rfl rfl (hb hby d1_16)
  have K8 : Keep h0 h8 [a0] := K5.wr W8 (Or.inl (by simp))
  have Fw8 : Fld Z h8 a0 "com/example/ezra/ezra/Block$Directory" "kinds" "[I" (.ref a3) := G7.same W8
  have N8 := Fr.snoc X8 N5 nw_a0
  have G9 : Exa Z h8 a0 "com/example/ezra/ezra/Block$Directory" := (G6.wr W8)
  have G10 : Fld Z h8 a0 "com/example/ezra/ezra/Block$Directory" "users" "[I" w_users_a0 := (((F_users_a0.other W2 (Or.inr (slot_ne (Or.inr (hw _ (List.mem_of_getElem? (i := 24) rfl))) (Or.inr (hw _ (List.mem_of_getElem? (i := 18) rfl))) (by decide) (t := (.array .int)) (t' := (.array .byte)) (by decide) (by decide)))).other W5 (Or.inr (slot_ne (Or.inr (hw _ (List.mem_of_getElem? (i := 24) rfl))) (Or.inr (hw _ (List.mem_of_getElem? (i := 20) rfl))) (by decide) (t := (.array .int)) (t' := (.array .int)) (by decide) (by decide)))).other W8 (Or.inr (slot_ne (Or.inr (hw _ (List.mem_of_getElem? (i := 24) rfl))) (Or.inr (hw _ (List.mem_of_getElem? (i := 22) rfl))) (by decide) (t := (.array .int)) (t' := (.array .int)) (by decide) (by decide))))
  obtain ⟨T11, h11, X11, e11, W11, st11⟩ := putF X8 hx hZ hown (host := "") (Or.inl (hw _ (List.mem_of_getElem? (i := 23) rfl))) Via.refl e8 G10 G9 (Or.inr ⟨(hw _ (List.mem_of_getElem? (i := 24) rfl)), rfl, hnm⟩) (hw _ (List.mem_of_getElem? (i := 4) rfl)) (ty := (.array .int)) (by decide) rfl rfl (g := (mkF m 22 #[.val (.ref a0), .val (.ref a1), .val (.ref a2), .val (.ref a3), .val (.ref a4), .val (.ref a5)] [(.ref a4), (.ref a0)])) rfl rfl (hb hby d1_22)
  have K11 : Keep h0 h11 [a0] := K8.wr W11 (Or.inl (by simp))
  have Fw11 : Fld Z h11 a0 "com/example/ezra/ezra/Block$Directory" "users" "[I" (.ref a4) := G10.same W11
  have N11 := Fr.snoc X11 N8 nw_a0
  have G12 : Exa Z h11 a0 "com/example/ezra/ezra/Block$Directory" := (G9.wr W11)
  have G13 : Fld Z h11 a0 "com/example/ezra/ezra/Block$Directory" "offsets" "[I" w_offsets_a0 := ((((F_offsets_a0.other W2 (Or.inr (slot_ne (Or.inr (hw _ (List.mem_of_getElem? (i := 26) rfl))) (Or.inr (hw _ (List.mem_of_getElem? (i := 18) rfl))) (by decide) (t := (.array .int)) (t' := (.array .byte)) (by decide) (by decide)))).other W5 (Or.inr (slot_ne (Or.inr (hw _ (List.mem_of_getElem? (i := 26) rfl))) (Or.inr (hw _ (List.mem_of_getElem? (i := 20) rfl))) (by decide) (t := (.array .int)) (t' := (.array .int)) (by decide) (by decide)))).other W8 (Or.inr (slot_ne (Or.inr (hw _ (List.mem_of_getElem? (i := 26) rfl))) (Or.inr (hw _ (List.mem_of_getElem? (i := 22) rfl))) (by decide) (t := (.array .int)) (t' := (.array .int)) (by decide) (by decide)))).other W11 (Or.inr (slot_ne (Or.inr (hw _ (List.mem_of_getElem? (i := 26) rfl))) (Or.inr (hw _ (List.mem_of_getElem? (i := 24) rfl))) (by decide) (t := (.array .int)) (t' := (.array .int)) (by decide) (by decide))))
  obtain ⟨T14, h14, X14, e14, W14, st14⟩ := putF X11 hx hZ hown (host := "") (Or.inl (hw _ (List.mem_of_getElem? (i := 25) rfl))) Via.refl e11 G13 G12 (Or.inr ⟨(hw _ (List.mem_of_getElem? (i := 26) rfl)), rfl, hnm⟩) (hw _ (List.mem_of_getElem? (i := 4) rfl)) (ty := (.array .int)) (by decide) rfl rfl (g := (mkF m 28 #[.val (.ref a0), .val (.ref a1), .val (.ref a2), .val (.ref a3), .val (.ref a4), .val (.ref a5)] [(.ref a5), (.ref a0)])) rfl rfl (hb hby d1_28)
  have K14 : Keep h0 h14 [a0] := K11.wr W14 (Or.inl (by simp))
  have Fw14 : Fld Z h14 a0 "com/example/ezra/ezra/Block$Directory" "offsets" "[I" (.ref a5) := G13.same W14
  have N14 := Fr.snoc X14 N11 nw_a0
  obtain ⟨fs, hr, hrun, hended, hW, hsame⟩ := X14.leave (v := none) (fun _ => rfl)
  refine ⟨_, _, pre0 _ ?_, hrun, hended, _, _, rfl, ?_, ⟨_, rfl⟩, hW, hsame.mono (by decide) (by decide)⟩
  · show Steps p.tables e below (s₁.setTop (mkF m 0 #[.val (.ref a0), .val (.ref a1), .val (.ref a2), .val (.ref a3), .val (.ref a4), .val (.ref a5)] [])) _
    refine XS.aloadN X0.here hx rfl (hb hby d1_0) rfl rfl ?_
    show Steps p.tables e below (s₁.setTop (mkF m 1 #[.val (.ref a0), .val (.ref a1), .val (.ref a2), .val (.ref a3), .val (.ref a4), .val (.ref a5)] [(.ref a0)])) _
    refine st1.trans ?_
    show Steps p.tables e below (T1.setTop (mkF m 4 #[.val (.ref a0), .val (.ref a1), .val (.ref a2), .val (.ref a3), .val (.ref a4), .val (.ref a5)] [])) _
    refine XS.aloadN X1.here hx rfl (hb hby d1_4) rfl rfl ?_
    show Steps p.tables e below (T1.setTop (mkF m 5 #[.val (.ref a0), .val (.ref a1), .val (.ref a2), .val (.ref a3), .val (.ref a4), .val (.ref a5)] [(.ref a0)])) _
    refine XS.aloadN X1.here hx rfl (hb hby d1_5) rfl rfl ?_
    show Steps p.tables e below (T1.setTop (mkF m 6 #[.val (.ref a0), .val (.ref a1), .val (.ref a2), .val (.ref a3), .val (.ref a4), .val (.ref a5)] [(.ref a1), (.ref a0)])) _
    refine st2 _ ?_
    show Steps p.tables e below (T2.setTop (mkF m 9 #[.val (.ref a0), .val (.ref a1), .val (.ref a2), .val (.ref a3), .val (.ref a4), .val (.ref a5)] [])) _
    refine XS.aloadN X2.here hx rfl (hb hby d1_9) rfl rfl ?_
    show Steps p.tables e below (T2.setTop (mkF m 10 #[.val (.ref a0), .val (.ref a1), .val (.ref a2), .val (.ref a3), .val (.ref a4), .val (.ref a5)] [(.ref a0)])) _
    refine XS.aloadN X2.here hx rfl (hb hby d1_10) rfl rfl ?_
    show Steps p.tables e below (T2.setTop (mkF m 11 #[.val (.ref a0), .val (.ref a1), .val (.ref a2), .val (.ref a3), .val (.ref a4), .val (.ref a5)] [(.ref a2), (.ref a0)])) _
    refine st5 _ ?_
    show Steps p.tables e below (T5.setTop (mkF m 14 #[.val (.ref a0), .val (.ref a1), .val (.ref a2), .val (.ref a3), .val (.ref a4), .val (.ref a5)] [])) _
    refine XS.aloadN X5.here hx rfl (hb hby d1_14) rfl rfl ?_
    show Steps p.tables e below (T5.setTop (mkF m 15 #[.val (.ref a0), .val (.ref a1), .val (.ref a2), .val (.ref a3), .val (.ref a4), .val (.ref a5)] [(.ref a0)])) _
    refine XS.aloadN X5.here hx rfl (hb hby d1_15) rfl rfl ?_
    show Steps p.tables e below (T5.setTop (mkF m 16 #[.val (.ref a0), .val (.ref a1), .val (.ref a2), .val (.ref a3), .val (.ref a4), .val (.ref a5)] [(.ref a3), (.ref a0)])) _
    refine st8 _ ?_
    show Steps p.tables e below (T8.setTop (mkF m 19 #[.val (.ref a0), .val (.ref a1), .val (.ref a2), .val (.ref a3), .val (.ref a4), .val (.ref a5)] [])) _
    refine XS.aloadN X8.here hx rfl (hb hby d1_19) rfl rfl ?_
    show Steps p.tables e below (T8.setTop (mkF m 20 #[.val (.ref a0), .val (.ref a1), .val (.ref a2), .val (.ref a3), .val (.ref a4), .val (.ref a5)] [(.ref a0)])) _
    refine XS.aload X8.here hx rfl (hb hby d1_20) rfl rfl ?_
    show Steps p.tables e below (T8.setTop (mkF m 22 #[.val (.ref a0), .val (.ref a1), .val (.ref a2), .val (.ref a3), .val (.ref a4), .val (.ref a5)] [(.ref a4), (.ref a0)])) _
    refine st11 _ ?_
    show Steps p.tables e below (T11.setTop (mkF m 25 #[.val (.ref a0), .val (.ref a1), .val (.ref a2), .val (.ref a3), .val (.ref a4), .val (.ref a5)] [])) _
    refine XS.aloadN X11.here hx rfl (hb hby d1_25) rfl rfl ?_
    show Steps p.tables e below (T11.setTop (mkF m 26 #[.val (.ref a0), .val (.ref a1), .val (.ref a2), .val (.ref a3), .val (.ref a4), .val (.ref a5)] [(.ref a0)])) _
    refine XS.aload X11.here hx rfl (hb hby d1_26) rfl rfl ?_
    show Steps p.tables e below (T11.setTop (mkF m 28 #[.val (.ref a0), .val (.ref a1), .val (.ref a2), .val (.ref a3), .val (.ref a4), .val (.ref a5)] [(.ref a5), (.ref a0)])) _
    refine st14 _ ?_
    show Steps p.tables e below (T14.setTop (mkF m 31 #[.val (.ref a0), .val (.ref a1), .val (.ref a2), .val (.ref a3), .val (.ref a4), .val (.ref a5)] [])) _
    exact X14.returnOut hx Bd.returns (hb hby d1_31) hr
  have G15 : Exa Z h14 a0 "com/example/ezra/ezra/Block$Directory" := (G12.wr W14)
  have G16 : Fld Z h14 a0 "com/example/ezra/ezra/Block$Directory" "bytes" "[B" (.ref a1) := ((((Fw2.other W5 (Or.inr (slot_ne (Or.inr (hw _ (List.mem_of_getElem? (i := 18) rfl))) (Or.inr (hw _ (List.mem_of_getElem? (i := 20) rfl))) (by decide) (t := (.array .byte)) (t' := (.array .int)) (by decide) (by decide)))).other W8 (Or.inr (slot_ne (Or.inr (hw _ (List.mem_of_getElem? (i := 18) rfl))) (Or.inr (hw _ (List.mem_of_getElem? (i := 22) rfl))) (by decide) (t := (.array .byte)) (t' := (.array .int)) (by decide) (by decide)))).other W11 (Or.inr (slot_ne (Or.inr (hw _ (List.mem_of_getElem? (i := 18) rfl))) (Or.inr (hw _ (List.mem_of_getElem? (i := 24) rfl))) (by decide) (t := (.array .byte)) (t' := (.array .int)) (by decide) (by decide)))).other W14 (Or.inr (slot_ne (Or.inr (hw _ (List.mem_of_getElem? (i := 18) rfl))) (Or.inr (hw _ (List.mem_of_getElem? (i := 26) rfl))) (by decide) (t := (.array .byte)) (t' := (.array .int)) (by decide) (by decide))))
  have G17 : Fld Z h14 a0 "com/example/ezra/ezra/Block$Directory" "slots" "[I" (.ref a2) := (((Fw5.other W8 (Or.inr (slot_ne (Or.inr (hw _ (List.mem_of_getElem? (i := 20) rfl))) (Or.inr (hw _ (List.mem_of_getElem? (i := 22) rfl))) (by decide) (t := (.array .int)) (t' := (.array .int)) (by decide) (by decide)))).other W11 (Or.inr (slot_ne (Or.inr (hw _ (List.mem_of_getElem? (i := 20) rfl))) (Or.inr (hw _ (List.mem_of_getElem? (i := 24) rfl))) (by decide) (t := (.array .int)) (t' := (.array .int)) (by decide) (by decide)))).other W14 (Or.inr (slot_ne (Or.inr (hw _ (List.mem_of_getElem? (i := 20) rfl))) (Or.inr (hw _ (List.mem_of_getElem? (i := 26) rfl))) (by decide) (t := (.array .int)) (t' := (.array .int)) (by decide) (by decide))))
  have G18 : Fld Z h14 a0 "com/example/ezra/ezra/Block$Directory" "kinds" "[I" (.ref a3) := ((Fw8.other W11 (Or.inr (slot_ne (Or.inr (hw _ (List.mem_of_getElem? (i := 22) rfl))) (Or.inr (hw _ (List.mem_of_getElem? (i := 24) rfl))) (by decide) (t := (.array .int)) (t' := (.array .int)) (by decide) (by decide)))).other W14 (Or.inr (slot_ne (Or.inr (hw _ (List.mem_of_getElem? (i := 22) rfl))) (Or.inr (hw _ (List.mem_of_getElem? (i := 26) rfl))) (by decide) (t := (.array .int)) (t' := (.array .int)) (by decide) (by decide))))
  have G19 : Fld Z h14 a0 "com/example/ezra/ezra/Block$Directory" "users" "[I" (.ref a4) := (Fw11.other W14 (Or.inr (slot_ne (Or.inr (hw _ (List.mem_of_getElem? (i := 24) rfl))) (Or.inr (hw _ (List.mem_of_getElem? (i := 26) rfl))) (by decide) (t := (.array .int)) (t' := (.array .int)) (by decide) (by decide))))
  · show Q1 Z a0 a1 a2 a3 a4 a5 w_bytes_a0 w_slots_a0 w_kinds_a0 w_users_a0 w_offsets_a0 h0 n0 _ T14.heap _
    rw [e14]
    exact ⟨rfl, N14, K14, G15, G16, G17, G18, G19, Fw14⟩
theorem ef_4 (m : MethodId) (a0 : Addr) (p1 : Int32) : entryFrame m #[(.ref a0), (.int p1)] 2 = mkF m 0 #[.val (.ref a0), .val (.int p1)] [] := by first | (simp [entryFrame, mkF, argsToLocals, Value.category]; done) | rfl
def Q4 (Z : State) (a0 : Addr) (p1 : Int32) (w_bytes_a0 : Value) (w_slots_a0 : Value) (w_kinds_a0 : Addr) (w_users_a0 : Value) (w_offsets_a0 : Value) (n_w_kinds_a0 : Nat) (g_w_kinds_a0 : Nat → Int32) (h0 : Heap) (n0 : Nat) (v : Option Value) (h : Heap) (L : List Loc) : Prop := v = some (.int (nar .boolean (if (g_w_kinds_a0 (p1).toNatClampNeg) = (1 : Int32) then (1 : Int32) else (0 : Int32)))) ∧ Fr n0 L ∧ h = h0
set_option maxRecDepth 65536 in
set_option maxHeartbeats 40000000 in
theorem rm4 (l : Launch) (Z : State) (A0 : Array Value) (hw : ∀ d ∈ tables_1, d.before A0 Z = true) (ws : List Jvm.Cond) (a0 : Addr) (p1 : Int32) (w_bytes_a0 : Value) (w_slots_a0 : Value) (w_kinds_a0 : Addr) (w_users_a0 : Value) (w_offsets_a0 : Value) (n_w_kinds_a0 : Nat) (g_w_kinds_a0 : Nat → Int32) (h0 : Heap) (n0 : Nat) (Z0 : n0 ≤ h0.size) (E_a0 : Exa Z h0 a0 "com/example/ezra/ezra/Block$Directory") (F_bytes_a0 : Fld Z h0 a0 "com/example/ezra/ezra/Block$Directory" "bytes" "[B" w_bytes_a0) (F_slots_a0 : Fld Z h0 a0 "com/example/ezra/ezra/Block$Directory" "slots" "[I" w_slots_a0) (F_kinds_a0 : Fld Z h0 a0 "com/example/ezra/ezra/Block$Directory" "kinds" "[I" (.ref w_kinds_a0)) (F_users_a0 : Fld Z h0 a0 "com/example/ezra/ezra/Block$Directory" "users" "[I" w_users_a0) (F_offsets_a0 : Fld Z h0 a0 "com/example/ezra/ezra/Block$Directory" "offsets" "[I" w_offsets_a0) (A_w_kinds_a0 : AF Z h0 w_kinds_a0 .int n_w_kinds_a0 (fun j => .int (g_w_kinds_a0 j))) (hin5 : own_in p1 n_w_kinds_a0) :
    MetFree l (⟨"com/example/ezra/ezra/Block$Directory", "bitmap", "(I)Z"⟩ : MethodName) (head1 (Jvm.Cond.code (⟨"com/example/ezra/ezra/Block$Directory", "bitmap", "(I)Z"⟩ : MethodName) prog_5_method_7_code 2 (some .boolean) :: ws) ({ frames := 0, cells := 0, slots := 0, locals := 0 } : Room)) (fun a U => a = #[(.ref a0), (.int p1)] ∧ Z.Warmed39 U.vm ∧ U.heap = h0) (fun _ _ _ _ _ => True) (fun _ U o U' => ∃ v L, o = .returned v ∧ Q4 Z a0 p1 w_bytes_a0 w_slots_a0 w_kinds_a0 w_users_a0 w_offsets_a0 n_w_kinds_a0 g_w_kinds_a0 h0 n0 v U'.heap L ∧ FrameEnd U o U' L ({ frames := 0, cells := 0, slots := 0, locals := 0 } : Room).cells ({ frames := 0, cells := 0, slots := 0, locals := 0 } : Room).slots) := by
  refine MetFree.of_bodySF (plainFor_of_name pn_4) hisR ?_
  intro p e s m args below meth c s₁ Bd hml0 hP hK
  obtain ⟨rfl, hZ, hh⟩ := hP
  have hx := Bd.exec
  have hby := Bd.bytes
  have hml : c.maxLocals = 2 := hml0
  have hown : s.vm.findClass "com/example/ezra/ezra/Block$Directory" = some m.cls := findClass_of_methodNamed Bd.named
  have hnm := (name_of_methodNamed Bd.named Bd.method).1
  have X0 : Stand p l e ({ frames := 0, cells := 0, slots := 0, locals := 0 } : Room) s m #[(.ref a0), (.int p1)] below meth c s₁ [] 0 0 := Stand.of_body Bd
  have e0 : s₁.heap = h0 := by rw [← hh, Bd.state]; rfl
  have N0 := Fr.nil n0
  have pre0 : ∀ t, Steps p.tables e below (s₁.setTop (mkF m 0 #[.val (.ref a0), .val (.int p1)] [])) t → Steps p.tables e below (s₁.setTop (entryFrame m #[(.ref a0), (.int p1)] 2)) t := fun t k => castTop (ef_4 m a0 p1) k
  obtain ⟨T1, X1, e1, st1⟩ := getF X0 hx hZ hown (host := "") (Or.inl (hw _ (List.mem_of_getElem? (i := 21) rfl))) Via.refl e0 F_kinds_a0 (g := (mkF m 1 #[.val (.ref a0), .val (.int p1)] [(.ref a0)])) rfl rfl (hb hby d4_1)
  obtain ⟨v3, hv3⟩ : ∃ z : Int32, z = if (g_w_kinds_a0 (p1).toNatClampNeg) = (1 : Int32) then (1 : Int32) else (0 : Int32) := ⟨_, rfl⟩
  obtain ⟨fs, hr, hrun, hended, hW, hsame⟩ := X1.leave (v := some (.int (nar .boolean v3))) (fun h => by rw [Bd.returns] at h; cases h)
  refine ⟨_, _, pre0 _ ?_, hrun, hended, _, _, rfl, ?_, ⟨_, rfl⟩, hW, hsame.mono (by decide) (by decide)⟩
  · show Steps p.tables e below (s₁.setTop (mkF m 0 #[.val (.ref a0), .val (.int p1)] [])) _
    refine XS.aloadN X0.here hx rfl (hb hby d4_0) rfl rfl ?_
    show Steps p.tables e below (s₁.setTop (mkF m 1 #[.val (.ref a0), .val (.int p1)] [(.ref a0)])) _
    refine st1 _ ?_
    show Steps p.tables e below (T1.setTop (mkF m 4 #[.val (.ref a0), .val (.int p1)] [(.ref w_kinds_a0)])) _
    refine XS.iloadN X1.here hx rfl (hb hby d4_4) rfl ?_
    show Steps p.tables e below (T1.setTop (mkF m 5 #[.val (.ref a0), .val (.int p1)] [(.int p1), (.ref w_kinds_a0)])) _
    refine AF.ldI X1 hx hZ e1 A_w_kinds_a0 hin5 (g := (mkF m 5 #[.val (.ref a0), .val (.int p1)] [(.int p1), (.ref w_kinds_a0)])) rfl rfl (hb hby d4_5) _ ?_
    show Steps p.tables e below (T1.setTop (mkF m 6 #[.val (.ref a0), .val (.int p1)] [(.int (g_w_kinds_a0 (p1).toNatClampNeg))])) _
    refine XS.iconst X1.here hx rfl (hb hby d4_6) ?_
    show Steps p.tables e below (T1.setTop (mkF m 7 #[.val (.ref a0), .val (.int p1)] [(.int (1 : Int32)), (.int (g_w_kinds_a0 (p1).toNatClampNeg))])) _
    refine own_dia (F := (mkF m 15 #[.val (.ref a0), .val (.int p1)] [(.int v3)])) ?_ ?_
    · intro kt
      by_cases hc2 : (g_w_kinds_a0 (p1).toNatClampNeg) = (1 : Int32)
      · show Steps p.tables e below (T1.setTop (mkF m 7 #[.val (.ref a0), .val (.int p1)] [(.int (1 : Int32)), (.int (g_w_kinds_a0 (p1).toNatClampNeg))])) _
        refine XS.icmpNo X1.here hx rfl (hb hby d4_7) rfl (teq hc2).2 ?_
        show Steps p.tables e below (T1.setTop (mkF m 10 #[.val (.ref a0), .val (.int p1)] [])) _
        refine XS.iconst X1.here hx rfl (hb hby d4_10) ?_
        show Steps p.tables e below (T1.setTop (mkF m 11 #[.val (.ref a0), .val (.int p1)] [(.int (1 : Int32))])) _
        refine XS.goto X1.here hx rfl (pc0 := 11) (pc' := 15) rfl (hb hby d4_11) (by decide) (by decide) ?_
        exact castTop (by rw [hv3, if_pos hc2] <;> rfl) kt
      · show Steps p.tables e below (T1.setTop (mkF m 7 #[.val (.ref a0), .val (.int p1)] [(.int (1 : Int32)), (.int (g_w_kinds_a0 (p1).toNatClampNeg))])) _
        refine XS.icmpYes X1.here hx rfl (pc0 := 7) (pc' := 14) rfl (hb hby d4_7) rfl (feq hc2).2 (by decide) (by decide) ?_
        show Steps p.tables e below (T1.setTop (mkF m 14 #[.val (.ref a0), .val (.int p1)] [])) _
        refine XS.iconst X1.here hx rfl (hb hby d4_14) ?_
        exact castTop (by rw [hv3, if_neg hc2] <;> rfl) kt
    show Steps p.tables e below (T1.setTop (mkF m 15 #[.val (.ref a0), .val (.int p1)] [(.int v3)])) _
    exact retN X1 hx (t := .boolean) Bd.returns (by simp) (hb hby d4_15) hr
  · show Q4 Z a0 p1 w_bytes_a0 w_slots_a0 w_kinds_a0 w_users_a0 w_offsets_a0 n_w_kinds_a0 g_w_kinds_a0 h0 n0 _ T1.heap _
    subst hv3
    exact ⟨rfl, N0, e1⟩
theorem own_law (p0 : Int32) (p1 : Int32) (p2 : Int32) (f14 : Nat → Int32) (f16 : Nat → Int32) (f18 : Nat → Int32) (v56 : Int32) (v58 : Int32) (v62 : Int32) (v64 : Int32) (v68 : Int32) (v70 : Int32) (v74 : Int32) (v75 : Int32) (v76 : Int32) (hf14 : f14 = (fun i => if i = 0 then ((p0 &&& (2147483647 : Int32)) % (3 : Int32)) else (fun _ => (0 : Int32)) i)) (hf16 : f16 = (fun i => if i = 1 then ((p1 &&& (2147483647 : Int32)) % (3 : Int32)) else f14 i)) (hf18 : f18 = (fun i => if i = 2 then ((p2 &&& (2147483647 : Int32)) % (3 : Int32)) else f16 i)) (hv56 : v56 = (if ((p0 &&& (2147483647 : Int32)) % (3 : Int32)) = (1 : Int32) then (1 : Int32) else (0 : Int32))) (hv58 : v58 = (if (nar .boolean (if (f18 ((0 : Int32)).toNatClampNeg) = (1 : Int32) then (1 : Int32) else (0 : Int32))) = v56 then (1 : Int32) else (0 : Int32))) (hv62 : v62 = (if ((p1 &&& (2147483647 : Int32)) % (3 : Int32)) = (1 : Int32) then (1 : Int32) else (0 : Int32))) (hv64 : v64 = (if (nar .boolean (if (f18 ((1 : Int32)).toNatClampNeg) = (1 : Int32) then (1 : Int32) else (0 : Int32))) = v62 then (1 : Int32) else (0 : Int32))) (hv68 : v68 = (if ((p2 &&& (2147483647 : Int32)) % (3 : Int32)) = (1 : Int32) then (1 : Int32) else (0 : Int32))) (hv70 : v70 = (if (nar .boolean (if (f18 ((2 : Int32)).toNatClampNeg) = (1 : Int32) then (1 : Int32) else (0 : Int32))) = v68 then (1 : Int32) else (0 : Int32))) (hv74 : v74 = (if v70 = (0 : Int32) then (0 : Int32) else (1 : Int32))) (hv75 : v75 = (if v64 = (0 : Int32) then (0 : Int32) else v74)) (hv76 : v76 = (if v58 = (0 : Int32) then (0 : Int32) else v75)) : (nar .boolean v76) = (1 : Int32) := by
  have z0 : (0 : Int32).toNatClampNeg = 0 := by decide
  have z1 : (1 : Int32).toNatClampNeg = 1 := by decide
  have z2 : (2 : Int32).toNatClampNeg = 2 := by decide
  simp only [z0, z1, z2] at *
  subst hf14 hf16 hf18 hv56 hv58 hv62 hv64 hv68 hv70 hv74 hv75 hv76
  simp only [own_nar_ite, own_nar0, own_nar1, if_pos, if_neg]
  simp (decide := true) [own_nar_ite, own_nar0, own_nar1]
theorem ef_0 (m : MethodId) (p0 : Int32) (p1 : Int32) (p2 : Int32) : entryFrame m #[(.int p0), (.int p1), (.int p2)] maxLocals = mkF m 0 #[.val (.int p0), .val (.int p1), .val (.int p2), .unset, .unset, .unset, .unset, .unset, .unset, .unset, .unset, .unset, .unset, .unset, .unset] [] := by first | (simp [entryFrame, mkF, argsToLocals, Value.category, maxLocals]; done) | rfl
def Q0 (h0 : Heap) (n0 : Nat) (v : Option Value) (h : Heap) (L : List Loc) : Prop := v = some (.int 1) ∧ Fr n0 L
set_option maxRecDepth 65536 in
set_option maxHeartbeats 40000000 in
theorem rm0 (l : Launch) (Z : State) (A0 : Array Value) (hw : ∀ d ∈ tables_1, d.before A0 Z = true) (ws : List Jvm.Cond) (p0 : Int32) (p1 : Int32) (p2 : Int32) (h0 : Heap) (n0 : Nat) (Z0 : n0 ≤ h0.size) :
    MetFree l x (head1 (Jvm.Cond.code x code maxLocals ret :: ws) room_1) (fun a U => a = #[(.int p0), (.int p1), (.int p2)] ∧ Z.Warmed39 U.vm ∧ U.heap = h0) (fun _ _ _ _ _ => True) (fun _ U o U' => ∃ v L, o = .returned v ∧ Q0 h0 n0 v U'.heap L ∧ FrameEnd U o U' L 6 34) := by
  refine MetFree.of_bodySF (plainFor_of_name pn_0) hisR ?_
  intro p e s m args below meth c s₁ Bd hml0 hP hK
  obtain ⟨rfl, hZ, hh⟩ := hP
  have hx := Bd.exec
  have hby := Bd.bytes
  have hml : c.maxLocals = 15 := hml0
  have hown : s.vm.findClass "com/example/ezra/ezra/DirectoryBitmapPinLaw" = some m.cls := findClass_of_methodNamed Bd.named
  have hnm := (name_of_methodNamed Bd.named Bd.method).1
  have X0 : Stand p l e room_1 s m #[(.int p0), (.int p1), (.int p2)] below meth c s₁ [] 0 0 := Stand.of_body Bd
  have e0 : s₁.heap = h0 := by rw [← hh, Bd.state]; rfl
  have N0 := Fr.nil n0
  have pre0 : ∀ t, Steps p.tables e below (s₁.setTop (mkF m 0 #[.val (.int p0), .val (.int p1), .val (.int p2), .unset, .unset, .unset, .unset, .unset, .unset, .unset, .unset, .unset, .unset, .unset, .unset] [])) t → Steps p.tables e below (s₁.setTop (entryFrame m #[(.int p0), (.int p1), (.int p2)] maxLocals)) t := fun t k => castTop (ef_0 m p0 p1 p2) k
  obtain ⟨T1, h1, k1, X1, e1, E1, A1, st1⟩ := newP X0 hx hZ (hw _ (List.mem_of_getElem? (i := 1) rfl)) e0 (g := (mkF m 25 #[.val (.int p0), .val (.int p1), .val (.int p2), .val (.int ((p0 &&& (2147483647 : Int32)) % (3 : Int32))), .val (.int ((p1 &&& (2147483647 : Int32)) % (3 : Int32))), .val (.int ((p2 &&& (2147483647 : Int32)) % (3 : Int32))), .unset, .unset, .unset, .unset, .unset, .unset, .unset, .unset, .unset] [(.int (16 : Int32))])) rfl (hb hby at_25) rfl (by decide) (cap := 16) (by decide) (by decide) (by decide) (by decide)
  obtain ⟨b1, g1⟩ : ∃ z, z = h0.size := ⟨_, rfl⟩
  rw [← g1] at A1 st1
  have nw_b1 : n0 ≤ b1 := Nat.le_trans (Nat.le_trans Z0 (Keep.refl h0 []).1) (Nat.le_of_eq g1.symm)
  have sz_b1 : h0.size ≤ b1 := Nat.le_trans (Keep.refl h0 []).1 (Nat.le_of_eq g1.symm)
  have K1 : Keep h0 h1 [] := (Keep.refl h0 []).ext E1
  have V1 : AF Z h1 b1 .byte 16 (fun j => .int ((fun _ => (0 : Int32)) j)) := AF.new A1 (by decide)
  obtain ⟨T2, h2, X2, e2, W2, A2, st2⟩ := AF.stB X1 hx hZ e1 V1 (by decide : own_in (0 : Int32) 16) (g := (mkF m 33 #[.val (.int p0), .val (.int p1), .val (.int p2), .val (.int ((p0 &&& (2147483647 : Int32)) % (3 : Int32))), .val (.int ((p1 &&& (2147483647 : Int32)) % (3 : Int32))), .val (.int ((p2 &&& (2147483647 : Int32)) % (3 : Int32))), .val (.ref b1), .unset, .unset, .unset, .unset, .unset, .unset, .unset, .unset] [(.int (3 : Int32)), (.int (0 : Int32)), (.ref b1)])) rfl rfl (hb hby at_33)
  have K2 : Keep h0 h2 [] := K1.wr W2 (Or.inr sz_b1)
  obtain ⟨f3, hf3⟩ : ∃ f : Nat → Int32, f = (fun i => if i = 0 then ((3 : Int32).toInt8.toInt32) else (fun _ => (0 : Int32)) i) := ⟨_, rfl⟩
  have V2 : AF Z h2 b1 .byte 16 (fun j => .int (f3 j)) := AF.cong A2 (own_updI rfl hf3)
  have N2 := Fr.snoc X2 N0 nw_b1
  obtain ⟨T4, h4, k4, X4, e4, E4, A4, st4⟩ := newP X2 hx hZ (hw _ (List.mem_of_getElem? (i := 2) rfl)) e2 (g := (mkF m 35 #[.val (.int p0), .val (.int p1), .val (.int p2), .val (.int ((p0 &&& (2147483647 : Int32)) % (3 : Int32))), .val (.int ((p1 &&& (2147483647 : Int32)) % (3 : Int32))), .val (.int ((p2 &&& (2147483647 : Int32)) % (3 : Int32))), .val (.ref b1), .unset, .unset, .unset, .unset, .unset, .unset, .unset, .unset] [(.int (3 : Int32))])) rfl (hb hby at_35) rfl (by decide) (cap := 3) (by decide) (by decide) (by decide) (by decide)
  obtain ⟨b4, g4⟩ : ∃ z, z = h2.size := ⟨_, rfl⟩
  rw [← g4] at A4 st4
  have ne_b1_b4 : b1 ≠ b4 := Nat.ne_of_lt (Nat.lt_of_lt_of_le V2.lt (Nat.le_of_eq g4.symm))
  have nw_b4 : n0 ≤ b4 := Nat.le_trans (Nat.le_trans Z0 K2.1) (Nat.le_of_eq g4.symm)
  have sz_b4 : h0.size ≤ b4 := Nat.le_trans K2.1 (Nat.le_of_eq g4.symm)
  have K4 : Keep h0 h4 [] := K2.ext E4
  have V4 : AF Z h4 b4 .int 3 (fun j => .int ((fun _ => (0 : Int32)) j)) := AF.new A4 (by decide)
  obtain ⟨T5, h5, X5, e5, W5, A5, st5⟩ := AF.stI X4 hx hZ e4 V4 (by decide : own_in (0 : Int32) 3) (g := (mkF m 40 #[.val (.int p0), .val (.int p1), .val (.int p2), .val (.int ((p0 &&& (2147483647 : Int32)) % (3 : Int32))), .val (.int ((p1 &&& (2147483647 : Int32)) % (3 : Int32))), .val (.int ((p2 &&& (2147483647 : Int32)) % (3 : Int32))), .val (.ref b1), .unset, .unset, .unset, .unset, .unset, .unset, .unset, .unset] [(.int (0 : Int32)), (.int (0 : Int32)), (.ref b4), (.ref b4)])) rfl rfl (hb hby at_40)
  have K5 : Keep h0 h5 [] := K4.wr W5 (Or.inr sz_b4)
  obtain ⟨f6, hf6⟩ : ∃ f : Nat → Int32, f = (fun i => if i = 0 then (0 : Int32) else (fun _ => (0 : Int32)) i) := ⟨_, rfl⟩
  have V5 : AF Z h5 b4 .int 3 (fun j => .int (f6 j)) := AF.cong A5 (own_updI rfl hf6)
  have N5 := Fr.snoc X5 N2 nw_b4
  obtain ⟨T7, h7, X7, e7, W7, A7, st7⟩ := AF.stI X5 hx hZ e5 V5 (by decide : own_in (1 : Int32) 3) (g := (mkF m 45 #[.val (.int p0), .val (.int p1), .val (.int p2), .val (.int ((p0 &&& (2147483647 : Int32)) % (3 : Int32))), .val (.int ((p1 &&& (2147483647 : Int32)) % (3 : Int32))), .val (.int ((p2 &&& (2147483647 : Int32)) % (3 : Int32))), .val (.ref b1), .unset, .unset, .unset, .unset, .unset, .unset, .unset, .unset] [(.int (7 : Int32)), (.int (1 : Int32)), (.ref b4), (.ref b4)])) rfl rfl (hb hby at_45)
  have K7 : Keep h0 h7 [] := K5.wr W7 (Or.inr sz_b4)
  obtain ⟨f8, hf8⟩ : ∃ f : Nat → Int32, f = (fun i => if i = 1 then (7 : Int32) else f6 i) := ⟨_, rfl⟩
  have V7 : AF Z h7 b4 .int 3 (fun j => .int (f8 j)) := AF.cong A7 (own_updI rfl hf8)
  have N7 := Fr.snoc X7 N5 nw_b4
  obtain ⟨T9, h9, X9, e9, W9, A9, st9⟩ := AF.stI X7 hx hZ e7 V7 (by decide : own_in (2 : Int32) 3) (g := (mkF m 50 #[.val (.int p0), .val (.int p1), .val (.int p2), .val (.int ((p0 &&& (2147483647 : Int32)) % (3 : Int32))), .val (.int ((p1 &&& (2147483647 : Int32)) % (3 : Int32))), .val (.int ((p2 &&& (2147483647 : Int32)) % (3 : Int32))), .val (.ref b1), .unset, .unset, .unset, .unset, .unset, .unset, .unset, .unset] [(.int (62 : Int32)), (.int (2 : Int32)), (.ref b4), (.ref b4)])) rfl rfl (hb hby at_50)
  have K9 : Keep h0 h9 [] := K7.wr W9 (Or.inr sz_b4)
  obtain ⟨f10, hf10⟩ : ∃ f : Nat → Int32, f = (fun i => if i = 2 then (62 : Int32) else f8 i) := ⟨_, rfl⟩
  have V9 : AF Z h9 b4 .int 3 (fun j => .int (f10 j)) := AF.cong A9 (own_updI rfl hf10)
  have N9 := Fr.snoc X9 N7 nw_b4
  obtain ⟨T11, h11, k11, X11, e11, E11, A11, st11⟩ := newP X9 hx hZ (hw _ (List.mem_of_getElem? (i := 2) rfl)) e9 (g := (mkF m 54 #[.val (.int p0), .val (.int p1), .val (.int p2), .val (.int ((p0 &&& (2147483647 : Int32)) % (3 : Int32))), .val (.int ((p1 &&& (2147483647 : Int32)) % (3 : Int32))), .val (.int ((p2 &&& (2147483647 : Int32)) % (3 : Int32))), .val (.ref b1), .val (.ref b4), .unset, .unset, .unset, .unset, .unset, .unset, .unset] [(.int (3 : Int32))])) rfl (hb hby at_54) rfl (by decide) (cap := 3) (by decide) (by decide) (by decide) (by decide)
  obtain ⟨b11, g11⟩ : ∃ z, z = h9.size := ⟨_, rfl⟩
  rw [← g11] at A11 st11
  have G12 : AF Z h9 b1 .byte 16 (fun j => .int (f3 j)) := ((((V2.ext E4).other W5 ne_b1_b4).other W7 ne_b1_b4).other W9 ne_b1_b4)
  have ne_b1_b11 : b1 ≠ b11 := Nat.ne_of_lt (Nat.lt_of_lt_of_le G12.lt (Nat.le_of_eq g11.symm))
  have ne_b4_b11 : b4 ≠ b11 := Nat.ne_of_lt (Nat.lt_of_lt_of_le V9.lt (Nat.le_of_eq g11.symm))
  have nw_b11 : n0 ≤ b11 := Nat.le_trans (Nat.le_trans Z0 K9.1) (Nat.le_of_eq g11.symm)
  have sz_b11 : h0.size ≤ b11 := Nat.le_trans K9.1 (Nat.le_of_eq g11.symm)
  have K11 : Keep h0 h11 [] := K9.ext E11
  have V11 : AF Z h11 b11 .int 3 (fun j => .int ((fun _ => (0 : Int32)) j)) := AF.new A11 (by decide)
  obtain ⟨T13, h13, X13, e13, W13, A13, st13⟩ := AF.stI X11 hx hZ e11 V11 (by decide : own_in (0 : Int32) 3) (g := (mkF m 59 #[.val (.int p0), .val (.int p1), .val (.int p2), .val (.int ((p0 &&& (2147483647 : Int32)) % (3 : Int32))), .val (.int ((p1 &&& (2147483647 : Int32)) % (3 : Int32))), .val (.int ((p2 &&& (2147483647 : Int32)) % (3 : Int32))), .val (.ref b1), .val (.ref b4), .unset, .unset, .unset, .unset, .unset, .unset, .unset] [(.int ((p0 &&& (2147483647 : Int32)) % (3 : Int32))), (.int (0 : Int32)), (.ref b11), (.ref b11)])) rfl rfl (hb hby at_59)
  have K13 : Keep h0 h13 [] := K11.wr W13 (Or.inr sz_b11)
  obtain ⟨f14, hf14⟩ : ∃ f : Nat → Int32, f = (fun i => if i = 0 then ((p0 &&& (2147483647 : Int32)) % (3 : Int32)) else (fun _ => (0 : Int32)) i) := ⟨_, rfl⟩
  have V13 : AF Z h13 b11 .int 3 (fun j => .int (f14 j)) := AF.cong A13 (own_updI rfl hf14)
  have N13 := Fr.snoc X13 N9 nw_b11
  obtain ⟨T15, h15, X15, e15, W15, A15, st15⟩ := AF.stI X13 hx hZ e13 V13 (by decide : own_in (1 : Int32) 3) (g := (mkF m 64 #[.val (.int p0), .val (.int p1), .val (.int p2), .val (.int ((p0 &&& (2147483647 : Int32)) % (3 : Int32))), .val (.int ((p1 &&& (2147483647 : Int32)) % (3 : Int32))), .val (.int ((p2 &&& (2147483647 : Int32)) % (3 : Int32))), .val (.ref b1), .val (.ref b4), .unset, .unset, .unset, .unset, .unset, .unset, .unset] [(.int ((p1 &&& (2147483647 : Int32)) % (3 : Int32))), (.int (1 : Int32)), (.ref b11), (.ref b11)])) rfl rfl (hb hby at_64)
  have K15 : Keep h0 h15 [] := K13.wr W15 (Or.inr sz_b11)
  obtain ⟨f16, hf16⟩ : ∃ f : Nat → Int32, f = (fun i => if i = 1 then ((p1 &&& (2147483647 : Int32)) % (3 : Int32)) else f14 i) := ⟨_, rfl⟩
  have V15 : AF Z h15 b11 .int 3 (fun j => .int (f16 j)) := AF.cong A15 (own_updI rfl hf16)
  have N15 := Fr.snoc X15 N13 nw_b11
  obtain ⟨T17, h17, X17, e17, W17, A17, st17⟩ := AF.stI X15 hx hZ e15 V15 (by decide : own_in (2 : Int32) 3) (g := (mkF m 69 #[.val (.int p0), .val (.int p1), .val (.int p2), .val (.int ((p0 &&& (2147483647 : Int32)) % (3 : Int32))), .val (.int ((p1 &&& (2147483647 : Int32)) % (3 : Int32))), .val (.int ((p2 &&& (2147483647 : Int32)) % (3 : Int32))), .val (.ref b1), .val (.ref b4), .unset, .unset, .unset, .unset, .unset, .unset, .unset] [(.int ((p2 &&& (2147483647 : Int32)) % (3 : Int32))), (.int (2 : Int32)), (.ref b11), (.ref b11)])) rfl rfl (hb hby at_69)
  have K17 : Keep h0 h17 [] := K15.wr W17 (Or.inr sz_b11)
  obtain ⟨f18, hf18⟩ : ∃ f : Nat → Int32, f = (fun i => if i = 2 then ((p2 &&& (2147483647 : Int32)) % (3 : Int32)) else f16 i) := ⟨_, rfl⟩
  have V17 : AF Z h17 b11 .int 3 (fun j => .int (f18 j)) := AF.cong A17 (own_updI rfl hf18)
  have N17 := Fr.snoc X17 N15 nw_b11
  obtain ⟨T19, h19, k19, X19, e19, E19, A19, st19⟩ := newP X17 hx hZ (hw _ (List.mem_of_getElem? (i := 2) rfl)) e17 (g := (mkF m 73 #[.val (.int p0), .val (.int p1), .val (.int p2), .val (.int ((p0 &&& (2147483647 : Int32)) % (3 : Int32))), .val (.int ((p1 &&& (2147483647 : Int32)) % (3 : Int32))), .val (.int ((p2 &&& (2147483647 : Int32)) % (3 : Int32))), .val (.ref b1), .val (.ref b4), .val (.ref b11), .unset, .unset, .unset, .unset, .unset, .unset] [(.int (3 : Int32))])) rfl (hb hby at_73) rfl (by decide) (cap := 3) (by decide) (by decide) (by decide) (by decide)
  obtain ⟨b19, g19⟩ : ∃ z, z = h17.size := ⟨_, rfl⟩
  rw [← g19] at A19 st19
  have G20 : AF Z h17 b1 .byte 16 (fun j => .int (f3 j)) := ((((G12.ext E11).other W13 ne_b1_b11).other W15 ne_b1_b11).other W17 ne_b1_b11)
  have ne_b1_b19 : b1 ≠ b19 := Nat.ne_of_lt (Nat.lt_of_lt_of_le G20.lt (Nat.le_of_eq g19.symm))
  have G21 : AF Z h17 b4 .int 3 (fun j => .int (f10 j)) := ((((V9.ext E11).other W13 ne_b4_b11).other W15 ne_b4_b11).other W17 ne_b4_b11)
  have ne_b4_b19 : b4 ≠ b19 := Nat.ne_of_lt (Nat.lt_of_lt_of_le G21.lt (Nat.le_of_eq g19.symm))
  have ne_b11_b19 : b11 ≠ b19 := Nat.ne_of_lt (Nat.lt_of_lt_of_le V17.lt (Nat.le_of_eq g19.symm))
  have nw_b19 : n0 ≤ b19 := Nat.le_trans (Nat.le_trans Z0 K17.1) (Nat.le_of_eq g19.symm)
  have sz_b19 : h0.size ≤ b19 := Nat.le_trans K17.1 (Nat.le_of_eq g19.symm)
  have K19 : Keep h0 h19 [] := K17.ext E19
  have V19 : AF Z h19 b19 .int 3 (fun j => .int ((fun _ => (0 : Int32)) j)) := AF.new A19 (by decide)
  obtain ⟨T22, h22, X22, e22, W22, A22, st22⟩ := AF.stI X19 hx hZ e19 V19 (by decide : own_in (0 : Int32) 3) (g := (mkF m 78 #[.val (.int p0), .val (.int p1), .val (.int p2), .val (.int ((p0 &&& (2147483647 : Int32)) % (3 : Int32))), .val (.int ((p1 &&& (2147483647 : Int32)) % (3 : Int32))), .val (.int ((p2 &&& (2147483647 : Int32)) % (3 : Int32))), .val (.ref b1), .val (.ref b4), .val (.ref b11), .unset, .unset, .unset, .unset, .unset, .unset] [(.int (2 : Int32)), (.int (0 : Int32)), (.ref b19), (.ref b19)])) rfl rfl (hb hby at_78)
  have K22 : Keep h0 h22 [] := K19.wr W22 (Or.inr sz_b19)
  obtain ⟨f23, hf23⟩ : ∃ f : Nat → Int32, f = (fun i => if i = 0 then (2 : Int32) else (fun _ => (0 : Int32)) i) := ⟨_, rfl⟩
  have V22 : AF Z h22 b19 .int 3 (fun j => .int (f23 j)) := AF.cong A22 (own_updI rfl hf23)
  have N22 := Fr.snoc X22 N17 nw_b19
  obtain ⟨T24, h24, X24, e24, W24, A24, st24⟩ := AF.stI X22 hx hZ e22 V22 (by decide : own_in (1 : Int32) 3) (g := (mkF m 82 #[.val (.int p0), .val (.int p1), .val (.int p2), .val (.int ((p0 &&& (2147483647 : Int32)) % (3 : Int32))), .val (.int ((p1 &&& (2147483647 : Int32)) % (3 : Int32))), .val (.int ((p2 &&& (2147483647 : Int32)) % (3 : Int32))), .val (.ref b1), .val (.ref b4), .val (.ref b11), .unset, .unset, .unset, .unset, .unset, .unset] [(.int (2 : Int32)), (.int (1 : Int32)), (.ref b19), (.ref b19)])) rfl rfl (hb hby at_82)
  have K24 : Keep h0 h24 [] := K22.wr W24 (Or.inr sz_b19)
  obtain ⟨f25, hf25⟩ : ∃ f : Nat → Int32, f = (fun i => if i = 1 then (2 : Int32) else f23 i) := ⟨_, rfl⟩
  have V24 : AF Z h24 b19 .int 3 (fun j => .int (f25 j)) := AF.cong A24 (own_updI rfl hf25)
  have N24 := Fr.snoc X24 N22 nw_b19
  obtain ⟨T26, h26, X26, e26, W26, A26, st26⟩ := AF.stI X24 hx hZ e24 V24 (by decide : own_in (2 : Int32) 3) (g := (mkF m 86 #[.val (.int p0), .val (.int p1), .val (.int p2), .val (.int ((p0 &&& (2147483647 : Int32)) % (3 : Int32))), .val (.int ((p1 &&& (2147483647 : Int32)) % (3 : Int32))), .val (.int ((p2 &&& (2147483647 : Int32)) % (3 : Int32))), .val (.ref b1), .val (.ref b4), .val (.ref b11), .unset, .unset, .unset, .unset, .unset, .unset] [(.int (2 : Int32)), (.int (2 : Int32)), (.ref b19), (.ref b19)])) rfl rfl (hb hby at_86)
  have K26 : Keep h0 h26 [] := K24.wr W26 (Or.inr sz_b19)
  obtain ⟨f27, hf27⟩ : ∃ f : Nat → Int32, f = (fun i => if i = 2 then (2 : Int32) else f25 i) := ⟨_, rfl⟩
  have V26 : AF Z h26 b19 .int 3 (fun j => .int (f27 j)) := AF.cong A26 (own_updI rfl hf27)
  have N26 := Fr.snoc X26 N24 nw_b19
  obtain ⟨T28, h28, k28, X28, e28, E28, A28, st28⟩ := newP X26 hx hZ (hw _ (List.mem_of_getElem? (i := 2) rfl)) e26 (g := (mkF m 90 #[.val (.int p0), .val (.int p1), .val (.int p2), .val (.int ((p0 &&& (2147483647 : Int32)) % (3 : Int32))), .val (.int ((p1 &&& (2147483647 : Int32)) % (3 : Int32))), .val (.int ((p2 &&& (2147483647 : Int32)) % (3 : Int32))), .val (.ref b1), .val (.ref b4), .val (.ref b11), .val (.ref b19), .unset, .unset, .unset, .unset, .unset] [(.int (4 : Int32))])) rfl (hb hby at_90) rfl (by decide) (cap := 4) (by decide) (by decide) (by decide) (by decide)
  obtain ⟨b28, g28⟩ : ∃ z, z = h26.size := ⟨_, rfl⟩
  rw [← g28] at A28 st28
  have G29 : AF Z h26 b1 .byte 16 (fun j => .int (f3 j)) := ((((G20.ext E19).other W22 ne_b1_b19).other W24 ne_b1_b19).other W26 ne_b1_b19)
  have ne_b1_b28 : b1 ≠ b28 := Nat.ne_of_lt (Nat.lt_of_lt_of_le G29.lt (Nat.le_of_eq g28.symm))
  have G30 : AF Z h26 b4 .int 3 (fun j => .int (f10 j)) := ((((G21.ext E19).other W22 ne_b4_b19).other W24 ne_b4_b19).other W26 ne_b4_b19)
  have ne_b4_b28 : b4 ≠ b28 := Nat.ne_of_lt (Nat.lt_of_lt_of_le G30.lt (Nat.le_of_eq g28.symm))
  have G31 : AF Z h26 b11 .int 3 (fun j => .int (f18 j)) := ((((V17.ext E19).other W22 ne_b11_b19).other W24 ne_b11_b19).other W26 ne_b11_b19)
  have ne_b11_b28 : b11 ≠ b28 := Nat.ne_of_lt (Nat.lt_of_lt_of_le G31.lt (Nat.le_of_eq g28.symm))
  have ne_b19_b28 : b19 ≠ b28 := Nat.ne_of_lt (Nat.lt_of_lt_of_le V26.lt (Nat.le_of_eq g28.symm))
  have nw_b28 : n0 ≤ b28 := Nat.le_trans (Nat.le_trans Z0 K26.1) (Nat.le_of_eq g28.symm)
  have sz_b28 : h0.size ≤ b28 := Nat.le_trans K26.1 (Nat.le_of_eq g28.symm)
  have K28 : Keep h0 h28 [] := K26.ext E28
  have V28 : AF Z h28 b28 .int 4 (fun j => .int ((fun _ => (0 : Int32)) j)) := AF.new A28 (by decide)
  obtain ⟨T32, h32, X32, e32, W32, A32, st32⟩ := AF.stI X28 hx hZ e28 V28 (by decide : own_in (0 : Int32) 4) (g := (mkF m 96 #[.val (.int p0), .val (.int p1), .val (.int p2), .val (.int ((p0 &&& (2147483647 : Int32)) % (3 : Int32))), .val (.int ((p1 &&& (2147483647 : Int32)) % (3 : Int32))), .val (.int ((p2 &&& (2147483647 : Int32)) % (3 : Int32))), .val (.ref b1), .val (.ref b4), .val (.ref b11), .val (.ref b19), .unset, .unset, .unset, .unset, .unset] [(.int (16 : Int32)), (.int (0 : Int32)), (.ref b28), (.ref b28)])) rfl rfl (hb hby at_96)
  have K32 : Keep h0 h32 [] := K28.wr W32 (Or.inr sz_b28)
  obtain ⟨f33, hf33⟩ : ∃ f : Nat → Int32, f = (fun i => if i = 0 then (16 : Int32) else (fun _ => (0 : Int32)) i) := ⟨_, rfl⟩
  have V32 : AF Z h32 b28 .int 4 (fun j => .int (f33 j)) := AF.cong A32 (own_updI rfl hf33)
  have N32 := Fr.snoc X32 N26 nw_b28
  obtain ⟨T34, h34, X34, e34, W34, A34, st34⟩ := AF.stI X32 hx hZ e32 V32 (by decide : own_in (1 : Int32) 4) (g := (mkF m 101 #[.val (.int p0), .val (.int p1), .val (.int p2), .val (.int ((p0 &&& (2147483647 : Int32)) % (3 : Int32))), .val (.int ((p1 &&& (2147483647 : Int32)) % (3 : Int32))), .val (.int ((p2 &&& (2147483647 : Int32)) % (3 : Int32))), .val (.ref b1), .val (.ref b4), .val (.ref b11), .val (.ref b19), .unset, .unset, .unset, .unset, .unset] [(.int (20 : Int32)), (.int (1 : Int32)), (.ref b28), (.ref b28)])) rfl rfl (hb hby at_101)
  have K34 : Keep h0 h34 [] := K32.wr W34 (Or.inr sz_b28)
  obtain ⟨f35, hf35⟩ : ∃ f : Nat → Int32, f = (fun i => if i = 1 then (20 : Int32) else f33 i) := ⟨_, rfl⟩
  have V34 : AF Z h34 b28 .int 4 (fun j => .int (f35 j)) := AF.cong A34 (own_updI rfl hf35)
  have N34 := Fr.snoc X34 N32 nw_b28
  obtain ⟨T36, h36, X36, e36, W36, A36, st36⟩ := AF.stI X34 hx hZ e34 V34 (by decide : own_in (2 : Int32) 4) (g := (mkF m 106 #[.val (.int p0), .val (.int p1), .val (.int p2), .val (.int ((p0 &&& (2147483647 : Int32)) % (3 : Int32))), .val (.int ((p1 &&& (2147483647 : Int32)) % (3 : Int32))), .val (.int ((p2 &&& (2147483647 : Int32)) % (3 : Int32))), .val (.ref b1), .val (.ref b4), .val (.ref b11), .val (.ref b19), .unset, .unset, .unset, .unset, .unset] [(.int (24 : Int32)), (.int (2 : Int32)), (.ref b28), (.ref b28)])) rfl rfl (hb hby at_106)
  have K36 : Keep h0 h36 [] := K34.wr W36 (Or.inr sz_b28)
  obtain ⟨f37, hf37⟩ : ∃ f : Nat → Int32, f = (fun i => if i = 2 then (24 : Int32) else f35 i) := ⟨_, rfl⟩
  have V36 : AF Z h36 b28 .int 4 (fun j => .int (f37 j)) := AF.cong A36 (own_updI rfl hf37)
  have N36 := Fr.snoc X36 N34 nw_b28
  obtain ⟨T38, h38, X38, e38, W38, A38, st38⟩ := AF.stI X36 hx hZ e36 V36 (by decide : own_in (3 : Int32) 4) (g := (mkF m 111 #[.val (.int p0), .val (.int p1), .val (.int p2), .val (.int ((p0 &&& (2147483647 : Int32)) % (3 : Int32))), .val (.int ((p1 &&& (2147483647 : Int32)) % (3 : Int32))), .val (.int ((p2 &&& (2147483647 : Int32)) % (3 : Int32))), .val (.ref b1), .val (.ref b4), .val (.ref b11), .val (.ref b19), .unset, .unset, .unset, .unset, .unset] [(.int (28 : Int32)), (.int (3 : Int32)), (.ref b28), (.ref b28)])) rfl rfl (hb hby at_111)
  have K38 : Keep h0 h38 [] := K36.wr W38 (Or.inr sz_b28)
  obtain ⟨f39, hf39⟩ : ∃ f : Nat → Int32, f = (fun i => if i = 3 then (28 : Int32) else f37 i) := ⟨_, rfl⟩
  have V38 : AF Z h38 b28 .int 4 (fun j => .int (f39 j)) := AF.cong A38 (own_updI rfl hf39)
  have N38 := Fr.snoc X38 N36 nw_b28
  obtain ⟨T40, h40, X40, e40, E40, A40, D40, -, st40⟩ := newO X38 hx hZ hown (hw _ (List.mem_of_getElem? (i := 3) rfl)) (hw _ (List.mem_of_getElem? (i := 4) rfl)) (hw _ (List.mem_of_getElem? (i := 5) rfl)) e38 (g := (mkF m 114 #[.val (.int p0), .val (.int p1), .val (.int p2), .val (.int ((p0 &&& (2147483647 : Int32)) % (3 : Int32))), .val (.int ((p1 &&& (2147483647 : Int32)) % (3 : Int32))), .val (.int ((p2 &&& (2147483647 : Int32)) % (3 : Int32))), .val (.ref b1), .val (.ref b4), .val (.ref b11), .val (.ref b19), .val (.ref b28), .unset, .unset, .unset, .unset] [])) rfl (hb hby at_114) (by decide) (by decide)
  obtain ⟨b40, g40⟩ : ∃ z, z = h38.size := ⟨_, rfl⟩
  rw [← g40] at A40 D40 st40
  have G41 : AF Z h38 b1 .byte 16 (fun j => .int (f3 j)) := (((((G29.ext E28).other W32 ne_b1_b28).other W34 ne_b1_b28).other W36 ne_b1_b28).other W38 ne_b1_b28)
  have ne_b1_b40 : b1 ≠ b40 := Nat.ne_of_lt (Nat.lt_of_lt_of_le G41.lt (Nat.le_of_eq g40.symm))
  have G42 : AF Z h38 b4 .int 3 (fun j => .int (f10 j)) := (((((G30.ext E28).other W32 ne_b4_b28).other W34 ne_b4_b28).other W36 ne_b4_b28).other W38 ne_b4_b28)
  have ne_b4_b40 : b4 ≠ b40 := Nat.ne_of_lt (Nat.lt_of_lt_of_le G42.lt (Nat.le_of_eq g40.symm))
  have G43 : AF Z h38 b11 .int 3 (fun j => .int (f18 j)) := (((((G31.ext E28).other W32 ne_b11_b28).other W34 ne_b11_b28).other W36 ne_b11_b28).other W38 ne_b11_b28)
  have ne_b11_b40 : b11 ≠ b40 := Nat.ne_of_lt (Nat.lt_of_lt_of_le G43.lt (Nat.le_of_eq g40.symm))
  have G44 : AF Z h38 b19 .int 3 (fun j => .int (f27 j)) := (((((V26.ext E28).other W32 ne_b19_b28).other W34 ne_b19_b28).other W36 ne_b19_b28).other W38 ne_b19_b28)
  have ne_b19_b40 : b19 ≠ b40 := Nat.ne_of_lt (Nat.lt_of_lt_of_le G44.lt (Nat.le_of_eq g40.symm))
  have ne_b28_b40 : b28 ≠ b40 := Nat.ne_of_lt (Nat.lt_of_lt_of_le V38.lt (Nat.le_of_eq g40.symm))
  have nw_b40 : n0 ≤ b40 := Nat.le_trans (Nat.le_trans Z0 K38.1) (Nat.le_of_eq g40.symm)
  have sz_b40 : h0.size ≤ b40 := Nat.le_trans K38.1 (Nat.le_of_eq g40.symm)
  have K40 : Keep h0 h40 [] := K38.ext E40
  have F_bytes_b40 : Fld Z h40 b40 "com/example/ezra/ezra/Block$Directory" "bytes" "[B" .null := D40 (Or.inr (hw _ (List.mem_of_getElem? (i := 18) rfl))) (ty := (.array .byte)) (by decide)
  have F_slots_b40 : Fld Z h40 b40 "com/example/ezra/ezra/Block$Directory" "slots" "[I" .null := D40 (Or.inr (hw _ (List.mem_of_getElem? (i := 20) rfl))) (ty := (.array .int)) (by decide)
  have F_kinds_b40 : Fld Z h40 b40 "com/example/ezra/ezra/Block$Directory" "kinds" "[I" .null := D40 (Or.inr (hw _ (List.mem_of_getElem? (i := 22) rfl))) (ty := (.array .int)) (by decide)
  have F_users_b40 : Fld Z h40 b40 "com/example/ezra/ezra/Block$Directory" "users" "[I" .null := D40 (Or.inr (hw _ (List.mem_of_getElem? (i := 24) rfl))) (ty := (.array .int)) (by decide)
  have F_offsets_b40 : Fld Z h40 b40 "com/example/ezra/ezra/Block$Directory" "offsets" "[I" .null := D40 (Or.inr (hw _ (List.mem_of_getElem? (i := 26) rfl))) (ty := (.array .int)) (by decide)
  obtain ⟨_, _, ⟨T45, L45, k45, n45⟩, -, X45, ⟨Lc45, hQ45, l45, y45, z45⟩, st45⟩ := X40.specialBack hx (y := (⟨"com/example/ezra/ezra/Block$Directory", "<init>", "([B[I[I[I[I)V"⟩ : MethodName)) rfl hown (mvT hZ (hw _ (List.mem_of_getElem? (i := 6) rfl))) (mvT hZ (hw _ (List.mem_of_getElem? (i := 7) rfl))) (mvT hZ (hw _ (List.mem_of_getElem? (i := 8) rfl))) (by decide) (backOf (W := 1) (rm1 l Z A0 hw [] b40 b1 b4 b11 b19 b28 .null .null .null .null .null h40 n0 (Nat.le_trans Z0 K40.1) A40 F_bytes_b40 F_slots_b40 F_kinds_b40 F_users_b40 F_offsets_b40 nw_b40) hZ (hw _ (List.mem_of_getElem? (i := 8) rfl)) (hw _ (List.mem_of_getElem? (i := 5) rfl)) (by decide) (by decide)) (g := (mkF m 128 #[.val (.int p0), .val (.int p1), .val (.int p2), .val (.int ((p0 &&& (2147483647 : Int32)) % (3 : Int32))), .val (.int ((p1 &&& (2147483647 : Int32)) % (3 : Int32))), .val (.int ((p2 &&& (2147483647 : Int32)) % (3 : Int32))), .val (.ref b1), .val (.ref b4), .val (.ref b11), .val (.ref b19), .val (.ref b28), .unset, .unset, .unset, .unset] [(.ref b28), (.ref b19), (.ref b11), (.ref b4), (.ref b1), (.ref b40), (.ref b40)])) rfl (by rw [hml]; rfl) (Steps.refl _) (a := b40) (argsL := [(.ref b1), (.ref b4), (.ref b11), (.ref b19), (.ref b28)]) (rest := [(.ref b40)]) (lenOf pd_0 rfl) rfl (by show 2 * 0 + _ ≤ _; exact Nat.le_of_eq rfl) (hb hby at_128) (fun _ _ => ⟨rfl, e40, (by decide : 6 + 0 ≤ _), (by decide : 34 + 0 ≤ _)⟩)
  dsimp only [Pt.U, Pt.locs, Pt.cells, Pt.slots] at X45 l45 y45 z45 st45 hQ45
  subst l45 y45 z45
  obtain ⟨rfl, N45q, Kc45, P46, P47, P48, P49, P50, P51⟩ := hQ45
  have K45 : Keep h0 T45.heap [] := K40.trans Kc45 (allS (Or.inr sz_b40) all0)
  have N45 := Fr.app N38 N45q
  have G52 : AF Z T45.heap b11 .int 3 (fun j => .int (f18 j)) := ((G43.ext E40).keep Kc45 (ninS ne_b11_b40 nin0))
  have hp53 : own_in (0 : Int32) 3 := (by decide)
  obtain ⟨cq54, kq54, q54a, q54b, q54c⟩ := isOf hZ rfl P46
  obtain ⟨_, _, ⟨T54, L54, k54, n54⟩, -, X54, ⟨Lc54, hQ54, l54, y54, z54⟩, st54⟩ := X45.virtualBack hx (y := (⟨"com/example/ezra/ezra/Block$Directory", "bitmap", "(I)Z"⟩ : MethodName)) (z := (⟨"com/example/ezra/ezra/Block$Directory", "bitmap", "(I)Z"⟩ : MethodName)) hown (mvT hZ (hw _ (List.mem_of_getElem? (i := 27) rfl))) (mvT hZ (hw _ (List.mem_of_getElem? (i := 28) rfl))) (notFace_of_selects (args := #[]) (mvT hZ (hw _ (List.mem_of_getElem? (i := 30) rfl)))) (mvT hZ (hw _ (List.mem_of_getElem? (i := 30) rfl))) (mvT hZ (hw _ (List.mem_of_getElem? (i := 29) rfl))) (by decide) (backOf (W := 0) (rm4 l Z A0 hw [] b40 (0 : Int32) (.ref b1) (.ref b4) b11 (.ref b19) (.ref b28) 3 f18 T45.heap n0 (Nat.le_trans Z0 K45.1) P46 P47 P48 P49 P50 P51 G52 hp53) hZ (hw _ (List.mem_of_getElem? (i := 31) rfl)) (hw _ (List.mem_of_getElem? (i := 5) rfl)) (by decide) (by decide)) q54a q54c (g := (mkF m 136 #[.val (.int p0), .val (.int p1), .val (.int p2), .val (.int ((p0 &&& (2147483647 : Int32)) % (3 : Int32))), .val (.int ((p1 &&& (2147483647 : Int32)) % (3 : Int32))), .val (.int ((p2 &&& (2147483647 : Int32)) % (3 : Int32))), .val (.ref b1), .val (.ref b4), .val (.ref b11), .val (.ref b19), .val (.ref b28), .val (.ref b40), .unset, .unset, .unset] [(.int (0 : Int32)), (.ref b40)])) rfl (by rw [hml]; rfl) (Steps.refl _) (argsL := [(.int (0 : Int32))]) (rest := []) (lenOf pd_2 rfl) rfl (by show 2 * 0 + _ ≤ _; exact Nat.le_of_eq rfl) (hb hby at_136) (fun _ _ => ⟨rfl, rfl, (by decide : 6 + 0 ≤ _), (by decide : 34 + 0 ≤ _)⟩)
  dsimp only [Pt.U, Pt.locs, Pt.cells, Pt.slots] at X54 l54 y54 z54 st54 hQ54
  subst l54 y54 z54
  obtain ⟨rfl, N54q, e54⟩ := hQ54
  have N54 := Fr.app N45 N54q
  obtain ⟨v56, hv56⟩ : ∃ z : Int32, z = if ((p0 &&& (2147483647 : Int32)) % (3 : Int32)) = (1 : Int32) then (1 : Int32) else (0 : Int32) := ⟨_, rfl⟩
  obtain ⟨v58, hv58⟩ : ∃ z : Int32, z = if (nar .boolean (if (f18 ((0 : Int32)).toNatClampNeg) = (1 : Int32) then (1 : Int32) else (0 : Int32))) = v56 then (1 : Int32) else (0 : Int32) := ⟨_, rfl⟩
  have hp59 : own_in (1 : Int32) 3 := (by decide)
  obtain ⟨cq60, kq60, q60a, q60b, q60c⟩ := isOf hZ e54 P46
  obtain ⟨_, _, ⟨T60, L60, k60, n60⟩, -, X60, ⟨Lc60, hQ60, l60, y60, z60⟩, st60⟩ := X54.virtualBack hx (y := (⟨"com/example/ezra/ezra/Block$Directory", "bitmap", "(I)Z"⟩ : MethodName)) (z := (⟨"com/example/ezra/ezra/Block$Directory", "bitmap", "(I)Z"⟩ : MethodName)) hown (mvT hZ (hw _ (List.mem_of_getElem? (i := 27) rfl))) (mvT hZ (hw _ (List.mem_of_getElem? (i := 28) rfl))) (notFace_of_selects (args := #[]) (mvT hZ (hw _ (List.mem_of_getElem? (i := 30) rfl)))) (mvT hZ (hw _ (List.mem_of_getElem? (i := 30) rfl))) (mvT hZ (hw _ (List.mem_of_getElem? (i := 29) rfl))) (by decide) (backOf (W := 0) (rm4 l Z A0 hw [] b40 (1 : Int32) (.ref b1) (.ref b4) b11 (.ref b19) (.ref b28) 3 f18 T45.heap n0 (Nat.le_trans Z0 K45.1) P46 P47 P48 P49 P50 P51 G52 hp59) hZ (hw _ (List.mem_of_getElem? (i := 31) rfl)) (hw _ (List.mem_of_getElem? (i := 5) rfl)) (by decide) (by decide)) q60a q60c (g := (mkF m 162 #[.val (.int p0), .val (.int p1), .val (.int p2), .val (.int ((p0 &&& (2147483647 : Int32)) % (3 : Int32))), .val (.int ((p1 &&& (2147483647 : Int32)) % (3 : Int32))), .val (.int ((p2 &&& (2147483647 : Int32)) % (3 : Int32))), .val (.ref b1), .val (.ref b4), .val (.ref b11), .val (.ref b19), .val (.ref b28), .val (.ref b40), .val (.int v58), .unset, .unset] [(.int (1 : Int32)), (.ref b40)])) rfl (by rw [hml]; rfl) (Steps.refl _) (argsL := [(.int (1 : Int32))]) (rest := []) (lenOf pd_2 rfl) rfl (by show 2 * 0 + _ ≤ _; exact Nat.le_of_eq rfl) (hb hby at_162) (fun _ _ => ⟨rfl, e54, (by decide : 6 + 0 ≤ _), (by decide : 34 + 0 ≤ _)⟩)
  dsimp only [Pt.U, Pt.locs, Pt.cells, Pt.slots] at X60 l60 y60 z60 st60 hQ60
  subst l60 y60 z60
  obtain ⟨rfl, N60q, e60⟩ := hQ60
  have N60 := Fr.app N54 N60q
  obtain ⟨v62, hv62⟩ : ∃ z : Int32, z = if ((p1 &&& (2147483647 : Int32)) % (3 : Int32)) = (1 : Int32) then (1 : Int32) else (0 : Int32) := ⟨_, rfl⟩
  obtain ⟨v64, hv64⟩ : ∃ z : Int32, z = if (nar .boolean (if (f18 ((1 : Int32)).toNatClampNeg) = (1 : Int32) then (1 : Int32) else (0 : Int32))) = v62 then (1 : Int32) else (0 : Int32) := ⟨_, rfl⟩
  have hp65 : own_in (2 : Int32) 3 := (by decide)
  obtain ⟨cq66, kq66, q66a, q66b, q66c⟩ := isOf hZ e60 P46
  obtain ⟨_, _, ⟨T66, L66, k66, n66⟩, -, X66, ⟨Lc66, hQ66, l66, y66, z66⟩, st66⟩ := X60.virtualBack hx (y := (⟨"com/example/ezra/ezra/Block$Directory", "bitmap", "(I)Z"⟩ : MethodName)) (z := (⟨"com/example/ezra/ezra/Block$Directory", "bitmap", "(I)Z"⟩ : MethodName)) hown (mvT hZ (hw _ (List.mem_of_getElem? (i := 27) rfl))) (mvT hZ (hw _ (List.mem_of_getElem? (i := 28) rfl))) (notFace_of_selects (args := #[]) (mvT hZ (hw _ (List.mem_of_getElem? (i := 30) rfl)))) (mvT hZ (hw _ (List.mem_of_getElem? (i := 30) rfl))) (mvT hZ (hw _ (List.mem_of_getElem? (i := 29) rfl))) (by decide) (backOf (W := 0) (rm4 l Z A0 hw [] b40 (2 : Int32) (.ref b1) (.ref b4) b11 (.ref b19) (.ref b28) 3 f18 T45.heap n0 (Nat.le_trans Z0 K45.1) P46 P47 P48 P49 P50 P51 G52 hp65) hZ (hw _ (List.mem_of_getElem? (i := 31) rfl)) (hw _ (List.mem_of_getElem? (i := 5) rfl)) (by decide) (by decide)) q66a q66c (g := (mkF m 189 #[.val (.int p0), .val (.int p1), .val (.int p2), .val (.int ((p0 &&& (2147483647 : Int32)) % (3 : Int32))), .val (.int ((p1 &&& (2147483647 : Int32)) % (3 : Int32))), .val (.int ((p2 &&& (2147483647 : Int32)) % (3 : Int32))), .val (.ref b1), .val (.ref b4), .val (.ref b11), .val (.ref b19), .val (.ref b28), .val (.ref b40), .val (.int v58), .val (.int v64), .unset] [(.int (2 : Int32)), (.ref b40)])) rfl (by rw [hml]; rfl) (Steps.refl _) (argsL := [(.int (2 : Int32))]) (rest := []) (lenOf pd_2 rfl) rfl (by show 2 * 0 + _ ≤ _; exact Nat.le_of_eq rfl) (hb hby at_189) (fun _ _ => ⟨rfl, e60, (by decide : 6 + 0 ≤ _), (by decide : 34 + 0 ≤ _)⟩)
  dsimp only [Pt.U, Pt.locs, Pt.cells, Pt.slots] at X66 l66 y66 z66 st66 hQ66
  subst l66 y66 z66
  obtain ⟨rfl, N66q, e66⟩ := hQ66
  have N66 := Fr.app N60 N66q
  obtain ⟨v68, hv68⟩ : ∃ z : Int32, z = if ((p2 &&& (2147483647 : Int32)) % (3 : Int32)) = (1 : Int32) then (1 : Int32) else (0 : Int32) := ⟨_, rfl⟩
  obtain ⟨v70, hv70⟩ : ∃ z : Int32, z = if (nar .boolean (if (f18 ((2 : Int32)).toNatClampNeg) = (1 : Int32) then (1 : Int32) else (0 : Int32))) = v68 then (1 : Int32) else (0 : Int32) := ⟨_, rfl⟩
  obtain ⟨v74, hv74⟩ : ∃ z : Int32, z = if v70 = (0 : Int32) then (0 : Int32) else (1 : Int32) := ⟨_, rfl⟩
  obtain ⟨v75, hv75⟩ : ∃ z : Int32, z = if v64 = (0 : Int32) then (0 : Int32) else v74 := ⟨_, rfl⟩
  obtain ⟨v76, hv76⟩ : ∃ z : Int32, z = if v58 = (0 : Int32) then (0 : Int32) else v75 := ⟨_, rfl⟩
  obtain ⟨fs, hr, hrun, hended, hW, hsame⟩ := X66.leave (v := some (.int (nar .boolean v76))) (fun h => by rw [Bd.returns] at h; cases h)
  refine ⟨_, _, pre0 _ ?_, hrun, hended, _, _, rfl, ?_, ⟨_, rfl⟩, hW, hsame.mono (by decide) (by decide)⟩
  · show Steps p.tables e below (s₁.setTop (mkF m 0 #[.val (.int p0), .val (.int p1), .val (.int p2), .unset, .unset, .unset, .unset, .unset, .unset, .unset, .unset, .unset, .unset, .unset, .unset] [])) _
    refine XS.iloadN X0.here hx rfl (hb hby at_0) rfl ?_
    show Steps p.tables e below (s₁.setTop (mkF m 1 #[.val (.int p0), .val (.int p1), .val (.int p2), .unset, .unset, .unset, .unset, .unset, .unset, .unset, .unset, .unset, .unset, .unset, .unset] [(.int p0)])) _
    refine X0.ldcInt hx hown (mvT hZ (hw _ (List.mem_of_getElem? (i := 0) rfl))) (g := (mkF m 1 #[.val (.int p0), .val (.int p1), .val (.int p2), .unset, .unset, .unset, .unset, .unset, .unset, .unset, .unset, .unset, .unset, .unset, .unset] [(.int p0)])) rfl (hb hby at_1) _ ?_
    show Steps p.tables e below (s₁.setTop (mkF m 3 #[.val (.int p0), .val (.int p1), .val (.int p2), .unset, .unset, .unset, .unset, .unset, .unset, .unset, .unset, .unset, .unset, .unset, .unset] [(.int (2147483647 : Int32)), (.int p0)])) _
    refine XS.iand X0.here hx rfl (hb hby at_3) rfl ?_
    show Steps p.tables e below (s₁.setTop (mkF m 4 #[.val (.int p0), .val (.int p1), .val (.int p2), .unset, .unset, .unset, .unset, .unset, .unset, .unset, .unset, .unset, .unset, .unset, .unset] [(.int (p0 &&& (2147483647 : Int32)))])) _
    refine XS.iconst X0.here hx rfl (hb hby at_4) ?_
    show Steps p.tables e below (s₁.setTop (mkF m 5 #[.val (.int p0), .val (.int p1), .val (.int p2), .unset, .unset, .unset, .unset, .unset, .unset, .unset, .unset, .unset, .unset, .unset, .unset] [(.int (3 : Int32)), (.int (p0 &&& (2147483647 : Int32)))])) _
    refine iremM X0 hx rfl (hb hby at_5) rfl (by decide) ?_
    show Steps p.tables e below (s₁.setTop (mkF m 6 #[.val (.int p0), .val (.int p1), .val (.int p2), .unset, .unset, .unset, .unset, .unset, .unset, .unset, .unset, .unset, .unset, .unset, .unset] [(.int ((p0 &&& (2147483647 : Int32)) % (3 : Int32)))])) _
    refine XS.istoreN X0.here hx rfl (hb hby at_6) rfl (l' := #[.val (.int p0), .val (.int p1), .val (.int p2), .val (.int ((p0 &&& (2147483647 : Int32)) % (3 : Int32))), .unset, .unset, .unset, .unset, .unset, .unset, .unset, .unset, .unset, .unset, .unset]) rfl ?_
    show Steps p.tables e below (s₁.setTop (mkF m 7 #[.val (.int p0), .val (.int p1), .val (.int p2), .val (.int ((p0 &&& (2147483647 : Int32)) % (3 : Int32))), .unset, .unset, .unset, .unset, .unset, .unset, .unset, .unset, .unset, .unset, .unset] [])) _
    refine XS.iloadN X0.here hx rfl (hb hby at_7) rfl ?_
    show Steps p.tables e below (s₁.setTop (mkF m 8 #[.val (.int p0), .val (.int p1), .val (.int p2), .val (.int ((p0 &&& (2147483647 : Int32)) % (3 : Int32))), .unset, .unset, .unset, .unset, .unset, .unset, .unset, .unset, .unset, .unset, .unset] [(.int p1)])) _
    refine X0.ldcInt hx hown (mvT hZ (hw _ (List.mem_of_getElem? (i := 0) rfl))) (g := (mkF m 8 #[.val (.int p0), .val (.int p1), .val (.int p2), .val (.int ((p0 &&& (2147483647 : Int32)) % (3 : Int32))), .unset, .unset, .unset, .unset, .unset, .unset, .unset, .unset, .unset, .unset, .unset] [(.int p1)])) rfl (hb hby at_8) _ ?_
    show Steps p.tables e below (s₁.setTop (mkF m 10 #[.val (.int p0), .val (.int p1), .val (.int p2), .val (.int ((p0 &&& (2147483647 : Int32)) % (3 : Int32))), .unset, .unset, .unset, .unset, .unset, .unset, .unset, .unset, .unset, .unset, .unset] [(.int (2147483647 : Int32)), (.int p1)])) _
    refine XS.iand X0.here hx rfl (hb hby at_10) rfl ?_
    show Steps p.tables e below (s₁.setTop (mkF m 11 #[.val (.int p0), .val (.int p1), .val (.int p2), .val (.int ((p0 &&& (2147483647 : Int32)) % (3 : Int32))), .unset, .unset, .unset, .unset, .unset, .unset, .unset, .unset, .unset, .unset, .unset] [(.int (p1 &&& (2147483647 : Int32)))])) _
    refine XS.iconst X0.here hx rfl (hb hby at_11) ?_
    show Steps p.tables e below (s₁.setTop (mkF m 12 #[.val (.int p0), .val (.int p1), .val (.int p2), .val (.int ((p0 &&& (2147483647 : Int32)) % (3 : Int32))), .unset, .unset, .unset, .unset, .unset, .unset, .unset, .unset, .unset, .unset, .unset] [(.int (3 : Int32)), (.int (p1 &&& (2147483647 : Int32)))])) _
    refine iremM X0 hx rfl (hb hby at_12) rfl (by decide) ?_
    show Steps p.tables e below (s₁.setTop (mkF m 13 #[.val (.int p0), .val (.int p1), .val (.int p2), .val (.int ((p0 &&& (2147483647 : Int32)) % (3 : Int32))), .unset, .unset, .unset, .unset, .unset, .unset, .unset, .unset, .unset, .unset, .unset] [(.int ((p1 &&& (2147483647 : Int32)) % (3 : Int32)))])) _
    refine XS.istore X0.here hx rfl (hb hby at_13) rfl (l' := #[.val (.int p0), .val (.int p1), .val (.int p2), .val (.int ((p0 &&& (2147483647 : Int32)) % (3 : Int32))), .val (.int ((p1 &&& (2147483647 : Int32)) % (3 : Int32))), .unset, .unset, .unset, .unset, .unset, .unset, .unset, .unset, .unset, .unset]) rfl ?_
    show Steps p.tables e below (s₁.setTop (mkF m 15 #[.val (.int p0), .val (.int p1), .val (.int p2), .val (.int ((p0 &&& (2147483647 : Int32)) % (3 : Int32))), .val (.int ((p1 &&& (2147483647 : Int32)) % (3 : Int32))), .unset, .unset, .unset, .unset, .unset, .unset, .unset, .unset, .unset, .unset] [])) _
    refine XS.iloadN X0.here hx rfl (hb hby at_15) rfl ?_
    show Steps p.tables e below (s₁.setTop (mkF m 16 #[.val (.int p0), .val (.int p1), .val (.int p2), .val (.int ((p0 &&& (2147483647 : Int32)) % (3 : Int32))), .val (.int ((p1 &&& (2147483647 : Int32)) % (3 : Int32))), .unset, .unset, .unset, .unset, .unset, .unset, .unset, .unset, .unset, .unset] [(.int p2)])) _
    refine X0.ldcInt hx hown (mvT hZ (hw _ (List.mem_of_getElem? (i := 0) rfl))) (g := (mkF m 16 #[.val (.int p0), .val (.int p1), .val (.int p2), .val (.int ((p0 &&& (2147483647 : Int32)) % (3 : Int32))), .val (.int ((p1 &&& (2147483647 : Int32)) % (3 : Int32))), .unset, .unset, .unset, .unset, .unset, .unset, .unset, .unset, .unset, .unset] [(.int p2)])) rfl (hb hby at_16) _ ?_
    show Steps p.tables e below (s₁.setTop (mkF m 18 #[.val (.int p0), .val (.int p1), .val (.int p2), .val (.int ((p0 &&& (2147483647 : Int32)) % (3 : Int32))), .val (.int ((p1 &&& (2147483647 : Int32)) % (3 : Int32))), .unset, .unset, .unset, .unset, .unset, .unset, .unset, .unset, .unset, .unset] [(.int (2147483647 : Int32)), (.int p2)])) _
    refine XS.iand X0.here hx rfl (hb hby at_18) rfl ?_
    show Steps p.tables e below (s₁.setTop (mkF m 19 #[.val (.int p0), .val (.int p1), .val (.int p2), .val (.int ((p0 &&& (2147483647 : Int32)) % (3 : Int32))), .val (.int ((p1 &&& (2147483647 : Int32)) % (3 : Int32))), .unset, .unset, .unset, .unset, .unset, .unset, .unset, .unset, .unset, .unset] [(.int (p2 &&& (2147483647 : Int32)))])) _
    refine XS.iconst X0.here hx rfl (hb hby at_19) ?_
    show Steps p.tables e below (s₁.setTop (mkF m 20 #[.val (.int p0), .val (.int p1), .val (.int p2), .val (.int ((p0 &&& (2147483647 : Int32)) % (3 : Int32))), .val (.int ((p1 &&& (2147483647 : Int32)) % (3 : Int32))), .unset, .unset, .unset, .unset, .unset, .unset, .unset, .unset, .unset, .unset] [(.int (3 : Int32)), (.int (p2 &&& (2147483647 : Int32)))])) _
    refine iremM X0 hx rfl (hb hby at_20) rfl (by decide) ?_
    show Steps p.tables e below (s₁.setTop (mkF m 21 #[.val (.int p0), .val (.int p1), .val (.int p2), .val (.int ((p0 &&& (2147483647 : Int32)) % (3 : Int32))), .val (.int ((p1 &&& (2147483647 : Int32)) % (3 : Int32))), .unset, .unset, .unset, .unset, .unset, .unset, .unset, .unset, .unset, .unset] [(.int ((p2 &&& (2147483647 : Int32)) % (3 : Int32)))])) _
    refine XS.istore X0.here hx rfl (hb hby at_21) rfl (l' := #[.val (.int p0), .val (.int p1), .val (.int p2), .val (.int ((p0 &&& (2147483647 : Int32)) % (3 : Int32))), .val (.int ((p1 &&& (2147483647 : Int32)) % (3 : Int32))), .val (.int ((p2 &&& (2147483647 : Int32)) % (3 : Int32))), .unset, .unset, .unset, .unset, .unset, .unset, .unset, .unset, .unset]) rfl ?_
    show Steps p.tables e below (s₁.setTop (mkF m 23 #[.val (.int p0), .val (.int p1), .val (.int p2), .val (.int ((p0 &&& (2147483647 : Int32)) % (3 : Int32))), .val (.int ((p1 &&& (2147483647 : Int32)) % (3 : Int32))), .val (.int ((p2 &&& (2147483647 : Int32)) % (3 : Int32))), .unset, .unset, .unset, .unset, .unset, .unset, .unset, .unset, .unset] [])) _
    refine XS.bipush X0.here hx rfl (hb hby at_23) ?_
    show Steps p.tables e below (s₁.setTop (mkF m 25 #[.val (.int p0), .val (.int p1), .val (.int p2), .val (.int ((p0 &&& (2147483647 : Int32)) % (3 : Int32))), .val (.int ((p1 &&& (2147483647 : Int32)) % (3 : Int32))), .val (.int ((p2 &&& (2147483647 : Int32)) % (3 : Int32))), .unset, .unset, .unset, .unset, .unset, .unset, .unset, .unset, .unset] [(.int (16 : Int32))])) _
    refine st1 _ ?_
    show Steps p.tables e below (T1.setTop (mkF m 27 #[.val (.int p0), .val (.int p1), .val (.int p2), .val (.int ((p0 &&& (2147483647 : Int32)) % (3 : Int32))), .val (.int ((p1 &&& (2147483647 : Int32)) % (3 : Int32))), .val (.int ((p2 &&& (2147483647 : Int32)) % (3 : Int32))), .unset, .unset, .unset, .unset, .unset, .unset, .unset, .unset, .unset] [(.ref b1)])) _
    refine XS.astore X1.here hx rfl (hb hby at_27) rfl rfl (l' := #[.val (.int p0), .val (.int p1), .val (.int p2), .val (.int ((p0 &&& (2147483647 : Int32)) % (3 : Int32))), .val (.int ((p1 &&& (2147483647 : Int32)) % (3 : Int32))), .val (.int ((p2 &&& (2147483647 : Int32)) % (3 : Int32))), .val (.ref b1), .unset, .unset, .unset, .unset, .unset, .unset, .unset, .unset]) rfl ?_
    show Steps p.tables e below (T1.setTop (mkF m 29 #[.val (.int p0), .val (.int p1), .val (.int p2), .val (.int ((p0 &&& (2147483647 : Int32)) % (3 : Int32))), .val (.int ((p1 &&& (2147483647 : Int32)) % (3 : Int32))), .val (.int ((p2 &&& (2147483647 : Int32)) % (3 : Int32))), .val (.ref b1), .unset, .unset, .unset, .unset, .unset, .unset, .unset, .unset] [])) _
    refine XS.aload X1.here hx rfl (hb hby at_29) rfl rfl ?_
    show Steps p.tables e below (T1.setTop (mkF m 31 #[.val (.int p0), .val (.int p1), .val (.int p2), .val (.int ((p0 &&& (2147483647 : Int32)) % (3 : Int32))), .val (.int ((p1 &&& (2147483647 : Int32)) % (3 : Int32))), .val (.int ((p2 &&& (2147483647 : Int32)) % (3 : Int32))), .val (.ref b1), .unset, .unset, .unset, .unset, .unset, .unset, .unset, .unset] [(.ref b1)])) _
    refine XS.iconst X1.here hx rfl (hb hby at_31) ?_
    show Steps p.tables e below (T1.setTop (mkF m 32 #[.val (.int p0), .val (.int p1), .val (.int p2), .val (.int ((p0 &&& (2147483647 : Int32)) % (3 : Int32))), .val (.int ((p1 &&& (2147483647 : Int32)) % (3 : Int32))), .val (.int ((p2 &&& (2147483647 : Int32)) % (3 : Int32))), .val (.ref b1), .unset, .unset, .unset, .unset, .unset, .unset, .unset, .unset] [(.int (0 : Int32)), (.ref b1)])) _
    refine XS.iconst X1.here hx rfl (hb hby at_32) ?_
    show Steps p.tables e below (T1.setTop (mkF m 33 #[.val (.int p0), .val (.int p1), .val (.int p2), .val (.int ((p0 &&& (2147483647 : Int32)) % (3 : Int32))), .val (.int ((p1 &&& (2147483647 : Int32)) % (3 : Int32))), .val (.int ((p2 &&& (2147483647 : Int32)) % (3 : Int32))), .val (.ref b1), .unset, .unset, .unset, .unset, .unset, .unset, .unset, .unset] [(.int (3 : Int32)), (.int (0 : Int32)), (.ref b1)])) _
    refine st2 _ ?_
    show Steps p.tables e below (T2.setTop (mkF m 34 #[.val (.int p0), .val (.int p1), .val (.int p2), .val (.int ((p0 &&& (2147483647 : Int32)) % (3 : Int32))), .val (.int ((p1 &&& (2147483647 : Int32)) % (3 : Int32))), .val (.int ((p2 &&& (2147483647 : Int32)) % (3 : Int32))), .val (.ref b1), .unset, .unset, .unset, .unset, .unset, .unset, .unset, .unset] [])) _
    refine XS.iconst X2.here hx rfl (hb hby at_34) ?_
    show Steps p.tables e below (T2.setTop (mkF m 35 #[.val (.int p0), .val (.int p1), .val (.int p2), .val (.int ((p0 &&& (2147483647 : Int32)) % (3 : Int32))), .val (.int ((p1 &&& (2147483647 : Int32)) % (3 : Int32))), .val (.int ((p2 &&& (2147483647 : Int32)) % (3 : Int32))), .val (.ref b1), .unset, .unset, .unset, .unset, .unset, .unset, .unset, .unset] [(.int (3 : Int32))])) _
    refine st4 _ ?_
    show Steps p.tables e below (T4.setTop (mkF m 37 #[.val (.int p0), .val (.int p1), .val (.int p2), .val (.int ((p0 &&& (2147483647 : Int32)) % (3 : Int32))), .val (.int ((p1 &&& (2147483647 : Int32)) % (3 : Int32))), .val (.int ((p2 &&& (2147483647 : Int32)) % (3 : Int32))), .val (.ref b1), .unset, .unset, .unset, .unset, .unset, .unset, .unset, .unset] [(.ref b4)])) _
    refine XS.dup X4.here hx rfl (hb hby at_37) rfl rfl ?_
    show Steps p.tables e below (T4.setTop (mkF m 38 #[.val (.int p0), .val (.int p1), .val (.int p2), .val (.int ((p0 &&& (2147483647 : Int32)) % (3 : Int32))), .val (.int ((p1 &&& (2147483647 : Int32)) % (3 : Int32))), .val (.int ((p2 &&& (2147483647 : Int32)) % (3 : Int32))), .val (.ref b1), .unset, .unset, .unset, .unset, .unset, .unset, .unset, .unset] [(.ref b4), (.ref b4)])) _
    refine XS.iconst X4.here hx rfl (hb hby at_38) ?_
    show Steps p.tables e below (T4.setTop (mkF m 39 #[.val (.int p0), .val (.int p1), .val (.int p2), .val (.int ((p0 &&& (2147483647 : Int32)) % (3 : Int32))), .val (.int ((p1 &&& (2147483647 : Int32)) % (3 : Int32))), .val (.int ((p2 &&& (2147483647 : Int32)) % (3 : Int32))), .val (.ref b1), .unset, .unset, .unset, .unset, .unset, .unset, .unset, .unset] [(.int (0 : Int32)), (.ref b4), (.ref b4)])) _
    refine XS.iconst X4.here hx rfl (hb hby at_39) ?_
    show Steps p.tables e below (T4.setTop (mkF m 40 #[.val (.int p0), .val (.int p1), .val (.int p2), .val (.int ((p0 &&& (2147483647 : Int32)) % (3 : Int32))), .val (.int ((p1 &&& (2147483647 : Int32)) % (3 : Int32))), .val (.int ((p2 &&& (2147483647 : Int32)) % (3 : Int32))), .val (.ref b1), .unset, .unset, .unset, .unset, .unset, .unset, .unset, .unset] [(.int (0 : Int32)), (.int (0 : Int32)), (.ref b4), (.ref b4)])) _
    refine st5 _ ?_
    show Steps p.tables e below (T5.setTop (mkF m 41 #[.val (.int p0), .val (.int p1), .val (.int p2), .val (.int ((p0 &&& (2147483647 : Int32)) % (3 : Int32))), .val (.int ((p1 &&& (2147483647 : Int32)) % (3 : Int32))), .val (.int ((p2 &&& (2147483647 : Int32)) % (3 : Int32))), .val (.ref b1), .unset, .unset, .unset, .unset, .unset, .unset, .unset, .unset] [(.ref b4)])) _
    refine XS.dup X5.here hx rfl (hb hby at_41) rfl rfl ?_
    show Steps p.tables e below (T5.setTop (mkF m 42 #[.val (.int p0), .val (.int p1), .val (.int p2), .val (.int ((p0 &&& (2147483647 : Int32)) % (3 : Int32))), .val (.int ((p1 &&& (2147483647 : Int32)) % (3 : Int32))), .val (.int ((p2 &&& (2147483647 : Int32)) % (3 : Int32))), .val (.ref b1), .unset, .unset, .unset, .unset, .unset, .unset, .unset, .unset] [(.ref b4), (.ref b4)])) _
    refine XS.iconst X5.here hx rfl (hb hby at_42) ?_
    show Steps p.tables e below (T5.setTop (mkF m 43 #[.val (.int p0), .val (.int p1), .val (.int p2), .val (.int ((p0 &&& (2147483647 : Int32)) % (3 : Int32))), .val (.int ((p1 &&& (2147483647 : Int32)) % (3 : Int32))), .val (.int ((p2 &&& (2147483647 : Int32)) % (3 : Int32))), .val (.ref b1), .unset, .unset, .unset, .unset, .unset, .unset, .unset, .unset] [(.int (1 : Int32)), (.ref b4), (.ref b4)])) _
    refine XS.bipush X5.here hx rfl (hb hby at_43) ?_
    show Steps p.tables e below (T5.setTop (mkF m 45 #[.val (.int p0), .val (.int p1), .val (.int p2), .val (.int ((p0 &&& (2147483647 : Int32)) % (3 : Int32))), .val (.int ((p1 &&& (2147483647 : Int32)) % (3 : Int32))), .val (.int ((p2 &&& (2147483647 : Int32)) % (3 : Int32))), .val (.ref b1), .unset, .unset, .unset, .unset, .unset, .unset, .unset, .unset] [(.int (7 : Int32)), (.int (1 : Int32)), (.ref b4), (.ref b4)])) _
    refine st7 _ ?_
    show Steps p.tables e below (T7.setTop (mkF m 46 #[.val (.int p0), .val (.int p1), .val (.int p2), .val (.int ((p0 &&& (2147483647 : Int32)) % (3 : Int32))), .val (.int ((p1 &&& (2147483647 : Int32)) % (3 : Int32))), .val (.int ((p2 &&& (2147483647 : Int32)) % (3 : Int32))), .val (.ref b1), .unset, .unset, .unset, .unset, .unset, .unset, .unset, .unset] [(.ref b4)])) _
    refine XS.dup X7.here hx rfl (hb hby at_46) rfl rfl ?_
    show Steps p.tables e below (T7.setTop (mkF m 47 #[.val (.int p0), .val (.int p1), .val (.int p2), .val (.int ((p0 &&& (2147483647 : Int32)) % (3 : Int32))), .val (.int ((p1 &&& (2147483647 : Int32)) % (3 : Int32))), .val (.int ((p2 &&& (2147483647 : Int32)) % (3 : Int32))), .val (.ref b1), .unset, .unset, .unset, .unset, .unset, .unset, .unset, .unset] [(.ref b4), (.ref b4)])) _
    refine XS.iconst X7.here hx rfl (hb hby at_47) ?_
    show Steps p.tables e below (T7.setTop (mkF m 48 #[.val (.int p0), .val (.int p1), .val (.int p2), .val (.int ((p0 &&& (2147483647 : Int32)) % (3 : Int32))), .val (.int ((p1 &&& (2147483647 : Int32)) % (3 : Int32))), .val (.int ((p2 &&& (2147483647 : Int32)) % (3 : Int32))), .val (.ref b1), .unset, .unset, .unset, .unset, .unset, .unset, .unset, .unset] [(.int (2 : Int32)), (.ref b4), (.ref b4)])) _
    refine XS.bipush X7.here hx rfl (hb hby at_48) ?_
    show Steps p.tables e below (T7.setTop (mkF m 50 #[.val (.int p0), .val (.int p1), .val (.int p2), .val (.int ((p0 &&& (2147483647 : Int32)) % (3 : Int32))), .val (.int ((p1 &&& (2147483647 : Int32)) % (3 : Int32))), .val (.int ((p2 &&& (2147483647 : Int32)) % (3 : Int32))), .val (.ref b1), .unset, .unset, .unset, .unset, .unset, .unset, .unset, .unset] [(.int (62 : Int32)), (.int (2 : Int32)), (.ref b4), (.ref b4)])) _
    refine st9 _ ?_
    show Steps p.tables e below (T9.setTop (mkF m 51 #[.val (.int p0), .val (.int p1), .val (.int p2), .val (.int ((p0 &&& (2147483647 : Int32)) % (3 : Int32))), .val (.int ((p1 &&& (2147483647 : Int32)) % (3 : Int32))), .val (.int ((p2 &&& (2147483647 : Int32)) % (3 : Int32))), .val (.ref b1), .unset, .unset, .unset, .unset, .unset, .unset, .unset, .unset] [(.ref b4)])) _
    refine XS.astore X9.here hx rfl (hb hby at_51) rfl rfl (l' := #[.val (.int p0), .val (.int p1), .val (.int p2), .val (.int ((p0 &&& (2147483647 : Int32)) % (3 : Int32))), .val (.int ((p1 &&& (2147483647 : Int32)) % (3 : Int32))), .val (.int ((p2 &&& (2147483647 : Int32)) % (3 : Int32))), .val (.ref b1), .val (.ref b4), .unset, .unset, .unset, .unset, .unset, .unset, .unset]) rfl ?_
    show Steps p.tables e below (T9.setTop (mkF m 53 #[.val (.int p0), .val (.int p1), .val (.int p2), .val (.int ((p0 &&& (2147483647 : Int32)) % (3 : Int32))), .val (.int ((p1 &&& (2147483647 : Int32)) % (3 : Int32))), .val (.int ((p2 &&& (2147483647 : Int32)) % (3 : Int32))), .val (.ref b1), .val (.ref b4), .unset, .unset, .unset, .unset, .unset, .unset, .unset] [])) _
    refine XS.iconst X9.here hx rfl (hb hby at_53) ?_
    show Steps p.tables e below (T9.setTop (mkF m 54 #[.val (.int p0), .val (.int p1), .val (.int p2), .val (.int ((p0 &&& (2147483647 : Int32)) % (3 : Int32))), .val (.int ((p1 &&& (2147483647 : Int32)) % (3 : Int32))), .val (.int ((p2 &&& (2147483647 : Int32)) % (3 : Int32))), .val (.ref b1), .val (.ref b4), .unset, .unset, .unset, .unset, .unset, .unset, .unset] [(.int (3 : Int32))])) _
    refine st11 _ ?_
    show Steps p.tables e below (T11.setTop (mkF m 56 #[.val (.int p0), .val (.int p1), .val (.int p2), .val (.int ((p0 &&& (2147483647 : Int32)) % (3 : Int32))), .val (.int ((p1 &&& (2147483647 : Int32)) % (3 : Int32))), .val (.int ((p2 &&& (2147483647 : Int32)) % (3 : Int32))), .val (.ref b1), .val (.ref b4), .unset, .unset, .unset, .unset, .unset, .unset, .unset] [(.ref b11)])) _
    refine XS.dup X11.here hx rfl (hb hby at_56) rfl rfl ?_
    show Steps p.tables e below (T11.setTop (mkF m 57 #[.val (.int p0), .val (.int p1), .val (.int p2), .val (.int ((p0 &&& (2147483647 : Int32)) % (3 : Int32))), .val (.int ((p1 &&& (2147483647 : Int32)) % (3 : Int32))), .val (.int ((p2 &&& (2147483647 : Int32)) % (3 : Int32))), .val (.ref b1), .val (.ref b4), .unset, .unset, .unset, .unset, .unset, .unset, .unset] [(.ref b11), (.ref b11)])) _
    refine XS.iconst X11.here hx rfl (hb hby at_57) ?_
    show Steps p.tables e below (T11.setTop (mkF m 58 #[.val (.int p0), .val (.int p1), .val (.int p2), .val (.int ((p0 &&& (2147483647 : Int32)) % (3 : Int32))), .val (.int ((p1 &&& (2147483647 : Int32)) % (3 : Int32))), .val (.int ((p2 &&& (2147483647 : Int32)) % (3 : Int32))), .val (.ref b1), .val (.ref b4), .unset, .unset, .unset, .unset, .unset, .unset, .unset] [(.int (0 : Int32)), (.ref b11), (.ref b11)])) _
    refine XS.iloadN X11.here hx rfl (hb hby at_58) rfl ?_
    show Steps p.tables e below (T11.setTop (mkF m 59 #[.val (.int p0), .val (.int p1), .val (.int p2), .val (.int ((p0 &&& (2147483647 : Int32)) % (3 : Int32))), .val (.int ((p1 &&& (2147483647 : Int32)) % (3 : Int32))), .val (.int ((p2 &&& (2147483647 : Int32)) % (3 : Int32))), .val (.ref b1), .val (.ref b4), .unset, .unset, .unset, .unset, .unset, .unset, .unset] [(.int ((p0 &&& (2147483647 : Int32)) % (3 : Int32))), (.int (0 : Int32)), (.ref b11), (.ref b11)])) _
    refine st13 _ ?_
    show Steps p.tables e below (T13.setTop (mkF m 60 #[.val (.int p0), .val (.int p1), .val (.int p2), .val (.int ((p0 &&& (2147483647 : Int32)) % (3 : Int32))), .val (.int ((p1 &&& (2147483647 : Int32)) % (3 : Int32))), .val (.int ((p2 &&& (2147483647 : Int32)) % (3 : Int32))), .val (.ref b1), .val (.ref b4), .unset, .unset, .unset, .unset, .unset, .unset, .unset] [(.ref b11)])) _
    refine XS.dup X13.here hx rfl (hb hby at_60) rfl rfl ?_
    show Steps p.tables e below (T13.setTop (mkF m 61 #[.val (.int p0), .val (.int p1), .val (.int p2), .val (.int ((p0 &&& (2147483647 : Int32)) % (3 : Int32))), .val (.int ((p1 &&& (2147483647 : Int32)) % (3 : Int32))), .val (.int ((p2 &&& (2147483647 : Int32)) % (3 : Int32))), .val (.ref b1), .val (.ref b4), .unset, .unset, .unset, .unset, .unset, .unset, .unset] [(.ref b11), (.ref b11)])) _
    refine XS.iconst X13.here hx rfl (hb hby at_61) ?_
    show Steps p.tables e below (T13.setTop (mkF m 62 #[.val (.int p0), .val (.int p1), .val (.int p2), .val (.int ((p0 &&& (2147483647 : Int32)) % (3 : Int32))), .val (.int ((p1 &&& (2147483647 : Int32)) % (3 : Int32))), .val (.int ((p2 &&& (2147483647 : Int32)) % (3 : Int32))), .val (.ref b1), .val (.ref b4), .unset, .unset, .unset, .unset, .unset, .unset, .unset] [(.int (1 : Int32)), (.ref b11), (.ref b11)])) _
    refine XS.iload X13.here hx rfl (hb hby at_62) rfl ?_
    show Steps p.tables e below (T13.setTop (mkF m 64 #[.val (.int p0), .val (.int p1), .val (.int p2), .val (.int ((p0 &&& (2147483647 : Int32)) % (3 : Int32))), .val (.int ((p1 &&& (2147483647 : Int32)) % (3 : Int32))), .val (.int ((p2 &&& (2147483647 : Int32)) % (3 : Int32))), .val (.ref b1), .val (.ref b4), .unset, .unset, .unset, .unset, .unset, .unset, .unset] [(.int ((p1 &&& (2147483647 : Int32)) % (3 : Int32))), (.int (1 : Int32)), (.ref b11), (.ref b11)])) _
    refine st15 _ ?_
    show Steps p.tables e below (T15.setTop (mkF m 65 #[.val (.int p0), .val (.int p1), .val (.int p2), .val (.int ((p0 &&& (2147483647 : Int32)) % (3 : Int32))), .val (.int ((p1 &&& (2147483647 : Int32)) % (3 : Int32))), .val (.int ((p2 &&& (2147483647 : Int32)) % (3 : Int32))), .val (.ref b1), .val (.ref b4), .unset, .unset, .unset, .unset, .unset, .unset, .unset] [(.ref b11)])) _
    refine XS.dup X15.here hx rfl (hb hby at_65) rfl rfl ?_
    show Steps p.tables e below (T15.setTop (mkF m 66 #[.val (.int p0), .val (.int p1), .val (.int p2), .val (.int ((p0 &&& (2147483647 : Int32)) % (3 : Int32))), .val (.int ((p1 &&& (2147483647 : Int32)) % (3 : Int32))), .val (.int ((p2 &&& (2147483647 : Int32)) % (3 : Int32))), .val (.ref b1), .val (.ref b4), .unset, .unset, .unset, .unset, .unset, .unset, .unset] [(.ref b11), (.ref b11)])) _
    refine XS.iconst X15.here hx rfl (hb hby at_66) ?_
    show Steps p.tables e below (T15.setTop (mkF m 67 #[.val (.int p0), .val (.int p1), .val (.int p2), .val (.int ((p0 &&& (2147483647 : Int32)) % (3 : Int32))), .val (.int ((p1 &&& (2147483647 : Int32)) % (3 : Int32))), .val (.int ((p2 &&& (2147483647 : Int32)) % (3 : Int32))), .val (.ref b1), .val (.ref b4), .unset, .unset, .unset, .unset, .unset, .unset, .unset] [(.int (2 : Int32)), (.ref b11), (.ref b11)])) _
    refine XS.iload X15.here hx rfl (hb hby at_67) rfl ?_
    show Steps p.tables e below (T15.setTop (mkF m 69 #[.val (.int p0), .val (.int p1), .val (.int p2), .val (.int ((p0 &&& (2147483647 : Int32)) % (3 : Int32))), .val (.int ((p1 &&& (2147483647 : Int32)) % (3 : Int32))), .val (.int ((p2 &&& (2147483647 : Int32)) % (3 : Int32))), .val (.ref b1), .val (.ref b4), .unset, .unset, .unset, .unset, .unset, .unset, .unset] [(.int ((p2 &&& (2147483647 : Int32)) % (3 : Int32))), (.int (2 : Int32)), (.ref b11), (.ref b11)])) _
    refine st17 _ ?_
    show Steps p.tables e below (T17.setTop (mkF m 70 #[.val (.int p0), .val (.int p1), .val (.int p2), .val (.int ((p0 &&& (2147483647 : Int32)) % (3 : Int32))), .val (.int ((p1 &&& (2147483647 : Int32)) % (3 : Int32))), .val (.int ((p2 &&& (2147483647 : Int32)) % (3 : Int32))), .val (.ref b1), .val (.ref b4), .unset, .unset, .unset, .unset, .unset, .unset, .unset] [(.ref b11)])) _
    refine XS.astore X17.here hx rfl (hb hby at_70) rfl rfl (l' := #[.val (.int p0), .val (.int p1), .val (.int p2), .val (.int ((p0 &&& (2147483647 : Int32)) % (3 : Int32))), .val (.int ((p1 &&& (2147483647 : Int32)) % (3 : Int32))), .val (.int ((p2 &&& (2147483647 : Int32)) % (3 : Int32))), .val (.ref b1), .val (.ref b4), .val (.ref b11), .unset, .unset, .unset, .unset, .unset, .unset]) rfl ?_
    show Steps p.tables e below (T17.setTop (mkF m 72 #[.val (.int p0), .val (.int p1), .val (.int p2), .val (.int ((p0 &&& (2147483647 : Int32)) % (3 : Int32))), .val (.int ((p1 &&& (2147483647 : Int32)) % (3 : Int32))), .val (.int ((p2 &&& (2147483647 : Int32)) % (3 : Int32))), .val (.ref b1), .val (.ref b4), .val (.ref b11), .unset, .unset, .unset, .unset, .unset, .unset] [])) _
    refine XS.iconst X17.here hx rfl (hb hby at_72) ?_
    show Steps p.tables e below (T17.setTop (mkF m 73 #[.val (.int p0), .val (.int p1), .val (.int p2), .val (.int ((p0 &&& (2147483647 : Int32)) % (3 : Int32))), .val (.int ((p1 &&& (2147483647 : Int32)) % (3 : Int32))), .val (.int ((p2 &&& (2147483647 : Int32)) % (3 : Int32))), .val (.ref b1), .val (.ref b4), .val (.ref b11), .unset, .unset, .unset, .unset, .unset, .unset] [(.int (3 : Int32))])) _
    refine st19 _ ?_
    show Steps p.tables e below (T19.setTop (mkF m 75 #[.val (.int p0), .val (.int p1), .val (.int p2), .val (.int ((p0 &&& (2147483647 : Int32)) % (3 : Int32))), .val (.int ((p1 &&& (2147483647 : Int32)) % (3 : Int32))), .val (.int ((p2 &&& (2147483647 : Int32)) % (3 : Int32))), .val (.ref b1), .val (.ref b4), .val (.ref b11), .unset, .unset, .unset, .unset, .unset, .unset] [(.ref b19)])) _
    refine XS.dup X19.here hx rfl (hb hby at_75) rfl rfl ?_
    show Steps p.tables e below (T19.setTop (mkF m 76 #[.val (.int p0), .val (.int p1), .val (.int p2), .val (.int ((p0 &&& (2147483647 : Int32)) % (3 : Int32))), .val (.int ((p1 &&& (2147483647 : Int32)) % (3 : Int32))), .val (.int ((p2 &&& (2147483647 : Int32)) % (3 : Int32))), .val (.ref b1), .val (.ref b4), .val (.ref b11), .unset, .unset, .unset, .unset, .unset, .unset] [(.ref b19), (.ref b19)])) _
    refine XS.iconst X19.here hx rfl (hb hby at_76) ?_
    show Steps p.tables e below (T19.setTop (mkF m 77 #[.val (.int p0), .val (.int p1), .val (.int p2), .val (.int ((p0 &&& (2147483647 : Int32)) % (3 : Int32))), .val (.int ((p1 &&& (2147483647 : Int32)) % (3 : Int32))), .val (.int ((p2 &&& (2147483647 : Int32)) % (3 : Int32))), .val (.ref b1), .val (.ref b4), .val (.ref b11), .unset, .unset, .unset, .unset, .unset, .unset] [(.int (0 : Int32)), (.ref b19), (.ref b19)])) _
    refine XS.iconst X19.here hx rfl (hb hby at_77) ?_
    show Steps p.tables e below (T19.setTop (mkF m 78 #[.val (.int p0), .val (.int p1), .val (.int p2), .val (.int ((p0 &&& (2147483647 : Int32)) % (3 : Int32))), .val (.int ((p1 &&& (2147483647 : Int32)) % (3 : Int32))), .val (.int ((p2 &&& (2147483647 : Int32)) % (3 : Int32))), .val (.ref b1), .val (.ref b4), .val (.ref b11), .unset, .unset, .unset, .unset, .unset, .unset] [(.int (2 : Int32)), (.int (0 : Int32)), (.ref b19), (.ref b19)])) _
    refine st22 _ ?_
    show Steps p.tables e below (T22.setTop (mkF m 79 #[.val (.int p0), .val (.int p1), .val (.int p2), .val (.int ((p0 &&& (2147483647 : Int32)) % (3 : Int32))), .val (.int ((p1 &&& (2147483647 : Int32)) % (3 : Int32))), .val (.int ((p2 &&& (2147483647 : Int32)) % (3 : Int32))), .val (.ref b1), .val (.ref b4), .val (.ref b11), .unset, .unset, .unset, .unset, .unset, .unset] [(.ref b19)])) _
    refine XS.dup X22.here hx rfl (hb hby at_79) rfl rfl ?_
    show Steps p.tables e below (T22.setTop (mkF m 80 #[.val (.int p0), .val (.int p1), .val (.int p2), .val (.int ((p0 &&& (2147483647 : Int32)) % (3 : Int32))), .val (.int ((p1 &&& (2147483647 : Int32)) % (3 : Int32))), .val (.int ((p2 &&& (2147483647 : Int32)) % (3 : Int32))), .val (.ref b1), .val (.ref b4), .val (.ref b11), .unset, .unset, .unset, .unset, .unset, .unset] [(.ref b19), (.ref b19)])) _
    refine XS.iconst X22.here hx rfl (hb hby at_80) ?_
    show Steps p.tables e below (T22.setTop (mkF m 81 #[.val (.int p0), .val (.int p1), .val (.int p2), .val (.int ((p0 &&& (2147483647 : Int32)) % (3 : Int32))), .val (.int ((p1 &&& (2147483647 : Int32)) % (3 : Int32))), .val (.int ((p2 &&& (2147483647 : Int32)) % (3 : Int32))), .val (.ref b1), .val (.ref b4), .val (.ref b11), .unset, .unset, .unset, .unset, .unset, .unset] [(.int (1 : Int32)), (.ref b19), (.ref b19)])) _
    refine XS.iconst X22.here hx rfl (hb hby at_81) ?_
    show Steps p.tables e below (T22.setTop (mkF m 82 #[.val (.int p0), .val (.int p1), .val (.int p2), .val (.int ((p0 &&& (2147483647 : Int32)) % (3 : Int32))), .val (.int ((p1 &&& (2147483647 : Int32)) % (3 : Int32))), .val (.int ((p2 &&& (2147483647 : Int32)) % (3 : Int32))), .val (.ref b1), .val (.ref b4), .val (.ref b11), .unset, .unset, .unset, .unset, .unset, .unset] [(.int (2 : Int32)), (.int (1 : Int32)), (.ref b19), (.ref b19)])) _
    refine st24 _ ?_
    show Steps p.tables e below (T24.setTop (mkF m 83 #[.val (.int p0), .val (.int p1), .val (.int p2), .val (.int ((p0 &&& (2147483647 : Int32)) % (3 : Int32))), .val (.int ((p1 &&& (2147483647 : Int32)) % (3 : Int32))), .val (.int ((p2 &&& (2147483647 : Int32)) % (3 : Int32))), .val (.ref b1), .val (.ref b4), .val (.ref b11), .unset, .unset, .unset, .unset, .unset, .unset] [(.ref b19)])) _
    refine XS.dup X24.here hx rfl (hb hby at_83) rfl rfl ?_
    show Steps p.tables e below (T24.setTop (mkF m 84 #[.val (.int p0), .val (.int p1), .val (.int p2), .val (.int ((p0 &&& (2147483647 : Int32)) % (3 : Int32))), .val (.int ((p1 &&& (2147483647 : Int32)) % (3 : Int32))), .val (.int ((p2 &&& (2147483647 : Int32)) % (3 : Int32))), .val (.ref b1), .val (.ref b4), .val (.ref b11), .unset, .unset, .unset, .unset, .unset, .unset] [(.ref b19), (.ref b19)])) _
    refine XS.iconst X24.here hx rfl (hb hby at_84) ?_
    show Steps p.tables e below (T24.setTop (mkF m 85 #[.val (.int p0), .val (.int p1), .val (.int p2), .val (.int ((p0 &&& (2147483647 : Int32)) % (3 : Int32))), .val (.int ((p1 &&& (2147483647 : Int32)) % (3 : Int32))), .val (.int ((p2 &&& (2147483647 : Int32)) % (3 : Int32))), .val (.ref b1), .val (.ref b4), .val (.ref b11), .unset, .unset, .unset, .unset, .unset, .unset] [(.int (2 : Int32)), (.ref b19), (.ref b19)])) _
    refine XS.iconst X24.here hx rfl (hb hby at_85) ?_
    show Steps p.tables e below (T24.setTop (mkF m 86 #[.val (.int p0), .val (.int p1), .val (.int p2), .val (.int ((p0 &&& (2147483647 : Int32)) % (3 : Int32))), .val (.int ((p1 &&& (2147483647 : Int32)) % (3 : Int32))), .val (.int ((p2 &&& (2147483647 : Int32)) % (3 : Int32))), .val (.ref b1), .val (.ref b4), .val (.ref b11), .unset, .unset, .unset, .unset, .unset, .unset] [(.int (2 : Int32)), (.int (2 : Int32)), (.ref b19), (.ref b19)])) _
    refine st26 _ ?_
    show Steps p.tables e below (T26.setTop (mkF m 87 #[.val (.int p0), .val (.int p1), .val (.int p2), .val (.int ((p0 &&& (2147483647 : Int32)) % (3 : Int32))), .val (.int ((p1 &&& (2147483647 : Int32)) % (3 : Int32))), .val (.int ((p2 &&& (2147483647 : Int32)) % (3 : Int32))), .val (.ref b1), .val (.ref b4), .val (.ref b11), .unset, .unset, .unset, .unset, .unset, .unset] [(.ref b19)])) _
    refine XS.astore X26.here hx rfl (hb hby at_87) rfl rfl (l' := #[.val (.int p0), .val (.int p1), .val (.int p2), .val (.int ((p0 &&& (2147483647 : Int32)) % (3 : Int32))), .val (.int ((p1 &&& (2147483647 : Int32)) % (3 : Int32))), .val (.int ((p2 &&& (2147483647 : Int32)) % (3 : Int32))), .val (.ref b1), .val (.ref b4), .val (.ref b11), .val (.ref b19), .unset, .unset, .unset, .unset, .unset]) rfl ?_
    show Steps p.tables e below (T26.setTop (mkF m 89 #[.val (.int p0), .val (.int p1), .val (.int p2), .val (.int ((p0 &&& (2147483647 : Int32)) % (3 : Int32))), .val (.int ((p1 &&& (2147483647 : Int32)) % (3 : Int32))), .val (.int ((p2 &&& (2147483647 : Int32)) % (3 : Int32))), .val (.ref b1), .val (.ref b4), .val (.ref b11), .val (.ref b19), .unset, .unset, .unset, .unset, .unset] [])) _
    refine XS.iconst X26.here hx rfl (hb hby at_89) ?_
    show Steps p.tables e below (T26.setTop (mkF m 90 #[.val (.int p0), .val (.int p1), .val (.int p2), .val (.int ((p0 &&& (2147483647 : Int32)) % (3 : Int32))), .val (.int ((p1 &&& (2147483647 : Int32)) % (3 : Int32))), .val (.int ((p2 &&& (2147483647 : Int32)) % (3 : Int32))), .val (.ref b1), .val (.ref b4), .val (.ref b11), .val (.ref b19), .unset, .unset, .unset, .unset, .unset] [(.int (4 : Int32))])) _
    refine st28 _ ?_
    show Steps p.tables e below (T28.setTop (mkF m 92 #[.val (.int p0), .val (.int p1), .val (.int p2), .val (.int ((p0 &&& (2147483647 : Int32)) % (3 : Int32))), .val (.int ((p1 &&& (2147483647 : Int32)) % (3 : Int32))), .val (.int ((p2 &&& (2147483647 : Int32)) % (3 : Int32))), .val (.ref b1), .val (.ref b4), .val (.ref b11), .val (.ref b19), .unset, .unset, .unset, .unset, .unset] [(.ref b28)])) _
    refine XS.dup X28.here hx rfl (hb hby at_92) rfl rfl ?_
    show Steps p.tables e below (T28.setTop (mkF m 93 #[.val (.int p0), .val (.int p1), .val (.int p2), .val (.int ((p0 &&& (2147483647 : Int32)) % (3 : Int32))), .val (.int ((p1 &&& (2147483647 : Int32)) % (3 : Int32))), .val (.int ((p2 &&& (2147483647 : Int32)) % (3 : Int32))), .val (.ref b1), .val (.ref b4), .val (.ref b11), .val (.ref b19), .unset, .unset, .unset, .unset, .unset] [(.ref b28), (.ref b28)])) _
    refine XS.iconst X28.here hx rfl (hb hby at_93) ?_
    show Steps p.tables e below (T28.setTop (mkF m 94 #[.val (.int p0), .val (.int p1), .val (.int p2), .val (.int ((p0 &&& (2147483647 : Int32)) % (3 : Int32))), .val (.int ((p1 &&& (2147483647 : Int32)) % (3 : Int32))), .val (.int ((p2 &&& (2147483647 : Int32)) % (3 : Int32))), .val (.ref b1), .val (.ref b4), .val (.ref b11), .val (.ref b19), .unset, .unset, .unset, .unset, .unset] [(.int (0 : Int32)), (.ref b28), (.ref b28)])) _
    refine XS.bipush X28.here hx rfl (hb hby at_94) ?_
    show Steps p.tables e below (T28.setTop (mkF m 96 #[.val (.int p0), .val (.int p1), .val (.int p2), .val (.int ((p0 &&& (2147483647 : Int32)) % (3 : Int32))), .val (.int ((p1 &&& (2147483647 : Int32)) % (3 : Int32))), .val (.int ((p2 &&& (2147483647 : Int32)) % (3 : Int32))), .val (.ref b1), .val (.ref b4), .val (.ref b11), .val (.ref b19), .unset, .unset, .unset, .unset, .unset] [(.int (16 : Int32)), (.int (0 : Int32)), (.ref b28), (.ref b28)])) _
    refine st32 _ ?_
    show Steps p.tables e below (T32.setTop (mkF m 97 #[.val (.int p0), .val (.int p1), .val (.int p2), .val (.int ((p0 &&& (2147483647 : Int32)) % (3 : Int32))), .val (.int ((p1 &&& (2147483647 : Int32)) % (3 : Int32))), .val (.int ((p2 &&& (2147483647 : Int32)) % (3 : Int32))), .val (.ref b1), .val (.ref b4), .val (.ref b11), .val (.ref b19), .unset, .unset, .unset, .unset, .unset] [(.ref b28)])) _
    refine XS.dup X32.here hx rfl (hb hby at_97) rfl rfl ?_
    show Steps p.tables e below (T32.setTop (mkF m 98 #[.val (.int p0), .val (.int p1), .val (.int p2), .val (.int ((p0 &&& (2147483647 : Int32)) % (3 : Int32))), .val (.int ((p1 &&& (2147483647 : Int32)) % (3 : Int32))), .val (.int ((p2 &&& (2147483647 : Int32)) % (3 : Int32))), .val (.ref b1), .val (.ref b4), .val (.ref b11), .val (.ref b19), .unset, .unset, .unset, .unset, .unset] [(.ref b28), (.ref b28)])) _
    refine XS.iconst X32.here hx rfl (hb hby at_98) ?_
    show Steps p.tables e below (T32.setTop (mkF m 99 #[.val (.int p0), .val (.int p1), .val (.int p2), .val (.int ((p0 &&& (2147483647 : Int32)) % (3 : Int32))), .val (.int ((p1 &&& (2147483647 : Int32)) % (3 : Int32))), .val (.int ((p2 &&& (2147483647 : Int32)) % (3 : Int32))), .val (.ref b1), .val (.ref b4), .val (.ref b11), .val (.ref b19), .unset, .unset, .unset, .unset, .unset] [(.int (1 : Int32)), (.ref b28), (.ref b28)])) _
    refine XS.bipush X32.here hx rfl (hb hby at_99) ?_
    show Steps p.tables e below (T32.setTop (mkF m 101 #[.val (.int p0), .val (.int p1), .val (.int p2), .val (.int ((p0 &&& (2147483647 : Int32)) % (3 : Int32))), .val (.int ((p1 &&& (2147483647 : Int32)) % (3 : Int32))), .val (.int ((p2 &&& (2147483647 : Int32)) % (3 : Int32))), .val (.ref b1), .val (.ref b4), .val (.ref b11), .val (.ref b19), .unset, .unset, .unset, .unset, .unset] [(.int (20 : Int32)), (.int (1 : Int32)), (.ref b28), (.ref b28)])) _
    refine st34 _ ?_
    show Steps p.tables e below (T34.setTop (mkF m 102 #[.val (.int p0), .val (.int p1), .val (.int p2), .val (.int ((p0 &&& (2147483647 : Int32)) % (3 : Int32))), .val (.int ((p1 &&& (2147483647 : Int32)) % (3 : Int32))), .val (.int ((p2 &&& (2147483647 : Int32)) % (3 : Int32))), .val (.ref b1), .val (.ref b4), .val (.ref b11), .val (.ref b19), .unset, .unset, .unset, .unset, .unset] [(.ref b28)])) _
    refine XS.dup X34.here hx rfl (hb hby at_102) rfl rfl ?_
    show Steps p.tables e below (T34.setTop (mkF m 103 #[.val (.int p0), .val (.int p1), .val (.int p2), .val (.int ((p0 &&& (2147483647 : Int32)) % (3 : Int32))), .val (.int ((p1 &&& (2147483647 : Int32)) % (3 : Int32))), .val (.int ((p2 &&& (2147483647 : Int32)) % (3 : Int32))), .val (.ref b1), .val (.ref b4), .val (.ref b11), .val (.ref b19), .unset, .unset, .unset, .unset, .unset] [(.ref b28), (.ref b28)])) _
    refine XS.iconst X34.here hx rfl (hb hby at_103) ?_
    show Steps p.tables e below (T34.setTop (mkF m 104 #[.val (.int p0), .val (.int p1), .val (.int p2), .val (.int ((p0 &&& (2147483647 : Int32)) % (3 : Int32))), .val (.int ((p1 &&& (2147483647 : Int32)) % (3 : Int32))), .val (.int ((p2 &&& (2147483647 : Int32)) % (3 : Int32))), .val (.ref b1), .val (.ref b4), .val (.ref b11), .val (.ref b19), .unset, .unset, .unset, .unset, .unset] [(.int (2 : Int32)), (.ref b28), (.ref b28)])) _
    refine XS.bipush X34.here hx rfl (hb hby at_104) ?_
    show Steps p.tables e below (T34.setTop (mkF m 106 #[.val (.int p0), .val (.int p1), .val (.int p2), .val (.int ((p0 &&& (2147483647 : Int32)) % (3 : Int32))), .val (.int ((p1 &&& (2147483647 : Int32)) % (3 : Int32))), .val (.int ((p2 &&& (2147483647 : Int32)) % (3 : Int32))), .val (.ref b1), .val (.ref b4), .val (.ref b11), .val (.ref b19), .unset, .unset, .unset, .unset, .unset] [(.int (24 : Int32)), (.int (2 : Int32)), (.ref b28), (.ref b28)])) _
    refine st36 _ ?_
    show Steps p.tables e below (T36.setTop (mkF m 107 #[.val (.int p0), .val (.int p1), .val (.int p2), .val (.int ((p0 &&& (2147483647 : Int32)) % (3 : Int32))), .val (.int ((p1 &&& (2147483647 : Int32)) % (3 : Int32))), .val (.int ((p2 &&& (2147483647 : Int32)) % (3 : Int32))), .val (.ref b1), .val (.ref b4), .val (.ref b11), .val (.ref b19), .unset, .unset, .unset, .unset, .unset] [(.ref b28)])) _
    refine XS.dup X36.here hx rfl (hb hby at_107) rfl rfl ?_
    show Steps p.tables e below (T36.setTop (mkF m 108 #[.val (.int p0), .val (.int p1), .val (.int p2), .val (.int ((p0 &&& (2147483647 : Int32)) % (3 : Int32))), .val (.int ((p1 &&& (2147483647 : Int32)) % (3 : Int32))), .val (.int ((p2 &&& (2147483647 : Int32)) % (3 : Int32))), .val (.ref b1), .val (.ref b4), .val (.ref b11), .val (.ref b19), .unset, .unset, .unset, .unset, .unset] [(.ref b28), (.ref b28)])) _
    refine XS.iconst X36.here hx rfl (hb hby at_108) ?_
    show Steps p.tables e below (T36.setTop (mkF m 109 #[.val (.int p0), .val (.int p1), .val (.int p2), .val (.int ((p0 &&& (2147483647 : Int32)) % (3 : Int32))), .val (.int ((p1 &&& (2147483647 : Int32)) % (3 : Int32))), .val (.int ((p2 &&& (2147483647 : Int32)) % (3 : Int32))), .val (.ref b1), .val (.ref b4), .val (.ref b11), .val (.ref b19), .unset, .unset, .unset, .unset, .unset] [(.int (3 : Int32)), (.ref b28), (.ref b28)])) _
    refine XS.bipush X36.here hx rfl (hb hby at_109) ?_
    show Steps p.tables e below (T36.setTop (mkF m 111 #[.val (.int p0), .val (.int p1), .val (.int p2), .val (.int ((p0 &&& (2147483647 : Int32)) % (3 : Int32))), .val (.int ((p1 &&& (2147483647 : Int32)) % (3 : Int32))), .val (.int ((p2 &&& (2147483647 : Int32)) % (3 : Int32))), .val (.ref b1), .val (.ref b4), .val (.ref b11), .val (.ref b19), .unset, .unset, .unset, .unset, .unset] [(.int (28 : Int32)), (.int (3 : Int32)), (.ref b28), (.ref b28)])) _
    refine st38 _ ?_
    show Steps p.tables e below (T38.setTop (mkF m 112 #[.val (.int p0), .val (.int p1), .val (.int p2), .val (.int ((p0 &&& (2147483647 : Int32)) % (3 : Int32))), .val (.int ((p1 &&& (2147483647 : Int32)) % (3 : Int32))), .val (.int ((p2 &&& (2147483647 : Int32)) % (3 : Int32))), .val (.ref b1), .val (.ref b4), .val (.ref b11), .val (.ref b19), .unset, .unset, .unset, .unset, .unset] [(.ref b28)])) _
    refine XS.astore X38.here hx rfl (hb hby at_112) rfl rfl (l' := #[.val (.int p0), .val (.int p1), .val (.int p2), .val (.int ((p0 &&& (2147483647 : Int32)) % (3 : Int32))), .val (.int ((p1 &&& (2147483647 : Int32)) % (3 : Int32))), .val (.int ((p2 &&& (2147483647 : Int32)) % (3 : Int32))), .val (.ref b1), .val (.ref b4), .val (.ref b11), .val (.ref b19), .val (.ref b28), .unset, .unset, .unset, .unset]) rfl ?_
    show Steps p.tables e below (T38.setTop (mkF m 114 #[.val (.int p0), .val (.int p1), .val (.int p2), .val (.int ((p0 &&& (2147483647 : Int32)) % (3 : Int32))), .val (.int ((p1 &&& (2147483647 : Int32)) % (3 : Int32))), .val (.int ((p2 &&& (2147483647 : Int32)) % (3 : Int32))), .val (.ref b1), .val (.ref b4), .val (.ref b11), .val (.ref b19), .val (.ref b28), .unset, .unset, .unset, .unset] [])) _
    refine st40 _ ?_
    show Steps p.tables e below (T40.setTop (mkF m 117 #[.val (.int p0), .val (.int p1), .val (.int p2), .val (.int ((p0 &&& (2147483647 : Int32)) % (3 : Int32))), .val (.int ((p1 &&& (2147483647 : Int32)) % (3 : Int32))), .val (.int ((p2 &&& (2147483647 : Int32)) % (3 : Int32))), .val (.ref b1), .val (.ref b4), .val (.ref b11), .val (.ref b19), .val (.ref b28), .unset, .unset, .unset, .unset] [(.ref b40)])) _
    refine XS.dup X40.here hx rfl (hb hby at_117) rfl rfl ?_
    show Steps p.tables e below (T40.setTop (mkF m 118 #[.val (.int p0), .val (.int p1), .val (.int p2), .val (.int ((p0 &&& (2147483647 : Int32)) % (3 : Int32))), .val (.int ((p1 &&& (2147483647 : Int32)) % (3 : Int32))), .val (.int ((p2 &&& (2147483647 : Int32)) % (3 : Int32))), .val (.ref b1), .val (.ref b4), .val (.ref b11), .val (.ref b19), .val (.ref b28), .unset, .unset, .unset, .unset] [(.ref b40), (.ref b40)])) _
    refine XS.aload X40.here hx rfl (hb hby at_118) rfl rfl ?_
    show Steps p.tables e below (T40.setTop (mkF m 120 #[.val (.int p0), .val (.int p1), .val (.int p2), .val (.int ((p0 &&& (2147483647 : Int32)) % (3 : Int32))), .val (.int ((p1 &&& (2147483647 : Int32)) % (3 : Int32))), .val (.int ((p2 &&& (2147483647 : Int32)) % (3 : Int32))), .val (.ref b1), .val (.ref b4), .val (.ref b11), .val (.ref b19), .val (.ref b28), .unset, .unset, .unset, .unset] [(.ref b1), (.ref b40), (.ref b40)])) _
    refine XS.aload X40.here hx rfl (hb hby at_120) rfl rfl ?_
    show Steps p.tables e below (T40.setTop (mkF m 122 #[.val (.int p0), .val (.int p1), .val (.int p2), .val (.int ((p0 &&& (2147483647 : Int32)) % (3 : Int32))), .val (.int ((p1 &&& (2147483647 : Int32)) % (3 : Int32))), .val (.int ((p2 &&& (2147483647 : Int32)) % (3 : Int32))), .val (.ref b1), .val (.ref b4), .val (.ref b11), .val (.ref b19), .val (.ref b28), .unset, .unset, .unset, .unset] [(.ref b4), (.ref b1), (.ref b40), (.ref b40)])) _
    refine XS.aload X40.here hx rfl (hb hby at_122) rfl rfl ?_
    show Steps p.tables e below (T40.setTop (mkF m 124 #[.val (.int p0), .val (.int p1), .val (.int p2), .val (.int ((p0 &&& (2147483647 : Int32)) % (3 : Int32))), .val (.int ((p1 &&& (2147483647 : Int32)) % (3 : Int32))), .val (.int ((p2 &&& (2147483647 : Int32)) % (3 : Int32))), .val (.ref b1), .val (.ref b4), .val (.ref b11), .val (.ref b19), .val (.ref b28), .unset, .unset, .unset, .unset] [(.ref b11), (.ref b4), (.ref b1), (.ref b40), (.ref b40)])) _
    refine XS.aload X40.here hx rfl (hb hby at_124) rfl rfl ?_
    show Steps p.tables e below (T40.setTop (mkF m 126 #[.val (.int p0), .val (.int p1), .val (.int p2), .val (.int ((p0 &&& (2147483647 : Int32)) % (3 : Int32))), .val (.int ((p1 &&& (2147483647 : Int32)) % (3 : Int32))), .val (.int ((p2 &&& (2147483647 : Int32)) % (3 : Int32))), .val (.ref b1), .val (.ref b4), .val (.ref b11), .val (.ref b19), .val (.ref b28), .unset, .unset, .unset, .unset] [(.ref b19), (.ref b11), (.ref b4), (.ref b1), (.ref b40), (.ref b40)])) _
    refine XS.aload X40.here hx rfl (hb hby at_126) rfl rfl ?_
    show Steps p.tables e below (T40.setTop (mkF m 128 #[.val (.int p0), .val (.int p1), .val (.int p2), .val (.int ((p0 &&& (2147483647 : Int32)) % (3 : Int32))), .val (.int ((p1 &&& (2147483647 : Int32)) % (3 : Int32))), .val (.int ((p2 &&& (2147483647 : Int32)) % (3 : Int32))), .val (.ref b1), .val (.ref b4), .val (.ref b11), .val (.ref b19), .val (.ref b28), .unset, .unset, .unset, .unset] [(.ref b28), (.ref b19), (.ref b11), (.ref b4), (.ref b1), (.ref b40), (.ref b40)])) _
    refine st45.trans ?_
    show Steps p.tables e below (T45.setTop (mkF m 131 #[.val (.int p0), .val (.int p1), .val (.int p2), .val (.int ((p0 &&& (2147483647 : Int32)) % (3 : Int32))), .val (.int ((p1 &&& (2147483647 : Int32)) % (3 : Int32))), .val (.int ((p2 &&& (2147483647 : Int32)) % (3 : Int32))), .val (.ref b1), .val (.ref b4), .val (.ref b11), .val (.ref b19), .val (.ref b28), .unset, .unset, .unset, .unset] [(.ref b40)])) _
    refine XS.astore X45.here hx rfl (hb hby at_131) rfl rfl (l' := #[.val (.int p0), .val (.int p1), .val (.int p2), .val (.int ((p0 &&& (2147483647 : Int32)) % (3 : Int32))), .val (.int ((p1 &&& (2147483647 : Int32)) % (3 : Int32))), .val (.int ((p2 &&& (2147483647 : Int32)) % (3 : Int32))), .val (.ref b1), .val (.ref b4), .val (.ref b11), .val (.ref b19), .val (.ref b28), .val (.ref b40), .unset, .unset, .unset]) rfl ?_
    show Steps p.tables e below (T45.setTop (mkF m 133 #[.val (.int p0), .val (.int p1), .val (.int p2), .val (.int ((p0 &&& (2147483647 : Int32)) % (3 : Int32))), .val (.int ((p1 &&& (2147483647 : Int32)) % (3 : Int32))), .val (.int ((p2 &&& (2147483647 : Int32)) % (3 : Int32))), .val (.ref b1), .val (.ref b4), .val (.ref b11), .val (.ref b19), .val (.ref b28), .val (.ref b40), .unset, .unset, .unset] [])) _
    refine XS.aload X45.here hx rfl (hb hby at_133) rfl rfl ?_
    show Steps p.tables e below (T45.setTop (mkF m 135 #[.val (.int p0), .val (.int p1), .val (.int p2), .val (.int ((p0 &&& (2147483647 : Int32)) % (3 : Int32))), .val (.int ((p1 &&& (2147483647 : Int32)) % (3 : Int32))), .val (.int ((p2 &&& (2147483647 : Int32)) % (3 : Int32))), .val (.ref b1), .val (.ref b4), .val (.ref b11), .val (.ref b19), .val (.ref b28), .val (.ref b40), .unset, .unset, .unset] [(.ref b40)])) _
    refine XS.iconst X45.here hx rfl (hb hby at_135) ?_
    show Steps p.tables e below (T45.setTop (mkF m 136 #[.val (.int p0), .val (.int p1), .val (.int p2), .val (.int ((p0 &&& (2147483647 : Int32)) % (3 : Int32))), .val (.int ((p1 &&& (2147483647 : Int32)) % (3 : Int32))), .val (.int ((p2 &&& (2147483647 : Int32)) % (3 : Int32))), .val (.ref b1), .val (.ref b4), .val (.ref b11), .val (.ref b19), .val (.ref b28), .val (.ref b40), .unset, .unset, .unset] [(.int (0 : Int32)), (.ref b40)])) _
    refine st54.trans ?_
    show Steps p.tables e below (T54.setTop (mkF m 139 #[.val (.int p0), .val (.int p1), .val (.int p2), .val (.int ((p0 &&& (2147483647 : Int32)) % (3 : Int32))), .val (.int ((p1 &&& (2147483647 : Int32)) % (3 : Int32))), .val (.int ((p2 &&& (2147483647 : Int32)) % (3 : Int32))), .val (.ref b1), .val (.ref b4), .val (.ref b11), .val (.ref b19), .val (.ref b28), .val (.ref b40), .unset, .unset, .unset] [(.int (nar .boolean (if (f18 ((0 : Int32)).toNatClampNeg) = (1 : Int32) then (1 : Int32) else (0 : Int32))))])) _
    refine XS.iloadN X54.here hx rfl (hb hby at_139) rfl ?_
    show Steps p.tables e below (T54.setTop (mkF m 140 #[.val (.int p0), .val (.int p1), .val (.int p2), .val (.int ((p0 &&& (2147483647 : Int32)) % (3 : Int32))), .val (.int ((p1 &&& (2147483647 : Int32)) % (3 : Int32))), .val (.int ((p2 &&& (2147483647 : Int32)) % (3 : Int32))), .val (.ref b1), .val (.ref b4), .val (.ref b11), .val (.ref b19), .val (.ref b28), .val (.ref b40), .unset, .unset, .unset] [(.int ((p0 &&& (2147483647 : Int32)) % (3 : Int32))), (.int (nar .boolean (if (f18 ((0 : Int32)).toNatClampNeg) = (1 : Int32) then (1 : Int32) else (0 : Int32))))])) _
    refine XS.iconst X54.here hx rfl (hb hby at_140) ?_
    show Steps p.tables e below (T54.setTop (mkF m 141 #[.val (.int p0), .val (.int p1), .val (.int p2), .val (.int ((p0 &&& (2147483647 : Int32)) % (3 : Int32))), .val (.int ((p1 &&& (2147483647 : Int32)) % (3 : Int32))), .val (.int ((p2 &&& (2147483647 : Int32)) % (3 : Int32))), .val (.ref b1), .val (.ref b4), .val (.ref b11), .val (.ref b19), .val (.ref b28), .val (.ref b40), .unset, .unset, .unset] [(.int (1 : Int32)), (.int ((p0 &&& (2147483647 : Int32)) % (3 : Int32))), (.int (nar .boolean (if (f18 ((0 : Int32)).toNatClampNeg) = (1 : Int32) then (1 : Int32) else (0 : Int32))))])) _
    refine own_dia (F := (mkF m 149 #[.val (.int p0), .val (.int p1), .val (.int p2), .val (.int ((p0 &&& (2147483647 : Int32)) % (3 : Int32))), .val (.int ((p1 &&& (2147483647 : Int32)) % (3 : Int32))), .val (.int ((p2 &&& (2147483647 : Int32)) % (3 : Int32))), .val (.ref b1), .val (.ref b4), .val (.ref b11), .val (.ref b19), .val (.ref b28), .val (.ref b40), .unset, .unset, .unset] [(.int v56), (.int (nar .boolean (if (f18 ((0 : Int32)).toNatClampNeg) = (1 : Int32) then (1 : Int32) else (0 : Int32))))])) ?_ ?_
    · intro kt
      by_cases hc55 : ((p0 &&& (2147483647 : Int32)) % (3 : Int32)) = (1 : Int32)
      · show Steps p.tables e below (T54.setTop (mkF m 141 #[.val (.int p0), .val (.int p1), .val (.int p2), .val (.int ((p0 &&& (2147483647 : Int32)) % (3 : Int32))), .val (.int ((p1 &&& (2147483647 : Int32)) % (3 : Int32))), .val (.int ((p2 &&& (2147483647 : Int32)) % (3 : Int32))), .val (.ref b1), .val (.ref b4), .val (.ref b11), .val (.ref b19), .val (.ref b28), .val (.ref b40), .unset, .unset, .unset] [(.int (1 : Int32)), (.int ((p0 &&& (2147483647 : Int32)) % (3 : Int32))), (.int (nar .boolean (if (f18 ((0 : Int32)).toNatClampNeg) = (1 : Int32) then (1 : Int32) else (0 : Int32))))])) _
        refine XS.icmpNo X54.here hx rfl (hb hby at_141) rfl (teq hc55).2 ?_
        show Steps p.tables e below (T54.setTop (mkF m 144 #[.val (.int p0), .val (.int p1), .val (.int p2), .val (.int ((p0 &&& (2147483647 : Int32)) % (3 : Int32))), .val (.int ((p1 &&& (2147483647 : Int32)) % (3 : Int32))), .val (.int ((p2 &&& (2147483647 : Int32)) % (3 : Int32))), .val (.ref b1), .val (.ref b4), .val (.ref b11), .val (.ref b19), .val (.ref b28), .val (.ref b40), .unset, .unset, .unset] [(.int (nar .boolean (if (f18 ((0 : Int32)).toNatClampNeg) = (1 : Int32) then (1 : Int32) else (0 : Int32))))])) _
        refine XS.iconst X54.here hx rfl (hb hby at_144) ?_
        show Steps p.tables e below (T54.setTop (mkF m 145 #[.val (.int p0), .val (.int p1), .val (.int p2), .val (.int ((p0 &&& (2147483647 : Int32)) % (3 : Int32))), .val (.int ((p1 &&& (2147483647 : Int32)) % (3 : Int32))), .val (.int ((p2 &&& (2147483647 : Int32)) % (3 : Int32))), .val (.ref b1), .val (.ref b4), .val (.ref b11), .val (.ref b19), .val (.ref b28), .val (.ref b40), .unset, .unset, .unset] [(.int (1 : Int32)), (.int (nar .boolean (if (f18 ((0 : Int32)).toNatClampNeg) = (1 : Int32) then (1 : Int32) else (0 : Int32))))])) _
        refine XS.goto X54.here hx rfl (pc0 := 145) (pc' := 149) rfl (hb hby at_145) (by decide) (by decide) ?_
        exact castTop (by rw [hv56, if_pos hc55] <;> rfl) kt
      · show Steps p.tables e below (T54.setTop (mkF m 141 #[.val (.int p0), .val (.int p1), .val (.int p2), .val (.int ((p0 &&& (2147483647 : Int32)) % (3 : Int32))), .val (.int ((p1 &&& (2147483647 : Int32)) % (3 : Int32))), .val (.int ((p2 &&& (2147483647 : Int32)) % (3 : Int32))), .val (.ref b1), .val (.ref b4), .val (.ref b11), .val (.ref b19), .val (.ref b28), .val (.ref b40), .unset, .unset, .unset] [(.int (1 : Int32)), (.int ((p0 &&& (2147483647 : Int32)) % (3 : Int32))), (.int (nar .boolean (if (f18 ((0 : Int32)).toNatClampNeg) = (1 : Int32) then (1 : Int32) else (0 : Int32))))])) _
        refine XS.icmpYes X54.here hx rfl (pc0 := 141) (pc' := 148) rfl (hb hby at_141) rfl (feq hc55).2 (by decide) (by decide) ?_
        show Steps p.tables e below (T54.setTop (mkF m 148 #[.val (.int p0), .val (.int p1), .val (.int p2), .val (.int ((p0 &&& (2147483647 : Int32)) % (3 : Int32))), .val (.int ((p1 &&& (2147483647 : Int32)) % (3 : Int32))), .val (.int ((p2 &&& (2147483647 : Int32)) % (3 : Int32))), .val (.ref b1), .val (.ref b4), .val (.ref b11), .val (.ref b19), .val (.ref b28), .val (.ref b40), .unset, .unset, .unset] [(.int (nar .boolean (if (f18 ((0 : Int32)).toNatClampNeg) = (1 : Int32) then (1 : Int32) else (0 : Int32))))])) _
        refine XS.iconst X54.here hx rfl (hb hby at_148) ?_
        exact castTop (by rw [hv56, if_neg hc55] <;> rfl) kt
    show Steps p.tables e below (T54.setTop (mkF m 149 #[.val (.int p0), .val (.int p1), .val (.int p2), .val (.int ((p0 &&& (2147483647 : Int32)) % (3 : Int32))), .val (.int ((p1 &&& (2147483647 : Int32)) % (3 : Int32))), .val (.int ((p2 &&& (2147483647 : Int32)) % (3 : Int32))), .val (.ref b1), .val (.ref b4), .val (.ref b11), .val (.ref b19), .val (.ref b28), .val (.ref b40), .unset, .unset, .unset] [(.int v56), (.int (nar .boolean (if (f18 ((0 : Int32)).toNatClampNeg) = (1 : Int32) then (1 : Int32) else (0 : Int32))))])) _
    refine own_dia (F := (mkF m 157 #[.val (.int p0), .val (.int p1), .val (.int p2), .val (.int ((p0 &&& (2147483647 : Int32)) % (3 : Int32))), .val (.int ((p1 &&& (2147483647 : Int32)) % (3 : Int32))), .val (.int ((p2 &&& (2147483647 : Int32)) % (3 : Int32))), .val (.ref b1), .val (.ref b4), .val (.ref b11), .val (.ref b19), .val (.ref b28), .val (.ref b40), .unset, .unset, .unset] [(.int v58)])) ?_ ?_
    · intro kt
      by_cases hc57 : (nar .boolean (if (f18 ((0 : Int32)).toNatClampNeg) = (1 : Int32) then (1 : Int32) else (0 : Int32))) = v56
      · show Steps p.tables e below (T54.setTop (mkF m 149 #[.val (.int p0), .val (.int p1), .val (.int p2), .val (.int ((p0 &&& (2147483647 : Int32)) % (3 : Int32))), .val (.int ((p1 &&& (2147483647 : Int32)) % (3 : Int32))), .val (.int ((p2 &&& (2147483647 : Int32)) % (3 : Int32))), .val (.ref b1), .val (.ref b4), .val (.ref b11), .val (.ref b19), .val (.ref b28), .val (.ref b40), .unset, .unset, .unset] [(.int v56), (.int (nar .boolean (if (f18 ((0 : Int32)).toNatClampNeg) = (1 : Int32) then (1 : Int32) else (0 : Int32))))])) _
        refine XS.icmpNo X54.here hx rfl (hb hby at_149) rfl (teq hc57).2 ?_
        show Steps p.tables e below (T54.setTop (mkF m 152 #[.val (.int p0), .val (.int p1), .val (.int p2), .val (.int ((p0 &&& (2147483647 : Int32)) % (3 : Int32))), .val (.int ((p1 &&& (2147483647 : Int32)) % (3 : Int32))), .val (.int ((p2 &&& (2147483647 : Int32)) % (3 : Int32))), .val (.ref b1), .val (.ref b4), .val (.ref b11), .val (.ref b19), .val (.ref b28), .val (.ref b40), .unset, .unset, .unset] [])) _
        refine XS.iconst X54.here hx rfl (hb hby at_152) ?_
        show Steps p.tables e below (T54.setTop (mkF m 153 #[.val (.int p0), .val (.int p1), .val (.int p2), .val (.int ((p0 &&& (2147483647 : Int32)) % (3 : Int32))), .val (.int ((p1 &&& (2147483647 : Int32)) % (3 : Int32))), .val (.int ((p2 &&& (2147483647 : Int32)) % (3 : Int32))), .val (.ref b1), .val (.ref b4), .val (.ref b11), .val (.ref b19), .val (.ref b28), .val (.ref b40), .unset, .unset, .unset] [(.int (1 : Int32))])) _
        refine XS.goto X54.here hx rfl (pc0 := 153) (pc' := 157) rfl (hb hby at_153) (by decide) (by decide) ?_
        exact castTop (by rw [hv58, if_pos hc57] <;> rfl) kt
      · show Steps p.tables e below (T54.setTop (mkF m 149 #[.val (.int p0), .val (.int p1), .val (.int p2), .val (.int ((p0 &&& (2147483647 : Int32)) % (3 : Int32))), .val (.int ((p1 &&& (2147483647 : Int32)) % (3 : Int32))), .val (.int ((p2 &&& (2147483647 : Int32)) % (3 : Int32))), .val (.ref b1), .val (.ref b4), .val (.ref b11), .val (.ref b19), .val (.ref b28), .val (.ref b40), .unset, .unset, .unset] [(.int v56), (.int (nar .boolean (if (f18 ((0 : Int32)).toNatClampNeg) = (1 : Int32) then (1 : Int32) else (0 : Int32))))])) _
        refine XS.icmpYes X54.here hx rfl (pc0 := 149) (pc' := 156) rfl (hb hby at_149) rfl (feq hc57).2 (by decide) (by decide) ?_
        show Steps p.tables e below (T54.setTop (mkF m 156 #[.val (.int p0), .val (.int p1), .val (.int p2), .val (.int ((p0 &&& (2147483647 : Int32)) % (3 : Int32))), .val (.int ((p1 &&& (2147483647 : Int32)) % (3 : Int32))), .val (.int ((p2 &&& (2147483647 : Int32)) % (3 : Int32))), .val (.ref b1), .val (.ref b4), .val (.ref b11), .val (.ref b19), .val (.ref b28), .val (.ref b40), .unset, .unset, .unset] [])) _
        refine XS.iconst X54.here hx rfl (hb hby at_156) ?_
        exact castTop (by rw [hv58, if_neg hc57] <;> rfl) kt
    show Steps p.tables e below (T54.setTop (mkF m 157 #[.val (.int p0), .val (.int p1), .val (.int p2), .val (.int ((p0 &&& (2147483647 : Int32)) % (3 : Int32))), .val (.int ((p1 &&& (2147483647 : Int32)) % (3 : Int32))), .val (.int ((p2 &&& (2147483647 : Int32)) % (3 : Int32))), .val (.ref b1), .val (.ref b4), .val (.ref b11), .val (.ref b19), .val (.ref b28), .val (.ref b40), .unset, .unset, .unset] [(.int v58)])) _
    refine XS.istore X54.here hx rfl (hb hby at_157) rfl (l' := #[.val (.int p0), .val (.int p1), .val (.int p2), .val (.int ((p0 &&& (2147483647 : Int32)) % (3 : Int32))), .val (.int ((p1 &&& (2147483647 : Int32)) % (3 : Int32))), .val (.int ((p2 &&& (2147483647 : Int32)) % (3 : Int32))), .val (.ref b1), .val (.ref b4), .val (.ref b11), .val (.ref b19), .val (.ref b28), .val (.ref b40), .val (.int v58), .unset, .unset]) rfl ?_
    show Steps p.tables e below (T54.setTop (mkF m 159 #[.val (.int p0), .val (.int p1), .val (.int p2), .val (.int ((p0 &&& (2147483647 : Int32)) % (3 : Int32))), .val (.int ((p1 &&& (2147483647 : Int32)) % (3 : Int32))), .val (.int ((p2 &&& (2147483647 : Int32)) % (3 : Int32))), .val (.ref b1), .val (.ref b4), .val (.ref b11), .val (.ref b19), .val (.ref b28), .val (.ref b40), .val (.int v58), .unset, .unset] [])) _
    refine XS.aload X54.here hx rfl (hb hby at_159) rfl rfl ?_
    show Steps p.tables e below (T54.setTop (mkF m 161 #[.val (.int p0), .val (.int p1), .val (.int p2), .val (.int ((p0 &&& (2147483647 : Int32)) % (3 : Int32))), .val (.int ((p1 &&& (2147483647 : Int32)) % (3 : Int32))), .val (.int ((p2 &&& (2147483647 : Int32)) % (3 : Int32))), .val (.ref b1), .val (.ref b4), .val (.ref b11), .val (.ref b19), .val (.ref b28), .val (.ref b40), .val (.int v58), .unset, .unset] [(.ref b40)])) _
    refine XS.iconst X54.here hx rfl (hb hby at_161) ?_
    show Steps p.tables e below (T54.setTop (mkF m 162 #[.val (.int p0), .val (.int p1), .val (.int p2), .val (.int ((p0 &&& (2147483647 : Int32)) % (3 : Int32))), .val (.int ((p1 &&& (2147483647 : Int32)) % (3 : Int32))), .val (.int ((p2 &&& (2147483647 : Int32)) % (3 : Int32))), .val (.ref b1), .val (.ref b4), .val (.ref b11), .val (.ref b19), .val (.ref b28), .val (.ref b40), .val (.int v58), .unset, .unset] [(.int (1 : Int32)), (.ref b40)])) _
    refine st60.trans ?_
    show Steps p.tables e below (T60.setTop (mkF m 165 #[.val (.int p0), .val (.int p1), .val (.int p2), .val (.int ((p0 &&& (2147483647 : Int32)) % (3 : Int32))), .val (.int ((p1 &&& (2147483647 : Int32)) % (3 : Int32))), .val (.int ((p2 &&& (2147483647 : Int32)) % (3 : Int32))), .val (.ref b1), .val (.ref b4), .val (.ref b11), .val (.ref b19), .val (.ref b28), .val (.ref b40), .val (.int v58), .unset, .unset] [(.int (nar .boolean (if (f18 ((1 : Int32)).toNatClampNeg) = (1 : Int32) then (1 : Int32) else (0 : Int32))))])) _
    refine XS.iload X60.here hx rfl (hb hby at_165) rfl ?_
    show Steps p.tables e below (T60.setTop (mkF m 167 #[.val (.int p0), .val (.int p1), .val (.int p2), .val (.int ((p0 &&& (2147483647 : Int32)) % (3 : Int32))), .val (.int ((p1 &&& (2147483647 : Int32)) % (3 : Int32))), .val (.int ((p2 &&& (2147483647 : Int32)) % (3 : Int32))), .val (.ref b1), .val (.ref b4), .val (.ref b11), .val (.ref b19), .val (.ref b28), .val (.ref b40), .val (.int v58), .unset, .unset] [(.int ((p1 &&& (2147483647 : Int32)) % (3 : Int32))), (.int (nar .boolean (if (f18 ((1 : Int32)).toNatClampNeg) = (1 : Int32) then (1 : Int32) else (0 : Int32))))])) _
    refine XS.iconst X60.here hx rfl (hb hby at_167) ?_
    show Steps p.tables e below (T60.setTop (mkF m 168 #[.val (.int p0), .val (.int p1), .val (.int p2), .val (.int ((p0 &&& (2147483647 : Int32)) % (3 : Int32))), .val (.int ((p1 &&& (2147483647 : Int32)) % (3 : Int32))), .val (.int ((p2 &&& (2147483647 : Int32)) % (3 : Int32))), .val (.ref b1), .val (.ref b4), .val (.ref b11), .val (.ref b19), .val (.ref b28), .val (.ref b40), .val (.int v58), .unset, .unset] [(.int (1 : Int32)), (.int ((p1 &&& (2147483647 : Int32)) % (3 : Int32))), (.int (nar .boolean (if (f18 ((1 : Int32)).toNatClampNeg) = (1 : Int32) then (1 : Int32) else (0 : Int32))))])) _
    refine own_dia (F := (mkF m 176 #[.val (.int p0), .val (.int p1), .val (.int p2), .val (.int ((p0 &&& (2147483647 : Int32)) % (3 : Int32))), .val (.int ((p1 &&& (2147483647 : Int32)) % (3 : Int32))), .val (.int ((p2 &&& (2147483647 : Int32)) % (3 : Int32))), .val (.ref b1), .val (.ref b4), .val (.ref b11), .val (.ref b19), .val (.ref b28), .val (.ref b40), .val (.int v58), .unset, .unset] [(.int v62), (.int (nar .boolean (if (f18 ((1 : Int32)).toNatClampNeg) = (1 : Int32) then (1 : Int32) else (0 : Int32))))])) ?_ ?_
    · intro kt
      by_cases hc61 : ((p1 &&& (2147483647 : Int32)) % (3 : Int32)) = (1 : Int32)
      · show Steps p.tables e below (T60.setTop (mkF m 168 #[.val (.int p0), .val (.int p1), .val (.int p2), .val (.int ((p0 &&& (2147483647 : Int32)) % (3 : Int32))), .val (.int ((p1 &&& (2147483647 : Int32)) % (3 : Int32))), .val (.int ((p2 &&& (2147483647 : Int32)) % (3 : Int32))), .val (.ref b1), .val (.ref b4), .val (.ref b11), .val (.ref b19), .val (.ref b28), .val (.ref b40), .val (.int v58), .unset, .unset] [(.int (1 : Int32)), (.int ((p1 &&& (2147483647 : Int32)) % (3 : Int32))), (.int (nar .boolean (if (f18 ((1 : Int32)).toNatClampNeg) = (1 : Int32) then (1 : Int32) else (0 : Int32))))])) _
        refine XS.icmpNo X60.here hx rfl (hb hby at_168) rfl (teq hc61).2 ?_
        show Steps p.tables e below (T60.setTop (mkF m 171 #[.val (.int p0), .val (.int p1), .val (.int p2), .val (.int ((p0 &&& (2147483647 : Int32)) % (3 : Int32))), .val (.int ((p1 &&& (2147483647 : Int32)) % (3 : Int32))), .val (.int ((p2 &&& (2147483647 : Int32)) % (3 : Int32))), .val (.ref b1), .val (.ref b4), .val (.ref b11), .val (.ref b19), .val (.ref b28), .val (.ref b40), .val (.int v58), .unset, .unset] [(.int (nar .boolean (if (f18 ((1 : Int32)).toNatClampNeg) = (1 : Int32) then (1 : Int32) else (0 : Int32))))])) _
        refine XS.iconst X60.here hx rfl (hb hby at_171) ?_
        show Steps p.tables e below (T60.setTop (mkF m 172 #[.val (.int p0), .val (.int p1), .val (.int p2), .val (.int ((p0 &&& (2147483647 : Int32)) % (3 : Int32))), .val (.int ((p1 &&& (2147483647 : Int32)) % (3 : Int32))), .val (.int ((p2 &&& (2147483647 : Int32)) % (3 : Int32))), .val (.ref b1), .val (.ref b4), .val (.ref b11), .val (.ref b19), .val (.ref b28), .val (.ref b40), .val (.int v58), .unset, .unset] [(.int (1 : Int32)), (.int (nar .boolean (if (f18 ((1 : Int32)).toNatClampNeg) = (1 : Int32) then (1 : Int32) else (0 : Int32))))])) _
        refine XS.goto X60.here hx rfl (pc0 := 172) (pc' := 176) rfl (hb hby at_172) (by decide) (by decide) ?_
        exact castTop (by rw [hv62, if_pos hc61] <;> rfl) kt
      · show Steps p.tables e below (T60.setTop (mkF m 168 #[.val (.int p0), .val (.int p1), .val (.int p2), .val (.int ((p0 &&& (2147483647 : Int32)) % (3 : Int32))), .val (.int ((p1 &&& (2147483647 : Int32)) % (3 : Int32))), .val (.int ((p2 &&& (2147483647 : Int32)) % (3 : Int32))), .val (.ref b1), .val (.ref b4), .val (.ref b11), .val (.ref b19), .val (.ref b28), .val (.ref b40), .val (.int v58), .unset, .unset] [(.int (1 : Int32)), (.int ((p1 &&& (2147483647 : Int32)) % (3 : Int32))), (.int (nar .boolean (if (f18 ((1 : Int32)).toNatClampNeg) = (1 : Int32) then (1 : Int32) else (0 : Int32))))])) _
        refine XS.icmpYes X60.here hx rfl (pc0 := 168) (pc' := 175) rfl (hb hby at_168) rfl (feq hc61).2 (by decide) (by decide) ?_
        show Steps p.tables e below (T60.setTop (mkF m 175 #[.val (.int p0), .val (.int p1), .val (.int p2), .val (.int ((p0 &&& (2147483647 : Int32)) % (3 : Int32))), .val (.int ((p1 &&& (2147483647 : Int32)) % (3 : Int32))), .val (.int ((p2 &&& (2147483647 : Int32)) % (3 : Int32))), .val (.ref b1), .val (.ref b4), .val (.ref b11), .val (.ref b19), .val (.ref b28), .val (.ref b40), .val (.int v58), .unset, .unset] [(.int (nar .boolean (if (f18 ((1 : Int32)).toNatClampNeg) = (1 : Int32) then (1 : Int32) else (0 : Int32))))])) _
        refine XS.iconst X60.here hx rfl (hb hby at_175) ?_
        exact castTop (by rw [hv62, if_neg hc61] <;> rfl) kt
    show Steps p.tables e below (T60.setTop (mkF m 176 #[.val (.int p0), .val (.int p1), .val (.int p2), .val (.int ((p0 &&& (2147483647 : Int32)) % (3 : Int32))), .val (.int ((p1 &&& (2147483647 : Int32)) % (3 : Int32))), .val (.int ((p2 &&& (2147483647 : Int32)) % (3 : Int32))), .val (.ref b1), .val (.ref b4), .val (.ref b11), .val (.ref b19), .val (.ref b28), .val (.ref b40), .val (.int v58), .unset, .unset] [(.int v62), (.int (nar .boolean (if (f18 ((1 : Int32)).toNatClampNeg) = (1 : Int32) then (1 : Int32) else (0 : Int32))))])) _
    refine own_dia (F := (mkF m 184 #[.val (.int p0), .val (.int p1), .val (.int p2), .val (.int ((p0 &&& (2147483647 : Int32)) % (3 : Int32))), .val (.int ((p1 &&& (2147483647 : Int32)) % (3 : Int32))), .val (.int ((p2 &&& (2147483647 : Int32)) % (3 : Int32))), .val (.ref b1), .val (.ref b4), .val (.ref b11), .val (.ref b19), .val (.ref b28), .val (.ref b40), .val (.int v58), .unset, .unset] [(.int v64)])) ?_ ?_
    · intro kt
      by_cases hc63 : (nar .boolean (if (f18 ((1 : Int32)).toNatClampNeg) = (1 : Int32) then (1 : Int32) else (0 : Int32))) = v62
      · show Steps p.tables e below (T60.setTop (mkF m 176 #[.val (.int p0), .val (.int p1), .val (.int p2), .val (.int ((p0 &&& (2147483647 : Int32)) % (3 : Int32))), .val (.int ((p1 &&& (2147483647 : Int32)) % (3 : Int32))), .val (.int ((p2 &&& (2147483647 : Int32)) % (3 : Int32))), .val (.ref b1), .val (.ref b4), .val (.ref b11), .val (.ref b19), .val (.ref b28), .val (.ref b40), .val (.int v58), .unset, .unset] [(.int v62), (.int (nar .boolean (if (f18 ((1 : Int32)).toNatClampNeg) = (1 : Int32) then (1 : Int32) else (0 : Int32))))])) _
        refine XS.icmpNo X60.here hx rfl (hb hby at_176) rfl (teq hc63).2 ?_
        show Steps p.tables e below (T60.setTop (mkF m 179 #[.val (.int p0), .val (.int p1), .val (.int p2), .val (.int ((p0 &&& (2147483647 : Int32)) % (3 : Int32))), .val (.int ((p1 &&& (2147483647 : Int32)) % (3 : Int32))), .val (.int ((p2 &&& (2147483647 : Int32)) % (3 : Int32))), .val (.ref b1), .val (.ref b4), .val (.ref b11), .val (.ref b19), .val (.ref b28), .val (.ref b40), .val (.int v58), .unset, .unset] [])) _
        refine XS.iconst X60.here hx rfl (hb hby at_179) ?_
        show Steps p.tables e below (T60.setTop (mkF m 180 #[.val (.int p0), .val (.int p1), .val (.int p2), .val (.int ((p0 &&& (2147483647 : Int32)) % (3 : Int32))), .val (.int ((p1 &&& (2147483647 : Int32)) % (3 : Int32))), .val (.int ((p2 &&& (2147483647 : Int32)) % (3 : Int32))), .val (.ref b1), .val (.ref b4), .val (.ref b11), .val (.ref b19), .val (.ref b28), .val (.ref b40), .val (.int v58), .unset, .unset] [(.int (1 : Int32))])) _
        refine XS.goto X60.here hx rfl (pc0 := 180) (pc' := 184) rfl (hb hby at_180) (by decide) (by decide) ?_
        exact castTop (by rw [hv64, if_pos hc63] <;> rfl) kt
      · show Steps p.tables e below (T60.setTop (mkF m 176 #[.val (.int p0), .val (.int p1), .val (.int p2), .val (.int ((p0 &&& (2147483647 : Int32)) % (3 : Int32))), .val (.int ((p1 &&& (2147483647 : Int32)) % (3 : Int32))), .val (.int ((p2 &&& (2147483647 : Int32)) % (3 : Int32))), .val (.ref b1), .val (.ref b4), .val (.ref b11), .val (.ref b19), .val (.ref b28), .val (.ref b40), .val (.int v58), .unset, .unset] [(.int v62), (.int (nar .boolean (if (f18 ((1 : Int32)).toNatClampNeg) = (1 : Int32) then (1 : Int32) else (0 : Int32))))])) _
        refine XS.icmpYes X60.here hx rfl (pc0 := 176) (pc' := 183) rfl (hb hby at_176) rfl (feq hc63).2 (by decide) (by decide) ?_
        show Steps p.tables e below (T60.setTop (mkF m 183 #[.val (.int p0), .val (.int p1), .val (.int p2), .val (.int ((p0 &&& (2147483647 : Int32)) % (3 : Int32))), .val (.int ((p1 &&& (2147483647 : Int32)) % (3 : Int32))), .val (.int ((p2 &&& (2147483647 : Int32)) % (3 : Int32))), .val (.ref b1), .val (.ref b4), .val (.ref b11), .val (.ref b19), .val (.ref b28), .val (.ref b40), .val (.int v58), .unset, .unset] [])) _
        refine XS.iconst X60.here hx rfl (hb hby at_183) ?_
        exact castTop (by rw [hv64, if_neg hc63] <;> rfl) kt
    show Steps p.tables e below (T60.setTop (mkF m 184 #[.val (.int p0), .val (.int p1), .val (.int p2), .val (.int ((p0 &&& (2147483647 : Int32)) % (3 : Int32))), .val (.int ((p1 &&& (2147483647 : Int32)) % (3 : Int32))), .val (.int ((p2 &&& (2147483647 : Int32)) % (3 : Int32))), .val (.ref b1), .val (.ref b4), .val (.ref b11), .val (.ref b19), .val (.ref b28), .val (.ref b40), .val (.int v58), .unset, .unset] [(.int v64)])) _
    refine XS.istore X60.here hx rfl (hb hby at_184) rfl (l' := #[.val (.int p0), .val (.int p1), .val (.int p2), .val (.int ((p0 &&& (2147483647 : Int32)) % (3 : Int32))), .val (.int ((p1 &&& (2147483647 : Int32)) % (3 : Int32))), .val (.int ((p2 &&& (2147483647 : Int32)) % (3 : Int32))), .val (.ref b1), .val (.ref b4), .val (.ref b11), .val (.ref b19), .val (.ref b28), .val (.ref b40), .val (.int v58), .val (.int v64), .unset]) rfl ?_
    show Steps p.tables e below (T60.setTop (mkF m 186 #[.val (.int p0), .val (.int p1), .val (.int p2), .val (.int ((p0 &&& (2147483647 : Int32)) % (3 : Int32))), .val (.int ((p1 &&& (2147483647 : Int32)) % (3 : Int32))), .val (.int ((p2 &&& (2147483647 : Int32)) % (3 : Int32))), .val (.ref b1), .val (.ref b4), .val (.ref b11), .val (.ref b19), .val (.ref b28), .val (.ref b40), .val (.int v58), .val (.int v64), .unset] [])) _
    refine XS.aload X60.here hx rfl (hb hby at_186) rfl rfl ?_
    show Steps p.tables e below (T60.setTop (mkF m 188 #[.val (.int p0), .val (.int p1), .val (.int p2), .val (.int ((p0 &&& (2147483647 : Int32)) % (3 : Int32))), .val (.int ((p1 &&& (2147483647 : Int32)) % (3 : Int32))), .val (.int ((p2 &&& (2147483647 : Int32)) % (3 : Int32))), .val (.ref b1), .val (.ref b4), .val (.ref b11), .val (.ref b19), .val (.ref b28), .val (.ref b40), .val (.int v58), .val (.int v64), .unset] [(.ref b40)])) _
    refine XS.iconst X60.here hx rfl (hb hby at_188) ?_
    show Steps p.tables e below (T60.setTop (mkF m 189 #[.val (.int p0), .val (.int p1), .val (.int p2), .val (.int ((p0 &&& (2147483647 : Int32)) % (3 : Int32))), .val (.int ((p1 &&& (2147483647 : Int32)) % (3 : Int32))), .val (.int ((p2 &&& (2147483647 : Int32)) % (3 : Int32))), .val (.ref b1), .val (.ref b4), .val (.ref b11), .val (.ref b19), .val (.ref b28), .val (.ref b40), .val (.int v58), .val (.int v64), .unset] [(.int (2 : Int32)), (.ref b40)])) _
    refine st66.trans ?_
    show Steps p.tables e below (T66.setTop (mkF m 192 #[.val (.int p0), .val (.int p1), .val (.int p2), .val (.int ((p0 &&& (2147483647 : Int32)) % (3 : Int32))), .val (.int ((p1 &&& (2147483647 : Int32)) % (3 : Int32))), .val (.int ((p2 &&& (2147483647 : Int32)) % (3 : Int32))), .val (.ref b1), .val (.ref b4), .val (.ref b11), .val (.ref b19), .val (.ref b28), .val (.ref b40), .val (.int v58), .val (.int v64), .unset] [(.int (nar .boolean (if (f18 ((2 : Int32)).toNatClampNeg) = (1 : Int32) then (1 : Int32) else (0 : Int32))))])) _
    refine XS.iload X66.here hx rfl (hb hby at_192) rfl ?_
    show Steps p.tables e below (T66.setTop (mkF m 194 #[.val (.int p0), .val (.int p1), .val (.int p2), .val (.int ((p0 &&& (2147483647 : Int32)) % (3 : Int32))), .val (.int ((p1 &&& (2147483647 : Int32)) % (3 : Int32))), .val (.int ((p2 &&& (2147483647 : Int32)) % (3 : Int32))), .val (.ref b1), .val (.ref b4), .val (.ref b11), .val (.ref b19), .val (.ref b28), .val (.ref b40), .val (.int v58), .val (.int v64), .unset] [(.int ((p2 &&& (2147483647 : Int32)) % (3 : Int32))), (.int (nar .boolean (if (f18 ((2 : Int32)).toNatClampNeg) = (1 : Int32) then (1 : Int32) else (0 : Int32))))])) _
    refine XS.iconst X66.here hx rfl (hb hby at_194) ?_
    show Steps p.tables e below (T66.setTop (mkF m 195 #[.val (.int p0), .val (.int p1), .val (.int p2), .val (.int ((p0 &&& (2147483647 : Int32)) % (3 : Int32))), .val (.int ((p1 &&& (2147483647 : Int32)) % (3 : Int32))), .val (.int ((p2 &&& (2147483647 : Int32)) % (3 : Int32))), .val (.ref b1), .val (.ref b4), .val (.ref b11), .val (.ref b19), .val (.ref b28), .val (.ref b40), .val (.int v58), .val (.int v64), .unset] [(.int (1 : Int32)), (.int ((p2 &&& (2147483647 : Int32)) % (3 : Int32))), (.int (nar .boolean (if (f18 ((2 : Int32)).toNatClampNeg) = (1 : Int32) then (1 : Int32) else (0 : Int32))))])) _
    refine own_dia (F := (mkF m 203 #[.val (.int p0), .val (.int p1), .val (.int p2), .val (.int ((p0 &&& (2147483647 : Int32)) % (3 : Int32))), .val (.int ((p1 &&& (2147483647 : Int32)) % (3 : Int32))), .val (.int ((p2 &&& (2147483647 : Int32)) % (3 : Int32))), .val (.ref b1), .val (.ref b4), .val (.ref b11), .val (.ref b19), .val (.ref b28), .val (.ref b40), .val (.int v58), .val (.int v64), .unset] [(.int v68), (.int (nar .boolean (if (f18 ((2 : Int32)).toNatClampNeg) = (1 : Int32) then (1 : Int32) else (0 : Int32))))])) ?_ ?_
    · intro kt
      by_cases hc67 : ((p2 &&& (2147483647 : Int32)) % (3 : Int32)) = (1 : Int32)
      · show Steps p.tables e below (T66.setTop (mkF m 195 #[.val (.int p0), .val (.int p1), .val (.int p2), .val (.int ((p0 &&& (2147483647 : Int32)) % (3 : Int32))), .val (.int ((p1 &&& (2147483647 : Int32)) % (3 : Int32))), .val (.int ((p2 &&& (2147483647 : Int32)) % (3 : Int32))), .val (.ref b1), .val (.ref b4), .val (.ref b11), .val (.ref b19), .val (.ref b28), .val (.ref b40), .val (.int v58), .val (.int v64), .unset] [(.int (1 : Int32)), (.int ((p2 &&& (2147483647 : Int32)) % (3 : Int32))), (.int (nar .boolean (if (f18 ((2 : Int32)).toNatClampNeg) = (1 : Int32) then (1 : Int32) else (0 : Int32))))])) _
        refine XS.icmpNo X66.here hx rfl (hb hby at_195) rfl (teq hc67).2 ?_
        show Steps p.tables e below (T66.setTop (mkF m 198 #[.val (.int p0), .val (.int p1), .val (.int p2), .val (.int ((p0 &&& (2147483647 : Int32)) % (3 : Int32))), .val (.int ((p1 &&& (2147483647 : Int32)) % (3 : Int32))), .val (.int ((p2 &&& (2147483647 : Int32)) % (3 : Int32))), .val (.ref b1), .val (.ref b4), .val (.ref b11), .val (.ref b19), .val (.ref b28), .val (.ref b40), .val (.int v58), .val (.int v64), .unset] [(.int (nar .boolean (if (f18 ((2 : Int32)).toNatClampNeg) = (1 : Int32) then (1 : Int32) else (0 : Int32))))])) _
        refine XS.iconst X66.here hx rfl (hb hby at_198) ?_
        show Steps p.tables e below (T66.setTop (mkF m 199 #[.val (.int p0), .val (.int p1), .val (.int p2), .val (.int ((p0 &&& (2147483647 : Int32)) % (3 : Int32))), .val (.int ((p1 &&& (2147483647 : Int32)) % (3 : Int32))), .val (.int ((p2 &&& (2147483647 : Int32)) % (3 : Int32))), .val (.ref b1), .val (.ref b4), .val (.ref b11), .val (.ref b19), .val (.ref b28), .val (.ref b40), .val (.int v58), .val (.int v64), .unset] [(.int (1 : Int32)), (.int (nar .boolean (if (f18 ((2 : Int32)).toNatClampNeg) = (1 : Int32) then (1 : Int32) else (0 : Int32))))])) _
        refine XS.goto X66.here hx rfl (pc0 := 199) (pc' := 203) rfl (hb hby at_199) (by decide) (by decide) ?_
        exact castTop (by rw [hv68, if_pos hc67] <;> rfl) kt
      · show Steps p.tables e below (T66.setTop (mkF m 195 #[.val (.int p0), .val (.int p1), .val (.int p2), .val (.int ((p0 &&& (2147483647 : Int32)) % (3 : Int32))), .val (.int ((p1 &&& (2147483647 : Int32)) % (3 : Int32))), .val (.int ((p2 &&& (2147483647 : Int32)) % (3 : Int32))), .val (.ref b1), .val (.ref b4), .val (.ref b11), .val (.ref b19), .val (.ref b28), .val (.ref b40), .val (.int v58), .val (.int v64), .unset] [(.int (1 : Int32)), (.int ((p2 &&& (2147483647 : Int32)) % (3 : Int32))), (.int (nar .boolean (if (f18 ((2 : Int32)).toNatClampNeg) = (1 : Int32) then (1 : Int32) else (0 : Int32))))])) _
        refine XS.icmpYes X66.here hx rfl (pc0 := 195) (pc' := 202) rfl (hb hby at_195) rfl (feq hc67).2 (by decide) (by decide) ?_
        show Steps p.tables e below (T66.setTop (mkF m 202 #[.val (.int p0), .val (.int p1), .val (.int p2), .val (.int ((p0 &&& (2147483647 : Int32)) % (3 : Int32))), .val (.int ((p1 &&& (2147483647 : Int32)) % (3 : Int32))), .val (.int ((p2 &&& (2147483647 : Int32)) % (3 : Int32))), .val (.ref b1), .val (.ref b4), .val (.ref b11), .val (.ref b19), .val (.ref b28), .val (.ref b40), .val (.int v58), .val (.int v64), .unset] [(.int (nar .boolean (if (f18 ((2 : Int32)).toNatClampNeg) = (1 : Int32) then (1 : Int32) else (0 : Int32))))])) _
        refine XS.iconst X66.here hx rfl (hb hby at_202) ?_
        exact castTop (by rw [hv68, if_neg hc67] <;> rfl) kt
    show Steps p.tables e below (T66.setTop (mkF m 203 #[.val (.int p0), .val (.int p1), .val (.int p2), .val (.int ((p0 &&& (2147483647 : Int32)) % (3 : Int32))), .val (.int ((p1 &&& (2147483647 : Int32)) % (3 : Int32))), .val (.int ((p2 &&& (2147483647 : Int32)) % (3 : Int32))), .val (.ref b1), .val (.ref b4), .val (.ref b11), .val (.ref b19), .val (.ref b28), .val (.ref b40), .val (.int v58), .val (.int v64), .unset] [(.int v68), (.int (nar .boolean (if (f18 ((2 : Int32)).toNatClampNeg) = (1 : Int32) then (1 : Int32) else (0 : Int32))))])) _
    refine own_dia (F := (mkF m 211 #[.val (.int p0), .val (.int p1), .val (.int p2), .val (.int ((p0 &&& (2147483647 : Int32)) % (3 : Int32))), .val (.int ((p1 &&& (2147483647 : Int32)) % (3 : Int32))), .val (.int ((p2 &&& (2147483647 : Int32)) % (3 : Int32))), .val (.ref b1), .val (.ref b4), .val (.ref b11), .val (.ref b19), .val (.ref b28), .val (.ref b40), .val (.int v58), .val (.int v64), .unset] [(.int v70)])) ?_ ?_
    · intro kt
      by_cases hc69 : (nar .boolean (if (f18 ((2 : Int32)).toNatClampNeg) = (1 : Int32) then (1 : Int32) else (0 : Int32))) = v68
      · show Steps p.tables e below (T66.setTop (mkF m 203 #[.val (.int p0), .val (.int p1), .val (.int p2), .val (.int ((p0 &&& (2147483647 : Int32)) % (3 : Int32))), .val (.int ((p1 &&& (2147483647 : Int32)) % (3 : Int32))), .val (.int ((p2 &&& (2147483647 : Int32)) % (3 : Int32))), .val (.ref b1), .val (.ref b4), .val (.ref b11), .val (.ref b19), .val (.ref b28), .val (.ref b40), .val (.int v58), .val (.int v64), .unset] [(.int v68), (.int (nar .boolean (if (f18 ((2 : Int32)).toNatClampNeg) = (1 : Int32) then (1 : Int32) else (0 : Int32))))])) _
        refine XS.icmpNo X66.here hx rfl (hb hby at_203) rfl (teq hc69).2 ?_
        show Steps p.tables e below (T66.setTop (mkF m 206 #[.val (.int p0), .val (.int p1), .val (.int p2), .val (.int ((p0 &&& (2147483647 : Int32)) % (3 : Int32))), .val (.int ((p1 &&& (2147483647 : Int32)) % (3 : Int32))), .val (.int ((p2 &&& (2147483647 : Int32)) % (3 : Int32))), .val (.ref b1), .val (.ref b4), .val (.ref b11), .val (.ref b19), .val (.ref b28), .val (.ref b40), .val (.int v58), .val (.int v64), .unset] [])) _
        refine XS.iconst X66.here hx rfl (hb hby at_206) ?_
        show Steps p.tables e below (T66.setTop (mkF m 207 #[.val (.int p0), .val (.int p1), .val (.int p2), .val (.int ((p0 &&& (2147483647 : Int32)) % (3 : Int32))), .val (.int ((p1 &&& (2147483647 : Int32)) % (3 : Int32))), .val (.int ((p2 &&& (2147483647 : Int32)) % (3 : Int32))), .val (.ref b1), .val (.ref b4), .val (.ref b11), .val (.ref b19), .val (.ref b28), .val (.ref b40), .val (.int v58), .val (.int v64), .unset] [(.int (1 : Int32))])) _
        refine XS.goto X66.here hx rfl (pc0 := 207) (pc' := 211) rfl (hb hby at_207) (by decide) (by decide) ?_
        exact castTop (by rw [hv70, if_pos hc69] <;> rfl) kt
      · show Steps p.tables e below (T66.setTop (mkF m 203 #[.val (.int p0), .val (.int p1), .val (.int p2), .val (.int ((p0 &&& (2147483647 : Int32)) % (3 : Int32))), .val (.int ((p1 &&& (2147483647 : Int32)) % (3 : Int32))), .val (.int ((p2 &&& (2147483647 : Int32)) % (3 : Int32))), .val (.ref b1), .val (.ref b4), .val (.ref b11), .val (.ref b19), .val (.ref b28), .val (.ref b40), .val (.int v58), .val (.int v64), .unset] [(.int v68), (.int (nar .boolean (if (f18 ((2 : Int32)).toNatClampNeg) = (1 : Int32) then (1 : Int32) else (0 : Int32))))])) _
        refine XS.icmpYes X66.here hx rfl (pc0 := 203) (pc' := 210) rfl (hb hby at_203) rfl (feq hc69).2 (by decide) (by decide) ?_
        show Steps p.tables e below (T66.setTop (mkF m 210 #[.val (.int p0), .val (.int p1), .val (.int p2), .val (.int ((p0 &&& (2147483647 : Int32)) % (3 : Int32))), .val (.int ((p1 &&& (2147483647 : Int32)) % (3 : Int32))), .val (.int ((p2 &&& (2147483647 : Int32)) % (3 : Int32))), .val (.ref b1), .val (.ref b4), .val (.ref b11), .val (.ref b19), .val (.ref b28), .val (.ref b40), .val (.int v58), .val (.int v64), .unset] [])) _
        refine XS.iconst X66.here hx rfl (hb hby at_210) ?_
        exact castTop (by rw [hv70, if_neg hc69] <;> rfl) kt
    show Steps p.tables e below (T66.setTop (mkF m 211 #[.val (.int p0), .val (.int p1), .val (.int p2), .val (.int ((p0 &&& (2147483647 : Int32)) % (3 : Int32))), .val (.int ((p1 &&& (2147483647 : Int32)) % (3 : Int32))), .val (.int ((p2 &&& (2147483647 : Int32)) % (3 : Int32))), .val (.ref b1), .val (.ref b4), .val (.ref b11), .val (.ref b19), .val (.ref b28), .val (.ref b40), .val (.int v58), .val (.int v64), .unset] [(.int v70)])) _
    refine XS.istore X66.here hx rfl (hb hby at_211) rfl (l' := #[.val (.int p0), .val (.int p1), .val (.int p2), .val (.int ((p0 &&& (2147483647 : Int32)) % (3 : Int32))), .val (.int ((p1 &&& (2147483647 : Int32)) % (3 : Int32))), .val (.int ((p2 &&& (2147483647 : Int32)) % (3 : Int32))), .val (.ref b1), .val (.ref b4), .val (.ref b11), .val (.ref b19), .val (.ref b28), .val (.ref b40), .val (.int v58), .val (.int v64), .val (.int v70)]) rfl ?_
    show Steps p.tables e below (T66.setTop (mkF m 213 #[.val (.int p0), .val (.int p1), .val (.int p2), .val (.int ((p0 &&& (2147483647 : Int32)) % (3 : Int32))), .val (.int ((p1 &&& (2147483647 : Int32)) % (3 : Int32))), .val (.int ((p2 &&& (2147483647 : Int32)) % (3 : Int32))), .val (.ref b1), .val (.ref b4), .val (.ref b11), .val (.ref b19), .val (.ref b28), .val (.ref b40), .val (.int v58), .val (.int v64), .val (.int v70)] [])) _
    refine XS.iload X66.here hx rfl (hb hby at_213) rfl ?_
    show Steps p.tables e below (T66.setTop (mkF m 215 #[.val (.int p0), .val (.int p1), .val (.int p2), .val (.int ((p0 &&& (2147483647 : Int32)) % (3 : Int32))), .val (.int ((p1 &&& (2147483647 : Int32)) % (3 : Int32))), .val (.int ((p2 &&& (2147483647 : Int32)) % (3 : Int32))), .val (.ref b1), .val (.ref b4), .val (.ref b11), .val (.ref b19), .val (.ref b28), .val (.ref b40), .val (.int v58), .val (.int v64), .val (.int v70)] [(.int v58)])) _
    refine own_dia (F := (mkF m 233 #[.val (.int p0), .val (.int p1), .val (.int p2), .val (.int ((p0 &&& (2147483647 : Int32)) % (3 : Int32))), .val (.int ((p1 &&& (2147483647 : Int32)) % (3 : Int32))), .val (.int ((p2 &&& (2147483647 : Int32)) % (3 : Int32))), .val (.ref b1), .val (.ref b4), .val (.ref b11), .val (.ref b19), .val (.ref b28), .val (.ref b40), .val (.int v58), .val (.int v64), .val (.int v70)] [(.int v76)])) ?_ ?_
    · intro kt
      by_cases hc71 : v58 = (0 : Int32)
      · show Steps p.tables e below (T66.setTop (mkF m 215 #[.val (.int p0), .val (.int p1), .val (.int p2), .val (.int ((p0 &&& (2147483647 : Int32)) % (3 : Int32))), .val (.int ((p1 &&& (2147483647 : Int32)) % (3 : Int32))), .val (.int ((p2 &&& (2147483647 : Int32)) % (3 : Int32))), .val (.ref b1), .val (.ref b4), .val (.ref b11), .val (.ref b19), .val (.ref b28), .val (.ref b40), .val (.int v58), .val (.int v64), .val (.int v70)] [(.int v58)])) _
        refine XS.ifYes X66.here hx rfl (pc0 := 215) (pc' := 232) rfl (hb hby at_215) rfl ((if0 _ _).trans (teq hc71).1) (by decide) (by decide) ?_
        show Steps p.tables e below (T66.setTop (mkF m 232 #[.val (.int p0), .val (.int p1), .val (.int p2), .val (.int ((p0 &&& (2147483647 : Int32)) % (3 : Int32))), .val (.int ((p1 &&& (2147483647 : Int32)) % (3 : Int32))), .val (.int ((p2 &&& (2147483647 : Int32)) % (3 : Int32))), .val (.ref b1), .val (.ref b4), .val (.ref b11), .val (.ref b19), .val (.ref b28), .val (.ref b40), .val (.int v58), .val (.int v64), .val (.int v70)] [])) _
        refine XS.iconst X66.here hx rfl (hb hby at_232) ?_
        exact castTop (by rw [hv76, if_pos hc71] <;> rfl) kt
      · show Steps p.tables e below (T66.setTop (mkF m 215 #[.val (.int p0), .val (.int p1), .val (.int p2), .val (.int ((p0 &&& (2147483647 : Int32)) % (3 : Int32))), .val (.int ((p1 &&& (2147483647 : Int32)) % (3 : Int32))), .val (.int ((p2 &&& (2147483647 : Int32)) % (3 : Int32))), .val (.ref b1), .val (.ref b4), .val (.ref b11), .val (.ref b19), .val (.ref b28), .val (.ref b40), .val (.int v58), .val (.int v64), .val (.int v70)] [(.int v58)])) _
        refine XS.ifNo X66.here hx rfl (hb hby at_215) rfl ((if0 _ _).trans (feq hc71).1) ?_
        show Steps p.tables e below (T66.setTop (mkF m 218 #[.val (.int p0), .val (.int p1), .val (.int p2), .val (.int ((p0 &&& (2147483647 : Int32)) % (3 : Int32))), .val (.int ((p1 &&& (2147483647 : Int32)) % (3 : Int32))), .val (.int ((p2 &&& (2147483647 : Int32)) % (3 : Int32))), .val (.ref b1), .val (.ref b4), .val (.ref b11), .val (.ref b19), .val (.ref b28), .val (.ref b40), .val (.int v58), .val (.int v64), .val (.int v70)] [])) _
        refine XS.iload X66.here hx rfl (hb hby at_218) rfl ?_
        show Steps p.tables e below (T66.setTop (mkF m 220 #[.val (.int p0), .val (.int p1), .val (.int p2), .val (.int ((p0 &&& (2147483647 : Int32)) % (3 : Int32))), .val (.int ((p1 &&& (2147483647 : Int32)) % (3 : Int32))), .val (.int ((p2 &&& (2147483647 : Int32)) % (3 : Int32))), .val (.ref b1), .val (.ref b4), .val (.ref b11), .val (.ref b19), .val (.ref b28), .val (.ref b40), .val (.int v58), .val (.int v64), .val (.int v70)] [(.int v64)])) _
        refine own_dia (F := (mkF m 233 #[.val (.int p0), .val (.int p1), .val (.int p2), .val (.int ((p0 &&& (2147483647 : Int32)) % (3 : Int32))), .val (.int ((p1 &&& (2147483647 : Int32)) % (3 : Int32))), .val (.int ((p2 &&& (2147483647 : Int32)) % (3 : Int32))), .val (.ref b1), .val (.ref b4), .val (.ref b11), .val (.ref b19), .val (.ref b28), .val (.ref b40), .val (.int v58), .val (.int v64), .val (.int v70)] [(.int v75)])) ?_ ?_
        · intro kt
          by_cases hc72 : v64 = (0 : Int32)
          · show Steps p.tables e below (T66.setTop (mkF m 220 #[.val (.int p0), .val (.int p1), .val (.int p2), .val (.int ((p0 &&& (2147483647 : Int32)) % (3 : Int32))), .val (.int ((p1 &&& (2147483647 : Int32)) % (3 : Int32))), .val (.int ((p2 &&& (2147483647 : Int32)) % (3 : Int32))), .val (.ref b1), .val (.ref b4), .val (.ref b11), .val (.ref b19), .val (.ref b28), .val (.ref b40), .val (.int v58), .val (.int v64), .val (.int v70)] [(.int v64)])) _
            refine XS.ifYes X66.here hx rfl (pc0 := 220) (pc' := 232) rfl (hb hby at_220) rfl ((if0 _ _).trans (teq hc72).1) (by decide) (by decide) ?_
            show Steps p.tables e below (T66.setTop (mkF m 232 #[.val (.int p0), .val (.int p1), .val (.int p2), .val (.int ((p0 &&& (2147483647 : Int32)) % (3 : Int32))), .val (.int ((p1 &&& (2147483647 : Int32)) % (3 : Int32))), .val (.int ((p2 &&& (2147483647 : Int32)) % (3 : Int32))), .val (.ref b1), .val (.ref b4), .val (.ref b11), .val (.ref b19), .val (.ref b28), .val (.ref b40), .val (.int v58), .val (.int v64), .val (.int v70)] [])) _
            refine XS.iconst X66.here hx rfl (hb hby at_232) ?_
            exact castTop (by rw [hv75, if_pos hc72] <;> rfl) kt
          · show Steps p.tables e below (T66.setTop (mkF m 220 #[.val (.int p0), .val (.int p1), .val (.int p2), .val (.int ((p0 &&& (2147483647 : Int32)) % (3 : Int32))), .val (.int ((p1 &&& (2147483647 : Int32)) % (3 : Int32))), .val (.int ((p2 &&& (2147483647 : Int32)) % (3 : Int32))), .val (.ref b1), .val (.ref b4), .val (.ref b11), .val (.ref b19), .val (.ref b28), .val (.ref b40), .val (.int v58), .val (.int v64), .val (.int v70)] [(.int v64)])) _
            refine XS.ifNo X66.here hx rfl (hb hby at_220) rfl ((if0 _ _).trans (feq hc72).1) ?_
            show Steps p.tables e below (T66.setTop (mkF m 223 #[.val (.int p0), .val (.int p1), .val (.int p2), .val (.int ((p0 &&& (2147483647 : Int32)) % (3 : Int32))), .val (.int ((p1 &&& (2147483647 : Int32)) % (3 : Int32))), .val (.int ((p2 &&& (2147483647 : Int32)) % (3 : Int32))), .val (.ref b1), .val (.ref b4), .val (.ref b11), .val (.ref b19), .val (.ref b28), .val (.ref b40), .val (.int v58), .val (.int v64), .val (.int v70)] [])) _
            refine XS.iload X66.here hx rfl (hb hby at_223) rfl ?_
            show Steps p.tables e below (T66.setTop (mkF m 225 #[.val (.int p0), .val (.int p1), .val (.int p2), .val (.int ((p0 &&& (2147483647 : Int32)) % (3 : Int32))), .val (.int ((p1 &&& (2147483647 : Int32)) % (3 : Int32))), .val (.int ((p2 &&& (2147483647 : Int32)) % (3 : Int32))), .val (.ref b1), .val (.ref b4), .val (.ref b11), .val (.ref b19), .val (.ref b28), .val (.ref b40), .val (.int v58), .val (.int v64), .val (.int v70)] [(.int v70)])) _
            refine own_dia (F := (mkF m 233 #[.val (.int p0), .val (.int p1), .val (.int p2), .val (.int ((p0 &&& (2147483647 : Int32)) % (3 : Int32))), .val (.int ((p1 &&& (2147483647 : Int32)) % (3 : Int32))), .val (.int ((p2 &&& (2147483647 : Int32)) % (3 : Int32))), .val (.ref b1), .val (.ref b4), .val (.ref b11), .val (.ref b19), .val (.ref b28), .val (.ref b40), .val (.int v58), .val (.int v64), .val (.int v70)] [(.int v74)])) ?_ ?_
            · intro kt
              by_cases hc73 : v70 = (0 : Int32)
              · show Steps p.tables e below (T66.setTop (mkF m 225 #[.val (.int p0), .val (.int p1), .val (.int p2), .val (.int ((p0 &&& (2147483647 : Int32)) % (3 : Int32))), .val (.int ((p1 &&& (2147483647 : Int32)) % (3 : Int32))), .val (.int ((p2 &&& (2147483647 : Int32)) % (3 : Int32))), .val (.ref b1), .val (.ref b4), .val (.ref b11), .val (.ref b19), .val (.ref b28), .val (.ref b40), .val (.int v58), .val (.int v64), .val (.int v70)] [(.int v70)])) _
                refine XS.ifYes X66.here hx rfl (pc0 := 225) (pc' := 232) rfl (hb hby at_225) rfl ((if0 _ _).trans (teq hc73).1) (by decide) (by decide) ?_
                show Steps p.tables e below (T66.setTop (mkF m 232 #[.val (.int p0), .val (.int p1), .val (.int p2), .val (.int ((p0 &&& (2147483647 : Int32)) % (3 : Int32))), .val (.int ((p1 &&& (2147483647 : Int32)) % (3 : Int32))), .val (.int ((p2 &&& (2147483647 : Int32)) % (3 : Int32))), .val (.ref b1), .val (.ref b4), .val (.ref b11), .val (.ref b19), .val (.ref b28), .val (.ref b40), .val (.int v58), .val (.int v64), .val (.int v70)] [])) _
                refine XS.iconst X66.here hx rfl (hb hby at_232) ?_
                exact castTop (by rw [hv74, if_pos hc73] <;> rfl) kt
              · show Steps p.tables e below (T66.setTop (mkF m 225 #[.val (.int p0), .val (.int p1), .val (.int p2), .val (.int ((p0 &&& (2147483647 : Int32)) % (3 : Int32))), .val (.int ((p1 &&& (2147483647 : Int32)) % (3 : Int32))), .val (.int ((p2 &&& (2147483647 : Int32)) % (3 : Int32))), .val (.ref b1), .val (.ref b4), .val (.ref b11), .val (.ref b19), .val (.ref b28), .val (.ref b40), .val (.int v58), .val (.int v64), .val (.int v70)] [(.int v70)])) _
                refine XS.ifNo X66.here hx rfl (hb hby at_225) rfl ((if0 _ _).trans (feq hc73).1) ?_
                show Steps p.tables e below (T66.setTop (mkF m 228 #[.val (.int p0), .val (.int p1), .val (.int p2), .val (.int ((p0 &&& (2147483647 : Int32)) % (3 : Int32))), .val (.int ((p1 &&& (2147483647 : Int32)) % (3 : Int32))), .val (.int ((p2 &&& (2147483647 : Int32)) % (3 : Int32))), .val (.ref b1), .val (.ref b4), .val (.ref b11), .val (.ref b19), .val (.ref b28), .val (.ref b40), .val (.int v58), .val (.int v64), .val (.int v70)] [])) _
                refine XS.iconst X66.here hx rfl (hb hby at_228) ?_
                show Steps p.tables e below (T66.setTop (mkF m 229 #[.val (.int p0), .val (.int p1), .val (.int p2), .val (.int ((p0 &&& (2147483647 : Int32)) % (3 : Int32))), .val (.int ((p1 &&& (2147483647 : Int32)) % (3 : Int32))), .val (.int ((p2 &&& (2147483647 : Int32)) % (3 : Int32))), .val (.ref b1), .val (.ref b4), .val (.ref b11), .val (.ref b19), .val (.ref b28), .val (.ref b40), .val (.int v58), .val (.int v64), .val (.int v70)] [(.int (1 : Int32))])) _
                refine XS.goto X66.here hx rfl (pc0 := 229) (pc' := 233) rfl (hb hby at_229) (by decide) (by decide) ?_
                exact castTop (by rw [hv74, if_neg hc73] <;> rfl) kt
            exact castTop (by rw [hv75, if_neg hc72] <;> rfl) kt
        exact castTop (by rw [hv76, if_neg hc71] <;> rfl) kt
    show Steps p.tables e below (T66.setTop (mkF m 233 #[.val (.int p0), .val (.int p1), .val (.int p2), .val (.int ((p0 &&& (2147483647 : Int32)) % (3 : Int32))), .val (.int ((p1 &&& (2147483647 : Int32)) % (3 : Int32))), .val (.int ((p2 &&& (2147483647 : Int32)) % (3 : Int32))), .val (.ref b1), .val (.ref b4), .val (.ref b11), .val (.ref b19), .val (.ref b28), .val (.ref b40), .val (.int v58), .val (.int v64), .val (.int v70)] [(.int v76)])) _
    exact retN X66 hx (t := .boolean) Bd.returns (by simp) (hb hby at_233) hr
  · show Q0 h0 n0 _ T66.heap _
    refine ⟨?_, N66⟩
    have hfin : (nar .boolean v76) = (1 : Int32) := by
      exact (own_law p0 p1 p2 f14 f16 f18 v56 v58 v62 v64 v68 v70 v74 v75 v76 hf14 hf16 hf18 hv56 hv58 hv62 hv64 hv68 hv70 hv74 hv75 hv76)
    rw [hfin]
set_option maxRecDepth 65536 in
set_option maxHeartbeats 40000000 in
theorem comes_1 {Post : Tables → Env → Array Value → State → Outcome → State → Prop} (hpost : ∀ tb e args s v u, (limb_1_1.after args s (.returned v) u = true ∧ limb_1_2.after args s (.returned v) u = true ∧ True) → FrameEnd s (.returned v) u (Jvm.fieldLocs frame_1_writes args s ++ Jvm.arrayLocs frame_1_arrays args s ++ Jvm.staticLocs frame_1_statics s) 24 192 → Post tb e args s (.returned v) u) :
    ArmFor flags0 classFile x code maxLocals ret World_1 tables_1 room_1 Calls_1 rest_1 Pre_1 Post := by
  intro l hfl _ _ p e ha hc hk s m args below hf hA hF happ hP
  obtain ⟨hcalls, hrest, hpre⟩ := hP
  obtain ⟨-, -, -, hnamed, -, -, -, hat⟩ := (Spec.applies_iff hf).mp happ
  obtain ⟨hg, hn⟩ := and_e (Cond.before_iff.mp (show (Jvm.Cond.and given_1 narrow_1).before args s = true from hpre))
  obtain ⟨gg1, gg2⟩ := and_e hg
  obtain ⟨gg3, gg4⟩ := and_e gg2
  obtain ⟨gg5, gg6⟩ := and_e gg4
  obtain ⟨w0, w1, w2, rfl⟩ : ∃ w0 w1 w2 : Value, args = #[w0, w1, w2] := by
    have hs : args.size = 3 := by simpa [Cond.value, given_1] using gg1
    obtain ⟨L⟩ := args
    match L, hs with
    | [w0, w1, w2], _ => exact ⟨w0, w1, w2, rfl⟩
  have hw := fun d (hd : d ∈ tables_1) => atoms_spec (ws := Jvm.Cond.code x code maxLocals ret :: tables_1) hat d (List.mem_cons_of_mem _ hd)
  have hfit : Fit s := fun {y c} hc i hi => by
    obtain ⟨ha, rfl⟩ := Array.getElem?_eq_some_iff.mp hc
    have q := List.all_eq_true.mp ((Array.all_eq_true_iff_forall_mem.mp hF) _ (Array.getElem_mem ha)) i (List.mem_range.mpr hi)
    simpa [Array.getElem?_eq_getElem hi] using q
  obtain ⟨i0, ei0⟩ := is_v gg3
  obtain rfl : w0 = (.int i0) := Option.some.inj ei0
  obtain ⟨i1, ei1⟩ := is_v gg5
  obtain rfl : w1 = (.int i1) := Option.some.inj ei1
  obtain ⟨i2, ei2⟩ := is_v gg6
  obtain rfl : w2 = (.int i2) := Option.some.inj ei2
  obtain ⟨n, o, h1, h2, h3, _, L, rfl, ⟨rfl, N⟩, hq⟩ := rm0 l s _ hw tables_1 i0 i1 i2  s.heap s.heap.size (Nat.le_refl _)  p e ha hc hk s m _ below hf ((Spec.applies_iff_loose hf).mp happ).1 ⟨rfl, State.Warmed39.refl s, rfl⟩ trivial
  refine ⟨n, _, h1, h2, h3, hpost _ _ _ _ _ _ ⟨Cond.after_iff.mpr rfl, Cond.after_iff.mpr (eq_i res_at (Term.int_eval (1)) rfl), trivial⟩ ⟨hq.1, hq.2.1, (hq.2.2.sift fun y hy => Or.inr (N y hy)).mono (by decide) (by decide)⟩⟩
theorem main_1_1 : Claimed_1_1 := comes_1 fun _ _ _ _ _ _ h hF => ⟨h.1, hF⟩
theorem main_1_2 : Claimed_1_2 := comes_1 fun _ _ _ _ _ _ h hF => ⟨h.2.1, hF⟩
end Jvm.Pilot.@@N@@
namespace Jvm.Pilot.@@N@@
open Jvm Jvm.ClassFile Sem Op Lib Jvm.Free Jvm.Stand Jvm.Pilot.@@N@@.Jvm.D
/-! MADE BY PROGRAM (witnessworld.py) out of the Statement's table words and the real class files: 10 classes; the members and pool entries that the words name. The judged class is class 1, her method 1. -/
namespace start1
open Jvm.ClassFile
def u (s : String) : CpInfo := .utf8 (stringToUtf16 s)
/-- a pool by its gaps: so many unusable entries, then the entry; so many at the end -/
def gap : Nat → List CpInfo → List CpInfo
  | 0, r => r
  | n + 1, r => .unusable :: gap n r
def poolList (es : List (Nat × CpInfo)) (last : Nat) : List CpInfo := es.foldr (fun e r => gap e.1 (e.2 :: r)) (gap last [])
def pool (es : List (Nat × CpInfo)) (last : Nat) : Array CpInfo := ⟨poolList es last⟩
def fileOf (pool : Array CpInfo) (this : Nat) (attrs : Array Attribute := #[]) (ms : Array MethodInfo := #[]) (fl : Nat := 33) (sup : Nat := 0) (ifs : Array Nat := #[]) (fds : Array FieldInfo := #[]) : ClassFile where
  minorVersion := 0
  majorVersion := 65
  constantPool := pool
  accessFlags := fl
  thisClass := this
  superClass := sup
  interfaces := ifs
  fields := fds
  methods := ms
  attributes := attrs
def plain (name : String) (sup : Option ClassId) : Class where
  name := name
  kind := .ordinary
  loader := none
  accessFlags := 33
  super := sup
  interfaces := #[]
  cf := none
  fields := #[]
  methods := #[]
  instanceTypes := #[]
  staticTypes := #[]
  resolved := #[]
  callSites := []
  init := .initialized
  statics := none
  mirror := none

def pool0 : Array CpInfo := pool [(5, u "<init>"), (0, u "()V"), (1, .class_ 10), (1, u "java/lang/Object")] 113

def k0c0 : Code := { maxStack := 0, maxLocals := 1, code := object_method_1_code, exceptionTable := #[], attributes := #[] }
def k0m0 : Method := { name := "<init>", desc := "()V", sig := { parameters := [], returnType := none }, accessFlags := 1, code := some k0c0 }
/-- java/lang/Object -/
def k0 : Class := { plain "java/lang/Object" none with
  accessFlags := 33
  interfaces := #[]
  cf := some (fileOf pool0 8 #[] #[{ accessFlags := 1, nameIndex := 5, descriptorIndex := 6, attributes := #[] }] 33 0 #[] #[])
  fields := #[]
  methods := #[k0m0]
  instanceTypes := #[]
  staticTypes := #[]
  resolved := Array.replicate 124 none
  statics := none }

def pool1 : Array CpInfo := pool [(2, .class_ 4), (1, u "java/lang/Object"), (0, u "<init>"), (0, u "()V"), (0, .integer 2147483647), (0, .class_ 9), (0, u "com/example/ezra/ezra/Block$Directory"), (0, .methodref 8 11), (0, .nameAndType 5 12), (0, u "([B[I[I[I[I)V"), (0, .methodref 8 14), (0, .nameAndType 15 16), (0, u "bitmap"), (0, u "(I)Z"), (0, .class_ 18), (0, u "com/example/ezra/ezra/DirectoryBitmapPinLaw"), (2, u "law"), (0, u "(III)Z")] 11

def k1m0 : Method := { name := "<init>", desc := "()V", sig := { parameters := [], returnType := none }, accessFlags := 1, code := none }
def k1c1 : Code := { maxStack := 7, maxLocals := 15, code := code, exceptionTable := #[], attributes := #[] }
def k1m1 : Method := { name := "law", desc := "(III)Z", sig := { parameters := [.int, .int, .int], returnType := some .boolean }, accessFlags := 9, code := some k1c1 }
/-- com/example/ezra/ezra/DirectoryBitmapPinLaw -/
def k1 : Class := { plain "com/example/ezra/ezra/DirectoryBitmapPinLaw" (some 0) with
  accessFlags := 49
  interfaces := #[]
  cf := some (fileOf pool1 17 #[] #[{ accessFlags := 1, nameIndex := 5, descriptorIndex := 6, attributes := #[] }, { accessFlags := 9, nameIndex := 21, descriptorIndex := 22, attributes := #[] }] 49 2 #[] #[])
  fields := #[]
  methods := #[k1m0, k1m1]
  instanceTypes := #[]
  staticTypes := #[]
  resolved := Array.replicate 34 none
  statics := none }

def pool2 : Array CpInfo := pool [(1, .methodref 2 3), (0, .class_ 4), (0, .nameAndType 5 6), (0, u "java/lang/Object"), (0, u "<init>"), (0, u "()V"), (0, .class_ 8), (0, u "java/lang/Record")] 13

def k2c0 : Code := { maxStack := 1, maxLocals := 1, code := jdk_30_method_1_code, exceptionTable := #[], attributes := #[] }
def k2m0 : Method := { name := "<init>", desc := "()V", sig := { parameters := [], returnType := none }, accessFlags := 4, code := some k2c0 }
/-- java/lang/Record -/
def k2 : Class := { plain "java/lang/Record" (some 0) with
  accessFlags := 1057
  interfaces := #[]
  cf := some (fileOf pool2 7 #[] #[{ accessFlags := 4, nameIndex := 5, descriptorIndex := 6, attributes := #[] }] 1057 2 #[] #[])
  fields := #[]
  methods := #[k2m0]
  instanceTypes := #[]
  staticTypes := #[]
  resolved := Array.replicate 22 none
  statics := none }

def pool3 : Array CpInfo := pool [(1, .class_ 2), (0, u "com/example/ezra/ezra/Block"), (0, .methodref 4 5), (0, .class_ 6), (0, .nameAndType 7 8), (0, u "java/lang/Record"), (0, u "<init>"), (0, u "()V"), (0, .fieldref 10 11), (0, .class_ 12), (0, .nameAndType 13 14), (0, u "com/example/ezra/ezra/Block$Directory"), (0, u "bytes"), (0, u "[B"), (0, .fieldref 10 16), (0, .nameAndType 17 18), (0, u "slots"), (0, u "[I"), (0, .fieldref 10 20), (0, .nameAndType 21 18), (0, u "kinds"), (0, .fieldref 10 23), (0, .nameAndType 24 18), (0, u "users"), (0, .fieldref 10 26), (0, .nameAndType 27 18), (0, u "offsets"), (81, u "([B[I[I[I[I)V"), (10, u "bitmap"), (0, u "(I)Z")] 46

def k3c0 : Code := { maxStack := 2, maxLocals := 6, code := prog_5_method_1_code, exceptionTable := #[], attributes := #[] }
def k3m0 : Method := { name := "<init>", desc := "([B[I[I[I[I)V", sig := { parameters := [(.array .byte), (.array .int), (.array .int), (.array .int), (.array .int)], returnType := none }, accessFlags := 0, code := some k3c0 }
def k3c1 : Code := { maxStack := 2, maxLocals := 2, code := prog_5_method_7_code, exceptionTable := #[], attributes := #[] }
def k3m1 : Method := { name := "bitmap", desc := "(I)Z", sig := { parameters := [.int], returnType := some .boolean }, accessFlags := 0, code := some k3c1 }
/-- com/example/ezra/ezra/Block$Directory -/
def k3 : Class := { plain "com/example/ezra/ezra/Block$Directory" (some 2) with
  accessFlags := 48
  interfaces := #[]
  cf := some (fileOf pool3 10 #[.nestHost 1] #[{ accessFlags := 0, nameIndex := 7, descriptorIndex := 109, attributes := #[] }, { accessFlags := 0, nameIndex := 120, descriptorIndex := 121, attributes := #[] }] 48 4 #[] #[{ accessFlags := 18, nameIndex := 13, descriptorIndex := 14, attributes := #[] }, { accessFlags := 18, nameIndex := 17, descriptorIndex := 18, attributes := #[] }, { accessFlags := 18, nameIndex := 21, descriptorIndex := 18, attributes := #[] }, { accessFlags := 18, nameIndex := 24, descriptorIndex := 18, attributes := #[] }, { accessFlags := 18, nameIndex := 27, descriptorIndex := 18, attributes := #[] }])
  fields := #[{ name := "bytes", type := (.array .byte), accessFlags := 18, slot := 0, constantValue := 0 }, { name := "slots", type := (.array .int), accessFlags := 18, slot := 1, constantValue := 0 }, { name := "kinds", type := (.array .int), accessFlags := 18, slot := 2, constantValue := 0 }, { name := "users", type := (.array .int), accessFlags := 18, slot := 3, constantValue := 0 }, { name := "offsets", type := (.array .int), accessFlags := 18, slot := 4, constantValue := 0 }]
  methods := #[k3m0, k3m1]
  instanceTypes := #[(.array .byte), (.array .int), (.array .int), (.array .int), (.array .int)]
  staticTypes := #[]
  resolved := Array.replicate 168 none
  statics := none }

def pool4 : Array CpInfo := pool [(1, u "java/lang/Cloneable"), (0, .class_ 1), (0, u "java/lang/Object"), (0, .class_ 3)] 3

/-- java/lang/Cloneable -/
def k4 : Class := { plain "java/lang/Cloneable" (some 0) with
  accessFlags := 1537
  interfaces := #[]
  cf := some (fileOf pool4 2 #[] #[] 1537 4 #[] #[])
  fields := #[]
  methods := #[]
  instanceTypes := #[]
  staticTypes := #[]
  resolved := Array.replicate 8 none
  statics := none }

def pool5 : Array CpInfo := pool [(1, u "java/io/Serializable"), (0, .class_ 1), (0, u "java/lang/Object"), (0, .class_ 3)] 3

/-- java/io/Serializable -/
def k5 : Class := { plain "java/io/Serializable" (some 0) with
  accessFlags := 1537
  interfaces := #[]
  cf := some (fileOf pool5 2 #[] #[] 1537 4 #[] #[])
  fields := #[]
  methods := #[]
  instanceTypes := #[]
  staticTypes := #[]
  resolved := Array.replicate 8 none
  statics := none }

/-- the primitive byte -/
def k6 : Class := { plain "byte" none with kind := .primitive 'B', accessFlags := 0x411 }
/-- [B -/
def k7 : Class := { plain "[B" (some 0) with kind := .array 6 .byte, interfaces := #[4, 5], accessFlags := 1041 }

/-- the primitive int -/
def k8 : Class := { plain "int" none with kind := .primitive 'I', accessFlags := 0x411 }
/-- [I -/
def k9 : Class := { plain "[I" (some 0) with kind := .array 8 .int, interfaces := #[4, 5], accessFlags := 1041 }

def heap : Heap := #[]
def classes : Array Class := #[k0, k1, k2, k3, k4, k5, k6, k7, k8, k9]
def interned : List (Array UInt16 × Addr) := []
def slotsUsed : Nat := 0
def theMethod : MethodId := ⟨1, 1⟩
def args0 : Array Value := #[.int 5, .int 5, .int 5]
def aboutOver (below : List Frame) : State where
  vm := { classes := classes, interned := interned.toArray }
  heap := heap
  slotsUsed := slotsUsed
  threads := #[{ frames := .invoking theMethod args0 :: below }]
def below0 : List Frame := [.native { method := ⟨0, 0⟩, args := #[] }]
def about1 : State := aboutOver below0
def p0 : Program := .bare "" "" ""
def e0 : Env := launch0.env 0 0 0
theorem w_frames : about1.frames = Frame.invoking theMethod args0 :: below0 := rfl
set_option maxRecDepth 65536 in
theorem w_args : argsFit about1.vm theMethod args0 = true := by decide +kernel
set_option maxRecDepth 65536 in
theorem w_heap : heapFits about1 = true := by decide +kernel
set_option maxRecDepth 65536 in
theorem w_runnable : about1.curStatus? = some .runnable := by decide +kernel
set_option maxRecDepth 65536 in
theorem w_alone : about1.alone = true := by decide +kernel
set_option maxRecDepth 65536 in
theorem w_named : about1.methodNamed? x = some theMethod := by decide +kernel
set_option maxRecDepth 65536 in
theorem w_hears : about1.hears theMethod below0 = true := by decide +kernel
set_option maxRecDepth 65536 in
theorem w_ripe : about1.ripe theMethod args0 below0 = true := by decide +kernel
theorem w_running : about1.status = .running := rfl
set_option maxRecDepth 65536 in
theorem w_room : about1.hasRoom e0.platform room_1 = true :=
  launch0.hasRoom_least _ room_1 (by decide +kernel) (by decide +kernel) (by decide +kernel) (by decide +kernel) (by decide +kernel) (by decide +kernel)
theorem allAtoms_all (ts : List Jvm.Cond) (a : Array Jvm.Value) (st : Jvm.State) : (allAtoms ts).before a st = ts.all (fun c => c.before a st) := by
  induction ts with
  | nil => rfl
  | cons c t ih =>
    show (Jvm.Cond.and c (allAtoms t)).before a st = _
    rw [Jvm.Cond.before_and, ih, List.all_cons]
def words1 : List Jvm.Cond := Jvm.Cond.code x code maxLocals ret :: tables_1
/-- a 'code' word, met by the world's own term for the bytes: nothing is compared byte by byte -/
theorem code_word {y : MethodName} {bytes : ByteArray} {mx : Nat} {rt : Option FieldType} {a : Array Value} {s : State} {m : MethodId} {meth : Method} {c : Code} (h1 : s.methodNamed? y = some m) (h2 : s.vm.method? m = some meth) (h3 : meth.code = some c) (h4 : c.code = bytes)
    (h5 : (c.maxLocals == mx && c.exceptionTable.isEmpty && decide (c.maxStack ≤ mostOperands) && decide (meth.sig.returnType = rt) && !meth.locks && decide (parseMethodDescriptor y.desc = some meth.sig)) = true) : (Jvm.Cond.code y bytes mx rt).before a s = true := by
  simp only [Bool.and_eq_true, beq_iff_eq, Bool.not_eq_true', decide_eq_true_eq] at h5
  obtain ⟨⟨⟨⟨⟨g1, g2⟩, g3⟩, g4⟩, g5⟩, g6⟩ := h5
  simp [Cond.before, Cond.holds, Cond.value, h1, h2, h3, h4, g1, g2, g3, g4, g5, g6]
def isCode : Jvm.Cond → Bool
  | .code _ _ _ _ => true
  | _ => false
theorem all_split {L : List Jvm.Cond} {P : Jvm.Cond → Bool} (h1 : L.all (fun c => isCode c || P c) = true) (h2 : ∀ c ∈ L.filter isCode, P c = true) : L.all P = true := by
  refine List.all_eq_true.mpr fun c hc => ?_
  have h := List.all_eq_true.mp h1 c hc
  rcases Bool.eq_false_or_eq_true (isCode c) with hi | hi
  · exact h2 c (List.mem_filter.mpr ⟨hc, hi⟩)
  · simpa [hi] using h
set_option maxRecDepth 65536 in
theorem w_c0 : (Jvm.Cond.code x code maxLocals ret).before args0 about1 = true := code_word (m := ⟨1, 1⟩) (meth := k1m1) (c := k1c1) (by decide +kernel) rfl rfl rfl (by decide +kernel)
set_option maxRecDepth 65536 in
theorem w_c1 : (Jvm.Cond.code ({ cls := "com/example/ezra/ezra/Block$Directory", name := "<init>", desc := "([B[I[I[I[I)V" } : Jvm.MethodName) prog_5_method_1_code (6 : Nat) (Option.none : Option Jvm.ClassFile.FieldType)).before args0 about1 = true := code_word (m := ⟨3, 0⟩) (meth := k3m0) (c := k3c0) (by decide +kernel) rfl rfl rfl (by decide +kernel)
set_option maxRecDepth 65536 in
theorem w_c2 : (Jvm.Cond.code ({ cls := "java/lang/Record", name := "<init>", desc := "()V" } : Jvm.MethodName) jdk_30_method_1_code (1 : Nat) (Option.none : Option Jvm.ClassFile.FieldType)).before args0 about1 = true := code_word (m := ⟨2, 0⟩) (meth := k2m0) (c := k2c0) (by decide +kernel) rfl rfl rfl (by decide +kernel)
set_option maxRecDepth 65536 in
theorem w_c3 : (Jvm.Cond.code ({ cls := "java/lang/Object", name := "<init>", desc := "()V" } : Jvm.MethodName) object_method_1_code (1 : Nat) (Option.none : Option Jvm.ClassFile.FieldType)).before args0 about1 = true := code_word (m := ⟨0, 0⟩) (meth := k0m0) (c := k0c0) (by decide +kernel) rfl rfl rfl (by decide +kernel)
set_option maxRecDepth 65536 in
theorem w_c4 : (Jvm.Cond.code ({ cls := "com/example/ezra/ezra/Block$Directory", name := "bitmap", desc := "(I)Z" } : Jvm.MethodName) prog_5_method_7_code (2 : Nat) (Option.some Jvm.ClassFile.FieldType.boolean)).before args0 about1 = true := code_word (m := ⟨3, 1⟩) (meth := k3m1) (c := k3c1) (by decide +kernel) rfl rfl rfl (by decide +kernel)
def codes1 : List Jvm.Cond := [Jvm.Cond.code x code maxLocals ret, Jvm.Cond.code ({ cls := "com/example/ezra/ezra/Block$Directory", name := "<init>", desc := "([B[I[I[I[I)V" } : Jvm.MethodName) prog_5_method_1_code (6 : Nat) (Option.none : Option Jvm.ClassFile.FieldType), Jvm.Cond.code ({ cls := "java/lang/Record", name := "<init>", desc := "()V" } : Jvm.MethodName) jdk_30_method_1_code (1 : Nat) (Option.none : Option Jvm.ClassFile.FieldType), Jvm.Cond.code ({ cls := "java/lang/Object", name := "<init>", desc := "()V" } : Jvm.MethodName) object_method_1_code (1 : Nat) (Option.none : Option Jvm.ClassFile.FieldType), Jvm.Cond.code ({ cls := "com/example/ezra/ezra/Block$Directory", name := "bitmap", desc := "(I)Z" } : Jvm.MethodName) prog_5_method_7_code (2 : Nat) (Option.some Jvm.ClassFile.FieldType.boolean)]
set_option maxRecDepth 65536 in
theorem codes_eq : words1.filter isCode = codes1 := rfl
theorem w_codes : ∀ c ∈ words1.filter isCode, c.before args0 about1 = true := by
  rw [codes_eq]
  intro c hc
  simp only [codes1, List.mem_cons, List.not_mem_nil, or_false] at hc
  rcases hc with rfl | rfl | rfl | rfl | rfl
  · exact w_c0
  · exact w_c1
  · exact w_c2
  · exact w_c3
  · exact w_c4
set_option maxRecDepth 65536 in
theorem w_t1 : (words1.take 24).all (fun c => isCode c || c.before args0 about1) = true := by decide +kernel
set_option maxRecDepth 65536 in
theorem w_t2 : (words1.drop 24).all (fun c => isCode c || c.before args0 about1) = true := by decide +kernel
theorem w_tables : (allAtoms (Jvm.Cond.code x code maxLocals ret :: tables_1)).before args0 about1 = true := by
  rw [allAtoms_all]
  show words1.all (fun c => c.before args0 about1) = true
  refine all_split ?_ w_codes
  rw [← List.take_append_drop 24 words1, List.all_append, w_t1, w_t2]
  rfl
set_option maxRecDepth 65536 in
theorem w_case : (Jvm.Cond.and given_1 narrow_1).before args0 about1 = true := by decide +kernel
theorem w_applies : (headSpec (Jvm.Cond.code x code maxLocals ret :: tables_1) room_1).applies x e0.platform about1 = true :=
  (Spec.applies_iff w_frames).mpr ⟨w_running, w_runnable, w_alone, w_named, w_hears, w_ripe, w_room, w_tables⟩
theorem atStart : AtStart classFile x code maxLocals ret World_1 tables_1 room_1 Calls_1 rest_1 Pre_1 launch0 p0 e0 about1 theMethod args0 below0 :=
  ⟨lists_1, trivial, launch0.admits_env _ _ _, launch0.least_env, fairChoices_fair.cas, fairChoices_fair.clock, w_frames, w_args, w_heap, w_applies, trivial, trivial, w_case⟩
end start1
theorem witness_1 : WitnessClaimed_1 := ⟨start1.p0, start1.e0, start1.about1, start1.theMethod, start1.args0, start1.below0, start1.atStart⟩
end Jvm.Pilot.@@N@@
