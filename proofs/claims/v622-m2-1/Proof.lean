import JvmDerived
import JvmDerived.Pilot.@@N@@Statement
import JvmDerived.Pilot.@@N@@Code
set_option linter.unusedVariables false
set_option linter.unusedSimpArgs false
namespace Jvm.Pilot.@@N@@
open Jvm Jvm.ClassFile Sem Op Lib Jvm.Free Jvm.Stand Jvm.LawKit Jvm.RoadKit Bundle Jvm.Pilot.@@N@@.Jvm.D
section OwnKit
variable {p : Program} {l : Launch} {e : Env} {R : Room} {s : State} {m : MethodId} {args : Array Value} {below : List Frame} {meth : Method} {c : Code} {T : State} {locs : List Loc} {cells slots : Nat} {Z : State} {h h' : Heap} {a b : Addr} {ty : FieldType} {n : Nat} {f f' : Nat → Value} {sl : Nat} {v : Value} {ws : List Addr}
theorem own_dia {t : State} {B F : JFrame} (hh : Steps p.tables e below (T.setTop F) t → Steps p.tables e below (T.setTop B) t) (k : Steps p.tables e below (T.setTop F) t) : Steps p.tables e below (T.setTop B) t := hh k
/-- the place j lies in an array of n places -/
abbrev own_in (j : Int32) (n : Nat) : Prop := 0 ≤ j.toInt ∧ j.toInt < n
theorem own_in_nat {j : Int32} (hj : own_in j n) : j.toNatClampNeg < n := by simp only [Int32.toNatClampNeg]; omega
theorem own_in_arr {cl : Cell} {j : Int32} (hs : cl.slots.size = n) (hj : own_in j n) : ¬ (j < 0 ∨ cl.slots.size ≤ j.toNatClampNeg) := by
  have := own_in_nat hj
  have k0 : (0 : Int32).toInt = 0 := by decide
  rw [Int32.lt_iff_toInt_lt, hs, k0]; omega
/-- an array: its kind, its length, and what each place holds -/
def AF (Z : State) (h : Heap) (a : Addr) (ty : FieldType) (n : Nat) (f : Nat → Value) : Prop := ∃ c : Cell, Arr Z h a c ty ∧ c.slots.size = n ∧ n < 2147483648 ∧ ∀ j, j < n → c.slots[j]? = some (f j)
theorem AF.lt (F : AF Z h a ty n f) : a < h.size := by obtain ⟨c, A, -⟩ := F; exact A.lt
theorem AF.small (F : AF Z h a ty n f) : n < 2147483648 := by obtain ⟨c, -, -, q, -⟩ := F; exact q
theorem AF.ext (F : AF Z h a ty n f) (E : Ext h h') : AF Z h' a ty n f := by obtain ⟨c, A, r⟩ := F; exact ⟨c, A.ext E, r⟩
theorem AF.other (F : AF Z h b ty n f) (W : Wr h h' a sl v) (q : b ≠ a) : AF Z h' b ty n f := by obtain ⟨c, A, r⟩ := F; exact ⟨c, A.other W q, r⟩
theorem AF.keep (F : AF Z h a ty n f) (K : Keep h h' ws) (q : a ∉ ws) : AF Z h' a ty n f := by obtain ⟨c, A, r⟩ := F; exact ⟨c, ⟨K.2.1 a c A.1 q, A.2⟩, r⟩
theorem AF.cong (F : AF Z h a ty n f) (q : ∀ j, j < n → f j = f' j) : AF Z h a ty n f' := by obtain ⟨c, A, r1, r2, r3⟩ := F; exact ⟨c, A, r1, r2, fun j hj => by rw [← q j hj]; exact r3 j hj⟩
theorem AF.new {k : ClassId} {z : Int32} (A : Arr Z h a (newA k ty z) ty) (q : ¬ z < 0) : AF Z h a ty z.toNatClampNeg (fun _ => defaultValue ty) := ⟨_, A, sz_new _ _ _, (back32 q).2, fun j hj => by simp [newA, hj]⟩
theorem AF.set (F : AF Z h a ty n f) {k : Nat} (W : Wr h h' a k v) : AF Z h' a ty n (fun i => if i = k then v else f i) := by
  obtain ⟨c, A, r1, r2, r3⟩ := F
  refine ⟨_, Arr.same W A, by rw [sz_set]; exact r1, r2, fun j hj => ?_⟩
  obtain ⟨cell, h1, -, h3, -⟩ := W
  cases h1.symm.trans A.1
  by_cases q : j = k
  · subst q; simp [Cell.setSlot, h3]
  · have q' : ¬ k = j := fun z => q z.symm
    simp only [Cell.setSlot, Array.getElem?_setIfInBounds, if_neg q, if_neg q']; exact r3 j hj
theorem own_updI {g fN : Nat → Int32} {x : Int32} {J k : Nat} (hk : k = J) (hf : fN = fun i => if i = J then x else g i) : ∀ j, j < n → (if j = k then Value.int x else Value.int (g j)) = Value.int (fN j) := by
  subst hk hf; intro j _; by_cases q : j = k <;> simp [q]
theorem own_updJ {g fN : Nat → Int64} {x : Int64} {J k : Nat} (hk : k = J) (hf : fN = fun i => if i = J then x else g i) : ∀ j, j < n → (if j = k then Value.long x else Value.long (g j)) = Value.long (fN j) := by
  subst hk hf; intro j _; by_cases q : j = k <;> simp [q]
theorem AF.ldI (X : Stand p l e R s m args below meth c T locs cells slots) (hx : p.tables.exec = Jvm.exec) (hZ : Z.Warmed39 s.vm) (eT : T.heap = h) {f : Nat → Int32} (A : AF Z h a .int n (fun j => .int (f j))) {j : Int32} (hj : own_in j n) {g : JFrame} (hg : g.method = m) {rest : List Value} (hs : g.stack = .int j :: .ref a :: rest) (hd : decode c.code g.pc = .ok (.iaload, 1)) (target : State)
    (k : Steps p.tables e below (T.setTop { g with pc := g.pc + 1, stack := .int (f j.toNatClampNeg) :: rest }) target) : Steps p.tables e below (T.setTop g) target := by
  obtain ⟨cl, A, r1, r2, r3⟩ := A
  exact X.iaload hx (j := j) (v := .int (f j.toNatClampNeg)) (by rw [eT]; exact A.1) (State.isArrayOf_alike hZ.alike A.2.1) A.2.2 (own_in_arr r1 hj) (r3 _ (own_in_nat hj)) hg hs hd _ k
theorem AF.ldJ (X : Stand p l e R s m args below meth c T locs cells slots) (hx : p.tables.exec = Jvm.exec) (hZ : Z.Warmed39 s.vm) (eT : T.heap = h) {f : Nat → Int64} (A : AF Z h a .long n (fun j => .long (f j))) {j : Int32} (hj : own_in j n) {g : JFrame} (hg : g.method = m) {rest : List Value} (hs : g.stack = .int j :: .ref a :: rest) (hd : decode c.code g.pc = .ok (.laload, 1)) (target : State)
    (k : Steps p.tables e below (T.setTop { g with pc := g.pc + 1, stack := .long (f j.toNatClampNeg) :: rest }) target) : Steps p.tables e below (T.setTop g) target := by
  obtain ⟨cl, A, r1, r2, r3⟩ := A
  exact X.laload hx (j := j) (v := .long (f j.toNatClampNeg)) (by rw [eT]; exact A.1) (State.isArrayOf_alike hZ.alike A.2.1) A.2.2 (own_in_arr r1 hj) (r3 _ (own_in_nat hj)) hg hs hd _ k
theorem AF.ldB (X : Stand p l e R s m args below meth c T locs cells slots) (hx : p.tables.exec = Jvm.exec) (hZ : Z.Warmed39 s.vm) (eT : T.heap = h) {f : Nat → Int32} (A : AF Z h a .byte n (fun j => .int (f j))) {j : Int32} (hj : own_in j n) {g : JFrame} (hg : g.method = m) {rest : List Value} (hs : g.stack = .int j :: .ref a :: rest) (hd : decode c.code g.pc = .ok (.baload, 1)) (target : State)
    (k : Steps p.tables e below (T.setTop { g with pc := g.pc + 1, stack := .int (f j.toNatClampNeg) :: rest }) target) : Steps p.tables e below (T.setTop g) target := by
  obtain ⟨cl, A, r1, r2, r3⟩ := A
  exact X.baloadBytes hx (j := j) (v := .int (f j.toNatClampNeg)) (by rw [eT]; exact A.1) (State.isArrayOf_alike hZ.alike A.2.1) A.2.2 (own_in_arr r1 hj) (r3 _ (own_in_nat hj)) hg hs hd _ k
theorem AF.len (X : Stand p l e R s m args below meth c T locs cells slots) (hx : p.tables.exec = Jvm.exec) (hZ : Z.Warmed39 s.vm) (eT : T.heap = h) (A : AF Z h a ty n f) {g : JFrame} (hg : g.method = m) {rest : List Value} (hs : g.stack = .ref a :: rest) (hd : decode c.code g.pc = .ok (.arraylength, 1)) (target : State)
    (k : Steps p.tables e below (T.setTop { g with pc := g.pc + 1, stack := .int (Int32.ofNat n) :: rest }) target) : Steps p.tables e below (T.setTop g) target := by
  obtain ⟨cl, A, r1, r2, r3⟩ := A
  subst r1
  exact X.arraylength hx (by rw [eT]; exact A.1) (State.isArrayOf_alike hZ.alike A.2.1) hg hs hd _ k
theorem AF.stI (X : Stand p l e R s m args below meth c T locs cells slots) (hx : p.tables.exec = Jvm.exec) (hZ : Z.Warmed39 s.vm) (eT : T.heap = h) (A : AF Z h a .int n f) {j x : Int32} (hj : own_in j n) {g : JFrame} (hg : g.method = m) {rest : List Value} (hs : g.stack = .int x :: .int j :: .ref a :: rest) (hd : decode c.code g.pc = .ok (.iastore, 1)) :
    ∃ T' h', Stand p l e R s m args below meth c T' (locs ++ [⟨a, j.toNatClampNeg⟩]) cells slots ∧ T'.heap = h' ∧ Wr h h' a j.toNatClampNeg (.int x) ∧ AF Z h' a .int n (fun i => if i = j.toNatClampNeg then .int x else f i) ∧ ∀ target, Steps p.tables e below (T'.setTop { g with pc := g.pc + 1, stack := rest }) target → Steps p.tables e below (T.setTop g) target := by
  have A0 := A
  obtain ⟨cl, A, r1, r2, r3⟩ := A
  obtain ⟨T', h', X', e', W, st⟩ := Jvm.RoadKit.stI X hx hZ eT A (j := j) (own_in_arr r1 hj) hg hs hd
  exact ⟨T', h', X', e', W, A0.set W, st⟩
theorem AF.stJ (X : Stand p l e R s m args below meth c T locs cells slots) (hx : p.tables.exec = Jvm.exec) (hZ : Z.Warmed39 s.vm) (eT : T.heap = h) (A : AF Z h a .long n f) {j : Int32} {x : Int64} (hj : own_in j n) {g : JFrame} (hg : g.method = m) {rest : List Value} (hs : g.stack = .long x :: .int j :: .ref a :: rest) (hd : decode c.code g.pc = .ok (.lastore, 1)) :
    ∃ T' h', Stand p l e R s m args below meth c T' (locs ++ [⟨a, j.toNatClampNeg⟩]) cells slots ∧ T'.heap = h' ∧ Wr h h' a j.toNatClampNeg (.long x) ∧ AF Z h' a .long n (fun i => if i = j.toNatClampNeg then .long x else f i) ∧ ∀ target, Steps p.tables e below (T'.setTop { g with pc := g.pc + 1, stack := rest }) target → Steps p.tables e below (T.setTop g) target := by
  have A0 := A
  obtain ⟨cl, A, r1, r2, r3⟩ := A
  obtain ⟨T', h', X', e', W, st⟩ := Jvm.RoadKit.stJ X hx hZ eT A (j := j) (own_in_arr r1 hj) hg hs hd
  exact ⟨T', h', X', e', W, A0.set W, st⟩
theorem AF.stB (X : Stand p l e R s m args below meth c T locs cells slots) (hx : p.tables.exec = Jvm.exec) (hZ : Z.Warmed39 s.vm) (eT : T.heap = h) (A : AF Z h a .byte n f) {j x : Int32} (hj : own_in j n) {g : JFrame} (hg : g.method = m) {rest : List Value} (hs : g.stack = .int x :: .int j :: .ref a :: rest) (hd : decode c.code g.pc = .ok (.bastore, 1)) :
    ∃ T' h', Stand p l e R s m args below meth c T' (locs ++ [⟨a, j.toNatClampNeg⟩]) cells slots ∧ T'.heap = h' ∧ Wr h h' a j.toNatClampNeg (.int x.toInt8.toInt32) ∧ AF Z h' a .byte n (fun i => if i = j.toNatClampNeg then .int x.toInt8.toInt32 else f i) ∧ ∀ target, Steps p.tables e below (T'.setTop { g with pc := g.pc + 1, stack := rest }) target → Steps p.tables e below (T.setTop g) target := by
  have A0 := A
  obtain ⟨cl, A, r1, r2, r3⟩ := A
  obtain ⟨T', h', X', e', W, st⟩ := Jvm.RoadKit.stB X hx hZ eT A (j := j) (own_in_arr r1 hj) hg hs hd
  exact ⟨T', h', X', e', W, A0.set W, st⟩
theorem own_cpyI {f g fN : Nat → Int32} {k : Nat} (hf : fN = fun j => if j < k then f j else g j) : ∀ j, j < n → (if j < k then Value.int (f j) else Value.int (g j)) = Value.int (fN j) := by
  subst hf; intro j _; by_cases q : j < k <;> simp [q]
theorem own_cpyJ {f g fN : Nat → Int64} {k : Nat} (hf : fN = fun j => if j < k then f j else g j) : ∀ j, j < n → (if j < k then Value.long (f j) else Value.long (g j)) = Value.long (fN j) := by
  subst hf; intro j _; by_cases q : j < k <;> simp [q]
theorem own_acW {own : String} {index : Nat} (h1 : (Jvm.Cond.methodLink own index Jvm.Stand.acN).before args s = true) (h2 : (Jvm.Cond.native Jvm.Stand.acN).before args s = true) (h3 : (Jvm.Cond.static Jvm.Stand.acN).before args s = true) (h4 : (Jvm.Cond.initialized "java/lang/System").before args s = true) : ∀ w ∈ Jvm.Free.XT.acW own index, w.before args s = true := by
  intro w hw
  change w ∈ [Jvm.Cond.methodLink own index Jvm.Stand.acN, Jvm.Cond.native Jvm.Stand.acN, Jvm.Cond.static Jvm.Stand.acN, Jvm.Cond.initialized "java/lang/System"] at hw
  simp only [List.mem_cons, List.not_mem_nil, or_false] at hw
  rcases hw with rfl | rfl | rfl | rfl
  · exact h1
  · exact h2
  · exact h3
  · exact h4
theorem own_isArr {c c' : Cell} (q : Z.isArrayOf c ty) (h1 : c'.cls = c.cls) (h2 : c'.vm = c.vm) : Z.isArrayOf c' ty := by
  obtain ⟨q1, k, q2, q3⟩ := q
  exact ⟨by rw [h2]; exact q1, k, by rw [h1]; exact q2, q3⟩
theorem AF.copy (X : Stand p l e R s m args below meth c T locs cells slots) (hx : p.tables.exec = Jvm.exec) (hZ : Z.Warmed39 s.vm) {own : String} {index : Nat} (hown : s.vm.findClass own = some m.cls) (hw : ∀ w ∈ Jvm.Free.XT.acW own index, w.before args s = true)
    (eT : T.heap = h) {k : Nat} {f' : Nat → Value} (A : AF Z h a ty n f) (B : AF Z h b ty k f') (hp : ty.isReference = false) {cnt : Nat} (hfit : ∀ j, j < cnt → fits ty (f j) = true) (h1 : cnt ≤ n) (h2 : cnt ≤ k) {jn : Int32} (hn : jn = Int32.ofNat cnt)
    {g : JFrame} (hg : g.method = m) (hsize : g.locals.size = c.maxLocals) {rest : List Value} (hs : g.stack = .int jn :: .int 0 :: .ref b :: .int 0 :: .ref a :: rest) (hd : decode c.code g.pc = .ok (.invokestatic index, 3))
    {W : Nat} (hW : 2 * g.monitorRoom + (rest.map fun v => v.category).sum ≤ W) (hfr : 1 ≤ R.frames) (hlo : W + 40 ≤ R.locals) :
    ∃ (T' : State) (h' : Heap) (L' : List Loc), Stand p l e R s m args below meth c T' (locs ++ L') cells slots ∧ T'.heap = h' ∧ (∀ y ∈ L', y.base = b) ∧ Keep h h' [b] ∧ AF Z h' b ty k (fun j => if j < cnt then f j else f' j) ∧
      ∀ target, Steps p.tables e below (T'.setTop { g with pc := g.pc + 3, stack := rest }) target → Steps p.tables e below (T.setTop g) target := by
  obtain ⟨ca, A, a1, a2, a3⟩ := A
  obtain ⟨cb, B, b1, b2, b3⟩ := B
  have tA : Jvm.Free.XT.Arr ty a ca T := ⟨by rw [eT]; exact A.1, State.isArrayOf_alike X.warmed.alike (State.isArrayOf_alike hZ.alike A.2.1), A.2.2, by omega⟩
  have tB : Jvm.Free.XT.Arr ty b cb T := ⟨by rw [eT]; exact B.1, State.isArrayOf_alike X.warmed.alike (State.isArrayOf_alike hZ.alike B.2.1), B.2.2, by omega⟩
  have ga : ∀ j, j < n → ca.slots.getD j .null = f j := fun j hj => by
    have q := a3 j hj
    rw [Array.getD_eq_getD_getElem?, q]; rfl
  obtain ⟨T', B', X', P, q1, q2, q3, q4, st⟩ := X.acopy hx (o := 0) (q := 0) (n := cnt) (jo := 0) (jq := 0) hown hw tA tB (by simp) rfl rfl hn (by omega) (by omega)
    (fun i hi => ⟨by rw [Nat.zero_add, ga i (by omega)]; exact hfit i hi, fun z => by rw [hp] at z; cases z⟩) hg hsize hs hd hW hfr hlo
  refine ⟨T', _, _, X', rfl, fun y hy => ?_, ⟨by rw [P.2.2, eT]; exact Nat.le_refl _, fun x cx hx' hn' => ?_, fun x cx hx' => ?_⟩, ⟨B', ⟨P.1, own_isArr B.2.1 q1 q2, by rw [q2]; exact B.2.2⟩, q3.trans b1, b2, fun j hj => ?_⟩, st⟩
  · simp only [copyLocs, List.mem_map] at hy
    obtain ⟨i, -, rfl⟩ := hy
    rfl
  · rw [P.2.1 x (fun z => hn' (by simp [z])), eT]; exact hx'
  · by_cases z : x = b
    · subst z
      cases hx'.symm.trans B.1
      exact ⟨B', P.1, q1, q2, q3⟩
    · exact ⟨cx, by rw [P.2.1 x z, eT]; exact hx', rfl, rfl, rfl⟩
  · show _ = some (if j < cnt then f j else f' j)
    rw [q4 j]
    by_cases z : j < cnt
    · rw [if_pos (by omega), if_pos z]
      have : 0 + (j - 0) = j := by omega
      rw [this, ga j (by omega)]
    · rw [if_neg (by omega), if_neg z]; exact b3 j hj
theorem own_nb (x : Int32) : nar .boolean x = x &&& 1 := rfl
theorem own_nar1 : nar .boolean 1 = 1 := rfl
theorem own_nar0 : nar .boolean 0 = 0 := rfl
theorem own_nbyte (x : Int32) : nar .byte x = x.toInt8.toInt32 := rfl
theorem own_nar_ite (q : Prop) [Decidable q] (x y : Int32) : nar .boolean (if q then x else y) = if q then nar .boolean x else nar .boolean y := by split <;> rfl
theorem own_pos_ne {x : Int64} (q : 0 < x) : x ≠ 0 := fun z => by subst z; exact absurd q (by decide)
theorem own_cat {w : Value} (q : w.isRef = true) : w.category = 1 := by cases w <;> first | rfl | (simp [Value.isRef] at q)
/-- a static field that holds v, in a heap that keeps all that was old at the start -/
def SO (Z : State) (n0 : Nat) (h : Heap) (C n d : String) (v : Value) : Prop := Sta Z Z.heap C n d v ∧ Old Z n0 h
theorem SO.ext {n0 : Nat} {C nm d : String} (F : SO Z n0 h C nm d v) (E : Ext h h') : SO Z n0 h' C nm d v := ⟨F.1, F.2.ext E⟩
theorem SO.wr {n0 : Nat} {C nm d : String} {w : Value} (F : SO Z n0 h C nm d v) (W : Wr h h' a sl w) (q : n0 ≤ a) : SO Z n0 h' C nm d v := ⟨F.1, F.2.wr W q⟩
theorem SO.keep {n0 : Nat} {C nm d : String} (F : SO Z n0 h C nm d v) (K : Keep h h' ws) (q : ∀ x ∈ ws, n0 ≤ x) : SO Z n0 h' C nm d v := ⟨F.1, F.2.keep K q⟩
theorem SO.sta {n0 : Nat} {C nm d : String} (F : SO Z n0 h C nm d v) : Sta Z h C nm d v := F.1.ext F.2.2
theorem own_selp {y : MethodName} {n : Nat} (wi : (Jvm.Cond.instantiable y.cls n).before args s = true) (hpriv : s.PrivateAt y) (hinst : (Jvm.Cond.instanceMethod y).before args s = true) (hy : y.cls ≠ "java/lang/invoke/MethodHandle" ∧ y.cls ≠ "java/lang/invoke/VarHandle") : (Jvm.Cond.selects y.cls y y).before args s = true := by
  obtain ⟨c, k, h1, h2, -, h4, -⟩ := Cond.instantiable_spec wi
  exact Jvm.Stand.selects_self_of_private h1 h2 (by simp only [Bool.or_eq_false_iff] at h4; exact h4.1) hpriv hinst hy
end OwnKit

theorem pn_0 : plainName "com/example/tidewheel/tidewheel/store/TopicIndexHandedOutPinLaw" = true := by first | (simp [plainName, overriddenIn]; done) | decide +kernel
theorem d1_0 : decode prog_30_method_1_code 0 = .ok (.aload_n 0, 1) := by decide +kernel
theorem d1_1 : decode prog_30_method_1_code 1 = .ok (.invokespecial 1, 3) := by decide +kernel
theorem d1_4 : decode prog_30_method_1_code 4 = .ok (.aload_n 0, 1) := by decide +kernel
theorem d1_5 : decode prog_30_method_1_code 5 = .ok (.bipush 8, 2) := by decide +kernel
theorem d1_7 : decode prog_30_method_1_code 7 = .ok (.newarray .long, 2) := by decide +kernel
theorem d1_9 : decode prog_30_method_1_code 9 = .ok (.putfield 7, 3) := by decide +kernel
theorem d1_12 : decode prog_30_method_1_code 12 = .ok (.aload_n 0, 1) := by decide +kernel
theorem d1_13 : decode prog_30_method_1_code 13 = .ok (.bipush 8, 2) := by decide +kernel
theorem d1_15 : decode prog_30_method_1_code 15 = .ok (.newarray .long, 2) := by decide +kernel
theorem d1_17 : decode prog_30_method_1_code 17 = .ok (.putfield 13, 3) := by decide +kernel
theorem d1_20 : decode prog_30_method_1_code 20 = .ok (.aload_n 0, 1) := by decide +kernel
theorem d1_21 : decode prog_30_method_1_code 21 = .ok (.new 16, 3) := by decide +kernel
theorem d1_24 : decode prog_30_method_1_code 24 = .ok (.dup, 1) := by decide +kernel
theorem d1_25 : decode prog_30_method_1_code 25 = .ok (.invokespecial 18, 3) := by decide +kernel
theorem d1_28 : decode prog_30_method_1_code 28 = .ok (.putfield 19, 3) := by decide +kernel
theorem d1_31 : decode prog_30_method_1_code 31 = .ok (.aload_n 0, 1) := by decide +kernel
theorem d1_32 : decode prog_30_method_1_code 32 = .ok (.ldc2_w 25, 3) := by decide +kernel
theorem d1_35 : decode prog_30_method_1_code 35 = .ok (.putfield 27, 3) := by decide +kernel
theorem d1_38 : decode prog_30_method_1_code 38 = .ok (.aload_n 0, 1) := by decide +kernel
theorem d1_39 : decode prog_30_method_1_code 39 = .ok (.ldc2_w 25, 3) := by decide +kernel
theorem d1_42 : decode prog_30_method_1_code 42 = .ok (.putfield 31, 3) := by decide +kernel
theorem d1_45 : decode prog_30_method_1_code 45 = .ok (.return_, 1) := by decide +kernel
theorem pn_1 : plainName "com/example/tidewheel/tidewheel/store/TopicIndex" = true := by first | (simp [plainName, overriddenIn]; done) | decide +kernel
theorem d3_0 : decode jdk_21_method_3_code 0 = .ok (.aload_n 0, 1) := by decide +kernel
theorem d3_1 : decode jdk_21_method_3_code 1 = .ok (.invokespecial 42, 3) := by decide +kernel
theorem d3_4 : decode jdk_21_method_3_code 4 = .ok (.aload_n 0, 1) := by decide +kernel
theorem d3_5 : decode jdk_21_method_3_code 5 = .ok (.bipush 17, 2) := by decide +kernel
theorem d3_7 : decode jdk_21_method_3_code 7 = .ok (.anewarray 47, 3) := by decide +kernel
theorem d3_10 : decode jdk_21_method_3_code 10 = .ok (.putfield 3, 3) := by decide +kernel
theorem d3_13 : decode jdk_21_method_3_code 13 = .ok (.return_, 1) := by decide +kernel
theorem pn_3 : plainName "java/util/ArrayDeque" = true := by first | (simp [plainName, overriddenIn]; done) | decide +kernel
theorem d4_0 : decode jdk_22_method_1_code 0 = .ok (.aload_n 0, 1) := by decide +kernel
theorem d4_1 : decode jdk_22_method_1_code 1 = .ok (.invokespecial 1, 3) := by decide +kernel
theorem d4_4 : decode jdk_22_method_1_code 4 = .ok (.return_, 1) := by decide +kernel
theorem pn_4 : plainName "java/util/AbstractCollection" = true := by first | (simp [plainName, overriddenIn]; done) | decide +kernel
theorem d5_0 : decode prog_30_method_8_code 0 = .ok (.aload_n 0, 1) := by decide +kernel
theorem d5_1 : decode prog_30_method_8_code 1 = .ok (.getfield 31, 3) := by decide +kernel
theorem d5_4 : decode prog_30_method_8_code 4 = .ok (.lreturn, 1) := by decide +kernel
theorem pn_5 : plainName "com/example/tidewheel/tidewheel/store/TopicIndex" = true := by first | (simp [plainName, overriddenIn]; done) | decide +kernel
theorem d6_0 : decode prog_30_method_9_code 0 = .ok (.aload_n 0, 1) := by decide +kernel
theorem d6_1 : decode prog_30_method_9_code 1 = .ok (.aload_n 0, 1) := by decide +kernel
theorem d6_2 : decode prog_30_method_9_code 2 = .ok (.getfield 31, 3) := by decide +kernel
theorem d6_5 : decode prog_30_method_9_code 5 = .ok (.lload_n 1, 1) := by decide +kernel
theorem d6_6 : decode prog_30_method_9_code 6 = .ok (.invokestatic 112, 3) := by decide +kernel
theorem d6_9 : decode prog_30_method_9_code 9 = .ok (.putfield 31, 3) := by decide +kernel
theorem d6_12 : decode prog_30_method_9_code 12 = .ok (.return_, 1) := by decide +kernel
theorem pn_6 : plainName "com/example/tidewheel/tidewheel/store/TopicIndex" = true := by first | (simp [plainName, overriddenIn]; done) | decide +kernel
theorem d7_0 : decode jdk_29_method_66_code 0 = .ok (.lload_n 0, 1) := by decide +kernel
theorem d7_1 : decode jdk_29_method_66_code 1 = .ok (.lload_n 2, 1) := by decide +kernel
theorem d7_2 : decode jdk_29_method_66_code 2 = .ok (.lcmp, 1) := by decide +kernel
theorem d7_3 : decode jdk_29_method_66_code 3 = .ok (.ifCond .lt 7, 3) := by decide +kernel
theorem d7_6 : decode jdk_29_method_66_code 6 = .ok (.lload_n 0, 1) := by decide +kernel
theorem d7_7 : decode jdk_29_method_66_code 7 = .ok (.goto 4, 3) := by decide +kernel
theorem d7_10 : decode jdk_29_method_66_code 10 = .ok (.lload_n 2, 1) := by decide +kernel
theorem d7_11 : decode jdk_29_method_66_code 11 = .ok (.lreturn, 1) := by decide +kernel
theorem d8_0 : decode prog_30_method_2_code 0 = .ok (.aload_n 0, 1) := by decide +kernel
theorem d8_1 : decode prog_30_method_2_code 1 = .ok (.getfield 34, 3) := by decide +kernel
theorem d8_4 : decode prog_30_method_2_code 4 = .ok (.ireturn, 1) := by decide +kernel
theorem pn_8 : plainName "com/example/tidewheel/tidewheel/store/TopicIndex" = true := by first | (simp [plainName, overriddenIn]; done) | decide +kernel
theorem d9_0 : decode prog_30_method_7_code 0 = .ok (.aload_n 0, 1) := by decide +kernel
theorem d9_1 : decode prog_30_method_7_code 1 = .ok (.getfield 27, 3) := by decide +kernel
theorem d9_4 : decode prog_30_method_7_code 4 = .ok (.lreturn, 1) := by decide +kernel
theorem pn_9 : plainName "com/example/tidewheel/tidewheel/store/TopicIndex" = true := by first | (simp [plainName, overriddenIn]; done) | decide +kernel
theorem pd_0 : parseMethodDescriptor "()V" = some ⟨[], none⟩ := by decide +kernel
theorem pd_3 : parseMethodDescriptor "(JJ)J" = some ⟨[.long, .long], some .long⟩ := by decide +kernel
theorem pd_1 : parseMethodDescriptor "()J" = some ⟨[], some .long⟩ := by decide +kernel
theorem pd_2 : parseMethodDescriptor "(J)V" = some ⟨[.long], none⟩ := by decide +kernel
theorem pd_4 : parseMethodDescriptor "()I" = some ⟨[], some .int⟩ := by decide +kernel

theorem own_min (q : Int64) : (if (-9223372036854775808 : Int64) < q then q else (-9223372036854775808 : Int64)) = q := by
  by_cases c : (-9223372036854775808 : Int64) < q
  · rw [if_pos c]
  · rw [if_neg c]
    rw [Int64.lt_iff_toInt_lt] at c
    have k : (-9223372036854775808 : Int64).toInt = -9223372036854775808 := by decide
    have r := rng64 q
    apply Int64.toInt_inj.mp
    omega

theorem ef_4 (m : MethodId) (a0 : Addr) : entryFrame m #[(.ref a0)] 1 = mkF m 0 #[.val (.ref a0)] [] := by first | (simp [entryFrame, mkF, argsToLocals, Value.category]; done) | rfl
def Q4 (Z : State) (a0 : Addr) (h0 : Heap) (n0 : Nat) (v : Option Value) (h : Heap) (L : List Loc) : Prop := v = none ∧ Fr n0 L ∧ h = h0
set_option maxRecDepth 65536 in
set_option maxHeartbeats 40000000 in
theorem rm4 (l : Launch) (Z : State) (A0 : Array Value) (hw : ∀ d ∈ tables_1, d.before A0 Z = true) (ws : List Jvm.Cond) (a0 : Addr) (h0 : Heap) (n0 : Nat) (Z0 : n0 ≤ h0.size) :
    MetFree l (⟨"java/util/AbstractCollection", "<init>", "()V"⟩ : MethodName) (head1 (Jvm.Cond.code (⟨"java/util/AbstractCollection", "<init>", "()V"⟩ : MethodName) jdk_22_method_1_code 1 none :: ws) ({ frames := 1, cells := 0, slots := 0, locals := 12 } : Room)) (fun a U => a = #[(.ref a0)] ∧ Z.Warmed39 U.vm ∧ U.heap = h0) (fun _ _ _ _ _ => True) (fun _ U o U' => ∃ v L, o = .returned v ∧ Q4 Z a0 h0 n0 v U'.heap L ∧ FrameEnd U o U' L ({ frames := 1, cells := 0, slots := 0, locals := 12 } : Room).cells ({ frames := 1, cells := 0, slots := 0, locals := 12 } : Room).slots) := by
  refine MetFree.of_bodySF (plainFor_of_name pn_4) hisR ?_
  intro p e s m args below meth c s₁ Bd hml0 hP hK
  obtain ⟨rfl, hZ, hh⟩ := hP
  have hx := Bd.exec
  have hby := Bd.bytes
  have hml : c.maxLocals = 1 := hml0
  have hown : s.vm.findClass "java/util/AbstractCollection" = some m.cls := findClass_of_methodNamed Bd.named
  have hnm := (name_of_methodNamed Bd.named Bd.method).1
  have X0 : Stand p l e ({ frames := 1, cells := 0, slots := 0, locals := 12 } : Room) s m #[(.ref a0)] below meth c s₁ [] 0 0 := Stand.of_body Bd
  have e0 : s₁.heap = h0 := by rw [← hh, Bd.state]; rfl
  have N0 := Fr.nil n0
  have pre0 : ∀ t, Steps p.tables e below (s₁.setTop (mkF m 0 #[.val (.ref a0)] [])) t → Steps p.tables e below (s₁.setTop (entryFrame m #[(.ref a0)] 1)) t := fun t k => castTop (ef_4 m a0) k
  obtain ⟨T1, X1, e1, st1⟩ := initO X0 hx hZ hown (hw _ (List.mem_of_getElem? (i := 26) rfl)) (hw _ (List.mem_of_getElem? (i := 7) rfl)) (hw _ (List.mem_of_getElem? (i := 8) rfl)) e0 (g := (mkF m 1 #[.val (.ref a0)] [(.ref a0)])) rfl (by rw [hml]; rfl) rfl (hb hby d4_1) (by decide) (W := 0) (by show 2 * 0 + _ ≤ _; exact Nat.le_of_eq rfl) (by decide)
  obtain ⟨fs, hr, hrun, hended, hW, hsame⟩ := X1.leave (v := none) (fun _ => rfl)
  refine ⟨_, _, pre0 _ ?_, hrun, hended, _, _, rfl, ?_, ⟨_, rfl⟩, hW, hsame.mono (by decide) (by decide)⟩
  · show Steps p.tables e below (s₁.setTop (mkF m 0 #[.val (.ref a0)] [])) _
    refine XS.aloadN X0.here hx rfl (hb hby d4_0) rfl rfl ?_
    show Steps p.tables e below (s₁.setTop (mkF m 1 #[.val (.ref a0)] [(.ref a0)])) _
    refine st1 _ ?_
    show Steps p.tables e below (T1.setTop (mkF m 4 #[.val (.ref a0)] [])) _
    exact X1.returnOut hx Bd.returns (hb hby d4_4) hr
  · show Q4 Z a0 h0 n0 _ T1.heap _
    exact ⟨rfl, N0, e1⟩
theorem ef_3 (m : MethodId) (a0 : Addr) : entryFrame m #[(.ref a0)] 1 = mkF m 0 #[.val (.ref a0)] [] := by first | (simp [entryFrame, mkF, argsToLocals, Value.category]; done) | rfl
def Q3 (Z : State) (a0 : Addr) (w_elements_a0 : Value) (h0 : Heap) (n0 : Nat) (v : Option Value) (h : Heap) (L : List Loc) : Prop := ∃ b2 : Addr, v = none ∧ Fr n0 L ∧ Keep h0 h [a0] ∧ h0.size ≤ b2 ∧ Exa Z h a0 "java/util/ArrayDeque" ∧ Fld Z h a0 "java/util/ArrayDeque" "elements" "[Ljava/lang/Object;" (.ref b2) ∧ AF Z h b2 (.object "java/lang/Object") 17 (fun _ => Value.null)
set_option maxRecDepth 65536 in
set_option maxHeartbeats 40000000 in
theorem rm3 (l : Launch) (Z : State) (A0 : Array Value) (hw : ∀ d ∈ tables_1, d.before A0 Z = true) (ws : List Jvm.Cond) (a0 : Addr) (w_elements_a0 : Value) (h0 : Heap) (n0 : Nat) (Z0 : n0 ≤ h0.size) (E_a0 : Exa Z h0 a0 "java/util/ArrayDeque") (F_elements_a0 : Fld Z h0 a0 "java/util/ArrayDeque" "elements" "[Ljava/lang/Object;" w_elements_a0) (nw_a0 : n0 ≤ a0) :
    MetFree l (⟨"java/util/ArrayDeque", "<init>", "()V"⟩ : MethodName) (head1 (Jvm.Cond.code (⟨"java/util/ArrayDeque", "<init>", "()V"⟩ : MethodName) jdk_21_method_3_code 1 none :: ws) ({ frames := 2, cells := 1, slots := 17, locals := 24 } : Room)) (fun a U => a = #[(.ref a0)] ∧ Z.Warmed39 U.vm ∧ U.heap = h0) (fun _ _ _ _ _ => True) (fun _ U o U' => ∃ v L, o = .returned v ∧ Q3 Z a0 w_elements_a0 h0 n0 v U'.heap L ∧ FrameEnd U o U' L ({ frames := 2, cells := 1, slots := 17, locals := 24 } : Room).cells ({ frames := 2, cells := 1, slots := 17, locals := 24 } : Room).slots) := by
  refine MetFree.of_bodySF (plainFor_of_name pn_3) hisR ?_
  intro p e s m args below meth c s₁ Bd hml0 hP hK
  obtain ⟨rfl, hZ, hh⟩ := hP
  have hx := Bd.exec
  have hby := Bd.bytes
  have hml : c.maxLocals = 1 := hml0
  have hown : s.vm.findClass "java/util/ArrayDeque" = some m.cls := findClass_of_methodNamed Bd.named
  have hnm := (name_of_methodNamed Bd.named Bd.method).1
  have X0 : Stand p l e ({ frames := 2, cells := 1, slots := 17, locals := 24 } : Room) s m #[(.ref a0)] below meth c s₁ [] 0 0 := Stand.of_body Bd
  have e0 : s₁.heap = h0 := by rw [← hh, Bd.state]; rfl
  have N0 := Fr.nil n0
  have pre0 : ∀ t, Steps p.tables e below (s₁.setTop (mkF m 0 #[.val (.ref a0)] [])) t → Steps p.tables e below (s₁.setTop (entryFrame m #[(.ref a0)] 1)) t := fun t k => castTop (ef_3 m a0) k
  obtain ⟨_, _, ⟨T1, L1, k1, n1⟩, -, X1, ⟨Lc1, hQ1, l1, y1, z1⟩, st1⟩ := X0.specialBack hx (y := (⟨"java/util/AbstractCollection", "<init>", "()V"⟩ : MethodName)) rfl hown (mvT hZ (hw _ (List.mem_of_getElem? (i := 20) rfl))) (mvT hZ (hw _ (List.mem_of_getElem? (i := 21) rfl))) (mvT hZ (hw _ (List.mem_of_getElem? (i := 25) rfl))) (by decide) (backOf (W := 0) (rm4 l Z A0 hw [] a0 h0 n0 (Nat.le_trans Z0 (Keep.refl h0 [a0]).1) ) hZ (hw _ (List.mem_of_getElem? (i := 25) rfl)) (hw _ (List.mem_of_getElem? (i := 24) rfl)) (by decide) (by decide)) (g := (mkF m 1 #[.val (.ref a0)] [(.ref a0)])) rfl (by rw [hml]; rfl) (Steps.refl _) (a := a0) (argsL := []) (rest := []) (lenOf pd_0 rfl) rfl (by show 2 * 0 + _ ≤ _; exact Nat.le_of_eq rfl) (hb hby d3_1) (fun _ _ => ⟨rfl, e0, (by decide : 0 + 0 ≤ _), (by decide : 0 + 0 ≤ _)⟩)
  dsimp only [Pt.U, Pt.locs, Pt.cells, Pt.slots] at X1 l1 y1 z1 st1 hQ1
  subst l1 y1 z1
  obtain ⟨rfl, N1q, e1⟩ := hQ1
  have N1 := Fr.app N0 N1q
  obtain ⟨T2, h2, k2, X2, e2, E2, A2, O2, st2⟩ := newR X1 hx hZ hown (hw _ (List.mem_of_getElem? (i := 27) rfl)) (hw _ (List.mem_of_getElem? (i := 28) rfl)) e1 (g := (mkF m 7 #[.val (.ref a0)] [(.int (17 : Int32)), (.ref a0)])) rfl (hb hby d3_7) rfl (by decide) (cap := 17) (by decide) (by decide) (by decide) (by decide)
  obtain ⟨b2, g2⟩ : ∃ z, z = h0.size := ⟨_, rfl⟩
  rw [← g2] at A2 st2
  have ne_a0_b2 : a0 ≠ b2 := Nat.ne_of_lt (Nat.lt_of_lt_of_le E_a0.lt (Nat.le_of_eq g2.symm))
  have nw_b2 : n0 ≤ b2 := Nat.le_trans (Nat.le_trans Z0 (Keep.refl h0 [a0]).1) (Nat.le_of_eq g2.symm)
  have sz_b2 : h0.size ≤ b2 := Nat.le_trans (Keep.refl h0 [a0]).1 (Nat.le_of_eq g2.symm)
  have K2 : Keep h0 h2 [a0] := (Keep.refl h0 [a0]).ext E2
  have V2 : AF Z h2 b2 (.object "java/lang/Object") 17 (fun _ => Value.null) := AF.new A2 (by decide)
  have G3 : Exa Z h2 a0 "java/util/ArrayDeque" := (E_a0.ext E2)
  have G4 : Fld Z h2 a0 "java/util/ArrayDeque" "elements" "[Ljava/lang/Object;" w_elements_a0 := (F_elements_a0.ext E2)
  obtain ⟨T5, h5, X5, e5, W5, st5⟩ := putF X2 hx hZ hown (host := "") (Or.inl (hw _ (List.mem_of_getElem? (i := 29) rfl))) Via.refl e2 G4 G3 (Or.inl (hw _ (List.mem_of_getElem? (i := 30) rfl))) (hw _ (List.mem_of_getElem? (i := 15) rfl)) (ty := (.array (.object "java/lang/Object"))) (by decide) rfl rfl (g := (mkF m 10 #[.val (.ref a0)] [(.ref b2), (.ref a0)])) rfl rfl (hb hby d3_10)
  have K5 : Keep h0 h5 [a0] := K2.wr W5 (Or.inl (by simp))
  have Fw5 : Fld Z h5 a0 "java/util/ArrayDeque" "elements" "[Ljava/lang/Object;" (.ref b2) := G4.same W5
  have N5 := Fr.snoc X5 N1 nw_a0
  obtain ⟨fs, hr, hrun, hended, hW, hsame⟩ := X5.leave (v := none) (fun _ => rfl)
  refine ⟨_, _, pre0 _ ?_, hrun, hended, _, _, rfl, ?_, ⟨_, rfl⟩, hW, hsame.mono (by decide) (by decide)⟩
  · show Steps p.tables e below (s₁.setTop (mkF m 0 #[.val (.ref a0)] [])) _
    refine XS.aloadN X0.here hx rfl (hb hby d3_0) rfl rfl ?_
    show Steps p.tables e below (s₁.setTop (mkF m 1 #[.val (.ref a0)] [(.ref a0)])) _
    refine st1.trans ?_
    show Steps p.tables e below (T1.setTop (mkF m 4 #[.val (.ref a0)] [])) _
    refine XS.aloadN X1.here hx rfl (hb hby d3_4) rfl rfl ?_
    show Steps p.tables e below (T1.setTop (mkF m 5 #[.val (.ref a0)] [(.ref a0)])) _
    refine XS.bipush X1.here hx rfl (hb hby d3_5) ?_
    show Steps p.tables e below (T1.setTop (mkF m 7 #[.val (.ref a0)] [(.int (17 : Int32)), (.ref a0)])) _
    refine st2 _ ?_
    show Steps p.tables e below (T2.setTop (mkF m 10 #[.val (.ref a0)] [(.ref b2), (.ref a0)])) _
    refine st5 _ ?_
    show Steps p.tables e below (T5.setTop (mkF m 13 #[.val (.ref a0)] [])) _
    exact X5.returnOut hx Bd.returns (hb hby d3_13) hr
  have G6 : Exa Z h5 a0 "java/util/ArrayDeque" := (G3.wr W5)
  have G7 : AF Z h5 b2 (.object "java/lang/Object") 17 (fun _ => Value.null) := (V2.other W5 (Ne.symm ne_a0_b2))
  · show Q3 Z a0 w_elements_a0 h0 n0 _ T5.heap _
    rw [e5]
    exact ⟨b2, rfl, N5, K5, sz_b2, G6, Fw5, G7⟩
theorem ef_1 (m : MethodId) (a0 : Addr) : entryFrame m #[(.ref a0)] 1 = mkF m 0 #[.val (.ref a0)] [] := by first | (simp [entryFrame, mkF, argsToLocals, Value.category]; done) | rfl
def Q1 (Z : State) (a0 : Addr) (w_positions_a0 : Value) (w_deliveredAts_a0 : Value) (w_waiting_a0 : Value) (w_lastReadableDueAt_a0 : Int64) (w_latestHandedOutDueAt_a0 : Int64) (w_size_a0 : Int32) (h0 : Heap) (n0 : Nat) (v : Option Value) (h : Heap) (L : List Loc) : Prop := ∃ b2 : Addr, ∃ b6 : Addr, ∃ b12 : Addr, ∃ b16_b2 : Addr, v = none ∧ Fr n0 L ∧ Keep h0 h [a0] ∧ h0.size ≤ b2 ∧ h0.size ≤ b6 ∧ h0.size ≤ b12 ∧ h0.size ≤ b16_b2 ∧ b2 ≠ b6 ∧ b2 ≠ b12 ∧ b2 ≠ b16_b2 ∧ b6 ≠ b12 ∧ b6 ≠ b16_b2 ∧ b12 ≠ b16_b2 ∧ Exa Z h a0 "com/example/tidewheel/tidewheel/store/TopicIndex" ∧ Fld Z h a0 "com/example/tidewheel/tidewheel/store/TopicIndex" "positions" "[J" (.ref b2) ∧ Fld Z h a0 "com/example/tidewheel/tidewheel/store/TopicIndex" "deliveredAts" "[J" (.ref b6) ∧ Fld Z h a0 "com/example/tidewheel/tidewheel/store/TopicIndex" "waiting" "Ljava/util/ArrayDeque;" (.ref b12) ∧ Fld Z h a0 "com/example/tidewheel/tidewheel/store/TopicIndex" "lastReadableDueAt" "J" (.long (-9223372036854775808 : Int64)) ∧ Fld Z h a0 "com/example/tidewheel/tidewheel/store/TopicIndex" "latestHandedOutDueAt" "J" (.long (-9223372036854775808 : Int64)) ∧ Fld Z h a0 "com/example/tidewheel/tidewheel/store/TopicIndex" "size" "I" (.int w_size_a0)
set_option maxRecDepth 65536 in
set_option maxHeartbeats 40000000 in
theorem rm1 (l : Launch) (Z : State) (A0 : Array Value) (hw : ∀ d ∈ tables_1, d.before A0 Z = true) (ws : List Jvm.Cond) (a0 : Addr) (w_positions_a0 : Value) (w_deliveredAts_a0 : Value) (w_waiting_a0 : Value) (w_lastReadableDueAt_a0 : Int64) (w_latestHandedOutDueAt_a0 : Int64) (w_size_a0 : Int32) (h0 : Heap) (n0 : Nat) (Z0 : n0 ≤ h0.size) (E_a0 : Exa Z h0 a0 "com/example/tidewheel/tidewheel/store/TopicIndex") (F_positions_a0 : Fld Z h0 a0 "com/example/tidewheel/tidewheel/store/TopicIndex" "positions" "[J" w_positions_a0) (F_deliveredAts_a0 : Fld Z h0 a0 "com/example/tidewheel/tidewheel/store/TopicIndex" "deliveredAts" "[J" w_deliveredAts_a0) (F_waiting_a0 : Fld Z h0 a0 "com/example/tidewheel/tidewheel/store/TopicIndex" "waiting" "Ljava/util/ArrayDeque;" w_waiting_a0) (F_lastReadableDueAt_a0 : Fld Z h0 a0 "com/example/tidewheel/tidewheel/store/TopicIndex" "lastReadableDueAt" "J" (.long w_lastReadableDueAt_a0)) (F_latestHandedOutDueAt_a0 : Fld Z h0 a0 "com/example/tidewheel/tidewheel/store/TopicIndex" "latestHandedOutDueAt" "J" (.long w_latestHandedOutDueAt_a0)) (F_size_a0 : Fld Z h0 a0 "com/example/tidewheel/tidewheel/store/TopicIndex" "size" "I" (.int w_size_a0)) (nw_a0 : n0 ≤ a0) :
    MetFree l (⟨"com/example/tidewheel/tidewheel/store/TopicIndex", "<init>", "()V"⟩ : MethodName) (head1 (Jvm.Cond.code (⟨"com/example/tidewheel/tidewheel/store/TopicIndex", "<init>", "()V"⟩ : MethodName) prog_30_method_1_code 1 none :: ws) ({ frames := 3, cells := 4, slots := 36, locals := 38 } : Room)) (fun a U => a = #[(.ref a0)] ∧ Z.Warmed39 U.vm ∧ U.heap = h0) (fun _ _ _ _ _ => True) (fun _ U o U' => ∃ v L, o = .returned v ∧ Q1 Z a0 w_positions_a0 w_deliveredAts_a0 w_waiting_a0 w_lastReadableDueAt_a0 w_latestHandedOutDueAt_a0 w_size_a0 h0 n0 v U'.heap L ∧ FrameEnd U o U' L ({ frames := 3, cells := 4, slots := 36, locals := 38 } : Room).cells ({ frames := 3, cells := 4, slots := 36, locals := 38 } : Room).slots) := by
  refine MetFree.of_bodySF (plainFor_of_name pn_1) hisR ?_
  intro p e s m args below meth c s₁ Bd hml0 hP hK
  obtain ⟨rfl, hZ, hh⟩ := hP
  have hx := Bd.exec
  have hby := Bd.bytes
  have hml : c.maxLocals = 1 := hml0
  have hown : s.vm.findClass "com/example/tidewheel/tidewheel/store/TopicIndex" = some m.cls := findClass_of_methodNamed Bd.named
  have hnm := (name_of_methodNamed Bd.named Bd.method).1
  have X0 : Stand p l e ({ frames := 3, cells := 4, slots := 36, locals := 38 } : Room) s m #[(.ref a0)] below meth c s₁ [] 0 0 := Stand.of_body Bd
  have e0 : s₁.heap = h0 := by rw [← hh, Bd.state]; rfl
  have N0 := Fr.nil n0
  have pre0 : ∀ t, Steps p.tables e below (s₁.setTop (mkF m 0 #[.val (.ref a0)] [])) t → Steps p.tables e below (s₁.setTop (entryFrame m #[(.ref a0)] 1)) t := fun t k => castTop (ef_1 m a0) k
  obtain ⟨T1, X1, e1, st1⟩ := initO X0 hx hZ hown (hw _ (List.mem_of_getElem? (i := 6) rfl)) (hw _ (List.mem_of_getElem? (i := 7) rfl)) (hw _ (List.mem_of_getElem? (i := 8) rfl)) e0 (g := (mkF m 1 #[.val (.ref a0)] [(.ref a0)])) rfl (by rw [hml]; rfl) rfl (hb hby d1_1) (by decide) (W := 0) (by show 2 * 0 + _ ≤ _; exact Nat.le_of_eq rfl) (by decide)
  obtain ⟨T2, h2, k2, X2, e2, E2, A2, st2⟩ := newP X1 hx hZ (hw _ (List.mem_of_getElem? (i := 9) rfl)) e1 (g := (mkF m 7 #[.val (.ref a0)] [(.int (8 : Int32)), (.ref a0)])) rfl (hb hby d1_7) rfl (by decide) (cap := 8) (by decide) (by decide) (by decide) (by decide)
  obtain ⟨b2, g2⟩ : ∃ z, z = h0.size := ⟨_, rfl⟩
  rw [← g2] at A2 st2
  have ne_a0_b2 : a0 ≠ b2 := Nat.ne_of_lt (Nat.lt_of_lt_of_le E_a0.lt (Nat.le_of_eq g2.symm))
  have nw_b2 : n0 ≤ b2 := Nat.le_trans (Nat.le_trans Z0 (Keep.refl h0 [a0]).1) (Nat.le_of_eq g2.symm)
  have sz_b2 : h0.size ≤ b2 := Nat.le_trans (Keep.refl h0 [a0]).1 (Nat.le_of_eq g2.symm)
  have K2 : Keep h0 h2 [a0] := (Keep.refl h0 [a0]).ext E2
  have V2 : AF Z h2 b2 .long 8 (fun j => .long ((fun _ => (0 : Int64)) j)) := AF.new A2 (by decide)
  have G3 : Exa Z h2 a0 "com/example/tidewheel/tidewheel/store/TopicIndex" := (E_a0.ext E2)
  have G4 : Fld Z h2 a0 "com/example/tidewheel/tidewheel/store/TopicIndex" "positions" "[J" w_positions_a0 := (F_positions_a0.ext E2)
  obtain ⟨T5, h5, X5, e5, W5, st5⟩ := putF X2 hx hZ hown (host := "") (Or.inl (hw _ (List.mem_of_getElem? (i := 10) rfl))) Via.refl e2 G4 G3 (Or.inl (hw _ (List.mem_of_getElem? (i := 11) rfl))) (hw _ (List.mem_of_getElem? (i := 1) rfl)) (ty := (.array .long)) (by decide) rfl rfl (g := (mkF m 9 #[.val (.ref a0)] [(.ref b2), (.ref a0)])) rfl rfl (hb hby d1_9)
  have K5 : Keep h0 h5 [a0] := K2.wr W5 (Or.inl (by simp))
  have Fw5 : Fld Z h5 a0 "com/example/tidewheel/tidewheel/store/TopicIndex" "positions" "[J" (.ref b2) := G4.same W5
  have N5 := Fr.snoc X5 N0 nw_a0
  obtain ⟨T6, h6, k6, X6, e6, E6, A6, st6⟩ := newP X5 hx hZ (hw _ (List.mem_of_getElem? (i := 9) rfl)) e5 (g := (mkF m 15 #[.val (.ref a0)] [(.int (8 : Int32)), (.ref a0)])) rfl (hb hby d1_15) rfl (by decide) (cap := 8) (by decide) (by decide) (by decide) (by decide)
  obtain ⟨b6, g6⟩ : ∃ z, z = h5.size := ⟨_, rfl⟩
  rw [← g6] at A6 st6
  have G7 : Exa Z h5 a0 "com/example/tidewheel/tidewheel/store/TopicIndex" := (G3.wr W5)
  have ne_a0_b6 : a0 ≠ b6 := Nat.ne_of_lt (Nat.lt_of_lt_of_le G7.lt (Nat.le_of_eq g6.symm))
  have G8 : AF Z h5 b2 .long 8 (fun j => .long ((fun _ => (0 : Int64)) j)) := (V2.other W5 (Ne.symm ne_a0_b2))
  have ne_b2_b6 : b2 ≠ b6 := Nat.ne_of_lt (Nat.lt_of_lt_of_le G8.lt (Nat.le_of_eq g6.symm))
  have nw_b6 : n0 ≤ b6 := Nat.le_trans (Nat.le_trans Z0 K5.1) (Nat.le_of_eq g6.symm)
  have sz_b6 : h0.size ≤ b6 := Nat.le_trans K5.1 (Nat.le_of_eq g6.symm)
  have K6 : Keep h0 h6 [a0] := K5.ext E6
  have V6 : AF Z h6 b6 .long 8 (fun j => .long ((fun _ => (0 : Int64)) j)) := AF.new A6 (by decide)
  have G9 : Exa Z h6 a0 "com/example/tidewheel/tidewheel/store/TopicIndex" := (G7.ext E6)
  have G10 : Fld Z h6 a0 "com/example/tidewheel/tidewheel/store/TopicIndex" "deliveredAts" "[J" w_deliveredAts_a0 := (((F_deliveredAts_a0.ext E2).other W5 (Or.inr (slot_ne (Or.inl (hw _ (List.mem_of_getElem? (i := 13) rfl))) (Or.inl (hw _ (List.mem_of_getElem? (i := 11) rfl))) (by decide) (t := (.array .long)) (t' := (.array .long)) (by decide) (by decide)))).ext E6)
  obtain ⟨T11, h11, X11, e11, W11, st11⟩ := putF X6 hx hZ hown (host := "") (Or.inl (hw _ (List.mem_of_getElem? (i := 12) rfl))) Via.refl e6 G10 G9 (Or.inl (hw _ (List.mem_of_getElem? (i := 13) rfl))) (hw _ (List.mem_of_getElem? (i := 1) rfl)) (ty := (.array .long)) (by decide) rfl rfl (g := (mkF m 17 #[.val (.ref a0)] [(.ref b6), (.ref a0)])) rfl rfl (hb hby d1_17)
  have K11 : Keep h0 h11 [a0] := K6.wr W11 (Or.inl (by simp))
  have Fw11 : Fld Z h11 a0 "com/example/tidewheel/tidewheel/store/TopicIndex" "deliveredAts" "[J" (.ref b6) := G10.same W11
  have N11 := Fr.snoc X11 N5 nw_a0
  obtain ⟨T12, h12, X12, e12, E12, A12, D12, -, st12⟩ := newO X11 hx hZ hown (hw _ (List.mem_of_getElem? (i := 14) rfl)) (hw _ (List.mem_of_getElem? (i := 15) rfl)) (hw _ (List.mem_of_getElem? (i := 16) rfl)) e11 (g := (mkF m 21 #[.val (.ref a0)] [(.ref a0)])) rfl (hb hby d1_21) (by decide) (by decide)
  obtain ⟨b12, g12⟩ : ∃ z, z = h11.size := ⟨_, rfl⟩
  rw [← g12] at A12 D12 st12
  have G13 : Exa Z h11 a0 "com/example/tidewheel/tidewheel/store/TopicIndex" := (G9.wr W11)
  have ne_a0_b12 : a0 ≠ b12 := Nat.ne_of_lt (Nat.lt_of_lt_of_le G13.lt (Nat.le_of_eq g12.symm))
  have G14 : AF Z h11 b2 .long 8 (fun j => .long ((fun _ => (0 : Int64)) j)) := ((G8.ext E6).other W11 (Ne.symm ne_a0_b2))
  have ne_b2_b12 : b2 ≠ b12 := Nat.ne_of_lt (Nat.lt_of_lt_of_le G14.lt (Nat.le_of_eq g12.symm))
  have G15 : AF Z h11 b6 .long 8 (fun j => .long ((fun _ => (0 : Int64)) j)) := (V6.other W11 (Ne.symm ne_a0_b6))
  have ne_b6_b12 : b6 ≠ b12 := Nat.ne_of_lt (Nat.lt_of_lt_of_le G15.lt (Nat.le_of_eq g12.symm))
  have nw_b12 : n0 ≤ b12 := Nat.le_trans (Nat.le_trans Z0 K11.1) (Nat.le_of_eq g12.symm)
  have sz_b12 : h0.size ≤ b12 := Nat.le_trans K11.1 (Nat.le_of_eq g12.symm)
  have K12 : Keep h0 h12 [a0] := K11.ext E12
  have F_elements_b12 : Fld Z h12 b12 "java/util/ArrayDeque" "elements" "[Ljava/lang/Object;" .null := D12 (Or.inl (hw _ (List.mem_of_getElem? (i := 30) rfl))) (ty := (.array (.object "java/lang/Object"))) (by decide)
  obtain ⟨_, _, ⟨T16, L16, k16, n16⟩, -, X16, ⟨Lc16, hQ16, l16, y16, z16⟩, st16⟩ := X12.specialBack hx (y := (⟨"java/util/ArrayDeque", "<init>", "()V"⟩ : MethodName)) rfl hown (mvT hZ (hw _ (List.mem_of_getElem? (i := 17) rfl))) (mvT hZ (hw _ (List.mem_of_getElem? (i := 18) rfl))) (mvT hZ (hw _ (List.mem_of_getElem? (i := 19) rfl))) (by decide) (backOf (W := 2) (rm3 l Z A0 hw [] b12 .null h12 n0 (Nat.le_trans Z0 K12.1) A12 F_elements_b12 nw_b12) hZ (hw _ (List.mem_of_getElem? (i := 19) rfl)) (hw _ (List.mem_of_getElem? (i := 16) rfl)) (by decide) (by decide)) (g := (mkF m 25 #[.val (.ref a0)] [(.ref b12), (.ref b12), (.ref a0)])) rfl (by rw [hml]; rfl) (Steps.refl _) (a := b12) (argsL := []) (rest := [(.ref b12), (.ref a0)]) (lenOf pd_0 rfl) rfl (by show 2 * 0 + _ ≤ _; exact Nat.le_of_eq rfl) (hb hby d1_25) (fun _ _ => ⟨rfl, e12, (by decide : 3 + 1 ≤ _), (by decide : 19 + 17 ≤ _)⟩)
  dsimp only [Pt.U, Pt.locs, Pt.cells, Pt.slots] at X16 l16 y16 z16 st16 hQ16
  subst l16 y16 z16
  have G20 : Exa Z h12 a0 "com/example/tidewheel/tidewheel/store/TopicIndex" := (G13.ext E12)
  have G21 : AF Z h12 b2 .long 8 (fun j => .long ((fun _ => (0 : Int64)) j)) := (G14.ext E12)
  have G22 : AF Z h12 b6 .long 8 (fun j => .long ((fun _ => (0 : Int64)) j)) := (G15.ext E12)
  obtain ⟨b16_b2, rfl, N16q, Kc16, szb16_b2, P17, P18, P19⟩ := hQ16
  have ne_a0_b16_b2 : a0 ≠ b16_b2 := Nat.ne_of_lt (Nat.lt_of_lt_of_le G20.lt szb16_b2)
  have ne_b2_b16_b2 : b2 ≠ b16_b2 := Nat.ne_of_lt (Nat.lt_of_lt_of_le G21.lt szb16_b2)
  have ne_b6_b16_b2 : b6 ≠ b16_b2 := Nat.ne_of_lt (Nat.lt_of_lt_of_le G22.lt szb16_b2)
  have ne_b12_b16_b2 : b12 ≠ b16_b2 := Nat.ne_of_lt (Nat.lt_of_lt_of_le A12.lt szb16_b2)
  have nw_b16_b2 : n0 ≤ b16_b2 := Nat.le_trans (Nat.le_trans Z0 K12.1) szb16_b2
  have sq_b16_b2 : h0.size ≤ b16_b2 := Nat.le_trans K12.1 szb16_b2
  have K16 : Keep h0 T16.heap [a0] := K12.trans Kc16 (allS (Or.inr sz_b12) all0)
  have N16 := Fr.app N11 N16q
  have G23 : Exa Z T16.heap a0 "com/example/tidewheel/tidewheel/store/TopicIndex" := (G20.keep Kc16)
  have G24 : Fld Z T16.heap a0 "com/example/tidewheel/tidewheel/store/TopicIndex" "waiting" "Ljava/util/ArrayDeque;" w_waiting_a0 := ((((((F_waiting_a0.ext E2).other W5 (Or.inr (slot_ne (Or.inr (hw _ (List.mem_of_getElem? (i := 32) rfl))) (Or.inl (hw _ (List.mem_of_getElem? (i := 11) rfl))) (by decide) (t := (.object "java/util/ArrayDeque")) (t' := (.array .long)) (by decide) (by decide)))).ext E6).other W11 (Or.inr (slot_ne (Or.inr (hw _ (List.mem_of_getElem? (i := 32) rfl))) (Or.inl (hw _ (List.mem_of_getElem? (i := 13) rfl))) (by decide) (t := (.object "java/util/ArrayDeque")) (t' := (.array .long)) (by decide) (by decide)))).ext E12).keep Kc16 (ninS ne_a0_b12 nin0))
  obtain ⟨T25, h25, X25, e25, W25, st25⟩ := putF X16 hx hZ hown (host := "") (Or.inl (hw _ (List.mem_of_getElem? (i := 31) rfl))) Via.refl rfl G24 G23 (Or.inr ⟨(hw _ (List.mem_of_getElem? (i := 32) rfl)), rfl, hnm⟩) (hw _ (List.mem_of_getElem? (i := 1) rfl)) (ty := (.object "java/util/ArrayDeque")) (by decide) rfl rfl (g := (mkF m 28 #[.val (.ref a0)] [(.ref b12), (.ref a0)])) rfl rfl (hb hby d1_28)
  have K25 : Keep h0 h25 [a0] := K16.wr W25 (Or.inl (by simp))
  have Fw25 : Fld Z h25 a0 "com/example/tidewheel/tidewheel/store/TopicIndex" "waiting" "Ljava/util/ArrayDeque;" (.ref b12) := G24.same W25
  have N25 := Fr.snoc X25 N16 nw_a0
  have G26 : Exa Z h25 a0 "com/example/tidewheel/tidewheel/store/TopicIndex" := (G23.wr W25)
  have G27 : Fld Z h25 a0 "com/example/tidewheel/tidewheel/store/TopicIndex" "lastReadableDueAt" "J" (.long w_lastReadableDueAt_a0) := (((((((F_lastReadableDueAt_a0.ext E2).other W5 (Or.inr (slot_ne (Or.inl (hw _ (List.mem_of_getElem? (i := 35) rfl))) (Or.inl (hw _ (List.mem_of_getElem? (i := 11) rfl))) (by decide) (t := .long) (t' := (.array .long)) (by decide) (by decide)))).ext E6).other W11 (Or.inr (slot_ne (Or.inl (hw _ (List.mem_of_getElem? (i := 35) rfl))) (Or.inl (hw _ (List.mem_of_getElem? (i := 13) rfl))) (by decide) (t := .long) (t' := (.array .long)) (by decide) (by decide)))).ext E12).keep Kc16 (ninS ne_a0_b12 nin0)).other W25 (Or.inr (slot_ne (Or.inl (hw _ (List.mem_of_getElem? (i := 35) rfl))) (Or.inr (hw _ (List.mem_of_getElem? (i := 32) rfl))) (by decide) (t := .long) (t' := (.object "java/util/ArrayDeque")) (by decide) (by decide))))
  obtain ⟨T28, h28, X28, e28, W28, st28⟩ := putF X25 hx hZ hown (host := "") (Or.inl (hw _ (List.mem_of_getElem? (i := 34) rfl))) Via.refl e25 G27 G26 (Or.inl (hw _ (List.mem_of_getElem? (i := 35) rfl))) (hw _ (List.mem_of_getElem? (i := 1) rfl)) (ty := .long) (by decide) rfl rfl (g := (mkF m 35 #[.val (.ref a0)] [(.long (-9223372036854775808 : Int64)), (.ref a0)])) rfl rfl (hb hby d1_35)
  have K28 : Keep h0 h28 [a0] := K25.wr W28 (Or.inl (by simp))
  have Fw28 : Fld Z h28 a0 "com/example/tidewheel/tidewheel/store/TopicIndex" "lastReadableDueAt" "J" (.long (-9223372036854775808 : Int64)) := G27.same W28
  have N28 := Fr.snoc X28 N25 nw_a0
  have G29 : Exa Z h28 a0 "com/example/tidewheel/tidewheel/store/TopicIndex" := (G26.wr W28)
  have G30 : Fld Z h28 a0 "com/example/tidewheel/tidewheel/store/TopicIndex" "latestHandedOutDueAt" "J" (.long w_latestHandedOutDueAt_a0) := ((((((((F_latestHandedOutDueAt_a0.ext E2).other W5 (Or.inr (slot_ne (Or.inl (hw _ (List.mem_of_getElem? (i := 37) rfl))) (Or.inl (hw _ (List.mem_of_getElem? (i := 11) rfl))) (by decide) (t := .long) (t' := (.array .long)) (by decide) (by decide)))).ext E6).other W11 (Or.inr (slot_ne (Or.inl (hw _ (List.mem_of_getElem? (i := 37) rfl))) (Or.inl (hw _ (List.mem_of_getElem? (i := 13) rfl))) (by decide) (t := .long) (t' := (.array .long)) (by decide) (by decide)))).ext E12).keep Kc16 (ninS ne_a0_b12 nin0)).other W25 (Or.inr (slot_ne (Or.inl (hw _ (List.mem_of_getElem? (i := 37) rfl))) (Or.inr (hw _ (List.mem_of_getElem? (i := 32) rfl))) (by decide) (t := .long) (t' := (.object "java/util/ArrayDeque")) (by decide) (by decide)))).other W28 (Or.inr (slot_ne (Or.inl (hw _ (List.mem_of_getElem? (i := 37) rfl))) (Or.inl (hw _ (List.mem_of_getElem? (i := 35) rfl))) (by decide) (t := .long) (t' := .long) (by decide) (by decide))))
  obtain ⟨T31, h31, X31, e31, W31, st31⟩ := putF X28 hx hZ hown (host := "") (Or.inl (hw _ (List.mem_of_getElem? (i := 36) rfl))) Via.refl e28 G30 G29 (Or.inl (hw _ (List.mem_of_getElem? (i := 37) rfl))) (hw _ (List.mem_of_getElem? (i := 1) rfl)) (ty := .long) (by decide) rfl rfl (g := (mkF m 42 #[.val (.ref a0)] [(.long (-9223372036854775808 : Int64)), (.ref a0)])) rfl rfl (hb hby d1_42)
  have K31 : Keep h0 h31 [a0] := K28.wr W31 (Or.inl (by simp))
  have Fw31 : Fld Z h31 a0 "com/example/tidewheel/tidewheel/store/TopicIndex" "latestHandedOutDueAt" "J" (.long (-9223372036854775808 : Int64)) := G30.same W31
  have N31 := Fr.snoc X31 N28 nw_a0
  obtain ⟨fs, hr, hrun, hended, hW, hsame⟩ := X31.leave (v := none) (fun _ => rfl)
  refine ⟨_, _, pre0 _ ?_, hrun, hended, _, _, rfl, ?_, ⟨_, rfl⟩, hW, hsame.mono (by decide) (by decide)⟩
  · show Steps p.tables e below (s₁.setTop (mkF m 0 #[.val (.ref a0)] [])) _
    refine XS.aloadN X0.here hx rfl (hb hby d1_0) rfl rfl ?_
    show Steps p.tables e below (s₁.setTop (mkF m 1 #[.val (.ref a0)] [(.ref a0)])) _
    refine st1 _ ?_
    show Steps p.tables e below (T1.setTop (mkF m 4 #[.val (.ref a0)] [])) _
    refine XS.aloadN X1.here hx rfl (hb hby d1_4) rfl rfl ?_
    show Steps p.tables e below (T1.setTop (mkF m 5 #[.val (.ref a0)] [(.ref a0)])) _
    refine XS.bipush X1.here hx rfl (hb hby d1_5) ?_
    show Steps p.tables e below (T1.setTop (mkF m 7 #[.val (.ref a0)] [(.int (8 : Int32)), (.ref a0)])) _
    refine st2 _ ?_
    show Steps p.tables e below (T2.setTop (mkF m 9 #[.val (.ref a0)] [(.ref b2), (.ref a0)])) _
    refine st5 _ ?_
    show Steps p.tables e below (T5.setTop (mkF m 12 #[.val (.ref a0)] [])) _
    refine XS.aloadN X5.here hx rfl (hb hby d1_12) rfl rfl ?_
    show Steps p.tables e below (T5.setTop (mkF m 13 #[.val (.ref a0)] [(.ref a0)])) _
    refine XS.bipush X5.here hx rfl (hb hby d1_13) ?_
    show Steps p.tables e below (T5.setTop (mkF m 15 #[.val (.ref a0)] [(.int (8 : Int32)), (.ref a0)])) _
    refine st6 _ ?_
    show Steps p.tables e below (T6.setTop (mkF m 17 #[.val (.ref a0)] [(.ref b6), (.ref a0)])) _
    refine st11 _ ?_
    show Steps p.tables e below (T11.setTop (mkF m 20 #[.val (.ref a0)] [])) _
    refine XS.aloadN X11.here hx rfl (hb hby d1_20) rfl rfl ?_
    show Steps p.tables e below (T11.setTop (mkF m 21 #[.val (.ref a0)] [(.ref a0)])) _
    refine st12 _ ?_
    show Steps p.tables e below (T12.setTop (mkF m 24 #[.val (.ref a0)] [(.ref b12), (.ref a0)])) _
    refine XS.dup X12.here hx rfl (hb hby d1_24) rfl rfl ?_
    show Steps p.tables e below (T12.setTop (mkF m 25 #[.val (.ref a0)] [(.ref b12), (.ref b12), (.ref a0)])) _
    refine st16.trans ?_
    show Steps p.tables e below (T16.setTop (mkF m 28 #[.val (.ref a0)] [(.ref b12), (.ref a0)])) _
    refine st25 _ ?_
    show Steps p.tables e below (T25.setTop (mkF m 31 #[.val (.ref a0)] [])) _
    refine XS.aloadN X25.here hx rfl (hb hby d1_31) rfl rfl ?_
    show Steps p.tables e below (T25.setTop (mkF m 32 #[.val (.ref a0)] [(.ref a0)])) _
    refine X25.ldc2Long hx hown (mvT hZ (hw _ (List.mem_of_getElem? (i := 33) rfl))) (g := (mkF m 32 #[.val (.ref a0)] [(.ref a0)])) rfl (hb hby d1_32) _ ?_
    show Steps p.tables e below (T25.setTop (mkF m 35 #[.val (.ref a0)] [(.long (-9223372036854775808 : Int64)), (.ref a0)])) _
    refine st28 _ ?_
    show Steps p.tables e below (T28.setTop (mkF m 38 #[.val (.ref a0)] [])) _
    refine XS.aloadN X28.here hx rfl (hb hby d1_38) rfl rfl ?_
    show Steps p.tables e below (T28.setTop (mkF m 39 #[.val (.ref a0)] [(.ref a0)])) _
    refine X28.ldc2Long hx hown (mvT hZ (hw _ (List.mem_of_getElem? (i := 33) rfl))) (g := (mkF m 39 #[.val (.ref a0)] [(.ref a0)])) rfl (hb hby d1_39) _ ?_
    show Steps p.tables e below (T28.setTop (mkF m 42 #[.val (.ref a0)] [(.long (-9223372036854775808 : Int64)), (.ref a0)])) _
    refine st31 _ ?_
    show Steps p.tables e below (T31.setTop (mkF m 45 #[.val (.ref a0)] [])) _
    exact X31.returnOut hx Bd.returns (hb hby d1_45) hr
  have G32 : Exa Z h31 a0 "com/example/tidewheel/tidewheel/store/TopicIndex" := (G29.wr W31)
  have G33 : Fld Z h31 a0 "com/example/tidewheel/tidewheel/store/TopicIndex" "positions" "[J" (.ref b2) := (((((((Fw5.ext E6).other W11 (Or.inr (slot_ne (Or.inl (hw _ (List.mem_of_getElem? (i := 11) rfl))) (Or.inl (hw _ (List.mem_of_getElem? (i := 13) rfl))) (by decide) (t := (.array .long)) (t' := (.array .long)) (by decide) (by decide)))).ext E12).keep Kc16 (ninS ne_a0_b12 nin0)).other W25 (Or.inr (slot_ne (Or.inl (hw _ (List.mem_of_getElem? (i := 11) rfl))) (Or.inr (hw _ (List.mem_of_getElem? (i := 32) rfl))) (by decide) (t := (.array .long)) (t' := (.object "java/util/ArrayDeque")) (by decide) (by decide)))).other W28 (Or.inr (slot_ne (Or.inl (hw _ (List.mem_of_getElem? (i := 11) rfl))) (Or.inl (hw _ (List.mem_of_getElem? (i := 35) rfl))) (by decide) (t := (.array .long)) (t' := .long) (by decide) (by decide)))).other W31 (Or.inr (slot_ne (Or.inl (hw _ (List.mem_of_getElem? (i := 11) rfl))) (Or.inl (hw _ (List.mem_of_getElem? (i := 37) rfl))) (by decide) (t := (.array .long)) (t' := .long) (by decide) (by decide))))
  have G34 : Fld Z h31 a0 "com/example/tidewheel/tidewheel/store/TopicIndex" "deliveredAts" "[J" (.ref b6) := (((((Fw11.ext E12).keep Kc16 (ninS ne_a0_b12 nin0)).other W25 (Or.inr (slot_ne (Or.inl (hw _ (List.mem_of_getElem? (i := 13) rfl))) (Or.inr (hw _ (List.mem_of_getElem? (i := 32) rfl))) (by decide) (t := (.array .long)) (t' := (.object "java/util/ArrayDeque")) (by decide) (by decide)))).other W28 (Or.inr (slot_ne (Or.inl (hw _ (List.mem_of_getElem? (i := 13) rfl))) (Or.inl (hw _ (List.mem_of_getElem? (i := 35) rfl))) (by decide) (t := (.array .long)) (t' := .long) (by decide) (by decide)))).other W31 (Or.inr (slot_ne (Or.inl (hw _ (List.mem_of_getElem? (i := 13) rfl))) (Or.inl (hw _ (List.mem_of_getElem? (i := 37) rfl))) (by decide) (t := (.array .long)) (t' := .long) (by decide) (by decide))))
  have G35 : Fld Z h31 a0 "com/example/tidewheel/tidewheel/store/TopicIndex" "waiting" "Ljava/util/ArrayDeque;" (.ref b12) := ((Fw25.other W28 (Or.inr (slot_ne (Or.inr (hw _ (List.mem_of_getElem? (i := 32) rfl))) (Or.inl (hw _ (List.mem_of_getElem? (i := 35) rfl))) (by decide) (t := (.object "java/util/ArrayDeque")) (t' := .long) (by decide) (by decide)))).other W31 (Or.inr (slot_ne (Or.inr (hw _ (List.mem_of_getElem? (i := 32) rfl))) (Or.inl (hw _ (List.mem_of_getElem? (i := 37) rfl))) (by decide) (t := (.object "java/util/ArrayDeque")) (t' := .long) (by decide) (by decide))))
  have G36 : Fld Z h31 a0 "com/example/tidewheel/tidewheel/store/TopicIndex" "lastReadableDueAt" "J" (.long (-9223372036854775808 : Int64)) := (Fw28.other W31 (Or.inr (slot_ne (Or.inl (hw _ (List.mem_of_getElem? (i := 35) rfl))) (Or.inl (hw _ (List.mem_of_getElem? (i := 37) rfl))) (by decide) (t := .long) (t' := .long) (by decide) (by decide))))
  have G37 : Fld Z h31 a0 "com/example/tidewheel/tidewheel/store/TopicIndex" "size" "I" (.int w_size_a0) := (((((((((F_size_a0.ext E2).other W5 (Or.inr (slot_ne (Or.inl (hw _ (List.mem_of_getElem? (i := 59) rfl))) (Or.inl (hw _ (List.mem_of_getElem? (i := 11) rfl))) (by decide) (t := .int) (t' := (.array .long)) (by decide) (by decide)))).ext E6).other W11 (Or.inr (slot_ne (Or.inl (hw _ (List.mem_of_getElem? (i := 59) rfl))) (Or.inl (hw _ (List.mem_of_getElem? (i := 13) rfl))) (by decide) (t := .int) (t' := (.array .long)) (by decide) (by decide)))).ext E12).keep Kc16 (ninS ne_a0_b12 nin0)).other W25 (Or.inr (slot_ne (Or.inl (hw _ (List.mem_of_getElem? (i := 59) rfl))) (Or.inr (hw _ (List.mem_of_getElem? (i := 32) rfl))) (by decide) (t := .int) (t' := (.object "java/util/ArrayDeque")) (by decide) (by decide)))).other W28 (Or.inr (slot_ne (Or.inl (hw _ (List.mem_of_getElem? (i := 59) rfl))) (Or.inl (hw _ (List.mem_of_getElem? (i := 35) rfl))) (by decide) (t := .int) (t' := .long) (by decide) (by decide)))).other W31 (Or.inr (slot_ne (Or.inl (hw _ (List.mem_of_getElem? (i := 59) rfl))) (Or.inl (hw _ (List.mem_of_getElem? (i := 37) rfl))) (by decide) (t := .int) (t' := .long) (by decide) (by decide))))
  · show Q1 Z a0 w_positions_a0 w_deliveredAts_a0 w_waiting_a0 w_lastReadableDueAt_a0 w_latestHandedOutDueAt_a0 w_size_a0 h0 n0 _ T31.heap _
    rw [e31]
    exact ⟨b2, b6, b12, b16_b2, rfl, N31, K31, sz_b2, sz_b6, sz_b12, sq_b16_b2, ne_b2_b6, ne_b2_b12, ne_b2_b16_b2, ne_b6_b12, ne_b6_b16_b2, ne_b12_b16_b2, G32, G33, G34, G35, G36, Fw31, G37⟩
theorem ef_5 (m : MethodId) (a0 : Addr) : entryFrame m #[(.ref a0)] 1 = mkF m 0 #[.val (.ref a0)] [] := by first | (simp [entryFrame, mkF, argsToLocals, Value.category]; done) | rfl
def Q5 (Z : State) (a0 : Addr) (w_positions_a0 : Value) (w_deliveredAts_a0 : Value) (w_waiting_a0 : Value) (w_lastReadableDueAt_a0 : Int64) (w_latestHandedOutDueAt_a0 : Int64) (w_size_a0 : Int32) (h0 : Heap) (n0 : Nat) (v : Option Value) (h : Heap) (L : List Loc) : Prop := v = some (.long w_latestHandedOutDueAt_a0) ∧ Fr n0 L ∧ h = h0
set_option maxRecDepth 65536 in
set_option maxHeartbeats 40000000 in
theorem rm5 (l : Launch) (Z : State) (A0 : Array Value) (hw : ∀ d ∈ tables_1, d.before A0 Z = true) (ws : List Jvm.Cond) (a0 : Addr) (w_positions_a0 : Value) (w_deliveredAts_a0 : Value) (w_waiting_a0 : Value) (w_lastReadableDueAt_a0 : Int64) (w_latestHandedOutDueAt_a0 : Int64) (w_size_a0 : Int32) (h0 : Heap) (n0 : Nat) (Z0 : n0 ≤ h0.size) (E_a0 : Exa Z h0 a0 "com/example/tidewheel/tidewheel/store/TopicIndex") (F_positions_a0 : Fld Z h0 a0 "com/example/tidewheel/tidewheel/store/TopicIndex" "positions" "[J" w_positions_a0) (F_deliveredAts_a0 : Fld Z h0 a0 "com/example/tidewheel/tidewheel/store/TopicIndex" "deliveredAts" "[J" w_deliveredAts_a0) (F_waiting_a0 : Fld Z h0 a0 "com/example/tidewheel/tidewheel/store/TopicIndex" "waiting" "Ljava/util/ArrayDeque;" w_waiting_a0) (F_lastReadableDueAt_a0 : Fld Z h0 a0 "com/example/tidewheel/tidewheel/store/TopicIndex" "lastReadableDueAt" "J" (.long w_lastReadableDueAt_a0)) (F_latestHandedOutDueAt_a0 : Fld Z h0 a0 "com/example/tidewheel/tidewheel/store/TopicIndex" "latestHandedOutDueAt" "J" (.long w_latestHandedOutDueAt_a0)) (F_size_a0 : Fld Z h0 a0 "com/example/tidewheel/tidewheel/store/TopicIndex" "size" "I" (.int w_size_a0)) :
    MetFree l (⟨"com/example/tidewheel/tidewheel/store/TopicIndex", "latestHandedOutDueAt", "()J"⟩ : MethodName) (head1 (Jvm.Cond.code (⟨"com/example/tidewheel/tidewheel/store/TopicIndex", "latestHandedOutDueAt", "()J"⟩ : MethodName) prog_30_method_8_code 1 (some .long) :: ws) ({ frames := 0, cells := 0, slots := 0, locals := 0 } : Room)) (fun a U => a = #[(.ref a0)] ∧ Z.Warmed39 U.vm ∧ U.heap = h0) (fun _ _ _ _ _ => True) (fun _ U o U' => ∃ v L, o = .returned v ∧ Q5 Z a0 w_positions_a0 w_deliveredAts_a0 w_waiting_a0 w_lastReadableDueAt_a0 w_latestHandedOutDueAt_a0 w_size_a0 h0 n0 v U'.heap L ∧ FrameEnd U o U' L ({ frames := 0, cells := 0, slots := 0, locals := 0 } : Room).cells ({ frames := 0, cells := 0, slots := 0, locals := 0 } : Room).slots) := by
  refine MetFree.of_bodySF (plainFor_of_name pn_5) hisR ?_
  intro p e s m args below meth c s₁ Bd hml0 hP hK
  obtain ⟨rfl, hZ, hh⟩ := hP
  have hx := Bd.exec
  have hby := Bd.bytes
  have hml : c.maxLocals = 1 := hml0
  have hown : s.vm.findClass "com/example/tidewheel/tidewheel/store/TopicIndex" = some m.cls := findClass_of_methodNamed Bd.named
  have hnm := (name_of_methodNamed Bd.named Bd.method).1
  have X0 : Stand p l e ({ frames := 0, cells := 0, slots := 0, locals := 0 } : Room) s m #[(.ref a0)] below meth c s₁ [] 0 0 := Stand.of_body Bd
  have e0 : s₁.heap = h0 := by rw [← hh, Bd.state]; rfl
  have N0 := Fr.nil n0
  have pre0 : ∀ t, Steps p.tables e below (s₁.setTop (mkF m 0 #[.val (.ref a0)] [])) t → Steps p.tables e below (s₁.setTop (entryFrame m #[(.ref a0)] 1)) t := fun t k => castTop (ef_5 m a0) k
  obtain ⟨T1, X1, e1, st1⟩ := getF X0 hx hZ hown (host := "") (Or.inl (hw _ (List.mem_of_getElem? (i := 36) rfl))) Via.refl e0 F_latestHandedOutDueAt_a0 (g := (mkF m 1 #[.val (.ref a0)] [(.ref a0)])) rfl rfl (hb hby d5_1)
  obtain ⟨fs, hr, hrun, hended, hW, hsame⟩ := X1.leave (v := some (.long w_latestHandedOutDueAt_a0)) (fun h => by rw [Bd.returns] at h; cases h)
  refine ⟨_, _, pre0 _ ?_, hrun, hended, _, _, rfl, ?_, ⟨_, rfl⟩, hW, hsame.mono (by decide) (by decide)⟩
  · show Steps p.tables e below (s₁.setTop (mkF m 0 #[.val (.ref a0)] [])) _
    refine XS.aloadN X0.here hx rfl (hb hby d5_0) rfl rfl ?_
    show Steps p.tables e below (s₁.setTop (mkF m 1 #[.val (.ref a0)] [(.ref a0)])) _
    refine st1 _ ?_
    show Steps p.tables e below (T1.setTop (mkF m 4 #[.val (.ref a0)] [(.long w_latestHandedOutDueAt_a0)])) _
    exact retOut X1 hx Bd.returns rfl (Or.inr (Or.inl ⟨rfl, rfl, _, rfl⟩)) (hb hby d5_4) hr
  · show Q5 Z a0 w_positions_a0 w_deliveredAts_a0 w_waiting_a0 w_lastReadableDueAt_a0 w_latestHandedOutDueAt_a0 w_size_a0 h0 n0 _ T1.heap _
    exact ⟨rfl, N0, e1⟩
theorem ef_7 (m : MethodId) (q0 : Int64) (q1 : Int64) : entryFrame m #[(.long q0), (.long q1)] 4 = mkF m 0 #[.val (.long q0), .second, .val (.long q1), .second] [] := by first | (simp [entryFrame, mkF, argsToLocals, Value.category]; done) | rfl
def Q7 (Z : State) (q0 : Int64) (q1 : Int64) (h0 : Heap) (n0 : Nat) (v : Option Value) (h : Heap) (L : List Loc) : Prop := v = some (.long (if q0 < q1 then q1 else q0)) ∧ Fr n0 L ∧ h = h0
set_option maxRecDepth 65536 in
set_option maxHeartbeats 40000000 in
theorem rm7 (l : Launch) (Z : State) (A0 : Array Value) (hw : ∀ d ∈ tables_1, d.before A0 Z = true) (ws : List Jvm.Cond) (q0 : Int64) (q1 : Int64) (h0 : Heap) (n0 : Nat) (Z0 : n0 ≤ h0.size) :
    MetFree l (⟨"java/lang/Math", "max", "(JJ)J"⟩ : MethodName) (head1 (Jvm.Cond.code (⟨"java/lang/Math", "max", "(JJ)J"⟩ : MethodName) jdk_29_method_66_code 4 (some .long) :: ws) ({ frames := 0, cells := 0, slots := 0, locals := 0 } : Room)) (fun a U => a = #[(.long q0), (.long q1)] ∧ Z.Warmed39 U.vm ∧ U.heap = h0) (fun _ _ _ _ _ => True) (fun _ U o U' => ∃ v L, o = .returned v ∧ Q7 Z q0 q1 h0 n0 v U'.heap L ∧ FrameEnd U o U' L ({ frames := 0, cells := 0, slots := 0, locals := 0 } : Room).cells ({ frames := 0, cells := 0, slots := 0, locals := 0 } : Room).slots) := by
  refine MetFree.of_bodySF (Jvm.Free.JP.mathPlain rfl (by decide +kernel)) hisR ?_
  intro p e s m args below meth c s₁ Bd hml0 hP hK
  obtain ⟨rfl, hZ, hh⟩ := hP
  have hx := Bd.exec
  have hby := Bd.bytes
  have hml : c.maxLocals = 4 := hml0
  have hown : s.vm.findClass "java/lang/Math" = some m.cls := findClass_of_methodNamed Bd.named
  have hnm := (name_of_methodNamed Bd.named Bd.method).1
  have X0 : Stand p l e ({ frames := 0, cells := 0, slots := 0, locals := 0 } : Room) s m #[(.long q0), (.long q1)] below meth c s₁ [] 0 0 := Stand.of_body Bd
  have e0 : s₁.heap = h0 := by rw [← hh, Bd.state]; rfl
  have N0 := Fr.nil n0
  have pre0 : ∀ t, Steps p.tables e below (s₁.setTop (mkF m 0 #[.val (.long q0), .second, .val (.long q1), .second] [])) t → Steps p.tables e below (s₁.setTop (entryFrame m #[(.long q0), (.long q1)] 4)) t := fun t k => castTop (ef_7 m q0 q1) k
  obtain ⟨v2, hv2⟩ : ∃ z : Int64, z = if q0 < q1 then q1 else q0 := ⟨_, rfl⟩
  obtain ⟨fs, hr, hrun, hended, hW, hsame⟩ := X0.leave (v := some (.long v2)) (fun h => by rw [Bd.returns] at h; cases h)
  refine ⟨_, _, pre0 _ ?_, hrun, hended, _, _, rfl, ?_, ⟨_, rfl⟩, hW, hsame.mono (by decide) (by decide)⟩
  · show Steps p.tables e below (s₁.setTop (mkF m 0 #[.val (.long q0), .second, .val (.long q1), .second] [])) _
    refine XS.lloadN X0.here hx rfl (hb hby d7_0) rfl ?_
    show Steps p.tables e below (s₁.setTop (mkF m 1 #[.val (.long q0), .second, .val (.long q1), .second] [(.long q0)])) _
    refine XS.lloadN X0.here hx rfl (hb hby d7_1) rfl ?_
    show Steps p.tables e below (s₁.setTop (mkF m 2 #[.val (.long q0), .second, .val (.long q1), .second] [(.long q1), (.long q0)])) _
    refine XS.lcmp X0.here hx rfl (hb hby d7_2) rfl ?_
    show Steps p.tables e below (s₁.setTop (mkF m 3 #[.val (.long q0), .second, .val (.long q1), .second] [(.int (lcmpW q0 q1))])) _
    refine own_dia (F := (mkF m 11 #[.val (.long q0), .second, .val (.long q1), .second] [(.long v2)])) ?_ ?_
    · intro kt
      by_cases hc1 : q0 < q1
      · show Steps p.tables e below (s₁.setTop (mkF m 3 #[.val (.long q0), .second, .val (.long q1), .second] [(.int (lcmpW q0 q1))])) _
        refine XS.ifYes X0.here hx rfl (pc0 := 3) (pc' := 10) rfl (hb hby d7_3) rfl ((if0 _ _).trans (tlt ((lw_lt q0 q1).mpr hc1)).1) (by decide) (by decide) ?_
        show Steps p.tables e below (s₁.setTop (mkF m 10 #[.val (.long q0), .second, .val (.long q1), .second] [])) _
        refine XS.lloadN X0.here hx rfl (hb hby d7_10) rfl ?_
        exact castTop (by rw [hv2, if_pos hc1] <;> rfl) kt
      · show Steps p.tables e below (s₁.setTop (mkF m 3 #[.val (.long q0), .second, .val (.long q1), .second] [(.int (lcmpW q0 q1))])) _
        refine XS.ifNo X0.here hx rfl (hb hby d7_3) rfl ((if0 _ _).trans (flt (fun q => hc1 ((lw_lt q0 q1).mp q))).1) ?_
        show Steps p.tables e below (s₁.setTop (mkF m 6 #[.val (.long q0), .second, .val (.long q1), .second] [])) _
        refine XS.lloadN X0.here hx rfl (hb hby d7_6) rfl ?_
        show Steps p.tables e below (s₁.setTop (mkF m 7 #[.val (.long q0), .second, .val (.long q1), .second] [(.long q0)])) _
        refine XS.goto X0.here hx rfl (pc0 := 7) (pc' := 11) rfl (hb hby d7_7) (by decide) (by decide) ?_
        exact castTop (by rw [hv2, if_neg hc1] <;> rfl) kt
    show Steps p.tables e below (s₁.setTop (mkF m 11 #[.val (.long q0), .second, .val (.long q1), .second] [(.long v2)])) _
    exact retOut X0 hx Bd.returns rfl (Or.inr (Or.inl ⟨rfl, rfl, _, rfl⟩)) (hb hby d7_11) hr
  · show Q7 Z q0 q1 h0 n0 _ s₁.heap _
    subst hv2
    exact ⟨rfl, N0, e0⟩
theorem ef_6 (m : MethodId) (a0 : Addr) (q1 : Int64) : entryFrame m #[(.ref a0), (.long q1)] 3 = mkF m 0 #[.val (.ref a0), .val (.long q1), .second] [] := by first | (simp [entryFrame, mkF, argsToLocals, Value.category]; done) | rfl
def Q6 (Z : State) (a0 : Addr) (q1 : Int64) (w_positions_a0 : Value) (w_deliveredAts_a0 : Value) (w_waiting_a0 : Value) (w_lastReadableDueAt_a0 : Int64) (w_latestHandedOutDueAt_a0 : Int64) (w_size_a0 : Int32) (h0 : Heap) (n0 : Nat) (v : Option Value) (h : Heap) (L : List Loc) : Prop := v = none ∧ Fr n0 L ∧ Keep h0 h [a0] ∧ Exa Z h a0 "com/example/tidewheel/tidewheel/store/TopicIndex" ∧ Fld Z h a0 "com/example/tidewheel/tidewheel/store/TopicIndex" "positions" "[J" w_positions_a0 ∧ Fld Z h a0 "com/example/tidewheel/tidewheel/store/TopicIndex" "deliveredAts" "[J" w_deliveredAts_a0 ∧ Fld Z h a0 "com/example/tidewheel/tidewheel/store/TopicIndex" "waiting" "Ljava/util/ArrayDeque;" w_waiting_a0 ∧ Fld Z h a0 "com/example/tidewheel/tidewheel/store/TopicIndex" "lastReadableDueAt" "J" (.long w_lastReadableDueAt_a0) ∧ Fld Z h a0 "com/example/tidewheel/tidewheel/store/TopicIndex" "latestHandedOutDueAt" "J" (.long (if w_latestHandedOutDueAt_a0 < q1 then q1 else w_latestHandedOutDueAt_a0)) ∧ Fld Z h a0 "com/example/tidewheel/tidewheel/store/TopicIndex" "size" "I" (.int w_size_a0)
set_option maxRecDepth 65536 in
set_option maxHeartbeats 40000000 in
theorem rm6 (l : Launch) (Z : State) (A0 : Array Value) (hw : ∀ d ∈ tables_1, d.before A0 Z = true) (ws : List Jvm.Cond) (a0 : Addr) (q1 : Int64) (w_positions_a0 : Value) (w_deliveredAts_a0 : Value) (w_waiting_a0 : Value) (w_lastReadableDueAt_a0 : Int64) (w_latestHandedOutDueAt_a0 : Int64) (w_size_a0 : Int32) (h0 : Heap) (n0 : Nat) (Z0 : n0 ≤ h0.size) (E_a0 : Exa Z h0 a0 "com/example/tidewheel/tidewheel/store/TopicIndex") (F_positions_a0 : Fld Z h0 a0 "com/example/tidewheel/tidewheel/store/TopicIndex" "positions" "[J" w_positions_a0) (F_deliveredAts_a0 : Fld Z h0 a0 "com/example/tidewheel/tidewheel/store/TopicIndex" "deliveredAts" "[J" w_deliveredAts_a0) (F_waiting_a0 : Fld Z h0 a0 "com/example/tidewheel/tidewheel/store/TopicIndex" "waiting" "Ljava/util/ArrayDeque;" w_waiting_a0) (F_lastReadableDueAt_a0 : Fld Z h0 a0 "com/example/tidewheel/tidewheel/store/TopicIndex" "lastReadableDueAt" "J" (.long w_lastReadableDueAt_a0)) (F_latestHandedOutDueAt_a0 : Fld Z h0 a0 "com/example/tidewheel/tidewheel/store/TopicIndex" "latestHandedOutDueAt" "J" (.long w_latestHandedOutDueAt_a0)) (F_size_a0 : Fld Z h0 a0 "com/example/tidewheel/tidewheel/store/TopicIndex" "size" "I" (.int w_size_a0)) (nw_a0 : n0 ≤ a0) :
    MetFree l (⟨"com/example/tidewheel/tidewheel/store/TopicIndex", "handedOut", "(J)V"⟩ : MethodName) (head1 (Jvm.Cond.code (⟨"com/example/tidewheel/tidewheel/store/TopicIndex", "handedOut", "(J)V"⟩ : MethodName) prog_30_method_9_code 3 none :: ws) ({ frames := 1, cells := 0, slots := 0, locals := 16 } : Room)) (fun a U => a = #[(.ref a0), (.long q1)] ∧ Z.Warmed39 U.vm ∧ U.heap = h0) (fun _ _ _ _ _ => True) (fun _ U o U' => ∃ v L, o = .returned v ∧ Q6 Z a0 q1 w_positions_a0 w_deliveredAts_a0 w_waiting_a0 w_lastReadableDueAt_a0 w_latestHandedOutDueAt_a0 w_size_a0 h0 n0 v U'.heap L ∧ FrameEnd U o U' L ({ frames := 1, cells := 0, slots := 0, locals := 16 } : Room).cells ({ frames := 1, cells := 0, slots := 0, locals := 16 } : Room).slots) := by
  refine MetFree.of_bodySF (plainFor_of_name pn_6) hisR ?_
  intro p e s m args below meth c s₁ Bd hml0 hP hK
  obtain ⟨rfl, hZ, hh⟩ := hP
  have hx := Bd.exec
  have hby := Bd.bytes
  have hml : c.maxLocals = 3 := hml0
  have hown : s.vm.findClass "com/example/tidewheel/tidewheel/store/TopicIndex" = some m.cls := findClass_of_methodNamed Bd.named
  have hnm := (name_of_methodNamed Bd.named Bd.method).1
  have X0 : Stand p l e ({ frames := 1, cells := 0, slots := 0, locals := 16 } : Room) s m #[(.ref a0), (.long q1)] below meth c s₁ [] 0 0 := Stand.of_body Bd
  have e0 : s₁.heap = h0 := by rw [← hh, Bd.state]; rfl
  have N0 := Fr.nil n0
  have pre0 : ∀ t, Steps p.tables e below (s₁.setTop (mkF m 0 #[.val (.ref a0), .val (.long q1), .second] [])) t → Steps p.tables e below (s₁.setTop (entryFrame m #[(.ref a0), (.long q1)] 3)) t := fun t k => castTop (ef_6 m a0 q1) k
  obtain ⟨T1, X1, e1, st1⟩ := getF X0 hx hZ hown (host := "") (Or.inl (hw _ (List.mem_of_getElem? (i := 36) rfl))) Via.refl e0 F_latestHandedOutDueAt_a0 (g := (mkF m 2 #[.val (.ref a0), .val (.long q1), .second] [(.ref a0), (.ref a0)])) rfl rfl (hb hby d6_2)
  obtain ⟨_, _, ⟨T2, L2, k2, n2⟩, -, X2, ⟨Lc2, hQ2, l2, y2, z2⟩, st2⟩ := Jvm.LawKit.callS X1 hx (y := (⟨"java/lang/Math", "max", "(JJ)J"⟩ : MethodName)) hown (mvT hZ (hw _ (List.mem_of_getElem? (i := 49) rfl))) (mvT hZ (hw _ (List.mem_of_getElem? (i := 50) rfl))) (mvT hZ (hw _ (List.mem_of_getElem? (i := 51) rfl))) (mvT hZ (hw _ (List.mem_of_getElem? (i := 52) rfl))) (by decide) (backOf (W := 1) (rm7 l Z A0 hw [] w_latestHandedOutDueAt_a0 q1 h0 n0 (Nat.le_trans Z0 (Keep.refl h0 [a0]).1) ) hZ (hw _ (List.mem_of_getElem? (i := 52) rfl)) (hw _ (List.mem_of_getElem? (i := 51) rfl)) (by decide) (by decide)) (g := (mkF m 6 #[.val (.ref a0), .val (.long q1), .second] [(.long q1), (.long w_latestHandedOutDueAt_a0), (.ref a0)])) rfl (by rw [hml]; rfl) (argsL := [(.long w_latestHandedOutDueAt_a0), (.long q1)]) (rest := [(.ref a0)]) (lenOf pd_3 rfl) rfl (by show 2 * 0 + _ ≤ _; exact Nat.le_of_eq rfl) (hb hby d6_6) (fun _ _ => ⟨rfl, e1, (by decide : 0 + 0 ≤ _), (by decide : 0 + 0 ≤ _)⟩)
  dsimp only [Pt.U, Pt.locs, Pt.cells, Pt.slots] at X2 l2 y2 z2 st2 hQ2
  subst l2 y2 z2
  obtain ⟨rfl, N2q, e2⟩ := hQ2
  have N2 := Fr.app N0 N2q
  obtain ⟨v3, hv3⟩ : ∃ z : Int64, z = (if w_latestHandedOutDueAt_a0 < q1 then q1 else w_latestHandedOutDueAt_a0) := ⟨_, rfl⟩
  obtain ⟨T4, h4, X4, e4, W4, st4⟩ := putF X2 hx hZ hown (host := "") (Or.inl (hw _ (List.mem_of_getElem? (i := 36) rfl))) Via.refl e2 F_latestHandedOutDueAt_a0 E_a0 (Or.inl (hw _ (List.mem_of_getElem? (i := 37) rfl))) (hw _ (List.mem_of_getElem? (i := 1) rfl)) (ty := .long) (by decide) rfl rfl (g := (mkF m 9 #[.val (.ref a0), .val (.long q1), .second] [(.long v3), (.ref a0)])) rfl rfl (hb hby d6_9)
  have K4 : Keep h0 h4 [a0] := (Keep.refl h0 [a0]).wr W4 (Or.inl (by simp))
  have Fw4 : Fld Z h4 a0 "com/example/tidewheel/tidewheel/store/TopicIndex" "latestHandedOutDueAt" "J" (.long v3) := F_latestHandedOutDueAt_a0.same W4
  have N4 := Fr.snoc X4 N2 nw_a0
  obtain ⟨fs, hr, hrun, hended, hW, hsame⟩ := X4.leave (v := none) (fun _ => rfl)
  refine ⟨_, _, pre0 _ ?_, hrun, hended, _, _, rfl, ?_, ⟨_, rfl⟩, hW, hsame.mono (by decide) (by decide)⟩
  · show Steps p.tables e below (s₁.setTop (mkF m 0 #[.val (.ref a0), .val (.long q1), .second] [])) _
    refine XS.aloadN X0.here hx rfl (hb hby d6_0) rfl rfl ?_
    show Steps p.tables e below (s₁.setTop (mkF m 1 #[.val (.ref a0), .val (.long q1), .second] [(.ref a0)])) _
    refine XS.aloadN X0.here hx rfl (hb hby d6_1) rfl rfl ?_
    show Steps p.tables e below (s₁.setTop (mkF m 2 #[.val (.ref a0), .val (.long q1), .second] [(.ref a0), (.ref a0)])) _
    refine st1 _ ?_
    show Steps p.tables e below (T1.setTop (mkF m 5 #[.val (.ref a0), .val (.long q1), .second] [(.long w_latestHandedOutDueAt_a0), (.ref a0)])) _
    refine XS.lloadN X1.here hx rfl (hb hby d6_5) rfl ?_
    show Steps p.tables e below (T1.setTop (mkF m 6 #[.val (.ref a0), .val (.long q1), .second] [(.long q1), (.long w_latestHandedOutDueAt_a0), (.ref a0)])) _
    refine st2 _ ?_
    show Steps p.tables e below (T2.setTop (mkF m 9 #[.val (.ref a0), .val (.long q1), .second] [(.long (if w_latestHandedOutDueAt_a0 < q1 then q1 else w_latestHandedOutDueAt_a0)), (.ref a0)])) _
    refine castTop (g' := (mkF m 9 #[.val (.ref a0), .val (.long q1), .second] [(.long v3), (.ref a0)])) (by rw [hv3] <;> rfl) ?_
    show Steps p.tables e below (T2.setTop (mkF m 9 #[.val (.ref a0), .val (.long q1), .second] [(.long v3), (.ref a0)])) _
    refine st4 _ ?_
    show Steps p.tables e below (T4.setTop (mkF m 12 #[.val (.ref a0), .val (.long q1), .second] [])) _
    exact X4.returnOut hx Bd.returns (hb hby d6_12) hr
  have G5 : Exa Z h4 a0 "com/example/tidewheel/tidewheel/store/TopicIndex" := (E_a0.wr W4)
  have G6 : Fld Z h4 a0 "com/example/tidewheel/tidewheel/store/TopicIndex" "positions" "[J" w_positions_a0 := (F_positions_a0.other W4 (Or.inr (slot_ne (Or.inl (hw _ (List.mem_of_getElem? (i := 11) rfl))) (Or.inl (hw _ (List.mem_of_getElem? (i := 37) rfl))) (by decide) (t := (.array .long)) (t' := .long) (by decide) (by decide))))
  have G7 : Fld Z h4 a0 "com/example/tidewheel/tidewheel/store/TopicIndex" "deliveredAts" "[J" w_deliveredAts_a0 := (F_deliveredAts_a0.other W4 (Or.inr (slot_ne (Or.inl (hw _ (List.mem_of_getElem? (i := 13) rfl))) (Or.inl (hw _ (List.mem_of_getElem? (i := 37) rfl))) (by decide) (t := (.array .long)) (t' := .long) (by decide) (by decide))))
  have G8 : Fld Z h4 a0 "com/example/tidewheel/tidewheel/store/TopicIndex" "waiting" "Ljava/util/ArrayDeque;" w_waiting_a0 := (F_waiting_a0.other W4 (Or.inr (slot_ne (Or.inr (hw _ (List.mem_of_getElem? (i := 32) rfl))) (Or.inl (hw _ (List.mem_of_getElem? (i := 37) rfl))) (by decide) (t := (.object "java/util/ArrayDeque")) (t' := .long) (by decide) (by decide))))
  have G9 : Fld Z h4 a0 "com/example/tidewheel/tidewheel/store/TopicIndex" "lastReadableDueAt" "J" (.long w_lastReadableDueAt_a0) := (F_lastReadableDueAt_a0.other W4 (Or.inr (slot_ne (Or.inl (hw _ (List.mem_of_getElem? (i := 35) rfl))) (Or.inl (hw _ (List.mem_of_getElem? (i := 37) rfl))) (by decide) (t := .long) (t' := .long) (by decide) (by decide))))
  have G10 : Fld Z h4 a0 "com/example/tidewheel/tidewheel/store/TopicIndex" "size" "I" (.int w_size_a0) := (F_size_a0.other W4 (Or.inr (slot_ne (Or.inl (hw _ (List.mem_of_getElem? (i := 59) rfl))) (Or.inl (hw _ (List.mem_of_getElem? (i := 37) rfl))) (by decide) (t := .int) (t' := .long) (by decide) (by decide))))
  · show Q6 Z a0 q1 w_positions_a0 w_deliveredAts_a0 w_waiting_a0 w_lastReadableDueAt_a0 w_latestHandedOutDueAt_a0 w_size_a0 h0 n0 _ T4.heap _
    rw [e4]
    subst hv3
    exact ⟨rfl, N4, K4, G5, G6, G7, G8, G9, Fw4, G10⟩
theorem ef_8 (m : MethodId) (a0 : Addr) : entryFrame m #[(.ref a0)] 1 = mkF m 0 #[.val (.ref a0)] [] := by first | (simp [entryFrame, mkF, argsToLocals, Value.category]; done) | rfl
def Q8 (Z : State) (a0 : Addr) (w_positions_a0 : Value) (w_deliveredAts_a0 : Value) (w_waiting_a0 : Value) (w_lastReadableDueAt_a0 : Int64) (w_latestHandedOutDueAt_a0 : Int64) (w_size_a0 : Int32) (h0 : Heap) (n0 : Nat) (v : Option Value) (h : Heap) (L : List Loc) : Prop := v = some (.int w_size_a0) ∧ Fr n0 L ∧ h = h0
set_option maxRecDepth 65536 in
set_option maxHeartbeats 40000000 in
theorem rm8 (l : Launch) (Z : State) (A0 : Array Value) (hw : ∀ d ∈ tables_1, d.before A0 Z = true) (ws : List Jvm.Cond) (a0 : Addr) (w_positions_a0 : Value) (w_deliveredAts_a0 : Value) (w_waiting_a0 : Value) (w_lastReadableDueAt_a0 : Int64) (w_latestHandedOutDueAt_a0 : Int64) (w_size_a0 : Int32) (h0 : Heap) (n0 : Nat) (Z0 : n0 ≤ h0.size) (E_a0 : Exa Z h0 a0 "com/example/tidewheel/tidewheel/store/TopicIndex") (F_positions_a0 : Fld Z h0 a0 "com/example/tidewheel/tidewheel/store/TopicIndex" "positions" "[J" w_positions_a0) (F_deliveredAts_a0 : Fld Z h0 a0 "com/example/tidewheel/tidewheel/store/TopicIndex" "deliveredAts" "[J" w_deliveredAts_a0) (F_waiting_a0 : Fld Z h0 a0 "com/example/tidewheel/tidewheel/store/TopicIndex" "waiting" "Ljava/util/ArrayDeque;" w_waiting_a0) (F_lastReadableDueAt_a0 : Fld Z h0 a0 "com/example/tidewheel/tidewheel/store/TopicIndex" "lastReadableDueAt" "J" (.long w_lastReadableDueAt_a0)) (F_latestHandedOutDueAt_a0 : Fld Z h0 a0 "com/example/tidewheel/tidewheel/store/TopicIndex" "latestHandedOutDueAt" "J" (.long w_latestHandedOutDueAt_a0)) (F_size_a0 : Fld Z h0 a0 "com/example/tidewheel/tidewheel/store/TopicIndex" "size" "I" (.int w_size_a0)) :
    MetFree l (⟨"com/example/tidewheel/tidewheel/store/TopicIndex", "size", "()I"⟩ : MethodName) (head1 (Jvm.Cond.code (⟨"com/example/tidewheel/tidewheel/store/TopicIndex", "size", "()I"⟩ : MethodName) prog_30_method_2_code 1 (some .int) :: ws) ({ frames := 0, cells := 0, slots := 0, locals := 0 } : Room)) (fun a U => a = #[(.ref a0)] ∧ Z.Warmed39 U.vm ∧ U.heap = h0) (fun _ _ _ _ _ => True) (fun _ U o U' => ∃ v L, o = .returned v ∧ Q8 Z a0 w_positions_a0 w_deliveredAts_a0 w_waiting_a0 w_lastReadableDueAt_a0 w_latestHandedOutDueAt_a0 w_size_a0 h0 n0 v U'.heap L ∧ FrameEnd U o U' L ({ frames := 0, cells := 0, slots := 0, locals := 0 } : Room).cells ({ frames := 0, cells := 0, slots := 0, locals := 0 } : Room).slots) := by
  refine MetFree.of_bodySF (plainFor_of_name pn_8) hisR ?_
  intro p e s m args below meth c s₁ Bd hml0 hP hK
  obtain ⟨rfl, hZ, hh⟩ := hP
  have hx := Bd.exec
  have hby := Bd.bytes
  have hml : c.maxLocals = 1 := hml0
  have hown : s.vm.findClass "com/example/tidewheel/tidewheel/store/TopicIndex" = some m.cls := findClass_of_methodNamed Bd.named
  have hnm := (name_of_methodNamed Bd.named Bd.method).1
  have X0 : Stand p l e ({ frames := 0, cells := 0, slots := 0, locals := 0 } : Room) s m #[(.ref a0)] below meth c s₁ [] 0 0 := Stand.of_body Bd
  have e0 : s₁.heap = h0 := by rw [← hh, Bd.state]; rfl
  have N0 := Fr.nil n0
  have pre0 : ∀ t, Steps p.tables e below (s₁.setTop (mkF m 0 #[.val (.ref a0)] [])) t → Steps p.tables e below (s₁.setTop (entryFrame m #[(.ref a0)] 1)) t := fun t k => castTop (ef_8 m a0) k
  obtain ⟨T1, X1, e1, st1⟩ := getF X0 hx hZ hown (host := "") (Or.inl (hw _ (List.mem_of_getElem? (i := 58) rfl))) Via.refl e0 F_size_a0 (g := (mkF m 1 #[.val (.ref a0)] [(.ref a0)])) rfl rfl (hb hby d8_1)
  obtain ⟨fs, hr, hrun, hended, hW, hsame⟩ := X1.leave (v := some (.int w_size_a0)) (fun h => by rw [Bd.returns] at h; cases h)
  refine ⟨_, _, pre0 _ ?_, hrun, hended, _, _, rfl, ?_, ⟨_, rfl⟩, hW, hsame.mono (by decide) (by decide)⟩
  · show Steps p.tables e below (s₁.setTop (mkF m 0 #[.val (.ref a0)] [])) _
    refine XS.aloadN X0.here hx rfl (hb hby d8_0) rfl rfl ?_
    show Steps p.tables e below (s₁.setTop (mkF m 1 #[.val (.ref a0)] [(.ref a0)])) _
    refine st1 _ ?_
    show Steps p.tables e below (T1.setTop (mkF m 4 #[.val (.ref a0)] [(.int w_size_a0)])) _
    exact retOut X1 hx Bd.returns rfl (Or.inl ⟨rfl, Or.inl rfl, _, rfl⟩) (hb hby d8_4) hr
  · show Q8 Z a0 w_positions_a0 w_deliveredAts_a0 w_waiting_a0 w_lastReadableDueAt_a0 w_latestHandedOutDueAt_a0 w_size_a0 h0 n0 _ T1.heap _
    exact ⟨rfl, N0, e1⟩
theorem ef_9 (m : MethodId) (a0 : Addr) : entryFrame m #[(.ref a0)] 1 = mkF m 0 #[.val (.ref a0)] [] := by first | (simp [entryFrame, mkF, argsToLocals, Value.category]; done) | rfl
def Q9 (Z : State) (a0 : Addr) (w_positions_a0 : Value) (w_deliveredAts_a0 : Value) (w_waiting_a0 : Value) (w_lastReadableDueAt_a0 : Int64) (w_latestHandedOutDueAt_a0 : Int64) (w_size_a0 : Int32) (h0 : Heap) (n0 : Nat) (v : Option Value) (h : Heap) (L : List Loc) : Prop := v = some (.long w_lastReadableDueAt_a0) ∧ Fr n0 L ∧ h = h0
set_option maxRecDepth 65536 in
set_option maxHeartbeats 40000000 in
theorem rm9 (l : Launch) (Z : State) (A0 : Array Value) (hw : ∀ d ∈ tables_1, d.before A0 Z = true) (ws : List Jvm.Cond) (a0 : Addr) (w_positions_a0 : Value) (w_deliveredAts_a0 : Value) (w_waiting_a0 : Value) (w_lastReadableDueAt_a0 : Int64) (w_latestHandedOutDueAt_a0 : Int64) (w_size_a0 : Int32) (h0 : Heap) (n0 : Nat) (Z0 : n0 ≤ h0.size) (E_a0 : Exa Z h0 a0 "com/example/tidewheel/tidewheel/store/TopicIndex") (F_positions_a0 : Fld Z h0 a0 "com/example/tidewheel/tidewheel/store/TopicIndex" "positions" "[J" w_positions_a0) (F_deliveredAts_a0 : Fld Z h0 a0 "com/example/tidewheel/tidewheel/store/TopicIndex" "deliveredAts" "[J" w_deliveredAts_a0) (F_waiting_a0 : Fld Z h0 a0 "com/example/tidewheel/tidewheel/store/TopicIndex" "waiting" "Ljava/util/ArrayDeque;" w_waiting_a0) (F_lastReadableDueAt_a0 : Fld Z h0 a0 "com/example/tidewheel/tidewheel/store/TopicIndex" "lastReadableDueAt" "J" (.long w_lastReadableDueAt_a0)) (F_latestHandedOutDueAt_a0 : Fld Z h0 a0 "com/example/tidewheel/tidewheel/store/TopicIndex" "latestHandedOutDueAt" "J" (.long w_latestHandedOutDueAt_a0)) (F_size_a0 : Fld Z h0 a0 "com/example/tidewheel/tidewheel/store/TopicIndex" "size" "I" (.int w_size_a0)) :
    MetFree l (⟨"com/example/tidewheel/tidewheel/store/TopicIndex", "lastReadableDueAt", "()J"⟩ : MethodName) (head1 (Jvm.Cond.code (⟨"com/example/tidewheel/tidewheel/store/TopicIndex", "lastReadableDueAt", "()J"⟩ : MethodName) prog_30_method_7_code 1 (some .long) :: ws) ({ frames := 0, cells := 0, slots := 0, locals := 0 } : Room)) (fun a U => a = #[(.ref a0)] ∧ Z.Warmed39 U.vm ∧ U.heap = h0) (fun _ _ _ _ _ => True) (fun _ U o U' => ∃ v L, o = .returned v ∧ Q9 Z a0 w_positions_a0 w_deliveredAts_a0 w_waiting_a0 w_lastReadableDueAt_a0 w_latestHandedOutDueAt_a0 w_size_a0 h0 n0 v U'.heap L ∧ FrameEnd U o U' L ({ frames := 0, cells := 0, slots := 0, locals := 0 } : Room).cells ({ frames := 0, cells := 0, slots := 0, locals := 0 } : Room).slots) := by
  refine MetFree.of_bodySF (plainFor_of_name pn_9) hisR ?_
  intro p e s m args below meth c s₁ Bd hml0 hP hK
  obtain ⟨rfl, hZ, hh⟩ := hP
  have hx := Bd.exec
  have hby := Bd.bytes
  have hml : c.maxLocals = 1 := hml0
  have hown : s.vm.findClass "com/example/tidewheel/tidewheel/store/TopicIndex" = some m.cls := findClass_of_methodNamed Bd.named
  have hnm := (name_of_methodNamed Bd.named Bd.method).1
  have X0 : Stand p l e ({ frames := 0, cells := 0, slots := 0, locals := 0 } : Room) s m #[(.ref a0)] below meth c s₁ [] 0 0 := Stand.of_body Bd
  have e0 : s₁.heap = h0 := by rw [← hh, Bd.state]; rfl
  have N0 := Fr.nil n0
  have pre0 : ∀ t, Steps p.tables e below (s₁.setTop (mkF m 0 #[.val (.ref a0)] [])) t → Steps p.tables e below (s₁.setTop (entryFrame m #[(.ref a0)] 1)) t := fun t k => castTop (ef_9 m a0) k
  obtain ⟨T1, X1, e1, st1⟩ := getF X0 hx hZ hown (host := "") (Or.inl (hw _ (List.mem_of_getElem? (i := 34) rfl))) Via.refl e0 F_lastReadableDueAt_a0 (g := (mkF m 1 #[.val (.ref a0)] [(.ref a0)])) rfl rfl (hb hby d9_1)
  obtain ⟨fs, hr, hrun, hended, hW, hsame⟩ := X1.leave (v := some (.long w_lastReadableDueAt_a0)) (fun h => by rw [Bd.returns] at h; cases h)
  refine ⟨_, _, pre0 _ ?_, hrun, hended, _, _, rfl, ?_, ⟨_, rfl⟩, hW, hsame.mono (by decide) (by decide)⟩
  · show Steps p.tables e below (s₁.setTop (mkF m 0 #[.val (.ref a0)] [])) _
    refine XS.aloadN X0.here hx rfl (hb hby d9_0) rfl rfl ?_
    show Steps p.tables e below (s₁.setTop (mkF m 1 #[.val (.ref a0)] [(.ref a0)])) _
    refine st1 _ ?_
    show Steps p.tables e below (T1.setTop (mkF m 4 #[.val (.ref a0)] [(.long w_lastReadableDueAt_a0)])) _
    exact retOut X1 hx Bd.returns rfl (Or.inr (Or.inl ⟨rfl, rfl, _, rfl⟩)) (hb hby d9_4) hr
  · show Q9 Z a0 w_positions_a0 w_deliveredAts_a0 w_waiting_a0 w_lastReadableDueAt_a0 w_latestHandedOutDueAt_a0 w_size_a0 h0 n0 _ T1.heap _
    exact ⟨rfl, N0, e1⟩
theorem own_law (q0 : Int64) (q1 : Int64) (q2 : Int64) (v21 : Int32) (v31 : Int64) (v37 : Int32) (v48 : Int64) (v54 : Int32) (v60 : Int32) (hv21 : v21 = (if (if (-9223372036854775808 : Int64) < q0 then q0 else (-9223372036854775808 : Int64)) = q0 then (1 : Int32) else (0 : Int32))) (hv31 : v31 = (if q0 < q1 then q1 else q0)) (hv37 : v37 = (if v21 = (0 : Int32) then (0 : Int32) else (if (if (if (-9223372036854775808 : Int64) < q0 then q0 else (-9223372036854775808 : Int64)) < q1 then q1 else (if (-9223372036854775808 : Int64) < q0 then q0 else (-9223372036854775808 : Int64))) = v31 then (1 : Int32) else (0 : Int32)))) (hv48 : v48 = (if v31 < q2 then q2 else v31)) (hv54 : v54 = (if v37 = (0 : Int32) then (0 : Int32) else (if (if (if (if (-9223372036854775808 : Int64) < q0 then q0 else (-9223372036854775808 : Int64)) < q1 then q1 else (if (-9223372036854775808 : Int64) < q0 then q0 else (-9223372036854775808 : Int64))) < q2 then q2 else (if (if (-9223372036854775808 : Int64) < q0 then q0 else (-9223372036854775808 : Int64)) < q1 then q1 else (if (-9223372036854775808 : Int64) < q0 then q0 else (-9223372036854775808 : Int64)))) = v48 then (1 : Int32) else (0 : Int32)))) (hv60 : v60 = (if v54 = (0 : Int32) then (0 : Int32) else (1 : Int32))) : (nar .boolean v60) = (1 : Int32) := by
  simp only [own_min] at *
  have e1 : v21 = 1 := by rw [hv21]; simp
  have e2 : v37 = 1 := by rw [hv37, e1, if_neg (by decide), hv31]; simp
  have e3 : v54 = 1 := by rw [hv54, e2, if_neg (by decide), hv48, hv31]; simp
  rw [hv60, e3, if_neg (by decide), own_nar1]
theorem ef_0 (m : MethodId) (q0 : Int64) (q1 : Int64) (q2 : Int64) : entryFrame m #[(.long q0), (.long q1), (.long q2)] maxLocals = mkF m 0 #[.val (.long q0), .second, .val (.long q1), .second, .val (.long q2), .second, .unset, .unset, .unset, .unset, .unset, .unset] [] := by first | (simp [entryFrame, mkF, argsToLocals, Value.category, maxLocals]; done) | rfl
def Q0 (h0 : Heap) (n0 : Nat) (v : Option Value) (h : Heap) (L : List Loc) : Prop := v = some (.int 1) ∧ Fr n0 L
set_option maxRecDepth 65536 in
set_option maxHeartbeats 40000000 in
theorem rm0 (l : Launch) (Z : State) (A0 : Array Value) (hw : ∀ d ∈ tables_1, d.before A0 Z = true) (ws : List Jvm.Cond) (q0 : Int64) (q1 : Int64) (q2 : Int64) (h0 : Heap) (n0 : Nat) (Z0 : n0 ≤ h0.size) :
    MetFree l x (head1 (Jvm.Cond.code x code maxLocals ret :: ws) room_1) (fun a U => a = #[(.long q0), (.long q1), (.long q2)] ∧ Z.Warmed39 U.vm ∧ U.heap = h0) (fun _ _ _ _ _ => True) (fun _ U o U' => ∃ v L, o = .returned v ∧ Q0 h0 n0 v U'.heap L ∧ FrameEnd U o U' L 5 43) := by
  refine MetFree.of_bodySF (plainFor_of_name pn_0) hisR ?_
  intro p e s m args below meth c s₁ Bd hml0 hP hK
  obtain ⟨rfl, hZ, hh⟩ := hP
  have hx := Bd.exec
  have hby := Bd.bytes
  have hml : c.maxLocals = 12 := hml0
  have hown : s.vm.findClass "com/example/tidewheel/tidewheel/store/TopicIndexHandedOutPinLaw" = some m.cls := findClass_of_methodNamed Bd.named
  have hnm := (name_of_methodNamed Bd.named Bd.method).1
  have X0 : Stand p l e room_1 s m #[(.long q0), (.long q1), (.long q2)] below meth c s₁ [] 0 0 := Stand.of_body Bd
  have e0 : s₁.heap = h0 := by rw [← hh, Bd.state]; rfl
  have N0 := Fr.nil n0
  have pre0 : ∀ t, Steps p.tables e below (s₁.setTop (mkF m 0 #[.val (.long q0), .second, .val (.long q1), .second, .val (.long q2), .second, .unset, .unset, .unset, .unset, .unset, .unset] [])) t → Steps p.tables e below (s₁.setTop (entryFrame m #[(.long q0), (.long q1), (.long q2)] maxLocals)) t := fun t k => castTop (ef_0 m q0 q1 q2) k
  obtain ⟨T1, h1, X1, e1, E1, A1, D1, -, st1⟩ := newO X0 hx hZ hown (hw _ (List.mem_of_getElem? (i := 0) rfl)) (hw _ (List.mem_of_getElem? (i := 1) rfl)) (hw _ (List.mem_of_getElem? (i := 2) rfl)) e0 (g := (mkF m 0 #[.val (.long q0), .second, .val (.long q1), .second, .val (.long q2), .second, .unset, .unset, .unset, .unset, .unset, .unset] [])) rfl (hb hby at_0) (by decide) (by decide)
  obtain ⟨b1, g1⟩ : ∃ z, z = h0.size := ⟨_, rfl⟩
  rw [← g1] at A1 D1 st1
  have nw_b1 : n0 ≤ b1 := Nat.le_trans (Nat.le_trans Z0 (Keep.refl h0 []).1) (Nat.le_of_eq g1.symm)
  have sz_b1 : h0.size ≤ b1 := Nat.le_trans (Keep.refl h0 []).1 (Nat.le_of_eq g1.symm)
  have K1 : Keep h0 h1 [] := (Keep.refl h0 []).ext E1
  have F_positions_b1 : Fld Z h1 b1 "com/example/tidewheel/tidewheel/store/TopicIndex" "positions" "[J" .null := D1 (Or.inl (hw _ (List.mem_of_getElem? (i := 11) rfl))) (ty := (.array .long)) (by decide)
  have F_deliveredAts_b1 : Fld Z h1 b1 "com/example/tidewheel/tidewheel/store/TopicIndex" "deliveredAts" "[J" .null := D1 (Or.inl (hw _ (List.mem_of_getElem? (i := 13) rfl))) (ty := (.array .long)) (by decide)
  have F_waiting_b1 : Fld Z h1 b1 "com/example/tidewheel/tidewheel/store/TopicIndex" "waiting" "Ljava/util/ArrayDeque;" .null := D1 (Or.inr (hw _ (List.mem_of_getElem? (i := 32) rfl))) (ty := (.object "java/util/ArrayDeque")) (by decide)
  have F_lastReadableDueAt_b1 : Fld Z h1 b1 "com/example/tidewheel/tidewheel/store/TopicIndex" "lastReadableDueAt" "J" (.long (0 : Int64)) := D1 (Or.inl (hw _ (List.mem_of_getElem? (i := 35) rfl))) (ty := .long) (by decide)
  have F_latestHandedOutDueAt_b1 : Fld Z h1 b1 "com/example/tidewheel/tidewheel/store/TopicIndex" "latestHandedOutDueAt" "J" (.long (0 : Int64)) := D1 (Or.inl (hw _ (List.mem_of_getElem? (i := 37) rfl))) (ty := .long) (by decide)
  have F_size_b1 : Fld Z h1 b1 "com/example/tidewheel/tidewheel/store/TopicIndex" "size" "I" (.int (0 : Int32)) := D1 (Or.inl (hw _ (List.mem_of_getElem? (i := 59) rfl))) (ty := .int) (by decide)
  obtain ⟨_, _, ⟨T2, L2, k2, n2⟩, -, X2, ⟨Lc2, hQ2, l2, y2, z2⟩, st2⟩ := X1.specialBack hx (y := (⟨"com/example/tidewheel/tidewheel/store/TopicIndex", "<init>", "()V"⟩ : MethodName)) rfl hown (mvT hZ (hw _ (List.mem_of_getElem? (i := 3) rfl))) (mvT hZ (hw _ (List.mem_of_getElem? (i := 4) rfl))) (mvT hZ (hw _ (List.mem_of_getElem? (i := 5) rfl))) (by decide) (backOf (W := 1) (rm1 l Z A0 hw [] b1 .null .null .null (0 : Int64) (0 : Int64) (0 : Int32) h1 n0 (Nat.le_trans Z0 K1.1) A1 F_positions_b1 F_deliveredAts_b1 F_waiting_b1 F_lastReadableDueAt_b1 F_latestHandedOutDueAt_b1 F_size_b1 nw_b1) hZ (hw _ (List.mem_of_getElem? (i := 5) rfl)) (hw _ (List.mem_of_getElem? (i := 2) rfl)) (by decide) (by decide)) (g := (mkF m 4 #[.val (.long q0), .second, .val (.long q1), .second, .val (.long q2), .second, .unset, .unset, .unset, .unset, .unset, .unset] [(.ref b1), (.ref b1)])) rfl (by rw [hml]; rfl) (Steps.refl _) (a := b1) (argsL := []) (rest := [(.ref b1)]) (lenOf pd_0 rfl) rfl (by show 2 * 0 + _ ≤ _; exact Nat.le_of_eq rfl) (hb hby at_4) (fun _ _ => ⟨rfl, e1, (by decide : 1 + 4 ≤ _), (by decide : 7 + 36 ≤ _)⟩)
  dsimp only [Pt.U, Pt.locs, Pt.cells, Pt.slots] at X2 l2 y2 z2 st2 hQ2
  subst l2 y2 z2
  obtain ⟨b2_b2, b2_b6, b2_b12, b2_b16_b2, rfl, N2q, Kc2, szb2_b2, szb2_b6, szb2_b12, szb2_b16_b2, ne_b2_b2_b2_b6, ne_b2_b2_b2_b12, ne_b2_b2_b2_b16_b2, ne_b2_b6_b2_b12, ne_b2_b6_b2_b16_b2, ne_b2_b12_b2_b16_b2, P3, P4, P5, P6, P7, P8, P9⟩ := hQ2
  have ne_b1_b2_b2 : b1 ≠ b2_b2 := Nat.ne_of_lt (Nat.lt_of_lt_of_le A1.lt szb2_b2)
  have ne_b1_b2_b6 : b1 ≠ b2_b6 := Nat.ne_of_lt (Nat.lt_of_lt_of_le A1.lt szb2_b6)
  have ne_b1_b2_b12 : b1 ≠ b2_b12 := Nat.ne_of_lt (Nat.lt_of_lt_of_le A1.lt szb2_b12)
  have ne_b1_b2_b16_b2 : b1 ≠ b2_b16_b2 := Nat.ne_of_lt (Nat.lt_of_lt_of_le A1.lt szb2_b16_b2)
  have nw_b2_b2 : n0 ≤ b2_b2 := Nat.le_trans (Nat.le_trans Z0 K1.1) szb2_b2
  have sq_b2_b2 : h0.size ≤ b2_b2 := Nat.le_trans K1.1 szb2_b2
  have nw_b2_b6 : n0 ≤ b2_b6 := Nat.le_trans (Nat.le_trans Z0 K1.1) szb2_b6
  have sq_b2_b6 : h0.size ≤ b2_b6 := Nat.le_trans K1.1 szb2_b6
  have nw_b2_b12 : n0 ≤ b2_b12 := Nat.le_trans (Nat.le_trans Z0 K1.1) szb2_b12
  have sq_b2_b12 : h0.size ≤ b2_b12 := Nat.le_trans K1.1 szb2_b12
  have nw_b2_b16_b2 : n0 ≤ b2_b16_b2 := Nat.le_trans (Nat.le_trans Z0 K1.1) szb2_b16_b2
  have sq_b2_b16_b2 : h0.size ≤ b2_b16_b2 := Nat.le_trans K1.1 szb2_b16_b2
  have K2 : Keep h0 T2.heap [] := K1.trans Kc2 (allS (Or.inr sz_b1) all0)
  have N2 := Fr.app N0 N2q
  obtain ⟨cq10, kq10, q10a, q10b, q10c⟩ := isOf hZ rfl P3
  obtain ⟨_, _, ⟨T10, L10, k10, n10⟩, -, X10, ⟨Lc10, hQ10, l10, y10, z10⟩, st10⟩ := X2.virtualBack hx (y := (⟨"com/example/tidewheel/tidewheel/store/TopicIndex", "latestHandedOutDueAt", "()J"⟩ : MethodName)) (z := (⟨"com/example/tidewheel/tidewheel/store/TopicIndex", "latestHandedOutDueAt", "()J"⟩ : MethodName)) hown (mvT hZ (hw _ (List.mem_of_getElem? (i := 38) rfl))) (mvT hZ (hw _ (List.mem_of_getElem? (i := 39) rfl))) (notFace_of_selects (args := #[]) (mvT hZ (hw _ (List.mem_of_getElem? (i := 41) rfl)))) (mvT hZ (hw _ (List.mem_of_getElem? (i := 41) rfl))) (mvT hZ (hw _ (List.mem_of_getElem? (i := 40) rfl))) (by decide) (backOf (W := 0) (rm5 l Z A0 hw [] b1 (.ref b2_b2) (.ref b2_b6) (.ref b2_b12) (-9223372036854775808 : Int64) (-9223372036854775808 : Int64) (0 : Int32) T2.heap n0 (Nat.le_trans Z0 K2.1) P3 P4 P5 P6 P7 P8 P9) hZ (hw _ (List.mem_of_getElem? (i := 42) rfl)) (hw _ (List.mem_of_getElem? (i := 2) rfl)) (by decide) (by decide)) q10a q10c (g := (mkF m 11 #[.val (.long q0), .second, .val (.long q1), .second, .val (.long q2), .second, .val (.ref b1), .unset, .unset, .unset, .unset, .unset] [(.ref b1)])) rfl (by rw [hml]; rfl) (Steps.refl _) (argsL := []) (rest := []) (lenOf pd_1 rfl) rfl (by show 2 * 0 + _ ≤ _; exact Nat.le_of_eq rfl) (hb hby at_11) (fun _ _ => ⟨rfl, rfl, (by decide : 5 + 0 ≤ _), (by decide : 43 + 0 ≤ _)⟩)
  dsimp only [Pt.U, Pt.locs, Pt.cells, Pt.slots] at X10 l10 y10 z10 st10 hQ10
  subst l10 y10 z10
  obtain ⟨rfl, N10q, e10⟩ := hQ10
  have N10 := Fr.app N2 N10q
  obtain ⟨cq11, kq11, q11a, q11b, q11c⟩ := isOf hZ e10 P3
  obtain ⟨_, _, ⟨T11, L11, k11, n11⟩, -, X11, ⟨Lc11, hQ11, l11, y11, z11⟩, st11⟩ := X10.virtualBack hx (y := (⟨"com/example/tidewheel/tidewheel/store/TopicIndex", "handedOut", "(J)V"⟩ : MethodName)) (z := (⟨"com/example/tidewheel/tidewheel/store/TopicIndex", "handedOut", "(J)V"⟩ : MethodName)) hown (mvT hZ (hw _ (List.mem_of_getElem? (i := 44) rfl))) (mvT hZ (hw _ (List.mem_of_getElem? (i := 45) rfl))) (notFace_of_selects (args := #[]) (mvT hZ (hw _ (List.mem_of_getElem? (i := 47) rfl)))) (mvT hZ (hw _ (List.mem_of_getElem? (i := 47) rfl))) (mvT hZ (hw _ (List.mem_of_getElem? (i := 46) rfl))) (by decide) (backOf (W := 0) (rm6 l Z A0 hw [] b1 q0 (.ref b2_b2) (.ref b2_b6) (.ref b2_b12) (-9223372036854775808 : Int64) (-9223372036854775808 : Int64) (0 : Int32) T2.heap n0 (Nat.le_trans Z0 K2.1) P3 P4 P5 P6 P7 P8 P9 nw_b1) hZ (hw _ (List.mem_of_getElem? (i := 48) rfl)) (hw _ (List.mem_of_getElem? (i := 2) rfl)) (by decide) (by decide)) q11a q11c (g := (mkF m 31 #[.val (.long q0), .second, .val (.long q1), .second, .val (.long q2), .second, .val (.ref b1), .val (.int (1 : Int32)), .unset, .unset, .unset, .unset] [(.long q0), (.ref b1)])) rfl (by rw [hml]; rfl) (Steps.refl _) (argsL := [(.long q0)]) (rest := []) (lenOf pd_2 rfl) rfl (by show 2 * 0 + _ ≤ _; exact Nat.le_of_eq rfl) (hb hby at_31) (fun _ _ => ⟨rfl, e10, (by decide : 5 + 0 ≤ _), (by decide : 43 + 0 ≤ _)⟩)
  dsimp only [Pt.U, Pt.locs, Pt.cells, Pt.slots] at X11 l11 y11 z11 st11 hQ11
  subst l11 y11 z11
  obtain ⟨rfl, N11q, Kc11, P12, P13, P14, P15, P16, P17, P18⟩ := hQ11
  have K11 : Keep h0 T11.heap [] := K2.trans Kc11 (allS (Or.inr sz_b1) all0)
  have N11 := Fr.app N10 N11q
  obtain ⟨cq19, kq19, q19a, q19b, q19c⟩ := isOf hZ rfl P12
  obtain ⟨_, _, ⟨T19, L19, k19, n19⟩, -, X19, ⟨Lc19, hQ19, l19, y19, z19⟩, st19⟩ := X11.virtualBack hx (y := (⟨"com/example/tidewheel/tidewheel/store/TopicIndex", "latestHandedOutDueAt", "()J"⟩ : MethodName)) (z := (⟨"com/example/tidewheel/tidewheel/store/TopicIndex", "latestHandedOutDueAt", "()J"⟩ : MethodName)) hown (mvT hZ (hw _ (List.mem_of_getElem? (i := 38) rfl))) (mvT hZ (hw _ (List.mem_of_getElem? (i := 39) rfl))) (notFace_of_selects (args := #[]) (mvT hZ (hw _ (List.mem_of_getElem? (i := 41) rfl)))) (mvT hZ (hw _ (List.mem_of_getElem? (i := 41) rfl))) (mvT hZ (hw _ (List.mem_of_getElem? (i := 40) rfl))) (by decide) (backOf (W := 0) (rm5 l Z A0 hw [] b1 (.ref b2_b2) (.ref b2_b6) (.ref b2_b12) (-9223372036854775808 : Int64) (if (-9223372036854775808 : Int64) < q0 then q0 else (-9223372036854775808 : Int64)) (0 : Int32) T11.heap n0 (Nat.le_trans Z0 K11.1) P12 P13 P14 P15 P16 P17 P18) hZ (hw _ (List.mem_of_getElem? (i := 42) rfl)) (hw _ (List.mem_of_getElem? (i := 2) rfl)) (by decide) (by decide)) q19a q19c (g := (mkF m 41 #[.val (.long q0), .second, .val (.long q1), .second, .val (.long q2), .second, .val (.ref b1), .val (.int (1 : Int32)), .unset, .unset, .unset, .unset] [(.ref b1)])) rfl (by rw [hml]; rfl) (Steps.refl _) (argsL := []) (rest := []) (lenOf pd_1 rfl) rfl (by show 2 * 0 + _ ≤ _; exact Nat.le_of_eq rfl) (hb hby at_41) (fun _ _ => ⟨rfl, rfl, (by decide : 5 + 0 ≤ _), (by decide : 43 + 0 ≤ _)⟩)
  dsimp only [Pt.U, Pt.locs, Pt.cells, Pt.slots] at X19 l19 y19 z19 st19 hQ19
  subst l19 y19 z19
  obtain ⟨rfl, N19q, e19⟩ := hQ19
  have N19 := Fr.app N11 N19q
  obtain ⟨v21, hv21⟩ : ∃ z : Int32, z = if (if (-9223372036854775808 : Int64) < q0 then q0 else (-9223372036854775808 : Int64)) = q0 then (1 : Int32) else (0 : Int32) := ⟨_, rfl⟩
  obtain ⟨cq22, kq22, q22a, q22b, q22c⟩ := isOf hZ e19 P12
  obtain ⟨_, _, ⟨T22, L22, k22, n22⟩, -, X22, ⟨Lc22, hQ22, l22, y22, z22⟩, st22⟩ := X19.virtualBack hx (y := (⟨"com/example/tidewheel/tidewheel/store/TopicIndex", "handedOut", "(J)V"⟩ : MethodName)) (z := (⟨"com/example/tidewheel/tidewheel/store/TopicIndex", "handedOut", "(J)V"⟩ : MethodName)) hown (mvT hZ (hw _ (List.mem_of_getElem? (i := 44) rfl))) (mvT hZ (hw _ (List.mem_of_getElem? (i := 45) rfl))) (notFace_of_selects (args := #[]) (mvT hZ (hw _ (List.mem_of_getElem? (i := 47) rfl)))) (mvT hZ (hw _ (List.mem_of_getElem? (i := 47) rfl))) (mvT hZ (hw _ (List.mem_of_getElem? (i := 46) rfl))) (by decide) (backOf (W := 0) (rm6 l Z A0 hw [] b1 q1 (.ref b2_b2) (.ref b2_b6) (.ref b2_b12) (-9223372036854775808 : Int64) (if (-9223372036854775808 : Int64) < q0 then q0 else (-9223372036854775808 : Int64)) (0 : Int32) T11.heap n0 (Nat.le_trans Z0 K11.1) P12 P13 P14 P15 P16 P17 P18 nw_b1) hZ (hw _ (List.mem_of_getElem? (i := 48) rfl)) (hw _ (List.mem_of_getElem? (i := 2) rfl)) (by decide) (by decide)) q22a q22c (g := (mkF m 59 #[.val (.long q0), .second, .val (.long q1), .second, .val (.long q2), .second, .val (.ref b1), .val (.int v21), .unset, .unset, .unset, .unset] [(.long q1), (.ref b1)])) rfl (by rw [hml]; rfl) (Steps.refl _) (argsL := [(.long q1)]) (rest := []) (lenOf pd_2 rfl) rfl (by show 2 * 0 + _ ≤ _; exact Nat.le_of_eq rfl) (hb hby at_59) (fun _ _ => ⟨rfl, e19, (by decide : 5 + 0 ≤ _), (by decide : 43 + 0 ≤ _)⟩)
  dsimp only [Pt.U, Pt.locs, Pt.cells, Pt.slots] at X22 l22 y22 z22 st22 hQ22
  subst l22 y22 z22
  obtain ⟨rfl, N22q, Kc22, P23, P24, P25, P26, P27, P28, P29⟩ := hQ22
  have K22 : Keep h0 T22.heap [] := K11.trans Kc22 (allS (Or.inr sz_b1) all0)
  have N22 := Fr.app N19 N22q
  obtain ⟨v31, hv31⟩ : ∃ z : Int64, z = if q0 < q1 then q1 else q0 := ⟨_, rfl⟩
  obtain ⟨v37, hv37⟩ : ∃ z : Int32, z = if v21 = (0 : Int32) then (0 : Int32) else (if (if (if (-9223372036854775808 : Int64) < q0 then q0 else (-9223372036854775808 : Int64)) < q1 then q1 else (if (-9223372036854775808 : Int64) < q0 then q0 else (-9223372036854775808 : Int64))) = v31 then (1 : Int32) else (0 : Int32)) := ⟨_, rfl⟩
  obtain ⟨T38, L38, X38, N38, e38, st38⟩ : ∃ (T' : State) (L' : List Loc), Stand p l e room_1 s m #[(.long q0), (.long q1), (.long q2)] below meth c T' L' 5 43 ∧ Fr n0 L' ∧ T'.heap = T22.heap ∧ ∀ target, Steps p.tables e below (T'.setTop (mkF m 98 #[.val (.long q0), .second, .val (.long q1), .second, .val (.long q2), .second, .val (.ref b1), .val (.int v21), .val (.long v31), .second, .unset, .unset] [(.int v37)])) target → Steps p.tables e below (T22.setTop (mkF m 79 #[.val (.long q0), .second, .val (.long q1), .second, .val (.long q2), .second, .val (.ref b1), .val (.int v21), .val (.long v31), .second, .unset, .unset] [(.int v21)])) target := by
    by_cases hc33 : v21 = (0 : Int32)
    · refine ⟨T22, _, X22, N22, rfl, fun target kt => ?_⟩
      show Steps p.tables e below (T22.setTop (mkF m 79 #[.val (.long q0), .second, .val (.long q1), .second, .val (.long q2), .second, .val (.ref b1), .val (.int v21), .val (.long v31), .second, .unset, .unset] [(.int v21)])) _
      refine XS.ifYes X22.here hx rfl (pc0 := 79) (pc' := 97) rfl (hb hby at_79) rfl ((if0 _ _).trans (teq hc33).1) (by decide) (by decide) ?_
      show Steps p.tables e below (T22.setTop (mkF m 97 #[.val (.long q0), .second, .val (.long q1), .second, .val (.long q2), .second, .val (.ref b1), .val (.int v21), .val (.long v31), .second, .unset, .unset] [])) _
      refine XS.iconst X22.here hx rfl (hb hby at_97) ?_
      exact castTop (by rw [hv37, if_pos hc33] <;> rfl) kt
    · obtain ⟨cq34, kq34, q34a, q34b, q34c⟩ := isOf hZ rfl P23
      obtain ⟨_, _, ⟨T34, L34, k34, n34⟩, -, X34, ⟨Lc34, hQ34, l34, y34, z34⟩, st34⟩ := X22.virtualBack hx (y := (⟨"com/example/tidewheel/tidewheel/store/TopicIndex", "latestHandedOutDueAt", "()J"⟩ : MethodName)) (z := (⟨"com/example/tidewheel/tidewheel/store/TopicIndex", "latestHandedOutDueAt", "()J"⟩ : MethodName)) hown (mvT hZ (hw _ (List.mem_of_getElem? (i := 38) rfl))) (mvT hZ (hw _ (List.mem_of_getElem? (i := 39) rfl))) (notFace_of_selects (args := #[]) (mvT hZ (hw _ (List.mem_of_getElem? (i := 41) rfl)))) (mvT hZ (hw _ (List.mem_of_getElem? (i := 41) rfl))) (mvT hZ (hw _ (List.mem_of_getElem? (i := 40) rfl))) (by decide) (backOf (W := 0) (rm5 l Z A0 hw [] b1 (.ref b2_b2) (.ref b2_b6) (.ref b2_b12) (-9223372036854775808 : Int64) (if (if (-9223372036854775808 : Int64) < q0 then q0 else (-9223372036854775808 : Int64)) < q1 then q1 else (if (-9223372036854775808 : Int64) < q0 then q0 else (-9223372036854775808 : Int64))) (0 : Int32) T22.heap n0 (Nat.le_trans Z0 K22.1) P23 P24 P25 P26 P27 P28 P29) hZ (hw _ (List.mem_of_getElem? (i := 42) rfl)) (hw _ (List.mem_of_getElem? (i := 2) rfl)) (by decide) (by decide)) q34a q34c (g := (mkF m 84 #[.val (.long q0), .second, .val (.long q1), .second, .val (.long q2), .second, .val (.ref b1), .val (.int v21), .val (.long v31), .second, .unset, .unset] [(.ref b1)])) rfl (by rw [hml]; rfl) (Steps.refl _) (argsL := []) (rest := []) (lenOf pd_1 rfl) rfl (by show 2 * 0 + _ ≤ _; exact Nat.le_of_eq rfl) (hb hby at_84) (fun _ _ => ⟨rfl, rfl, (by decide : 5 + 0 ≤ _), (by decide : 43 + 0 ≤ _)⟩)
      dsimp only [Pt.U, Pt.locs, Pt.cells, Pt.slots] at X34 l34 y34 z34 st34 hQ34
      subst l34 y34 z34
      obtain ⟨rfl, N34q, e34⟩ := hQ34
      have N34 := Fr.app N22 N34q
      obtain ⟨v36, hv36⟩ : ∃ z : Int32, z = if (if (if (-9223372036854775808 : Int64) < q0 then q0 else (-9223372036854775808 : Int64)) < q1 then q1 else (if (-9223372036854775808 : Int64) < q0 then q0 else (-9223372036854775808 : Int64))) = v31 then (1 : Int32) else (0 : Int32) := ⟨_, rfl⟩
      refine ⟨T34, _, X34, N34, e34, fun target kt => ?_⟩
      show Steps p.tables e below (T22.setTop (mkF m 79 #[.val (.long q0), .second, .val (.long q1), .second, .val (.long q2), .second, .val (.ref b1), .val (.int v21), .val (.long v31), .second, .unset, .unset] [(.int v21)])) _
      refine XS.ifNo X22.here hx rfl (hb hby at_79) rfl ((if0 _ _).trans (feq hc33).1) ?_
      show Steps p.tables e below (T22.setTop (mkF m 82 #[.val (.long q0), .second, .val (.long q1), .second, .val (.long q2), .second, .val (.ref b1), .val (.int v21), .val (.long v31), .second, .unset, .unset] [])) _
      refine XS.aload X22.here hx rfl (hb hby at_82) rfl rfl ?_
      show Steps p.tables e below (T22.setTop (mkF m 84 #[.val (.long q0), .second, .val (.long q1), .second, .val (.long q2), .second, .val (.ref b1), .val (.int v21), .val (.long v31), .second, .unset, .unset] [(.ref b1)])) _
      refine st34.trans ?_
      show Steps p.tables e below (T34.setTop (mkF m 87 #[.val (.long q0), .second, .val (.long q1), .second, .val (.long q2), .second, .val (.ref b1), .val (.int v21), .val (.long v31), .second, .unset, .unset] [(.long (if (if (-9223372036854775808 : Int64) < q0 then q0 else (-9223372036854775808 : Int64)) < q1 then q1 else (if (-9223372036854775808 : Int64) < q0 then q0 else (-9223372036854775808 : Int64))))])) _
      refine XS.lload X34.here hx rfl (hb hby at_87) rfl ?_
      show Steps p.tables e below (T34.setTop (mkF m 89 #[.val (.long q0), .second, .val (.long q1), .second, .val (.long q2), .second, .val (.ref b1), .val (.int v21), .val (.long v31), .second, .unset, .unset] [(.long v31), (.long (if (if (-9223372036854775808 : Int64) < q0 then q0 else (-9223372036854775808 : Int64)) < q1 then q1 else (if (-9223372036854775808 : Int64) < q0 then q0 else (-9223372036854775808 : Int64))))])) _
      refine XS.lcmp X34.here hx rfl (hb hby at_89) rfl ?_
      show Steps p.tables e below (T34.setTop (mkF m 90 #[.val (.long q0), .second, .val (.long q1), .second, .val (.long q2), .second, .val (.ref b1), .val (.int v21), .val (.long v31), .second, .unset, .unset] [(.int (lcmpW (if (if (-9223372036854775808 : Int64) < q0 then q0 else (-9223372036854775808 : Int64)) < q1 then q1 else (if (-9223372036854775808 : Int64) < q0 then q0 else (-9223372036854775808 : Int64))) v31))])) _
      refine own_dia (F := (mkF m 98 #[.val (.long q0), .second, .val (.long q1), .second, .val (.long q2), .second, .val (.ref b1), .val (.int v21), .val (.long v31), .second, .unset, .unset] [(.int v36)])) ?_ ?_
      · intro kt
        by_cases hc35 : (if (if (-9223372036854775808 : Int64) < q0 then q0 else (-9223372036854775808 : Int64)) < q1 then q1 else (if (-9223372036854775808 : Int64) < q0 then q0 else (-9223372036854775808 : Int64))) = v31
        · show Steps p.tables e below (T34.setTop (mkF m 90 #[.val (.long q0), .second, .val (.long q1), .second, .val (.long q2), .second, .val (.ref b1), .val (.int v21), .val (.long v31), .second, .unset, .unset] [(.int (lcmpW (if (if (-9223372036854775808 : Int64) < q0 then q0 else (-9223372036854775808 : Int64)) < q1 then q1 else (if (-9223372036854775808 : Int64) < q0 then q0 else (-9223372036854775808 : Int64))) v31))])) _
          refine XS.ifNo X34.here hx rfl (hb hby at_90) rfl ((if0 _ _).trans (teq ((lw_eq (if (if (-9223372036854775808 : Int64) < q0 then q0 else (-9223372036854775808 : Int64)) < q1 then q1 else (if (-9223372036854775808 : Int64) < q0 then q0 else (-9223372036854775808 : Int64))) v31).mpr hc35)).2) ?_
          show Steps p.tables e below (T34.setTop (mkF m 93 #[.val (.long q0), .second, .val (.long q1), .second, .val (.long q2), .second, .val (.ref b1), .val (.int v21), .val (.long v31), .second, .unset, .unset] [])) _
          refine XS.iconst X34.here hx rfl (hb hby at_93) ?_
          show Steps p.tables e below (T34.setTop (mkF m 94 #[.val (.long q0), .second, .val (.long q1), .second, .val (.long q2), .second, .val (.ref b1), .val (.int v21), .val (.long v31), .second, .unset, .unset] [(.int (1 : Int32))])) _
          refine XS.goto X34.here hx rfl (pc0 := 94) (pc' := 98) rfl (hb hby at_94) (by decide) (by decide) ?_
          exact castTop (by rw [hv36, if_pos hc35] <;> rfl) kt
        · show Steps p.tables e below (T34.setTop (mkF m 90 #[.val (.long q0), .second, .val (.long q1), .second, .val (.long q2), .second, .val (.ref b1), .val (.int v21), .val (.long v31), .second, .unset, .unset] [(.int (lcmpW (if (if (-9223372036854775808 : Int64) < q0 then q0 else (-9223372036854775808 : Int64)) < q1 then q1 else (if (-9223372036854775808 : Int64) < q0 then q0 else (-9223372036854775808 : Int64))) v31))])) _
          refine XS.ifYes X34.here hx rfl (pc0 := 90) (pc' := 97) rfl (hb hby at_90) rfl ((if0 _ _).trans (feq (fun q => hc35 ((lw_eq (if (if (-9223372036854775808 : Int64) < q0 then q0 else (-9223372036854775808 : Int64)) < q1 then q1 else (if (-9223372036854775808 : Int64) < q0 then q0 else (-9223372036854775808 : Int64))) v31).mp q))).2) (by decide) (by decide) ?_
          show Steps p.tables e below (T34.setTop (mkF m 97 #[.val (.long q0), .second, .val (.long q1), .second, .val (.long q2), .second, .val (.ref b1), .val (.int v21), .val (.long v31), .second, .unset, .unset] [])) _
          refine XS.iconst X34.here hx rfl (hb hby at_97) ?_
          exact castTop (by rw [hv36, if_neg hc35] <;> rfl) kt
      exact castTop (by subst hv36; rw [hv37, if_neg hc33] <;> rfl) kt
  obtain ⟨cq39, kq39, q39a, q39b, q39c⟩ := isOf hZ e38 P23
  obtain ⟨_, _, ⟨T39, L39, k39, n39⟩, -, X39, ⟨Lc39, hQ39, l39, y39, z39⟩, st39⟩ := X38.virtualBack hx (y := (⟨"com/example/tidewheel/tidewheel/store/TopicIndex", "handedOut", "(J)V"⟩ : MethodName)) (z := (⟨"com/example/tidewheel/tidewheel/store/TopicIndex", "handedOut", "(J)V"⟩ : MethodName)) hown (mvT hZ (hw _ (List.mem_of_getElem? (i := 44) rfl))) (mvT hZ (hw _ (List.mem_of_getElem? (i := 45) rfl))) (notFace_of_selects (args := #[]) (mvT hZ (hw _ (List.mem_of_getElem? (i := 47) rfl)))) (mvT hZ (hw _ (List.mem_of_getElem? (i := 47) rfl))) (mvT hZ (hw _ (List.mem_of_getElem? (i := 46) rfl))) (by decide) (backOf (W := 0) (rm6 l Z A0 hw [] b1 q2 (.ref b2_b2) (.ref b2_b6) (.ref b2_b12) (-9223372036854775808 : Int64) (if (if (-9223372036854775808 : Int64) < q0 then q0 else (-9223372036854775808 : Int64)) < q1 then q1 else (if (-9223372036854775808 : Int64) < q0 then q0 else (-9223372036854775808 : Int64))) (0 : Int32) T22.heap n0 (Nat.le_trans Z0 K22.1) P23 P24 P25 P26 P27 P28 P29 nw_b1) hZ (hw _ (List.mem_of_getElem? (i := 48) rfl)) (hw _ (List.mem_of_getElem? (i := 2) rfl)) (by decide) (by decide)) q39a q39c (g := (mkF m 104 #[.val (.long q0), .second, .val (.long q1), .second, .val (.long q2), .second, .val (.ref b1), .val (.int v37), .val (.long v31), .second, .unset, .unset] [(.long q2), (.ref b1)])) rfl (by rw [hml]; rfl) (Steps.refl _) (argsL := [(.long q2)]) (rest := []) (lenOf pd_2 rfl) rfl (by show 2 * 0 + _ ≤ _; exact Nat.le_of_eq rfl) (hb hby at_104) (fun _ _ => ⟨rfl, e38, (by decide : 5 + 0 ≤ _), (by decide : 43 + 0 ≤ _)⟩)
  dsimp only [Pt.U, Pt.locs, Pt.cells, Pt.slots] at X39 l39 y39 z39 st39 hQ39
  subst l39 y39 z39
  obtain ⟨rfl, N39q, Kc39, P40, P41, P42, P43, P44, P45, P46⟩ := hQ39
  have K39 : Keep h0 T39.heap [] := K22.trans Kc39 (allS (Or.inr sz_b1) all0)
  have N39 := Fr.app N38 N39q
  obtain ⟨v48, hv48⟩ : ∃ z : Int64, z = if v31 < q2 then q2 else v31 := ⟨_, rfl⟩
  obtain ⟨v54, hv54⟩ : ∃ z : Int32, z = if v37 = (0 : Int32) then (0 : Int32) else (if (if (if (if (-9223372036854775808 : Int64) < q0 then q0 else (-9223372036854775808 : Int64)) < q1 then q1 else (if (-9223372036854775808 : Int64) < q0 then q0 else (-9223372036854775808 : Int64))) < q2 then q2 else (if (if (-9223372036854775808 : Int64) < q0 then q0 else (-9223372036854775808 : Int64)) < q1 then q1 else (if (-9223372036854775808 : Int64) < q0 then q0 else (-9223372036854775808 : Int64)))) = v48 then (1 : Int32) else (0 : Int32)) := ⟨_, rfl⟩
  obtain ⟨T55, L55, X55, N55, e55, st55⟩ : ∃ (T' : State) (L' : List Loc), Stand p l e room_1 s m #[(.long q0), (.long q1), (.long q2)] below meth c T' L' 5 43 ∧ Fr n0 L' ∧ T'.heap = T39.heap ∧ ∀ target, Steps p.tables e below (T'.setTop (mkF m 147 #[.val (.long q0), .second, .val (.long q1), .second, .val (.long q2), .second, .val (.ref b1), .val (.int v37), .val (.long v31), .second, .val (.long v48), .second] [(.int v54)])) target → Steps p.tables e below (T39.setTop (mkF m 128 #[.val (.long q0), .second, .val (.long q1), .second, .val (.long q2), .second, .val (.ref b1), .val (.int v37), .val (.long v31), .second, .val (.long v48), .second] [(.int v37)])) target := by
    by_cases hc50 : v37 = (0 : Int32)
    · refine ⟨T39, _, X39, N39, rfl, fun target kt => ?_⟩
      show Steps p.tables e below (T39.setTop (mkF m 128 #[.val (.long q0), .second, .val (.long q1), .second, .val (.long q2), .second, .val (.ref b1), .val (.int v37), .val (.long v31), .second, .val (.long v48), .second] [(.int v37)])) _
      refine XS.ifYes X39.here hx rfl (pc0 := 128) (pc' := 146) rfl (hb hby at_128) rfl ((if0 _ _).trans (teq hc50).1) (by decide) (by decide) ?_
      show Steps p.tables e below (T39.setTop (mkF m 146 #[.val (.long q0), .second, .val (.long q1), .second, .val (.long q2), .second, .val (.ref b1), .val (.int v37), .val (.long v31), .second, .val (.long v48), .second] [])) _
      refine XS.iconst X39.here hx rfl (hb hby at_146) ?_
      exact castTop (by rw [hv54, if_pos hc50] <;> rfl) kt
    · obtain ⟨cq51, kq51, q51a, q51b, q51c⟩ := isOf hZ rfl P40
      obtain ⟨_, _, ⟨T51, L51, k51, n51⟩, -, X51, ⟨Lc51, hQ51, l51, y51, z51⟩, st51⟩ := X39.virtualBack hx (y := (⟨"com/example/tidewheel/tidewheel/store/TopicIndex", "latestHandedOutDueAt", "()J"⟩ : MethodName)) (z := (⟨"com/example/tidewheel/tidewheel/store/TopicIndex", "latestHandedOutDueAt", "()J"⟩ : MethodName)) hown (mvT hZ (hw _ (List.mem_of_getElem? (i := 38) rfl))) (mvT hZ (hw _ (List.mem_of_getElem? (i := 39) rfl))) (notFace_of_selects (args := #[]) (mvT hZ (hw _ (List.mem_of_getElem? (i := 41) rfl)))) (mvT hZ (hw _ (List.mem_of_getElem? (i := 41) rfl))) (mvT hZ (hw _ (List.mem_of_getElem? (i := 40) rfl))) (by decide) (backOf (W := 0) (rm5 l Z A0 hw [] b1 (.ref b2_b2) (.ref b2_b6) (.ref b2_b12) (-9223372036854775808 : Int64) (if (if (if (-9223372036854775808 : Int64) < q0 then q0 else (-9223372036854775808 : Int64)) < q1 then q1 else (if (-9223372036854775808 : Int64) < q0 then q0 else (-9223372036854775808 : Int64))) < q2 then q2 else (if (if (-9223372036854775808 : Int64) < q0 then q0 else (-9223372036854775808 : Int64)) < q1 then q1 else (if (-9223372036854775808 : Int64) < q0 then q0 else (-9223372036854775808 : Int64)))) (0 : Int32) T39.heap n0 (Nat.le_trans Z0 K39.1) P40 P41 P42 P43 P44 P45 P46) hZ (hw _ (List.mem_of_getElem? (i := 42) rfl)) (hw _ (List.mem_of_getElem? (i := 2) rfl)) (by decide) (by decide)) q51a q51c (g := (mkF m 133 #[.val (.long q0), .second, .val (.long q1), .second, .val (.long q2), .second, .val (.ref b1), .val (.int v37), .val (.long v31), .second, .val (.long v48), .second] [(.ref b1)])) rfl (by rw [hml]; rfl) (Steps.refl _) (argsL := []) (rest := []) (lenOf pd_1 rfl) rfl (by show 2 * 0 + _ ≤ _; exact Nat.le_of_eq rfl) (hb hby at_133) (fun _ _ => ⟨rfl, rfl, (by decide : 5 + 0 ≤ _), (by decide : 43 + 0 ≤ _)⟩)
      dsimp only [Pt.U, Pt.locs, Pt.cells, Pt.slots] at X51 l51 y51 z51 st51 hQ51
      subst l51 y51 z51
      obtain ⟨rfl, N51q, e51⟩ := hQ51
      have N51 := Fr.app N39 N51q
      obtain ⟨v53, hv53⟩ : ∃ z : Int32, z = if (if (if (if (-9223372036854775808 : Int64) < q0 then q0 else (-9223372036854775808 : Int64)) < q1 then q1 else (if (-9223372036854775808 : Int64) < q0 then q0 else (-9223372036854775808 : Int64))) < q2 then q2 else (if (if (-9223372036854775808 : Int64) < q0 then q0 else (-9223372036854775808 : Int64)) < q1 then q1 else (if (-9223372036854775808 : Int64) < q0 then q0 else (-9223372036854775808 : Int64)))) = v48 then (1 : Int32) else (0 : Int32) := ⟨_, rfl⟩
      refine ⟨T51, _, X51, N51, e51, fun target kt => ?_⟩
      show Steps p.tables e below (T39.setTop (mkF m 128 #[.val (.long q0), .second, .val (.long q1), .second, .val (.long q2), .second, .val (.ref b1), .val (.int v37), .val (.long v31), .second, .val (.long v48), .second] [(.int v37)])) _
      refine XS.ifNo X39.here hx rfl (hb hby at_128) rfl ((if0 _ _).trans (feq hc50).1) ?_
      show Steps p.tables e below (T39.setTop (mkF m 131 #[.val (.long q0), .second, .val (.long q1), .second, .val (.long q2), .second, .val (.ref b1), .val (.int v37), .val (.long v31), .second, .val (.long v48), .second] [])) _
      refine XS.aload X39.here hx rfl (hb hby at_131) rfl rfl ?_
      show Steps p.tables e below (T39.setTop (mkF m 133 #[.val (.long q0), .second, .val (.long q1), .second, .val (.long q2), .second, .val (.ref b1), .val (.int v37), .val (.long v31), .second, .val (.long v48), .second] [(.ref b1)])) _
      refine st51.trans ?_
      show Steps p.tables e below (T51.setTop (mkF m 136 #[.val (.long q0), .second, .val (.long q1), .second, .val (.long q2), .second, .val (.ref b1), .val (.int v37), .val (.long v31), .second, .val (.long v48), .second] [(.long (if (if (if (-9223372036854775808 : Int64) < q0 then q0 else (-9223372036854775808 : Int64)) < q1 then q1 else (if (-9223372036854775808 : Int64) < q0 then q0 else (-9223372036854775808 : Int64))) < q2 then q2 else (if (if (-9223372036854775808 : Int64) < q0 then q0 else (-9223372036854775808 : Int64)) < q1 then q1 else (if (-9223372036854775808 : Int64) < q0 then q0 else (-9223372036854775808 : Int64)))))])) _
      refine XS.lload X51.here hx rfl (hb hby at_136) rfl ?_
      show Steps p.tables e below (T51.setTop (mkF m 138 #[.val (.long q0), .second, .val (.long q1), .second, .val (.long q2), .second, .val (.ref b1), .val (.int v37), .val (.long v31), .second, .val (.long v48), .second] [(.long v48), (.long (if (if (if (-9223372036854775808 : Int64) < q0 then q0 else (-9223372036854775808 : Int64)) < q1 then q1 else (if (-9223372036854775808 : Int64) < q0 then q0 else (-9223372036854775808 : Int64))) < q2 then q2 else (if (if (-9223372036854775808 : Int64) < q0 then q0 else (-9223372036854775808 : Int64)) < q1 then q1 else (if (-9223372036854775808 : Int64) < q0 then q0 else (-9223372036854775808 : Int64)))))])) _
      refine XS.lcmp X51.here hx rfl (hb hby at_138) rfl ?_
      show Steps p.tables e below (T51.setTop (mkF m 139 #[.val (.long q0), .second, .val (.long q1), .second, .val (.long q2), .second, .val (.ref b1), .val (.int v37), .val (.long v31), .second, .val (.long v48), .second] [(.int (lcmpW (if (if (if (-9223372036854775808 : Int64) < q0 then q0 else (-9223372036854775808 : Int64)) < q1 then q1 else (if (-9223372036854775808 : Int64) < q0 then q0 else (-9223372036854775808 : Int64))) < q2 then q2 else (if (if (-9223372036854775808 : Int64) < q0 then q0 else (-9223372036854775808 : Int64)) < q1 then q1 else (if (-9223372036854775808 : Int64) < q0 then q0 else (-9223372036854775808 : Int64)))) v48))])) _
      refine own_dia (F := (mkF m 147 #[.val (.long q0), .second, .val (.long q1), .second, .val (.long q2), .second, .val (.ref b1), .val (.int v37), .val (.long v31), .second, .val (.long v48), .second] [(.int v53)])) ?_ ?_
      · intro kt
        by_cases hc52 : (if (if (if (-9223372036854775808 : Int64) < q0 then q0 else (-9223372036854775808 : Int64)) < q1 then q1 else (if (-9223372036854775808 : Int64) < q0 then q0 else (-9223372036854775808 : Int64))) < q2 then q2 else (if (if (-9223372036854775808 : Int64) < q0 then q0 else (-9223372036854775808 : Int64)) < q1 then q1 else (if (-9223372036854775808 : Int64) < q0 then q0 else (-9223372036854775808 : Int64)))) = v48
        · show Steps p.tables e below (T51.setTop (mkF m 139 #[.val (.long q0), .second, .val (.long q1), .second, .val (.long q2), .second, .val (.ref b1), .val (.int v37), .val (.long v31), .second, .val (.long v48), .second] [(.int (lcmpW (if (if (if (-9223372036854775808 : Int64) < q0 then q0 else (-9223372036854775808 : Int64)) < q1 then q1 else (if (-9223372036854775808 : Int64) < q0 then q0 else (-9223372036854775808 : Int64))) < q2 then q2 else (if (if (-9223372036854775808 : Int64) < q0 then q0 else (-9223372036854775808 : Int64)) < q1 then q1 else (if (-9223372036854775808 : Int64) < q0 then q0 else (-9223372036854775808 : Int64)))) v48))])) _
          refine XS.ifNo X51.here hx rfl (hb hby at_139) rfl ((if0 _ _).trans (teq ((lw_eq (if (if (if (-9223372036854775808 : Int64) < q0 then q0 else (-9223372036854775808 : Int64)) < q1 then q1 else (if (-9223372036854775808 : Int64) < q0 then q0 else (-9223372036854775808 : Int64))) < q2 then q2 else (if (if (-9223372036854775808 : Int64) < q0 then q0 else (-9223372036854775808 : Int64)) < q1 then q1 else (if (-9223372036854775808 : Int64) < q0 then q0 else (-9223372036854775808 : Int64)))) v48).mpr hc52)).2) ?_
          show Steps p.tables e below (T51.setTop (mkF m 142 #[.val (.long q0), .second, .val (.long q1), .second, .val (.long q2), .second, .val (.ref b1), .val (.int v37), .val (.long v31), .second, .val (.long v48), .second] [])) _
          refine XS.iconst X51.here hx rfl (hb hby at_142) ?_
          show Steps p.tables e below (T51.setTop (mkF m 143 #[.val (.long q0), .second, .val (.long q1), .second, .val (.long q2), .second, .val (.ref b1), .val (.int v37), .val (.long v31), .second, .val (.long v48), .second] [(.int (1 : Int32))])) _
          refine XS.goto X51.here hx rfl (pc0 := 143) (pc' := 147) rfl (hb hby at_143) (by decide) (by decide) ?_
          exact castTop (by rw [hv53, if_pos hc52] <;> rfl) kt
        · show Steps p.tables e below (T51.setTop (mkF m 139 #[.val (.long q0), .second, .val (.long q1), .second, .val (.long q2), .second, .val (.ref b1), .val (.int v37), .val (.long v31), .second, .val (.long v48), .second] [(.int (lcmpW (if (if (if (-9223372036854775808 : Int64) < q0 then q0 else (-9223372036854775808 : Int64)) < q1 then q1 else (if (-9223372036854775808 : Int64) < q0 then q0 else (-9223372036854775808 : Int64))) < q2 then q2 else (if (if (-9223372036854775808 : Int64) < q0 then q0 else (-9223372036854775808 : Int64)) < q1 then q1 else (if (-9223372036854775808 : Int64) < q0 then q0 else (-9223372036854775808 : Int64)))) v48))])) _
          refine XS.ifYes X51.here hx rfl (pc0 := 139) (pc' := 146) rfl (hb hby at_139) rfl ((if0 _ _).trans (feq (fun q => hc52 ((lw_eq (if (if (if (-9223372036854775808 : Int64) < q0 then q0 else (-9223372036854775808 : Int64)) < q1 then q1 else (if (-9223372036854775808 : Int64) < q0 then q0 else (-9223372036854775808 : Int64))) < q2 then q2 else (if (if (-9223372036854775808 : Int64) < q0 then q0 else (-9223372036854775808 : Int64)) < q1 then q1 else (if (-9223372036854775808 : Int64) < q0 then q0 else (-9223372036854775808 : Int64)))) v48).mp q))).2) (by decide) (by decide) ?_
          show Steps p.tables e below (T51.setTop (mkF m 146 #[.val (.long q0), .second, .val (.long q1), .second, .val (.long q2), .second, .val (.ref b1), .val (.int v37), .val (.long v31), .second, .val (.long v48), .second] [])) _
          refine XS.iconst X51.here hx rfl (hb hby at_146) ?_
          exact castTop (by rw [hv53, if_neg hc52] <;> rfl) kt
      exact castTop (by subst hv53; rw [hv54, if_neg hc50] <;> rfl) kt
  obtain ⟨v60, hv60⟩ : ∃ z : Int32, z = if v54 = (0 : Int32) then (0 : Int32) else (1 : Int32) := ⟨_, rfl⟩
  obtain ⟨T61, L61, X61, N61, e61, st61⟩ : ∃ (T' : State) (L' : List Loc), Stand p l e room_1 s m #[(.long q0), (.long q1), (.long q2)] below meth c T' L' 5 43 ∧ Fr n0 L' ∧ T'.heap = T39.heap ∧ ∀ target, Steps p.tables e below (T'.setTop (mkF m 179 #[.val (.long q0), .second, .val (.long q1), .second, .val (.long q2), .second, .val (.ref b1), .val (.int v54), .val (.long v31), .second, .val (.long v48), .second] [(.int v60)])) target → Steps p.tables e below (T55.setTop (mkF m 151 #[.val (.long q0), .second, .val (.long q1), .second, .val (.long q2), .second, .val (.ref b1), .val (.int v54), .val (.long v31), .second, .val (.long v48), .second] [(.int v54)])) target := by
    by_cases hc57 : v54 = (0 : Int32)
    · refine ⟨T55, _, X55, N55, e55, fun target kt => ?_⟩
      show Steps p.tables e below (T55.setTop (mkF m 151 #[.val (.long q0), .second, .val (.long q1), .second, .val (.long q2), .second, .val (.ref b1), .val (.int v54), .val (.long v31), .second, .val (.long v48), .second] [(.int v54)])) _
      refine XS.ifYes X55.here hx rfl (pc0 := 151) (pc' := 178) rfl (hb hby at_151) rfl ((if0 _ _).trans (teq hc57).1) (by decide) (by decide) ?_
      show Steps p.tables e below (T55.setTop (mkF m 178 #[.val (.long q0), .second, .val (.long q1), .second, .val (.long q2), .second, .val (.ref b1), .val (.int v54), .val (.long v31), .second, .val (.long v48), .second] [])) _
      refine XS.iconst X55.here hx rfl (hb hby at_178) ?_
      exact castTop (by rw [hv60, if_pos hc57] <;> rfl) kt
    · obtain ⟨cq58, kq58, q58a, q58b, q58c⟩ := isOf hZ e55 P40
      obtain ⟨_, _, ⟨T58, L58, k58, n58⟩, -, X58, ⟨Lc58, hQ58, l58, y58, z58⟩, st58⟩ := X55.virtualBack hx (y := (⟨"com/example/tidewheel/tidewheel/store/TopicIndex", "size", "()I"⟩ : MethodName)) (z := (⟨"com/example/tidewheel/tidewheel/store/TopicIndex", "size", "()I"⟩ : MethodName)) hown (mvT hZ (hw _ (List.mem_of_getElem? (i := 53) rfl))) (mvT hZ (hw _ (List.mem_of_getElem? (i := 54) rfl))) (notFace_of_selects (args := #[]) (mvT hZ (hw _ (List.mem_of_getElem? (i := 56) rfl)))) (mvT hZ (hw _ (List.mem_of_getElem? (i := 56) rfl))) (mvT hZ (hw _ (List.mem_of_getElem? (i := 55) rfl))) (by decide) (backOf (W := 0) (rm8 l Z A0 hw [] b1 (.ref b2_b2) (.ref b2_b6) (.ref b2_b12) (-9223372036854775808 : Int64) (if (if (if (-9223372036854775808 : Int64) < q0 then q0 else (-9223372036854775808 : Int64)) < q1 then q1 else (if (-9223372036854775808 : Int64) < q0 then q0 else (-9223372036854775808 : Int64))) < q2 then q2 else (if (if (-9223372036854775808 : Int64) < q0 then q0 else (-9223372036854775808 : Int64)) < q1 then q1 else (if (-9223372036854775808 : Int64) < q0 then q0 else (-9223372036854775808 : Int64)))) (0 : Int32) T39.heap n0 (Nat.le_trans Z0 K39.1) P40 P41 P42 P43 P44 P45 P46) hZ (hw _ (List.mem_of_getElem? (i := 57) rfl)) (hw _ (List.mem_of_getElem? (i := 2) rfl)) (by decide) (by decide)) q58a q58c (g := (mkF m 156 #[.val (.long q0), .second, .val (.long q1), .second, .val (.long q2), .second, .val (.ref b1), .val (.int v54), .val (.long v31), .second, .val (.long v48), .second] [(.ref b1)])) rfl (by rw [hml]; rfl) (Steps.refl _) (argsL := []) (rest := []) (lenOf pd_4 rfl) rfl (by show 2 * 0 + _ ≤ _; exact Nat.le_of_eq rfl) (hb hby at_156) (fun _ _ => ⟨rfl, e55, (by decide : 5 + 0 ≤ _), (by decide : 43 + 0 ≤ _)⟩)
      dsimp only [Pt.U, Pt.locs, Pt.cells, Pt.slots] at X58 l58 y58 z58 st58 hQ58
      subst l58 y58 z58
      obtain ⟨rfl, N58q, e58⟩ := hQ58
      have N58 := Fr.app N55 N58q
      obtain ⟨cq59, kq59, q59a, q59b, q59c⟩ := isOf hZ e58 P40
      obtain ⟨_, _, ⟨T59, L59, k59, n59⟩, -, X59, ⟨Lc59, hQ59, l59, y59, z59⟩, st59⟩ := X58.virtualBack hx (y := (⟨"com/example/tidewheel/tidewheel/store/TopicIndex", "lastReadableDueAt", "()J"⟩ : MethodName)) (z := (⟨"com/example/tidewheel/tidewheel/store/TopicIndex", "lastReadableDueAt", "()J"⟩ : MethodName)) hown (mvT hZ (hw _ (List.mem_of_getElem? (i := 60) rfl))) (mvT hZ (hw _ (List.mem_of_getElem? (i := 61) rfl))) (notFace_of_selects (args := #[]) (mvT hZ (hw _ (List.mem_of_getElem? (i := 63) rfl)))) (mvT hZ (hw _ (List.mem_of_getElem? (i := 63) rfl))) (mvT hZ (hw _ (List.mem_of_getElem? (i := 62) rfl))) (by decide) (backOf (W := 0) (rm9 l Z A0 hw [] b1 (.ref b2_b2) (.ref b2_b6) (.ref b2_b12) (-9223372036854775808 : Int64) (if (if (if (-9223372036854775808 : Int64) < q0 then q0 else (-9223372036854775808 : Int64)) < q1 then q1 else (if (-9223372036854775808 : Int64) < q0 then q0 else (-9223372036854775808 : Int64))) < q2 then q2 else (if (if (-9223372036854775808 : Int64) < q0 then q0 else (-9223372036854775808 : Int64)) < q1 then q1 else (if (-9223372036854775808 : Int64) < q0 then q0 else (-9223372036854775808 : Int64)))) (0 : Int32) T39.heap n0 (Nat.le_trans Z0 K39.1) P40 P41 P42 P43 P44 P45 P46) hZ (hw _ (List.mem_of_getElem? (i := 64) rfl)) (hw _ (List.mem_of_getElem? (i := 2) rfl)) (by decide) (by decide)) q59a q59c (g := (mkF m 164 #[.val (.long q0), .second, .val (.long q1), .second, .val (.long q2), .second, .val (.ref b1), .val (.int v54), .val (.long v31), .second, .val (.long v48), .second] [(.ref b1)])) rfl (by rw [hml]; rfl) (Steps.refl _) (argsL := []) (rest := []) (lenOf pd_1 rfl) rfl (by show 2 * 0 + _ ≤ _; exact Nat.le_of_eq rfl) (hb hby at_164) (fun _ _ => ⟨rfl, e58, (by decide : 5 + 0 ≤ _), (by decide : 43 + 0 ≤ _)⟩)
      dsimp only [Pt.U, Pt.locs, Pt.cells, Pt.slots] at X59 l59 y59 z59 st59 hQ59
      subst l59 y59 z59
      obtain ⟨rfl, N59q, e59⟩ := hQ59
      have N59 := Fr.app N58 N59q
      refine ⟨T59, _, X59, N59, e59, fun target kt => ?_⟩
      show Steps p.tables e below (T55.setTop (mkF m 151 #[.val (.long q0), .second, .val (.long q1), .second, .val (.long q2), .second, .val (.ref b1), .val (.int v54), .val (.long v31), .second, .val (.long v48), .second] [(.int v54)])) _
      refine XS.ifNo X55.here hx rfl (hb hby at_151) rfl ((if0 _ _).trans (feq hc57).1) ?_
      show Steps p.tables e below (T55.setTop (mkF m 154 #[.val (.long q0), .second, .val (.long q1), .second, .val (.long q2), .second, .val (.ref b1), .val (.int v54), .val (.long v31), .second, .val (.long v48), .second] [])) _
      refine XS.aload X55.here hx rfl (hb hby at_154) rfl rfl ?_
      show Steps p.tables e below (T55.setTop (mkF m 156 #[.val (.long q0), .second, .val (.long q1), .second, .val (.long q2), .second, .val (.ref b1), .val (.int v54), .val (.long v31), .second, .val (.long v48), .second] [(.ref b1)])) _
      refine st58.trans ?_
      show Steps p.tables e below (T58.setTop (mkF m 159 #[.val (.long q0), .second, .val (.long q1), .second, .val (.long q2), .second, .val (.ref b1), .val (.int v54), .val (.long v31), .second, .val (.long v48), .second] [(.int (0 : Int32))])) _
      refine XS.ifNo X58.here hx rfl (hb hby at_159) rfl ((if0 _ _).trans (teq (by decide)).2) ?_
      show Steps p.tables e below (T58.setTop (mkF m 162 #[.val (.long q0), .second, .val (.long q1), .second, .val (.long q2), .second, .val (.ref b1), .val (.int v54), .val (.long v31), .second, .val (.long v48), .second] [])) _
      refine XS.aload X58.here hx rfl (hb hby at_162) rfl rfl ?_
      show Steps p.tables e below (T58.setTop (mkF m 164 #[.val (.long q0), .second, .val (.long q1), .second, .val (.long q2), .second, .val (.ref b1), .val (.int v54), .val (.long v31), .second, .val (.long v48), .second] [(.ref b1)])) _
      refine st59.trans ?_
      show Steps p.tables e below (T59.setTop (mkF m 167 #[.val (.long q0), .second, .val (.long q1), .second, .val (.long q2), .second, .val (.ref b1), .val (.int v54), .val (.long v31), .second, .val (.long v48), .second] [(.long (-9223372036854775808 : Int64))])) _
      refine X59.ldc2Long hx hown (mvT hZ (hw _ (List.mem_of_getElem? (i := 43) rfl))) (g := (mkF m 167 #[.val (.long q0), .second, .val (.long q1), .second, .val (.long q2), .second, .val (.ref b1), .val (.int v54), .val (.long v31), .second, .val (.long v48), .second] [(.long (-9223372036854775808 : Int64))])) rfl (hb hby at_167) _ ?_
      show Steps p.tables e below (T59.setTop (mkF m 170 #[.val (.long q0), .second, .val (.long q1), .second, .val (.long q2), .second, .val (.ref b1), .val (.int v54), .val (.long v31), .second, .val (.long v48), .second] [(.long (-9223372036854775808 : Int64)), (.long (-9223372036854775808 : Int64))])) _
      refine XS.lcmp X59.here hx rfl (hb hby at_170) rfl ?_
      show Steps p.tables e below (T59.setTop (mkF m 171 #[.val (.long q0), .second, .val (.long q1), .second, .val (.long q2), .second, .val (.ref b1), .val (.int v54), .val (.long v31), .second, .val (.long v48), .second] [(.int (lcmpW (-9223372036854775808 : Int64) (-9223372036854775808 : Int64)))])) _
      refine XS.ifNo X59.here hx rfl (hb hby at_171) rfl ((if0 _ _).trans (teq ((lw_eq (-9223372036854775808 : Int64) (-9223372036854775808 : Int64)).mpr (by decide))).2) ?_
      show Steps p.tables e below (T59.setTop (mkF m 174 #[.val (.long q0), .second, .val (.long q1), .second, .val (.long q2), .second, .val (.ref b1), .val (.int v54), .val (.long v31), .second, .val (.long v48), .second] [])) _
      refine XS.iconst X59.here hx rfl (hb hby at_174) ?_
      show Steps p.tables e below (T59.setTop (mkF m 175 #[.val (.long q0), .second, .val (.long q1), .second, .val (.long q2), .second, .val (.ref b1), .val (.int v54), .val (.long v31), .second, .val (.long v48), .second] [(.int (1 : Int32))])) _
      refine XS.goto X59.here hx rfl (pc0 := 175) (pc' := 179) rfl (hb hby at_175) (by decide) (by decide) ?_
      exact castTop (by rw [hv60, if_neg hc57] <;> rfl) kt
  obtain ⟨fs, hr, hrun, hended, hW, hsame⟩ := X61.leave (v := some (.int (nar .boolean v60))) (fun h => by rw [Bd.returns] at h; cases h)
  refine ⟨_, _, pre0 _ ?_, hrun, hended, _, _, rfl, ?_, ⟨_, rfl⟩, hW, hsame.mono (by decide) (by decide)⟩
  · show Steps p.tables e below (s₁.setTop (mkF m 0 #[.val (.long q0), .second, .val (.long q1), .second, .val (.long q2), .second, .unset, .unset, .unset, .unset, .unset, .unset] [])) _
    refine st1 _ ?_
    show Steps p.tables e below (T1.setTop (mkF m 3 #[.val (.long q0), .second, .val (.long q1), .second, .val (.long q2), .second, .unset, .unset, .unset, .unset, .unset, .unset] [(.ref b1)])) _
    refine XS.dup X1.here hx rfl (hb hby at_3) rfl rfl ?_
    show Steps p.tables e below (T1.setTop (mkF m 4 #[.val (.long q0), .second, .val (.long q1), .second, .val (.long q2), .second, .unset, .unset, .unset, .unset, .unset, .unset] [(.ref b1), (.ref b1)])) _
    refine st2.trans ?_
    show Steps p.tables e below (T2.setTop (mkF m 7 #[.val (.long q0), .second, .val (.long q1), .second, .val (.long q2), .second, .unset, .unset, .unset, .unset, .unset, .unset] [(.ref b1)])) _
    refine XS.astore X2.here hx rfl (hb hby at_7) rfl rfl (l' := #[.val (.long q0), .second, .val (.long q1), .second, .val (.long q2), .second, .val (.ref b1), .unset, .unset, .unset, .unset, .unset]) rfl ?_
    show Steps p.tables e below (T2.setTop (mkF m 9 #[.val (.long q0), .second, .val (.long q1), .second, .val (.long q2), .second, .val (.ref b1), .unset, .unset, .unset, .unset, .unset] [])) _
    refine XS.aload X2.here hx rfl (hb hby at_9) rfl rfl ?_
    show Steps p.tables e below (T2.setTop (mkF m 11 #[.val (.long q0), .second, .val (.long q1), .second, .val (.long q2), .second, .val (.ref b1), .unset, .unset, .unset, .unset, .unset] [(.ref b1)])) _
    refine st10.trans ?_
    show Steps p.tables e below (T10.setTop (mkF m 14 #[.val (.long q0), .second, .val (.long q1), .second, .val (.long q2), .second, .val (.ref b1), .unset, .unset, .unset, .unset, .unset] [(.long (-9223372036854775808 : Int64))])) _
    refine X10.ldc2Long hx hown (mvT hZ (hw _ (List.mem_of_getElem? (i := 43) rfl))) (g := (mkF m 14 #[.val (.long q0), .second, .val (.long q1), .second, .val (.long q2), .second, .val (.ref b1), .unset, .unset, .unset, .unset, .unset] [(.long (-9223372036854775808 : Int64))])) rfl (hb hby at_14) _ ?_
    show Steps p.tables e below (T10.setTop (mkF m 17 #[.val (.long q0), .second, .val (.long q1), .second, .val (.long q2), .second, .val (.ref b1), .unset, .unset, .unset, .unset, .unset] [(.long (-9223372036854775808 : Int64)), (.long (-9223372036854775808 : Int64))])) _
    refine XS.lcmp X10.here hx rfl (hb hby at_17) rfl ?_
    show Steps p.tables e below (T10.setTop (mkF m 18 #[.val (.long q0), .second, .val (.long q1), .second, .val (.long q2), .second, .val (.ref b1), .unset, .unset, .unset, .unset, .unset] [(.int (lcmpW (-9223372036854775808 : Int64) (-9223372036854775808 : Int64)))])) _
    refine XS.ifNo X10.here hx rfl (hb hby at_18) rfl ((if0 _ _).trans (teq ((lw_eq (-9223372036854775808 : Int64) (-9223372036854775808 : Int64)).mpr (by decide))).2) ?_
    show Steps p.tables e below (T10.setTop (mkF m 21 #[.val (.long q0), .second, .val (.long q1), .second, .val (.long q2), .second, .val (.ref b1), .unset, .unset, .unset, .unset, .unset] [])) _
    refine XS.iconst X10.here hx rfl (hb hby at_21) ?_
    show Steps p.tables e below (T10.setTop (mkF m 22 #[.val (.long q0), .second, .val (.long q1), .second, .val (.long q2), .second, .val (.ref b1), .unset, .unset, .unset, .unset, .unset] [(.int (1 : Int32))])) _
    refine XS.goto X10.here hx rfl (pc0 := 22) (pc' := 26) rfl (hb hby at_22) (by decide) (by decide) ?_
    show Steps p.tables e below (T10.setTop (mkF m 26 #[.val (.long q0), .second, .val (.long q1), .second, .val (.long q2), .second, .val (.ref b1), .unset, .unset, .unset, .unset, .unset] [(.int (1 : Int32))])) _
    refine XS.istore X10.here hx rfl (hb hby at_26) rfl (l' := #[.val (.long q0), .second, .val (.long q1), .second, .val (.long q2), .second, .val (.ref b1), .val (.int (1 : Int32)), .unset, .unset, .unset, .unset]) rfl ?_
    show Steps p.tables e below (T10.setTop (mkF m 28 #[.val (.long q0), .second, .val (.long q1), .second, .val (.long q2), .second, .val (.ref b1), .val (.int (1 : Int32)), .unset, .unset, .unset, .unset] [])) _
    refine XS.aload X10.here hx rfl (hb hby at_28) rfl rfl ?_
    show Steps p.tables e below (T10.setTop (mkF m 30 #[.val (.long q0), .second, .val (.long q1), .second, .val (.long q2), .second, .val (.ref b1), .val (.int (1 : Int32)), .unset, .unset, .unset, .unset] [(.ref b1)])) _
    refine XS.lloadN X10.here hx rfl (hb hby at_30) rfl ?_
    show Steps p.tables e below (T10.setTop (mkF m 31 #[.val (.long q0), .second, .val (.long q1), .second, .val (.long q2), .second, .val (.ref b1), .val (.int (1 : Int32)), .unset, .unset, .unset, .unset] [(.long q0), (.ref b1)])) _
    refine st11.trans ?_
    show Steps p.tables e below (T11.setTop (mkF m 34 #[.val (.long q0), .second, .val (.long q1), .second, .val (.long q2), .second, .val (.ref b1), .val (.int (1 : Int32)), .unset, .unset, .unset, .unset] [])) _
    refine XS.iload X11.here hx rfl (hb hby at_34) rfl ?_
    show Steps p.tables e below (T11.setTop (mkF m 36 #[.val (.long q0), .second, .val (.long q1), .second, .val (.long q2), .second, .val (.ref b1), .val (.int (1 : Int32)), .unset, .unset, .unset, .unset] [(.int (1 : Int32))])) _
    refine XS.ifNo X11.here hx rfl (hb hby at_36) rfl ((if0 _ _).trans (feq (by decide)).1) ?_
    show Steps p.tables e below (T11.setTop (mkF m 39 #[.val (.long q0), .second, .val (.long q1), .second, .val (.long q2), .second, .val (.ref b1), .val (.int (1 : Int32)), .unset, .unset, .unset, .unset] [])) _
    refine XS.aload X11.here hx rfl (hb hby at_39) rfl rfl ?_
    show Steps p.tables e below (T11.setTop (mkF m 41 #[.val (.long q0), .second, .val (.long q1), .second, .val (.long q2), .second, .val (.ref b1), .val (.int (1 : Int32)), .unset, .unset, .unset, .unset] [(.ref b1)])) _
    refine st19.trans ?_
    show Steps p.tables e below (T19.setTop (mkF m 44 #[.val (.long q0), .second, .val (.long q1), .second, .val (.long q2), .second, .val (.ref b1), .val (.int (1 : Int32)), .unset, .unset, .unset, .unset] [(.long (if (-9223372036854775808 : Int64) < q0 then q0 else (-9223372036854775808 : Int64)))])) _
    refine XS.lloadN X19.here hx rfl (hb hby at_44) rfl ?_
    show Steps p.tables e below (T19.setTop (mkF m 45 #[.val (.long q0), .second, .val (.long q1), .second, .val (.long q2), .second, .val (.ref b1), .val (.int (1 : Int32)), .unset, .unset, .unset, .unset] [(.long q0), (.long (if (-9223372036854775808 : Int64) < q0 then q0 else (-9223372036854775808 : Int64)))])) _
    refine XS.lcmp X19.here hx rfl (hb hby at_45) rfl ?_
    show Steps p.tables e below (T19.setTop (mkF m 46 #[.val (.long q0), .second, .val (.long q1), .second, .val (.long q2), .second, .val (.ref b1), .val (.int (1 : Int32)), .unset, .unset, .unset, .unset] [(.int (lcmpW (if (-9223372036854775808 : Int64) < q0 then q0 else (-9223372036854775808 : Int64)) q0))])) _
    refine own_dia (F := (mkF m 54 #[.val (.long q0), .second, .val (.long q1), .second, .val (.long q2), .second, .val (.ref b1), .val (.int (1 : Int32)), .unset, .unset, .unset, .unset] [(.int v21)])) ?_ ?_
    · intro kt
      by_cases hc20 : (if (-9223372036854775808 : Int64) < q0 then q0 else (-9223372036854775808 : Int64)) = q0
      · show Steps p.tables e below (T19.setTop (mkF m 46 #[.val (.long q0), .second, .val (.long q1), .second, .val (.long q2), .second, .val (.ref b1), .val (.int (1 : Int32)), .unset, .unset, .unset, .unset] [(.int (lcmpW (if (-9223372036854775808 : Int64) < q0 then q0 else (-9223372036854775808 : Int64)) q0))])) _
        refine XS.ifNo X19.here hx rfl (hb hby at_46) rfl ((if0 _ _).trans (teq ((lw_eq (if (-9223372036854775808 : Int64) < q0 then q0 else (-9223372036854775808 : Int64)) q0).mpr hc20)).2) ?_
        show Steps p.tables e below (T19.setTop (mkF m 49 #[.val (.long q0), .second, .val (.long q1), .second, .val (.long q2), .second, .val (.ref b1), .val (.int (1 : Int32)), .unset, .unset, .unset, .unset] [])) _
        refine XS.iconst X19.here hx rfl (hb hby at_49) ?_
        show Steps p.tables e below (T19.setTop (mkF m 50 #[.val (.long q0), .second, .val (.long q1), .second, .val (.long q2), .second, .val (.ref b1), .val (.int (1 : Int32)), .unset, .unset, .unset, .unset] [(.int (1 : Int32))])) _
        refine XS.goto X19.here hx rfl (pc0 := 50) (pc' := 54) rfl (hb hby at_50) (by decide) (by decide) ?_
        exact castTop (by rw [hv21, if_pos hc20] <;> rfl) kt
      · show Steps p.tables e below (T19.setTop (mkF m 46 #[.val (.long q0), .second, .val (.long q1), .second, .val (.long q2), .second, .val (.ref b1), .val (.int (1 : Int32)), .unset, .unset, .unset, .unset] [(.int (lcmpW (if (-9223372036854775808 : Int64) < q0 then q0 else (-9223372036854775808 : Int64)) q0))])) _
        refine XS.ifYes X19.here hx rfl (pc0 := 46) (pc' := 53) rfl (hb hby at_46) rfl ((if0 _ _).trans (feq (fun q => hc20 ((lw_eq (if (-9223372036854775808 : Int64) < q0 then q0 else (-9223372036854775808 : Int64)) q0).mp q))).2) (by decide) (by decide) ?_
        show Steps p.tables e below (T19.setTop (mkF m 53 #[.val (.long q0), .second, .val (.long q1), .second, .val (.long q2), .second, .val (.ref b1), .val (.int (1 : Int32)), .unset, .unset, .unset, .unset] [])) _
        refine XS.iconst X19.here hx rfl (hb hby at_53) ?_
        exact castTop (by rw [hv21, if_neg hc20] <;> rfl) kt
    show Steps p.tables e below (T19.setTop (mkF m 54 #[.val (.long q0), .second, .val (.long q1), .second, .val (.long q2), .second, .val (.ref b1), .val (.int (1 : Int32)), .unset, .unset, .unset, .unset] [(.int v21)])) _
    refine XS.istore X19.here hx rfl (hb hby at_54) rfl (l' := #[.val (.long q0), .second, .val (.long q1), .second, .val (.long q2), .second, .val (.ref b1), .val (.int v21), .unset, .unset, .unset, .unset]) rfl ?_
    show Steps p.tables e below (T19.setTop (mkF m 56 #[.val (.long q0), .second, .val (.long q1), .second, .val (.long q2), .second, .val (.ref b1), .val (.int v21), .unset, .unset, .unset, .unset] [])) _
    refine XS.aload X19.here hx rfl (hb hby at_56) rfl rfl ?_
    show Steps p.tables e below (T19.setTop (mkF m 58 #[.val (.long q0), .second, .val (.long q1), .second, .val (.long q2), .second, .val (.ref b1), .val (.int v21), .unset, .unset, .unset, .unset] [(.ref b1)])) _
    refine XS.lloadN X19.here hx rfl (hb hby at_58) rfl ?_
    show Steps p.tables e below (T19.setTop (mkF m 59 #[.val (.long q0), .second, .val (.long q1), .second, .val (.long q2), .second, .val (.ref b1), .val (.int v21), .unset, .unset, .unset, .unset] [(.long q1), (.ref b1)])) _
    refine st22.trans ?_
    show Steps p.tables e below (T22.setTop (mkF m 62 #[.val (.long q0), .second, .val (.long q1), .second, .val (.long q2), .second, .val (.ref b1), .val (.int v21), .unset, .unset, .unset, .unset] [])) _
    refine XS.lloadN X22.here hx rfl (hb hby at_62) rfl ?_
    show Steps p.tables e below (T22.setTop (mkF m 63 #[.val (.long q0), .second, .val (.long q1), .second, .val (.long q2), .second, .val (.ref b1), .val (.int v21), .unset, .unset, .unset, .unset] [(.long q0)])) _
    refine XS.lloadN X22.here hx rfl (hb hby at_63) rfl ?_
    show Steps p.tables e below (T22.setTop (mkF m 64 #[.val (.long q0), .second, .val (.long q1), .second, .val (.long q2), .second, .val (.ref b1), .val (.int v21), .unset, .unset, .unset, .unset] [(.long q1), (.long q0)])) _
    refine XS.lcmp X22.here hx rfl (hb hby at_64) rfl ?_
    show Steps p.tables e below (T22.setTop (mkF m 65 #[.val (.long q0), .second, .val (.long q1), .second, .val (.long q2), .second, .val (.ref b1), .val (.int v21), .unset, .unset, .unset, .unset] [(.int (lcmpW q0 q1))])) _
    refine own_dia (F := (mkF m 77 #[.val (.long q0), .second, .val (.long q1), .second, .val (.long q2), .second, .val (.ref b1), .val (.int v21), .val (.long v31), .second, .unset, .unset] [])) ?_ ?_
    · intro kt
      by_cases hc30 : q0 < q1
      · show Steps p.tables e below (T22.setTop (mkF m 65 #[.val (.long q0), .second, .val (.long q1), .second, .val (.long q2), .second, .val (.ref b1), .val (.int v21), .unset, .unset, .unset, .unset] [(.int (lcmpW q0 q1))])) _
        refine XS.ifNo X22.here hx rfl (hb hby at_65) rfl ((if0 _ _).trans (tlt ((lw_lt q0 q1).mpr hc30)).2.1) ?_
        show Steps p.tables e below (T22.setTop (mkF m 68 #[.val (.long q0), .second, .val (.long q1), .second, .val (.long q2), .second, .val (.ref b1), .val (.int v21), .unset, .unset, .unset, .unset] [])) _
        refine XS.lloadN X22.here hx rfl (hb hby at_68) rfl ?_
        show Steps p.tables e below (T22.setTop (mkF m 69 #[.val (.long q0), .second, .val (.long q1), .second, .val (.long q2), .second, .val (.ref b1), .val (.int v21), .unset, .unset, .unset, .unset] [(.long q1)])) _
        refine XS.lstore X22.here hx rfl (hb hby at_69) rfl (l' := #[.val (.long q0), .second, .val (.long q1), .second, .val (.long q2), .second, .val (.ref b1), .val (.int v21), .val (.long q1), .second, .unset, .unset]) rfl ?_
        show Steps p.tables e below (T22.setTop (mkF m 71 #[.val (.long q0), .second, .val (.long q1), .second, .val (.long q2), .second, .val (.ref b1), .val (.int v21), .val (.long q1), .second, .unset, .unset] [])) _
        refine XS.goto X22.here hx rfl (pc0 := 71) (pc' := 77) rfl (hb hby at_71) (by decide) (by decide) ?_
        exact castTop (by rw [hv31, if_pos hc30] <;> rfl) kt
      · show Steps p.tables e below (T22.setTop (mkF m 65 #[.val (.long q0), .second, .val (.long q1), .second, .val (.long q2), .second, .val (.ref b1), .val (.int v21), .unset, .unset, .unset, .unset] [(.int (lcmpW q0 q1))])) _
        refine XS.ifYes X22.here hx rfl (pc0 := 65) (pc' := 74) rfl (hb hby at_65) rfl ((if0 _ _).trans (flt (fun q => hc30 ((lw_lt q0 q1).mp q))).2.1) (by decide) (by decide) ?_
        show Steps p.tables e below (T22.setTop (mkF m 74 #[.val (.long q0), .second, .val (.long q1), .second, .val (.long q2), .second, .val (.ref b1), .val (.int v21), .unset, .unset, .unset, .unset] [])) _
        refine XS.lloadN X22.here hx rfl (hb hby at_74) rfl ?_
        show Steps p.tables e below (T22.setTop (mkF m 75 #[.val (.long q0), .second, .val (.long q1), .second, .val (.long q2), .second, .val (.ref b1), .val (.int v21), .unset, .unset, .unset, .unset] [(.long q0)])) _
        refine XS.lstore X22.here hx rfl (hb hby at_75) rfl (l' := #[.val (.long q0), .second, .val (.long q1), .second, .val (.long q2), .second, .val (.ref b1), .val (.int v21), .val (.long q0), .second, .unset, .unset]) rfl ?_
        exact castTop (by rw [hv31, if_neg hc30] <;> rfl) kt
    show Steps p.tables e below (T22.setTop (mkF m 77 #[.val (.long q0), .second, .val (.long q1), .second, .val (.long q2), .second, .val (.ref b1), .val (.int v21), .val (.long v31), .second, .unset, .unset] [])) _
    refine XS.iload X22.here hx rfl (hb hby at_77) rfl ?_
    show Steps p.tables e below (T22.setTop (mkF m 79 #[.val (.long q0), .second, .val (.long q1), .second, .val (.long q2), .second, .val (.ref b1), .val (.int v21), .val (.long v31), .second, .unset, .unset] [(.int v21)])) _
    refine st38 _ ?_
    show Steps p.tables e below (T38.setTop (mkF m 98 #[.val (.long q0), .second, .val (.long q1), .second, .val (.long q2), .second, .val (.ref b1), .val (.int v21), .val (.long v31), .second, .unset, .unset] [(.int v37)])) _
    refine XS.istore X38.here hx rfl (hb hby at_98) rfl (l' := #[.val (.long q0), .second, .val (.long q1), .second, .val (.long q2), .second, .val (.ref b1), .val (.int v37), .val (.long v31), .second, .unset, .unset]) rfl ?_
    show Steps p.tables e below (T38.setTop (mkF m 100 #[.val (.long q0), .second, .val (.long q1), .second, .val (.long q2), .second, .val (.ref b1), .val (.int v37), .val (.long v31), .second, .unset, .unset] [])) _
    refine XS.aload X38.here hx rfl (hb hby at_100) rfl rfl ?_
    show Steps p.tables e below (T38.setTop (mkF m 102 #[.val (.long q0), .second, .val (.long q1), .second, .val (.long q2), .second, .val (.ref b1), .val (.int v37), .val (.long v31), .second, .unset, .unset] [(.ref b1)])) _
    refine XS.lload X38.here hx rfl (hb hby at_102) rfl ?_
    show Steps p.tables e below (T38.setTop (mkF m 104 #[.val (.long q0), .second, .val (.long q1), .second, .val (.long q2), .second, .val (.ref b1), .val (.int v37), .val (.long v31), .second, .unset, .unset] [(.long q2), (.ref b1)])) _
    refine st39.trans ?_
    show Steps p.tables e below (T39.setTop (mkF m 107 #[.val (.long q0), .second, .val (.long q1), .second, .val (.long q2), .second, .val (.ref b1), .val (.int v37), .val (.long v31), .second, .unset, .unset] [])) _
    refine XS.lload X39.here hx rfl (hb hby at_107) rfl ?_
    show Steps p.tables e below (T39.setTop (mkF m 109 #[.val (.long q0), .second, .val (.long q1), .second, .val (.long q2), .second, .val (.ref b1), .val (.int v37), .val (.long v31), .second, .unset, .unset] [(.long v31)])) _
    refine XS.lload X39.here hx rfl (hb hby at_109) rfl ?_
    show Steps p.tables e below (T39.setTop (mkF m 111 #[.val (.long q0), .second, .val (.long q1), .second, .val (.long q2), .second, .val (.ref b1), .val (.int v37), .val (.long v31), .second, .unset, .unset] [(.long q2), (.long v31)])) _
    refine XS.lcmp X39.here hx rfl (hb hby at_111) rfl ?_
    show Steps p.tables e below (T39.setTop (mkF m 112 #[.val (.long q0), .second, .val (.long q1), .second, .val (.long q2), .second, .val (.ref b1), .val (.int v37), .val (.long v31), .second, .unset, .unset] [(.int (lcmpW v31 q2))])) _
    refine own_dia (F := (mkF m 126 #[.val (.long q0), .second, .val (.long q1), .second, .val (.long q2), .second, .val (.ref b1), .val (.int v37), .val (.long v31), .second, .val (.long v48), .second] [])) ?_ ?_
    · intro kt
      by_cases hc47 : v31 < q2
      · show Steps p.tables e below (T39.setTop (mkF m 112 #[.val (.long q0), .second, .val (.long q1), .second, .val (.long q2), .second, .val (.ref b1), .val (.int v37), .val (.long v31), .second, .unset, .unset] [(.int (lcmpW v31 q2))])) _
        refine XS.ifNo X39.here hx rfl (hb hby at_112) rfl ((if0 _ _).trans (tlt ((lw_lt v31 q2).mpr hc47)).2.1) ?_
        show Steps p.tables e below (T39.setTop (mkF m 115 #[.val (.long q0), .second, .val (.long q1), .second, .val (.long q2), .second, .val (.ref b1), .val (.int v37), .val (.long v31), .second, .unset, .unset] [])) _
        refine XS.lload X39.here hx rfl (hb hby at_115) rfl ?_
        show Steps p.tables e below (T39.setTop (mkF m 117 #[.val (.long q0), .second, .val (.long q1), .second, .val (.long q2), .second, .val (.ref b1), .val (.int v37), .val (.long v31), .second, .unset, .unset] [(.long q2)])) _
        refine XS.lstore X39.here hx rfl (hb hby at_117) rfl (l' := #[.val (.long q0), .second, .val (.long q1), .second, .val (.long q2), .second, .val (.ref b1), .val (.int v37), .val (.long v31), .second, .val (.long q2), .second]) rfl ?_
        show Steps p.tables e below (T39.setTop (mkF m 119 #[.val (.long q0), .second, .val (.long q1), .second, .val (.long q2), .second, .val (.ref b1), .val (.int v37), .val (.long v31), .second, .val (.long q2), .second] [])) _
        refine XS.goto X39.here hx rfl (pc0 := 119) (pc' := 126) rfl (hb hby at_119) (by decide) (by decide) ?_
        exact castTop (by rw [hv48, if_pos hc47] <;> rfl) kt
      · show Steps p.tables e below (T39.setTop (mkF m 112 #[.val (.long q0), .second, .val (.long q1), .second, .val (.long q2), .second, .val (.ref b1), .val (.int v37), .val (.long v31), .second, .unset, .unset] [(.int (lcmpW v31 q2))])) _
        refine XS.ifYes X39.here hx rfl (pc0 := 112) (pc' := 122) rfl (hb hby at_112) rfl ((if0 _ _).trans (flt (fun q => hc47 ((lw_lt v31 q2).mp q))).2.1) (by decide) (by decide) ?_
        show Steps p.tables e below (T39.setTop (mkF m 122 #[.val (.long q0), .second, .val (.long q1), .second, .val (.long q2), .second, .val (.ref b1), .val (.int v37), .val (.long v31), .second, .unset, .unset] [])) _
        refine XS.lload X39.here hx rfl (hb hby at_122) rfl ?_
        show Steps p.tables e below (T39.setTop (mkF m 124 #[.val (.long q0), .second, .val (.long q1), .second, .val (.long q2), .second, .val (.ref b1), .val (.int v37), .val (.long v31), .second, .unset, .unset] [(.long v31)])) _
        refine XS.lstore X39.here hx rfl (hb hby at_124) rfl (l' := #[.val (.long q0), .second, .val (.long q1), .second, .val (.long q2), .second, .val (.ref b1), .val (.int v37), .val (.long v31), .second, .val (.long v31), .second]) rfl ?_
        exact castTop (by rw [hv48, if_neg hc47] <;> rfl) kt
    show Steps p.tables e below (T39.setTop (mkF m 126 #[.val (.long q0), .second, .val (.long q1), .second, .val (.long q2), .second, .val (.ref b1), .val (.int v37), .val (.long v31), .second, .val (.long v48), .second] [])) _
    refine XS.iload X39.here hx rfl (hb hby at_126) rfl ?_
    show Steps p.tables e below (T39.setTop (mkF m 128 #[.val (.long q0), .second, .val (.long q1), .second, .val (.long q2), .second, .val (.ref b1), .val (.int v37), .val (.long v31), .second, .val (.long v48), .second] [(.int v37)])) _
    refine st55 _ ?_
    show Steps p.tables e below (T55.setTop (mkF m 147 #[.val (.long q0), .second, .val (.long q1), .second, .val (.long q2), .second, .val (.ref b1), .val (.int v37), .val (.long v31), .second, .val (.long v48), .second] [(.int v54)])) _
    refine XS.istore X55.here hx rfl (hb hby at_147) rfl (l' := #[.val (.long q0), .second, .val (.long q1), .second, .val (.long q2), .second, .val (.ref b1), .val (.int v54), .val (.long v31), .second, .val (.long v48), .second]) rfl ?_
    show Steps p.tables e below (T55.setTop (mkF m 149 #[.val (.long q0), .second, .val (.long q1), .second, .val (.long q2), .second, .val (.ref b1), .val (.int v54), .val (.long v31), .second, .val (.long v48), .second] [])) _
    refine XS.iload X55.here hx rfl (hb hby at_149) rfl ?_
    show Steps p.tables e below (T55.setTop (mkF m 151 #[.val (.long q0), .second, .val (.long q1), .second, .val (.long q2), .second, .val (.ref b1), .val (.int v54), .val (.long v31), .second, .val (.long v48), .second] [(.int v54)])) _
    refine st61 _ ?_
    show Steps p.tables e below (T61.setTop (mkF m 179 #[.val (.long q0), .second, .val (.long q1), .second, .val (.long q2), .second, .val (.ref b1), .val (.int v54), .val (.long v31), .second, .val (.long v48), .second] [(.int v60)])) _
    refine XS.istore X61.here hx rfl (hb hby at_179) rfl (l' := #[.val (.long q0), .second, .val (.long q1), .second, .val (.long q2), .second, .val (.ref b1), .val (.int v60), .val (.long v31), .second, .val (.long v48), .second]) rfl ?_
    show Steps p.tables e below (T61.setTop (mkF m 181 #[.val (.long q0), .second, .val (.long q1), .second, .val (.long q2), .second, .val (.ref b1), .val (.int v60), .val (.long v31), .second, .val (.long v48), .second] [])) _
    refine XS.iload X61.here hx rfl (hb hby at_181) rfl ?_
    show Steps p.tables e below (T61.setTop (mkF m 183 #[.val (.long q0), .second, .val (.long q1), .second, .val (.long q2), .second, .val (.ref b1), .val (.int v60), .val (.long v31), .second, .val (.long v48), .second] [(.int v60)])) _
    exact retN X61 hx (t := .boolean) Bd.returns (by simp) (hb hby at_183) hr
  · show Q0 h0 n0 _ T61.heap _
    refine ⟨?_, N61⟩
    have hfin : (nar .boolean v60) = (1 : Int32) := by
      exact (own_law q0 q1 q2 v21 v31 v37 v48 v54 v60 hv21 hv31 hv37 hv48 hv54 hv60)
    rw [hfin]
set_option maxRecDepth 65536 in
set_option maxHeartbeats 40000000 in
theorem comes_1 {Post : Tables → Env → Array Value → State → Outcome → State → Prop} (hpost : ∀ tb e args s v u, (limb_1_1.after args s (.returned v) u = true ∧ limb_1_2.after args s (.returned v) u = true ∧ True) → FrameEnd s (.returned v) u (Jvm.fieldLocs frame_1_writes args s ++ Jvm.arrayLocs frame_1_arrays args s ++ Jvm.staticLocs frame_1_statics s) 24 192 → Post tb e args s (.returned v) u) :
    ArmFor flags0 classFile x code maxLocals ret World_1 tables_1 room_1 Calls_1 rest_1 Pre_1 Post := by
  intro l hfl _ _ p e ha hc hk s m args below hf hA hF happ hP
  obtain ⟨hcalls, hrest, hpre⟩ := hP
  obtain ⟨-, -, -, hnamed, -, -, -, hat⟩ := (Spec.applies_iff hf).mp happ
  obtain ⟨hg, hn⟩ := and_e (Cond.before_iff.mp (show (Jvm.Cond.and given_1 narrow_1).before args s = true from hpre))
  obtain ⟨gg1, gg2⟩ := and_e hg
  obtain ⟨gg3, gg4⟩ := and_e gg2
  obtain ⟨gg5, gg6⟩ := and_e gg4
  obtain ⟨w0, w1, w2, rfl⟩ : ∃ w0 w1 w2 : Value, args = #[w0, w1, w2] := by
    have hs : args.size = 3 := by simpa [Cond.value, given_1] using gg1
    obtain ⟨L⟩ := args
    match L, hs with
    | [w0, w1, w2], _ => exact ⟨w0, w1, w2, rfl⟩
  have hw := fun d (hd : d ∈ tables_1) => atoms_spec (ws := Jvm.Cond.code x code maxLocals ret :: tables_1) hat d (List.mem_cons_of_mem _ hd)
  have hfit : Fit s := fun {y c} hc i hi => by
    obtain ⟨ha, rfl⟩ := Array.getElem?_eq_some_iff.mp hc
    have q := List.all_eq_true.mp ((Array.all_eq_true_iff_forall_mem.mp hF) _ (Array.getElem_mem ha)) i (List.mem_range.mpr hi)
    simpa [Array.getElem?_eq_getElem hi] using q
  obtain ⟨i0, ei0⟩ := isL_v gg3
  obtain rfl : w0 = (.long i0) := Option.some.inj ei0
  obtain ⟨i1, ei1⟩ := isL_v gg5
  obtain rfl : w1 = (.long i1) := Option.some.inj ei1
  obtain ⟨i2, ei2⟩ := isL_v gg6
  obtain rfl : w2 = (.long i2) := Option.some.inj ei2
  obtain ⟨n, o, h1, h2, h3, _, L, rfl, ⟨rfl, N⟩, hq⟩ := rm0 l s _ hw tables_1 i0 i1 i2  s.heap s.heap.size (Nat.le_refl _)  p e ha hc hk s m _ below hf ((Spec.applies_iff_loose hf).mp happ).1 ⟨rfl, State.Warmed39.refl s, rfl⟩ trivial
  refine ⟨n, _, h1, h2, h3, hpost _ _ _ _ _ _ ⟨Cond.after_iff.mpr rfl, Cond.after_iff.mpr (eq_i res_at (Term.int_eval (1)) rfl), trivial⟩ ⟨hq.1, hq.2.1, (hq.2.2.sift fun y hy => Or.inr (N y hy)).mono (by decide) (by decide)⟩⟩
theorem main_1_1 : Claimed_1_1 := comes_1 fun _ _ _ _ _ _ h hF => ⟨h.1, hF⟩
theorem main_1_2 : Claimed_1_2 := comes_1 fun _ _ _ _ _ _ h hF => ⟨h.2.1, hF⟩
end Jvm.Pilot.@@N@@
namespace Jvm.Pilot.@@N@@
open Jvm Jvm.ClassFile Sem Op Lib Jvm.Free Jvm.Stand Jvm.Pilot.@@N@@.Jvm.D
/-! MADE BY PROGRAM (witnessworld.py) out of the Statement's table words and the real class files: 20 classes; the members and pool entries that the words name. The judged class is class 1, her method 1. -/
namespace start1
open Jvm.ClassFile
def u (s : String) : CpInfo := .utf8 (stringToUtf16 s)
/-- a pool by its gaps: so many unusable entries, then the entry; so many at the end -/
def gap : Nat → List CpInfo → List CpInfo
  | 0, r => r
  | n + 1, r => .unusable :: gap n r
def poolList (es : List (Nat × CpInfo)) (last : Nat) : List CpInfo := es.foldr (fun e r => gap e.1 (e.2 :: r)) (gap last [])
def pool (es : List (Nat × CpInfo)) (last : Nat) : Array CpInfo := ⟨poolList es last⟩
def fileOf (pool : Array CpInfo) (this : Nat) (attrs : Array Attribute := #[]) (ms : Array MethodInfo := #[]) (fl : Nat := 33) (sup : Nat := 0) (ifs : Array Nat := #[]) (fds : Array FieldInfo := #[]) : ClassFile where
  minorVersion := 0
  majorVersion := 65
  constantPool := pool
  accessFlags := fl
  thisClass := this
  superClass := sup
  interfaces := ifs
  fields := fds
  methods := ms
  attributes := attrs
def plain (name : String) (sup : Option ClassId) : Class where
  name := name
  kind := .ordinary
  loader := none
  accessFlags := 33
  super := sup
  interfaces := #[]
  cf := none
  fields := #[]
  methods := #[]
  instanceTypes := #[]
  staticTypes := #[]
  resolved := #[]
  callSites := []
  init := .initialized
  statics := none
  mirror := none

def pool0 : Array CpInfo := pool [(5, u "<init>"), (0, u "()V"), (1, .class_ 10), (1, u "java/lang/Object")] 113

def k0c0 : Code := { maxStack := 0, maxLocals := 1, code := object_method_1_code, exceptionTable := #[], attributes := #[] }
def k0m0 : Method := { name := "<init>", desc := "()V", sig := { parameters := [], returnType := none }, accessFlags := 1, code := some k0c0 }
/-- java/lang/Object -/
def k0 : Class := { plain "java/lang/Object" none with
  accessFlags := 33
  interfaces := #[]
  cf := some (fileOf pool0 8 #[] #[{ accessFlags := 1, nameIndex := 5, descriptorIndex := 6, attributes := #[] }] 33 0 #[] #[])
  fields := #[]
  methods := #[k0m0]
  instanceTypes := #[]
  staticTypes := #[]
  resolved := Array.replicate 124 none
  statics := none }

def pool1 : Array CpInfo := pool [(2, .class_ 4), (0, .nameAndType 5 6), (0, u "java/lang/Object"), (0, u "<init>"), (0, u "()V"), (0, .class_ 8), (0, u "com/example/tidewheel/tidewheel/store/TopicIndex"), (0, .methodref 7 3), (0, .methodref 7 11), (0, .nameAndType 12 13), (0, u "latestHandedOutDueAt"), (0, u "()J"), (2, .long 9223372036854775808), (1, .methodref 7 19), (0, .nameAndType 20 21), (0, u "handedOut"), (0, u "(J)V"), (0, .methodref 7 23), (0, .nameAndType 24 25), (0, u "size"), (0, u "()I"), (0, .methodref 7 27), (0, .nameAndType 28 13), (0, u "lastReadableDueAt"), (0, .class_ 30), (0, u "com/example/tidewheel/tidewheel/store/TopicIndexHandedOutPinLaw"), (2, u "law"), (0, u "(JJJ)Z")] 3

def k1m0 : Method := { name := "<init>", desc := "()V", sig := { parameters := [], returnType := none }, accessFlags := 2, code := none }
def k1c1 : Code := { maxStack := 4, maxLocals := 12, code := code, exceptionTable := #[], attributes := #[] }
def k1m1 : Method := { name := "law", desc := "(JJJ)Z", sig := { parameters := [.long, .long, .long], returnType := some .boolean }, accessFlags := 9, code := some k1c1 }
/-- com/example/tidewheel/tidewheel/store/TopicIndexHandedOutPinLaw -/
def k1 : Class := { plain "com/example/tidewheel/tidewheel/store/TopicIndexHandedOutPinLaw" (some 0) with
  accessFlags := 49
  interfaces := #[]
  cf := some (fileOf pool1 29 #[] #[{ accessFlags := 2, nameIndex := 5, descriptorIndex := 6, attributes := #[] }, { accessFlags := 9, nameIndex := 33, descriptorIndex := 34, attributes := #[] }] 49 2 #[] #[])
  fields := #[]
  methods := #[k1m0, k1m1]
  instanceTypes := #[]
  staticTypes := #[]
  resolved := Array.replicate 38 none
  statics := none }

def pool2 : Array CpInfo := pool [(1, .methodref 2 3), (0, .class_ 4), (0, .nameAndType 5 6), (0, u "java/lang/Object"), (0, u "<init>"), (0, u "()V"), (0, .fieldref 8 9), (0, .class_ 10), (0, .nameAndType 11 12), (0, u "com/example/tidewheel/tidewheel/store/TopicIndex"), (0, u "positions"), (0, u "[J"), (0, .fieldref 8 14), (0, .nameAndType 15 12), (0, u "deliveredAts"), (0, .class_ 17), (0, u "java/util/ArrayDeque"), (0, .methodref 16 3), (0, .fieldref 8 20), (0, .nameAndType 21 22), (0, u "waiting"), (0, u "Ljava/util/ArrayDeque;"), (2, .long 9223372036854775808), (1, .fieldref 8 28), (0, .nameAndType 29 30), (0, u "lastReadableDueAt"), (0, u "J"), (0, .fieldref 8 32), (0, .nameAndType 33 30), (0, u "latestHandedOutDueAt"), (0, .fieldref 8 35), (0, .nameAndType 36 37), (0, u "size"), (0, u "I"), (14, .class_ 53), (0, u "com/example/tidewheel/tidewheel/store/TopicIndex$Scheduled"), (5, u "()I"), (52, .methodref 113 114), (0, .class_ 115), (0, .nameAndType 116 117), (0, u "java/lang/Math"), (0, u "max"), (0, u "(JJ)J"), (2, u "committed"), (0, u "Ljava/util/Map;"), (13, u "()J"), (19, u "handedOut"), (0, u "(J)V")] 11

def k2c0 : Code := { maxStack := 3, maxLocals := 1, code := prog_30_method_1_code, exceptionTable := #[], attributes := #[] }
def k2m0 : Method := { name := "<init>", desc := "()V", sig := { parameters := [], returnType := none }, accessFlags := 0, code := some k2c0 }
def k2c1 : Code := { maxStack := 1, maxLocals := 1, code := prog_30_method_2_code, exceptionTable := #[], attributes := #[] }
def k2m1 : Method := { name := "size", desc := "()I", sig := { parameters := [], returnType := some .int }, accessFlags := 0, code := some k2c1 }
def k2c2 : Code := { maxStack := 2, maxLocals := 1, code := prog_30_method_7_code, exceptionTable := #[], attributes := #[] }
def k2m2 : Method := { name := "lastReadableDueAt", desc := "()J", sig := { parameters := [], returnType := some .long }, accessFlags := 0, code := some k2c2 }
def k2c3 : Code := { maxStack := 2, maxLocals := 1, code := prog_30_method_8_code, exceptionTable := #[], attributes := #[] }
def k2m3 : Method := { name := "latestHandedOutDueAt", desc := "()J", sig := { parameters := [], returnType := some .long }, accessFlags := 0, code := some k2c3 }
def k2c4 : Code := { maxStack := 5, maxLocals := 3, code := prog_30_method_9_code, exceptionTable := #[], attributes := #[] }
def k2m4 : Method := { name := "handedOut", desc := "(J)V", sig := { parameters := [.long], returnType := none }, accessFlags := 0, code := some k2c4 }
/-- com/example/tidewheel/tidewheel/store/TopicIndex -/
def k2 : Class := { plain "com/example/tidewheel/tidewheel/store/TopicIndex" (some 0) with
  accessFlags := 48
  interfaces := #[]
  cf := some (fileOf pool2 8 #[.nestMembers #[52]] #[{ accessFlags := 0, nameIndex := 5, descriptorIndex := 6, attributes := #[] }, { accessFlags := 0, nameIndex := 36, descriptorIndex := 59, attributes := #[] }, { accessFlags := 0, nameIndex := 29, descriptorIndex := 135, attributes := #[] }, { accessFlags := 0, nameIndex := 33, descriptorIndex := 135, attributes := #[] }, { accessFlags := 0, nameIndex := 155, descriptorIndex := 156, attributes := #[] }] 48 2 #[] #[{ accessFlags := 2, nameIndex := 11, descriptorIndex := 12, attributes := #[] }, { accessFlags := 2, nameIndex := 15, descriptorIndex := 12, attributes := #[] }, { accessFlags := 2, nameIndex := 36, descriptorIndex := 37, attributes := #[] }, { accessFlags := 18, nameIndex := 21, descriptorIndex := 22, attributes := #[] }, { accessFlags := 2, nameIndex := 29, descriptorIndex := 30, attributes := #[] }, { accessFlags := 2, nameIndex := 33, descriptorIndex := 30, attributes := #[] }, { accessFlags := 2, nameIndex := 120, descriptorIndex := 121, attributes := #[] }])
  fields := #[{ name := "positions", type := (.array .long), accessFlags := 2, slot := 0, constantValue := 0 }, { name := "deliveredAts", type := (.array .long), accessFlags := 2, slot := 1, constantValue := 0 }, { name := "size", type := .int, accessFlags := 2, slot := 2, constantValue := 0 }, { name := "waiting", type := (.object "java/util/ArrayDeque"), accessFlags := 18, slot := 3, constantValue := 0 }, { name := "lastReadableDueAt", type := .long, accessFlags := 2, slot := 4, constantValue := 0 }, { name := "latestHandedOutDueAt", type := .long, accessFlags := 2, slot := 5, constantValue := 0 }, { name := "committed", type := (.object "java/util/Map"), accessFlags := 2, slot := 6, constantValue := 0 }]
  methods := #[k2m0, k2m1, k2m2, k2m3, k2m4]
  instanceTypes := #[(.array .long), (.array .long), .int, (.object "java/util/ArrayDeque"), .long, .long, (.object "java/util/Map")]
  staticTypes := #[]
  resolved := Array.replicate 168 none
  statics := none }

def pool3 : Array CpInfo := pool [(8, .class_ 10), (1, u "java/lang/Iterable"), (24, .class_ 36), (0, u "java/lang/Object")] 25

/-- java/lang/Iterable -/
def k3 : Class := { plain "java/lang/Iterable" (some 0) with
  accessFlags := 1537
  interfaces := #[]
  cf := some (fileOf pool3 8 #[] #[] 1537 35 #[] #[])
  fields := #[]
  methods := #[]
  instanceTypes := #[]
  staticTypes := #[]
  resolved := Array.replicate 62 none
  statics := none }

def pool4 : Array CpInfo := pool [(10, .class_ 12), (1, u "java/util/Collection"), (47, .class_ 61), (0, u "java/lang/Object"), (0, .class_ 63), (0, u "java/lang/Iterable")] 51

/-- java/util/Collection -/
def k4 : Class := { plain "java/util/Collection" (some 0) with
  accessFlags := 1537
  interfaces := #[3]
  cf := some (fileOf pool4 10 #[] #[] 1537 60 #[62] #[])
  fields := #[]
  methods := #[]
  instanceTypes := #[]
  staticTypes := #[]
  resolved := Array.replicate 115 none
  statics := none }

def pool5 : Array CpInfo := pool [(1, .methodref 2 3), (0, .class_ 4), (0, .nameAndType 5 6), (0, u "java/lang/Object"), (0, u "<init>"), (0, u "()V"), (1, .class_ 10), (1, u "java/util/AbstractCollection"), (66, .class_ 78), (0, u "java/util/Collection")] 81

def k5c0 : Code := { maxStack := 1, maxLocals := 1, code := jdk_22_method_1_code, exceptionTable := #[], attributes := #[] }
def k5m0 : Method := { name := "<init>", desc := "()V", sig := { parameters := [], returnType := none }, accessFlags := 4, code := some k5c0 }
/-- java/util/AbstractCollection -/
def k5 : Class := { plain "java/util/AbstractCollection" (some 0) with
  accessFlags := 1057
  interfaces := #[4]
  cf := some (fileOf pool5 8 #[] #[{ accessFlags := 4, nameIndex := 5, descriptorIndex := 6, attributes := #[] }] 1057 2 #[77] #[])
  fields := #[]
  methods := #[k5m0]
  instanceTypes := #[]
  staticTypes := #[]
  resolved := Array.replicate 160 none
  statics := none }

def pool6 : Array CpInfo := pool [(1, .class_ 2), (0, u "java/util/Queue"), (0, .class_ 4), (0, u "java/lang/Object"), (0, .class_ 6), (0, u "java/util/Collection")] 14

/-- java/util/Queue -/
def k6 : Class := { plain "java/util/Queue" (some 0) with
  accessFlags := 1537
  interfaces := #[4]
  cf := some (fileOf pool6 1 #[] #[] 1537 3 #[5] #[])
  fields := #[]
  methods := #[]
  instanceTypes := #[]
  staticTypes := #[]
  resolved := Array.replicate 21 none
  statics := none }

def pool7 : Array CpInfo := pool [(8, .class_ 10), (1, u "java/util/SequencedCollection"), (15, .class_ 27), (0, u "java/lang/Object"), (0, .class_ 29), (0, u "java/util/Collection")] 27

/-- java/util/SequencedCollection -/
def k7 : Class := { plain "java/util/SequencedCollection" (some 0) with
  accessFlags := 1537
  interfaces := #[4]
  cf := some (fileOf pool7 8 #[] #[] 1537 26 #[28] #[])
  fields := #[]
  methods := #[]
  instanceTypes := #[]
  staticTypes := #[]
  resolved := Array.replicate 57 none
  statics := none }

def pool8 : Array CpInfo := pool [(8, .class_ 10), (1, u "java/util/Deque"), (2, .class_ 14), (0, u "java/lang/Object"), (0, .class_ 16), (0, u "java/util/Queue"), (0, .class_ 18), (0, u "java/util/SequencedCollection")] 51

/-- java/util/Deque -/
def k8 : Class := { plain "java/util/Deque" (some 0) with
  accessFlags := 1537
  interfaces := #[6, 7]
  cf := some (fileOf pool8 8 #[] #[] 1537 13 #[15, 17] #[])
  fields := #[]
  methods := #[]
  instanceTypes := #[]
  staticTypes := #[]
  resolved := Array.replicate 70 none
  statics := none }

def pool9 : Array CpInfo := pool [(1, .class_ 2), (0, u "java/lang/Cloneable"), (0, .class_ 4), (0, u "java/lang/Object")] 2

/-- java/lang/Cloneable -/
def k9 : Class := { plain "java/lang/Cloneable" (some 0) with
  accessFlags := 1537
  interfaces := #[]
  cf := some (fileOf pool9 1 #[] #[] 1537 3 #[] #[])
  fields := #[]
  methods := #[]
  instanceTypes := #[]
  staticTypes := #[]
  resolved := Array.replicate 7 none
  statics := none }

def pool10 : Array CpInfo := pool [(1, .class_ 2), (0, u "java/io/Serializable"), (0, .class_ 4), (0, u "java/lang/Object")] 2

/-- java/io/Serializable -/
def k10 : Class := { plain "java/io/Serializable" (some 0) with
  accessFlags := 1537
  interfaces := #[]
  cf := some (fileOf pool10 1 #[] #[] 1537 3 #[] #[])
  fields := #[]
  methods := #[]
  instanceTypes := #[]
  staticTypes := #[]
  resolved := Array.replicate 7 none
  statics := none }

def pool11 : Array CpInfo := pool [(3, .fieldref 4 5), (0, .class_ 6), (0, .nameAndType 7 8), (0, u "java/util/ArrayDeque"), (0, u "elements"), (0, u "[Ljava/lang/Object;"), (13, u "tail"), (0, u "I"), (2, u "head"), (12, u "<init>"), (2, .methodref 43 44), (0, .class_ 45), (0, .nameAndType 39 46), (0, u "java/util/AbstractCollection"), (0, u "()V"), (0, .class_ 48), (0, u "java/lang/Object"), (82, .class_ 132), (0, u "java/util/ArrayDeque$DeqIterator"), (3, .class_ 137), (0, u "java/util/ArrayDeque$DescendingIterator"), (1, .class_ 140), (0, u "java/util/ArrayDeque$DeqSpliterator"), (137, .class_ 279), (0, u "java/util/Deque"), (0, .class_ 281), (0, u "java/lang/Cloneable"), (0, .class_ 283), (0, u "java/io/Serializable"), (0, u "MAX_ARRAY_SIZE"), (1, u "serialVersionUID"), (0, u "J")] 150

def k11c0 : Code := { maxStack := 2, maxLocals := 1, code := jdk_21_method_3_code, exceptionTable := #[], attributes := #[] }
def k11m0 : Method := { name := "<init>", desc := "()V", sig := { parameters := [], returnType := none }, accessFlags := 1, code := some k11c0 }
/-- java/util/ArrayDeque -/
def k11 : Class := { plain "java/util/ArrayDeque" (some 5) with
  accessFlags := 33
  interfaces := #[8, 9, 10]
  cf := some (fileOf pool11 4 #[.nestMembers #[139, 136, 131]] #[{ accessFlags := 1, nameIndex := 39, descriptorIndex := 46, attributes := #[] }] 33 43 #[278, 280, 282] #[{ accessFlags := 128, nameIndex := 7, descriptorIndex := 8, attributes := #[] }, { accessFlags := 128, nameIndex := 26, descriptorIndex := 23, attributes := #[] }, { accessFlags := 128, nameIndex := 22, descriptorIndex := 23, attributes := #[] }, { accessFlags := 26, nameIndex := 284, descriptorIndex := 23, attributes := #[] }, { accessFlags := 26, nameIndex := 286, descriptorIndex := 287, attributes := #[] }])
  fields := #[{ name := "elements", type := (.array (.object "java/lang/Object")), accessFlags := 128, slot := 0, constantValue := 0 }, { name := "head", type := .int, accessFlags := 128, slot := 1, constantValue := 0 }, { name := "tail", type := .int, accessFlags := 128, slot := 2, constantValue := 0 }, { name := "MAX_ARRAY_SIZE", type := .int, accessFlags := 26, slot := 0, constantValue := 0 }, { name := "serialVersionUID", type := .long, accessFlags := 26, slot := 1, constantValue := 0 }]
  methods := #[k11m0]
  instanceTypes := #[(.array (.object "java/lang/Object")), .int, .int]
  staticTypes := #[.int, .long]
  resolved := Array.replicate 438 none
  statics := none }

def pool12 : Array CpInfo := pool [(1, .class_ 2), (0, u "java/lang/Math"), (1, .class_ 6), (1, u "java/lang/Object"), (0, u "<init>"), (0, u "()V"), (89, .class_ 100), (1, u "java/lang/Math$RandomNumberGeneratorHolder"), (20, u "(JJ)J"), (50, u "negativeZeroFloatBits"), (0, u "J"), (2, u "negativeZeroDoubleBits"), (21, u "max"), (46, u "$assertionsDisabled"), (0, u "Z"), (91, u "twoToTheDoubleScaleDown"), (0, u "D"), (4, u "twoToTheDoubleScaleUp"), (9, u "E"), (3, u "PI"), (2, u "TAU"), (2, u "DEGREES_TO_RADIANS"), (0, u "RADIANS_TO_DEGREES")] 94

def k12m0 : Method := { name := "<init>", desc := "()V", sig := { parameters := [], returnType := none }, accessFlags := 2, code := none }
def k12c1 : Code := { maxStack := 4, maxLocals := 4, code := jdk_29_method_66_code, exceptionTable := #[], attributes := #[] }
def k12m1 : Method := { name := "max", desc := "(JJ)J", sig := { parameters := [.long, .long], returnType := some .long }, accessFlags := 9, code := some k12c1 }
/-- java/lang/Math -/
def k12 : Class := { plain "java/lang/Math" (some 0) with
  accessFlags := 49
  interfaces := #[]
  cf := some (fileOf pool12 1 #[.nestMembers #[98]] #[{ accessFlags := 2, nameIndex := 7, descriptorIndex := 8, attributes := #[] }, { accessFlags := 9, nameIndex := 198, descriptorIndex := 121, attributes := #[] }] 49 4 #[] #[{ accessFlags := 25, nameIndex := 354, descriptorIndex := 339, attributes := #[] }, { accessFlags := 25, nameIndex := 358, descriptorIndex := 339, attributes := #[] }, { accessFlags := 25, nameIndex := 361, descriptorIndex := 339, attributes := #[] }, { accessFlags := 26, nameIndex := 364, descriptorIndex := 339, attributes := #[] }, { accessFlags := 26, nameIndex := 365, descriptorIndex := 339, attributes := #[] }, { accessFlags := 26, nameIndex := 172, descriptorIndex := 173, attributes := #[] }, { accessFlags := 26, nameIndex := 176, descriptorIndex := 173, attributes := #[] }, { accessFlags := 8, nameIndex := 344, descriptorIndex := 339, attributes := #[] }, { accessFlags := 8, nameIndex := 338, descriptorIndex := 339, attributes := #[] }, { accessFlags := 4120, nameIndex := 245, descriptorIndex := 246, attributes := #[] }])
  fields := #[{ name := "E", type := .double, accessFlags := 25, slot := 0, constantValue := 0 }, { name := "PI", type := .double, accessFlags := 25, slot := 1, constantValue := 0 }, { name := "TAU", type := .double, accessFlags := 25, slot := 2, constantValue := 0 }, { name := "DEGREES_TO_RADIANS", type := .double, accessFlags := 26, slot := 3, constantValue := 0 }, { name := "RADIANS_TO_DEGREES", type := .double, accessFlags := 26, slot := 4, constantValue := 0 }, { name := "negativeZeroFloatBits", type := .long, accessFlags := 26, slot := 5, constantValue := 0 }, { name := "negativeZeroDoubleBits", type := .long, accessFlags := 26, slot := 6, constantValue := 0 }, { name := "twoToTheDoubleScaleUp", type := .double, accessFlags := 8, slot := 7, constantValue := 0 }, { name := "twoToTheDoubleScaleDown", type := .double, accessFlags := 8, slot := 8, constantValue := 0 }, { name := "$assertionsDisabled", type := .boolean, accessFlags := 4120, slot := 9, constantValue := 0 }]
  methods := #[k12m0, k12m1]
  instanceTypes := #[]
  staticTypes := #[.double, .double, .double, .double, .double, .long, .long, .double, .double, .boolean]
  resolved := Array.replicate 460 none
  statics := none }

/-- the primitive byte -/
def k13 : Class := { plain "byte" none with kind := .primitive 'B', accessFlags := 0x411 }
/-- [B -/
def k14 : Class := { plain "[B" (some 0) with kind := .array 13 .byte, interfaces := #[9, 10], accessFlags := 1041 }

/-- the primitive int -/
def k15 : Class := { plain "int" none with kind := .primitive 'I', accessFlags := 0x411 }
/-- [I -/
def k16 : Class := { plain "[I" (some 0) with kind := .array 15 .int, interfaces := #[9, 10], accessFlags := 1041 }

/-- the primitive long -/
def k17 : Class := { plain "long" none with kind := .primitive 'J', accessFlags := 0x411 }
/-- [J -/
def k18 : Class := { plain "[J" (some 0) with kind := .array 17 .long, interfaces := #[9, 10], accessFlags := 1041 }

/-- [Ljava/lang/Object; -/
def k19 : Class := { plain "[Ljava/lang/Object;" (some 0) with kind := .array 0 (.object "java/lang/Object"), interfaces := #[9, 10], accessFlags := 1041 }

def heap : Heap := #[]
def classes : Array Class := #[k0, k1, k2, k3, k4, k5, k6, k7, k8, k9, k10, k11, k12, k13, k14, k15, k16, k17, k18, k19]
def interned : List (Array UInt16 × Addr) := []
def slotsUsed : Nat := 0
def theMethod : MethodId := ⟨1, 1⟩
def args0 : Array Value := #[.long 5, .long 5, .long 5]
def aboutOver (below : List Frame) : State where
  vm := { classes := classes, interned := interned.toArray }
  heap := heap
  slotsUsed := slotsUsed
  threads := #[{ frames := .invoking theMethod args0 :: below }]
def below0 : List Frame := [.native { method := ⟨0, 0⟩, args := #[] }]
def about1 : State := aboutOver below0
def p0 : Program := .bare "" "" ""
def e0 : Env := launch0.env 0 0 0
theorem w_frames : about1.frames = Frame.invoking theMethod args0 :: below0 := rfl
set_option maxRecDepth 65536 in
theorem w_args : argsFit about1.vm theMethod args0 = true := by decide +kernel
set_option maxRecDepth 65536 in
theorem w_heap : heapFits about1 = true := by decide +kernel
set_option maxRecDepth 65536 in
theorem w_runnable : about1.curStatus? = some .runnable := by decide +kernel
set_option maxRecDepth 65536 in
theorem w_alone : about1.alone = true := by decide +kernel
set_option maxRecDepth 65536 in
theorem w_named : about1.methodNamed? x = some theMethod := by decide +kernel
set_option maxRecDepth 65536 in
theorem w_hears : about1.hears theMethod below0 = true := by decide +kernel
set_option maxRecDepth 65536 in
theorem w_ripe : about1.ripe theMethod args0 below0 = true := by decide +kernel
theorem w_running : about1.status = .running := rfl
set_option maxRecDepth 65536 in
theorem w_room : about1.hasRoom e0.platform room_1 = true :=
  launch0.hasRoom_least _ room_1 (by decide +kernel) (by decide +kernel) (by decide +kernel) (by decide +kernel) (by decide +kernel) (by decide +kernel)
theorem allAtoms_all (ts : List Jvm.Cond) (a : Array Jvm.Value) (st : Jvm.State) : (allAtoms ts).before a st = ts.all (fun c => c.before a st) := by
  induction ts with
  | nil => rfl
  | cons c t ih =>
    show (Jvm.Cond.and c (allAtoms t)).before a st = _
    rw [Jvm.Cond.before_and, ih, List.all_cons]
def words1 : List Jvm.Cond := Jvm.Cond.code x code maxLocals ret :: tables_1
/-- a 'code' word, met by the world's own term for the bytes: nothing is compared byte by byte -/
theorem code_word {y : MethodName} {bytes : ByteArray} {mx : Nat} {rt : Option FieldType} {a : Array Value} {s : State} {m : MethodId} {meth : Method} {c : Code} (h1 : s.methodNamed? y = some m) (h2 : s.vm.method? m = some meth) (h3 : meth.code = some c) (h4 : c.code = bytes)
    (h5 : (c.maxLocals == mx && c.exceptionTable.isEmpty && decide (c.maxStack ≤ mostOperands) && decide (meth.sig.returnType = rt) && !meth.locks && decide (parseMethodDescriptor y.desc = some meth.sig)) = true) : (Jvm.Cond.code y bytes mx rt).before a s = true := by
  simp only [Bool.and_eq_true, beq_iff_eq, Bool.not_eq_true', decide_eq_true_eq] at h5
  obtain ⟨⟨⟨⟨⟨g1, g2⟩, g3⟩, g4⟩, g5⟩, g6⟩ := h5
  simp [Cond.before, Cond.holds, Cond.value, h1, h2, h3, h4, g1, g2, g3, g4, g5, g6]
def isCode : Jvm.Cond → Bool
  | .code _ _ _ _ => true
  | _ => false
theorem all_split {L : List Jvm.Cond} {P : Jvm.Cond → Bool} (h1 : L.all (fun c => isCode c || P c) = true) (h2 : ∀ c ∈ L.filter isCode, P c = true) : L.all P = true := by
  refine List.all_eq_true.mpr fun c hc => ?_
  have h := List.all_eq_true.mp h1 c hc
  rcases Bool.eq_false_or_eq_true (isCode c) with hi | hi
  · exact h2 c (List.mem_filter.mpr ⟨hc, hi⟩)
  · simpa [hi] using h
set_option maxRecDepth 65536 in
theorem w_c0 : (Jvm.Cond.code x code maxLocals ret).before args0 about1 = true := code_word (m := ⟨1, 1⟩) (meth := k1m1) (c := k1c1) (by decide +kernel) rfl rfl rfl (by decide +kernel)
set_option maxRecDepth 65536 in
theorem w_c1 : (Jvm.Cond.code ({ cls := "com/example/tidewheel/tidewheel/store/TopicIndex", name := "<init>", desc := "()V" } : Jvm.MethodName) prog_30_method_1_code (1 : Nat) (Option.none : Option Jvm.ClassFile.FieldType)).before args0 about1 = true := code_word (m := ⟨2, 0⟩) (meth := k2m0) (c := k2c0) (by decide +kernel) rfl rfl rfl (by decide +kernel)
set_option maxRecDepth 65536 in
theorem w_c2 : (Jvm.Cond.code ({ cls := "java/lang/Object", name := "<init>", desc := "()V" } : Jvm.MethodName) object_method_1_code (1 : Nat) (Option.none : Option Jvm.ClassFile.FieldType)).before args0 about1 = true := code_word (m := ⟨0, 0⟩) (meth := k0m0) (c := k0c0) (by decide +kernel) rfl rfl rfl (by decide +kernel)
set_option maxRecDepth 65536 in
theorem w_c3 : (Jvm.Cond.code ({ cls := "java/util/ArrayDeque", name := "<init>", desc := "()V" } : Jvm.MethodName) jdk_21_method_3_code (1 : Nat) (Option.none : Option Jvm.ClassFile.FieldType)).before args0 about1 = true := code_word (m := ⟨11, 0⟩) (meth := k11m0) (c := k11c0) (by decide +kernel) rfl rfl rfl (by decide +kernel)
set_option maxRecDepth 65536 in
theorem w_c4 : (Jvm.Cond.code ({ cls := "java/util/AbstractCollection", name := "<init>", desc := "()V" } : Jvm.MethodName) jdk_22_method_1_code (1 : Nat) (Option.none : Option Jvm.ClassFile.FieldType)).before args0 about1 = true := code_word (m := ⟨5, 0⟩) (meth := k5m0) (c := k5c0) (by decide +kernel) rfl rfl rfl (by decide +kernel)
set_option maxRecDepth 65536 in
theorem w_c5 : (Jvm.Cond.code ({ cls := "com/example/tidewheel/tidewheel/store/TopicIndex", name := "latestHandedOutDueAt", desc := "()J" } : Jvm.MethodName) prog_30_method_8_code (1 : Nat) (Option.some Jvm.ClassFile.FieldType.long)).before args0 about1 = true := code_word (m := ⟨2, 3⟩) (meth := k2m3) (c := k2c3) (by decide +kernel) rfl rfl rfl (by decide +kernel)
set_option maxRecDepth 65536 in
theorem w_c6 : (Jvm.Cond.code ({ cls := "com/example/tidewheel/tidewheel/store/TopicIndex", name := "handedOut", desc := "(J)V" } : Jvm.MethodName) prog_30_method_9_code (3 : Nat) (Option.none : Option Jvm.ClassFile.FieldType)).before args0 about1 = true := code_word (m := ⟨2, 4⟩) (meth := k2m4) (c := k2c4) (by decide +kernel) rfl rfl rfl (by decide +kernel)
set_option maxRecDepth 65536 in
theorem w_c7 : (Jvm.Cond.code ({ cls := "java/lang/Math", name := "max", desc := "(JJ)J" } : Jvm.MethodName) jdk_29_method_66_code (4 : Nat) (Option.some Jvm.ClassFile.FieldType.long)).before args0 about1 = true := code_word (m := ⟨12, 1⟩) (meth := k12m1) (c := k12c1) (by decide +kernel) rfl rfl rfl (by decide +kernel)
set_option maxRecDepth 65536 in
theorem w_c8 : (Jvm.Cond.code ({ cls := "com/example/tidewheel/tidewheel/store/TopicIndex", name := "size", desc := "()I" } : Jvm.MethodName) prog_30_method_2_code (1 : Nat) (Option.some Jvm.ClassFile.FieldType.int)).before args0 about1 = true := code_word (m := ⟨2, 1⟩) (meth := k2m1) (c := k2c1) (by decide +kernel) rfl rfl rfl (by decide +kernel)
set_option maxRecDepth 65536 in
theorem w_c9 : (Jvm.Cond.code ({ cls := "com/example/tidewheel/tidewheel/store/TopicIndex", name := "lastReadableDueAt", desc := "()J" } : Jvm.MethodName) prog_30_method_7_code (1 : Nat) (Option.some Jvm.ClassFile.FieldType.long)).before args0 about1 = true := code_word (m := ⟨2, 2⟩) (meth := k2m2) (c := k2c2) (by decide +kernel) rfl rfl rfl (by decide +kernel)
def codes1 : List Jvm.Cond := [Jvm.Cond.code x code maxLocals ret, Jvm.Cond.code ({ cls := "com/example/tidewheel/tidewheel/store/TopicIndex", name := "<init>", desc := "()V" } : Jvm.MethodName) prog_30_method_1_code (1 : Nat) (Option.none : Option Jvm.ClassFile.FieldType), Jvm.Cond.code ({ cls := "java/lang/Object", name := "<init>", desc := "()V" } : Jvm.MethodName) object_method_1_code (1 : Nat) (Option.none : Option Jvm.ClassFile.FieldType), Jvm.Cond.code ({ cls := "java/util/ArrayDeque", name := "<init>", desc := "()V" } : Jvm.MethodName) jdk_21_method_3_code (1 : Nat) (Option.none : Option Jvm.ClassFile.FieldType), Jvm.Cond.code ({ cls := "java/util/AbstractCollection", name := "<init>", desc := "()V" } : Jvm.MethodName) jdk_22_method_1_code (1 : Nat) (Option.none : Option Jvm.ClassFile.FieldType), Jvm.Cond.code ({ cls := "com/example/tidewheel/tidewheel/store/TopicIndex", name := "latestHandedOutDueAt", desc := "()J" } : Jvm.MethodName) prog_30_method_8_code (1 : Nat) (Option.some Jvm.ClassFile.FieldType.long), Jvm.Cond.code ({ cls := "com/example/tidewheel/tidewheel/store/TopicIndex", name := "handedOut", desc := "(J)V" } : Jvm.MethodName) prog_30_method_9_code (3 : Nat) (Option.none : Option Jvm.ClassFile.FieldType), Jvm.Cond.code ({ cls := "java/lang/Math", name := "max", desc := "(JJ)J" } : Jvm.MethodName) jdk_29_method_66_code (4 : Nat) (Option.some Jvm.ClassFile.FieldType.long), Jvm.Cond.code ({ cls := "com/example/tidewheel/tidewheel/store/TopicIndex", name := "size", desc := "()I" } : Jvm.MethodName) prog_30_method_2_code (1 : Nat) (Option.some Jvm.ClassFile.FieldType.int), Jvm.Cond.code ({ cls := "com/example/tidewheel/tidewheel/store/TopicIndex", name := "lastReadableDueAt", desc := "()J" } : Jvm.MethodName) prog_30_method_7_code (1 : Nat) (Option.some Jvm.ClassFile.FieldType.long)]
set_option maxRecDepth 65536 in
theorem codes_eq : words1.filter isCode = codes1 := rfl
theorem w_codes : ∀ c ∈ words1.filter isCode, c.before args0 about1 = true := by
  rw [codes_eq]
  intro c hc
  simp only [codes1, List.mem_cons, List.not_mem_nil, or_false] at hc
  rcases hc with rfl | rfl | rfl | rfl | rfl | rfl | rfl | rfl | rfl | rfl
  · exact w_c0
  · exact w_c1
  · exact w_c2
  · exact w_c3
  · exact w_c4
  · exact w_c5
  · exact w_c6
  · exact w_c7
  · exact w_c8
  · exact w_c9
set_option maxRecDepth 65536 in
theorem w_t1 : (words1.take 24).all (fun c => isCode c || c.before args0 about1) = true := by decide +kernel
set_option maxRecDepth 65536 in
theorem w_t2 : ((words1.drop 24).take 24).all (fun c => isCode c || c.before args0 about1) = true := by decide +kernel
set_option maxRecDepth 65536 in
theorem w_t3 : ((words1.drop 24).drop 24).all (fun c => isCode c || c.before args0 about1) = true := by decide +kernel
theorem w_tables : (allAtoms (Jvm.Cond.code x code maxLocals ret :: tables_1)).before args0 about1 = true := by
  rw [allAtoms_all]
  show words1.all (fun c => c.before args0 about1) = true
  refine all_split ?_ w_codes
  rw [← List.take_append_drop 24 words1, List.all_append, w_t1, ← List.take_append_drop 24 (words1.drop 24), List.all_append, w_t2, w_t3]
  rfl
set_option maxRecDepth 65536 in
theorem w_case : (Jvm.Cond.and given_1 narrow_1).before args0 about1 = true := by decide +kernel
theorem w_applies : (headSpec (Jvm.Cond.code x code maxLocals ret :: tables_1) room_1).applies x e0.platform about1 = true :=
  (Spec.applies_iff w_frames).mpr ⟨w_running, w_runnable, w_alone, w_named, w_hears, w_ripe, w_room, w_tables⟩
theorem atStart : AtStart classFile x code maxLocals ret World_1 tables_1 room_1 Calls_1 rest_1 Pre_1 launch0 p0 e0 about1 theMethod args0 below0 :=
  ⟨lists_1, trivial, launch0.admits_env _ _ _, launch0.least_env, fairChoices_fair.cas, fairChoices_fair.clock, w_frames, w_args, w_heap, w_applies, trivial, trivial, w_case⟩
end start1
theorem witness_1 : WitnessClaimed_1 := ⟨start1.p0, start1.e0, start1.about1, start1.theMethod, start1.args0, start1.below0, start1.atStart⟩
end Jvm.Pilot.@@N@@
