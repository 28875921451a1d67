import JvmDerived
import JvmDerived.Pilot.@@N@@Statement
import JvmDerived.Pilot.@@N@@Code
set_option linter.unusedVariables false
set_option linter.unusedSimpArgs false
namespace Jvm.Pilot.@@N@@
open Jvm Jvm.ClassFile Sem Op Lib Jvm.Free Jvm.Stand Jvm.LawKit Jvm.RoadKit Bundle Jvm.Pilot.@@N@@.Jvm.D
section OwnKit
variable {p : Program} {l : Launch} {e : Env} {R : Room} {s : State} {m : MethodId} {args : Array Value} {below : List Frame} {meth : Method} {c : Code} {T : State} {locs : List Loc} {cells slots : Nat} {Z : State} {h h' : Heap} {a b : Addr} {ty : FieldType} {n : Nat} {f f' : Nat → Value} {sl : Nat} {v : Value} {ws : List Addr}
theorem own_dia {t : State} {B F : JFrame} (hh : Steps p.tables e below (T.setTop F) t → Steps p.tables e below (T.setTop B) t) (k : Steps p.tables e below (T.setTop F) t) : Steps p.tables e below (T.setTop B) t := hh k
/-- the place j lies in an array of n places -/
abbrev own_in (j : Int32) (n : Nat) : Prop := 0 ≤ j.toInt ∧ j.toInt < n
theorem own_in_nat {j : Int32} (hj : own_in j n) : j.toNatClampNeg < n := by simp only [Int32.toNatClampNeg]; omega
theorem own_in_arr {cl : Cell} {j : Int32} (hs : cl.slots.size = n) (hj : own_in j n) : ¬ (j < 0 ∨ cl.slots.size ≤ j.toNatClampNeg) := by
  have := own_in_nat hj
  have k0 : (0 : Int32).toInt = 0 := by decide
  rw [Int32.lt_iff_toInt_lt, hs, k0]; omega
/-- an array: its kind, its length, and what each place holds -/
def AF (Z : State) (h : Heap) (a : Addr) (ty : FieldType) (n : Nat) (f : Nat → Value) : Prop := ∃ c : Cell, Arr Z h a c ty ∧ c.slots.size = n ∧ n < 2147483648 ∧ ∀ j, j < n → c.slots[j]? = some (f j)
theorem AF.lt (F : AF Z h a ty n f) : a < h.size := by obtain ⟨c, A, -⟩ := F; exact A.lt
theorem AF.small (F : AF Z h a ty n f) : n < 2147483648 := by obtain ⟨c, -, -, q, -⟩ := F; exact q
theorem AF.ext (F : AF Z h a ty n f) (E : Ext h h') : AF Z h' a ty n f := by obtain ⟨c, A, r⟩ := F; exact ⟨c, A.ext E, r⟩
theorem AF.other (F : AF Z h b ty n f) (W : Wr h h' a sl v) (q : b ≠ a) : AF Z h' b ty n f := by obtain ⟨c, A, r⟩ := F; exact ⟨c, A.other W q, r⟩
theorem AF.keep (F : AF Z h a ty n f) (K : Keep h h' ws) (q : a ∉ ws) : AF Z h' a ty n f := by obtain ⟨c, A, r⟩ := F; exact ⟨c, ⟨K.2.1 a c A.1 q, A.2⟩, r⟩
theorem AF.cong (F : AF Z h a ty n f) (q : ∀ j, j < n → f j = f' j) : AF Z h a ty n f' := by obtain ⟨c, A, r1, r2, r3⟩ := F; exact ⟨c, A, r1, r2, fun j hj => by rw [← q j hj]; exact r3 j hj⟩
theorem AF.new {k : ClassId} {z : Int32} (A : Arr Z h a (newA k ty z) ty) (q : ¬ z < 0) : AF Z h a ty z.toNatClampNeg (fun _ => defaultValue ty) := ⟨_, A, sz_new _ _ _, (back32 q).2, fun j hj => by simp [newA, hj]⟩
theorem AF.set (F : AF Z h a ty n f) {k : Nat} (W : Wr h h' a k v) : AF Z h' a ty n (fun i => if i = k then v else f i) := by
  obtain ⟨c, A, r1, r2, r3⟩ := F
  refine ⟨_, Arr.same W A, by rw [sz_set]; exact r1, r2, fun j hj => ?_⟩
  obtain ⟨cell, h1, -, h3, -⟩ := W
  cases h1.symm.trans A.1
  by_cases q : j = k
  · subst q; simp [Cell.setSlot, h3]
  · have q' : ¬ k = j := fun z => q z.symm
    simp only [Cell.setSlot, Array.getElem?_setIfInBounds, if_neg q, if_neg q']; exact r3 j hj
theorem own_updI {g fN : Nat → Int32} {x : Int32} {J k : Nat} (hk : k = J) (hf : fN = fun i => if i = J then x else g i) : ∀ j, j < n → (if j = k then Value.int x else Value.int (g j)) = Value.int (fN j) := by
  subst hk hf; intro j _; by_cases q : j = k <;> simp [q]
theorem own_updJ {g fN : Nat → Int64} {x : Int64} {J k : Nat} (hk : k = J) (hf : fN = fun i => if i = J then x else g i) : ∀ j, j < n → (if j = k then Value.long x else Value.long (g j)) = Value.long (fN j) := by
  subst hk hf; intro j _; by_cases q : j = k <;> simp [q]
theorem AF.ldI (X : Stand p l e R s m args below meth c T locs cells slots) (hx : p.tables.exec = Jvm.exec) (hZ : Z.Warmed39 s.vm) (eT : T.heap = h) {f : Nat → Int32} (A : AF Z h a .int n (fun j => .int (f j))) {j : Int32} (hj : own_in j n) {g : JFrame} (hg : g.method = m) {rest : List Value} (hs : g.stack = .int j :: .ref a :: rest) (hd : decode c.code g.pc = .ok (.iaload, 1)) (target : State)
    (k : Steps p.tables e below (T.setTop { g with pc := g.pc + 1, stack := .int (f j.toNatClampNeg) :: rest }) target) : Steps p.tables e below (T.setTop g) target := by
  obtain ⟨cl, A, r1, r2, r3⟩ := A
  exact X.iaload hx (j := j) (v := .int (f j.toNatClampNeg)) (by rw [eT]; exact A.1) (State.isArrayOf_alike hZ.alike A.2.1) A.2.2 (own_in_arr r1 hj) (r3 _ (own_in_nat hj)) hg hs hd _ k
theorem AF.ldJ (X : Stand p l e R s m args below meth c T locs cells slots) (hx : p.tables.exec = Jvm.exec) (hZ : Z.Warmed39 s.vm) (eT : T.heap = h) {f : Nat → Int64} (A : AF Z h a .long n (fun j => .long (f j))) {j : Int32} (hj : own_in j n) {g : JFrame} (hg : g.method = m) {rest : List Value} (hs : g.stack = .int j :: .ref a :: rest) (hd : decode c.code g.pc = .ok (.laload, 1)) (target : State)
    (k : Steps p.tables e below (T.setTop { g with pc := g.pc + 1, stack := .long (f j.toNatClampNeg) :: rest }) target) : Steps p.tables e below (T.setTop g) target := by
  obtain ⟨cl, A, r1, r2, r3⟩ := A
  exact X.laload hx (j := j) (v := .long (f j.toNatClampNeg)) (by rw [eT]; exact A.1) (State.isArrayOf_alike hZ.alike A.2.1) A.2.2 (own_in_arr r1 hj) (r3 _ (own_in_nat hj)) hg hs hd _ k
theorem AF.ldB (X : Stand p l e R s m args below meth c T locs cells slots) (hx : p.tables.exec = Jvm.exec) (hZ : Z.Warmed39 s.vm) (eT : T.heap = h) {f : Nat → Int32} (A : AF Z h a .byte n (fun j => .int (f j))) {j : Int32} (hj : own_in j n) {g : JFrame} (hg : g.method = m) {rest : List Value} (hs : g.stack = .int j :: .ref a :: rest) (hd : decode c.code g.pc = .ok (.baload, 1)) (target : State)
    (k : Steps p.tables e below (T.setTop { g with pc := g.pc + 1, stack := .int (f j.toNatClampNeg) :: rest }) target) : Steps p.tables e below (T.setTop g) target := by
  obtain ⟨cl, A, r1, r2, r3⟩ := A
  exact X.baloadBytes hx (j := j) (v := .int (f j.toNatClampNeg)) (by rw [eT]; exact A.1) (State.isArrayOf_alike hZ.alike A.2.1) A.2.2 (own_in_arr r1 hj) (r3 _ (own_in_nat hj)) hg hs hd _ k
theorem AF.len (X : Stand p l e R s m args below meth c T locs cells slots) (hx : p.tables.exec = Jvm.exec) (hZ : Z.Warmed39 s.vm) (eT : T.heap = h) (A : AF Z h a ty n f) {g : JFrame} (hg : g.method = m) {rest : List Value} (hs : g.stack = .ref a :: rest) (hd : decode c.code g.pc = .ok (.arraylength, 1)) (target : State)
    (k : Steps p.tables e below (T.setTop { g with pc := g.pc + 1, stack := .int (Int32.ofNat n) :: rest }) target) : Steps p.tables e below (T.setTop g) target := by
  obtain ⟨cl, A, r1, r2, r3⟩ := A
  subst r1
  exact X.arraylength hx (by rw [eT]; exact A.1) (State.isArrayOf_alike hZ.alike A.2.1) hg hs hd _ k
theorem AF.stI (X : Stand p l e R s m args below meth c T locs cells slots) (hx : p.tables.exec = Jvm.exec) (hZ : Z.Warmed39 s.vm) (eT : T.heap = h) (A : AF Z h a .int n f) {j x : Int32} (hj : own_in j n) {g : JFrame} (hg : g.method = m) {rest : List Value} (hs : g.stack = .int x :: .int j :: .ref a :: rest) (hd : decode c.code g.pc = .ok (.iastore, 1)) :
    ∃ T' h', Stand p l e R s m args below meth c T' (locs ++ [⟨a, j.toNatClampNeg⟩]) cells slots ∧ T'.heap = h' ∧ Wr h h' a j.toNatClampNeg (.int x) ∧ AF Z h' a .int n (fun i => if i = j.toNatClampNeg then .int x else f i) ∧ ∀ target, Steps p.tables e below (T'.setTop { g with pc := g.pc + 1, stack := rest }) target → Steps p.tables e below (T.setTop g) target := by
  have A0 := A
  obtain ⟨cl, A, r1, r2, r3⟩ := A
  obtain ⟨T', h', X', e', W, st⟩ := Jvm.RoadKit.stI X hx hZ eT A (j := j) (own_in_arr r1 hj) hg hs hd
  exact ⟨T', h', X', e', W, A0.set W, st⟩
theorem AF.stJ (X : Stand p l e R s m args below meth c T locs cells slots) (hx : p.tables.exec = Jvm.exec) (hZ : Z.Warmed39 s.vm) (eT : T.heap = h) (A : AF Z h a .long n f) {j : Int32} {x : Int64} (hj : own_in j n) {g : JFrame} (hg : g.method = m) {rest : List Value} (hs : g.stack = .long x :: .int j :: .ref a :: rest) (hd : decode c.code g.pc = .ok (.lastore, 1)) :
    ∃ T' h', Stand p l e R s m args below meth c T' (locs ++ [⟨a, j.toNatClampNeg⟩]) cells slots ∧ T'.heap = h' ∧ Wr h h' a j.toNatClampNeg (.long x) ∧ AF Z h' a .long n (fun i => if i = j.toNatClampNeg then .long x else f i) ∧ ∀ target, Steps p.tables e below (T'.setTop { g with pc := g.pc + 1, stack := rest }) target → Steps p.tables e below (T.setTop g) target := by
  have A0 := A
  obtain ⟨cl, A, r1, r2, r3⟩ := A
  obtain ⟨T', h', X', e', W, st⟩ := Jvm.RoadKit.stJ X hx hZ eT A (j := j) (own_in_arr r1 hj) hg hs hd
  exact ⟨T', h', X', e', W, A0.set W, st⟩
theorem AF.stB (X : Stand p l e R s m args below meth c T locs cells slots) (hx : p.tables.exec = Jvm.exec) (hZ : Z.Warmed39 s.vm) (eT : T.heap = h) (A : AF Z h a .byte n f) {j x : Int32} (hj : own_in j n) {g : JFrame} (hg : g.method = m) {rest : List Value} (hs : g.stack = .int x :: .int j :: .ref a :: rest) (hd : decode c.code g.pc = .ok (.bastore, 1)) :
    ∃ T' h', Stand p l e R s m args below meth c T' (locs ++ [⟨a, j.toNatClampNeg⟩]) cells slots ∧ T'.heap = h' ∧ Wr h h' a j.toNatClampNeg (.int x.toInt8.toInt32) ∧ AF Z h' a .byte n (fun i => if i = j.toNatClampNeg then .int x.toInt8.toInt32 else f i) ∧ ∀ target, Steps p.tables e below (T'.setTop { g with pc := g.pc + 1, stack := rest }) target → Steps p.tables e below (T.setTop g) target := by
  have A0 := A
  obtain ⟨cl, A, r1, r2, r3⟩ := A
  obtain ⟨T', h', X', e', W, st⟩ := Jvm.RoadKit.stB X hx hZ eT A (j := j) (own_in_arr r1 hj) hg hs hd
  exact ⟨T', h', X', e', W, A0.set W, st⟩
theorem own_cpyI {f g fN : Nat → Int32} {k : Nat} (hf : fN = fun j => if j < k then f j else g j) : ∀ j, j < n → (if j < k then Value.int (f j) else Value.int (g j)) = Value.int (fN j) := by
  subst hf; intro j _; by_cases q : j < k <;> simp [q]
theorem own_cpyJ {f g fN : Nat → Int64} {k : Nat} (hf : fN = fun j => if j < k then f j else g j) : ∀ j, j < n → (if j < k then Value.long (f j) else Value.long (g j)) = Value.long (fN j) := by
  subst hf; intro j _; by_cases q : j < k <;> simp [q]
theorem own_acW {own : String} {index : Nat} (h1 : (Jvm.Cond.methodLink own index Jvm.Stand.acN).before args s = true) (h2 : (Jvm.Cond.native Jvm.Stand.acN).before args s = true) (h3 : (Jvm.Cond.static Jvm.Stand.acN).before args s = true) (h4 : (Jvm.Cond.initialized "java/lang/System").before args s = true) : ∀ w ∈ Jvm.Free.XT.acW own index, w.before args s = true := by
  intro w hw
  change w ∈ [Jvm.Cond.methodLink own index Jvm.Stand.acN, Jvm.Cond.native Jvm.Stand.acN, Jvm.Cond.static Jvm.Stand.acN, Jvm.Cond.initialized "java/lang/System"] at hw
  simp only [List.mem_cons, List.not_mem_nil, or_false] at hw
  rcases hw with rfl | rfl | rfl | rfl
  · exact h1
  · exact h2
  · exact h3
  · exact h4
theorem own_isArr {c c' : Cell} (q : Z.isArrayOf c ty) (h1 : c'.cls = c.cls) (h2 : c'.vm = c.vm) : Z.isArrayOf c' ty := by
  obtain ⟨q1, k, q2, q3⟩ := q
  exact ⟨by rw [h2]; exact q1, k, by rw [h1]; exact q2, q3⟩
theorem AF.copy (X : Stand p l e R s m args below meth c T locs cells slots) (hx : p.tables.exec = Jvm.exec) (hZ : Z.Warmed39 s.vm) {own : String} {index : Nat} (hown : s.vm.findClass own = some m.cls) (hw : ∀ w ∈ Jvm.Free.XT.acW own index, w.before args s = true)
    (eT : T.heap = h) {k : Nat} {f' : Nat → Value} (A : AF Z h a ty n f) (B : AF Z h b ty k f') (hp : ty.isReference = false) {cnt : Nat} (hfit : ∀ j, j < cnt → fits ty (f j) = true) (h1 : cnt ≤ n) (h2 : cnt ≤ k) {jn : Int32} (hn : jn = Int32.ofNat cnt)
    {g : JFrame} (hg : g.method = m) (hsize : g.locals.size = c.maxLocals) {rest : List Value} (hs : g.stack = .int jn :: .int 0 :: .ref b :: .int 0 :: .ref a :: rest) (hd : decode c.code g.pc = .ok (.invokestatic index, 3))
    {W : Nat} (hW : 2 * g.monitorRoom + (rest.map fun v => v.category).sum ≤ W) (hfr : 1 ≤ R.frames) (hlo : W + 40 ≤ R.locals) :
    ∃ (T' : State) (h' : Heap) (L' : List Loc), Stand p l e R s m args below meth c T' (locs ++ L') cells slots ∧ T'.heap = h' ∧ (∀ y ∈ L', y.base = b) ∧ Keep h h' [b] ∧ AF Z h' b ty k (fun j => if j < cnt then f j else f' j) ∧
      ∀ target, Steps p.tables e below (T'.setTop { g with pc := g.pc + 3, stack := rest }) target → Steps p.tables e below (T.setTop g) target := by
  obtain ⟨ca, A, a1, a2, a3⟩ := A
  obtain ⟨cb, B, b1, b2, b3⟩ := B
  have tA : Jvm.Free.XT.Arr ty a ca T := ⟨by rw [eT]; exact A.1, State.isArrayOf_alike X.warmed.alike (State.isArrayOf_alike hZ.alike A.2.1), A.2.2, by omega⟩
  have tB : Jvm.Free.XT.Arr ty b cb T := ⟨by rw [eT]; exact B.1, State.isArrayOf_alike X.warmed.alike (State.isArrayOf_alike hZ.alike B.2.1), B.2.2, by omega⟩
  have ga : ∀ j, j < n → ca.slots.getD j .null = f j := fun j hj => by
    have q := a3 j hj
    rw [Array.getD_eq_getD_getElem?, q]; rfl
  obtain ⟨T', B', X', P, q1, q2, q3, q4, st⟩ := X.acopy hx (o := 0) (q := 0) (n := cnt) (jo := 0) (jq := 0) hown hw tA tB (by simp) rfl rfl hn (by omega) (by omega)
    (fun i hi => ⟨by rw [Nat.zero_add, ga i (by omega)]; exact hfit i hi, fun z => by rw [hp] at z; cases z⟩) hg hsize hs hd hW hfr hlo
  refine ⟨T', _, _, X', rfl, fun y hy => ?_, ⟨by rw [P.2.2, eT]; exact Nat.le_refl _, fun x cx hx' hn' => ?_, fun x cx hx' => ?_⟩, ⟨B', ⟨P.1, own_isArr B.2.1 q1 q2, by rw [q2]; exact B.2.2⟩, q3.trans b1, b2, fun j hj => ?_⟩, st⟩
  · simp only [copyLocs, List.mem_map] at hy
    obtain ⟨i, -, rfl⟩ := hy
    rfl
  · rw [P.2.1 x (fun z => hn' (by simp [z])), eT]; exact hx'
  · by_cases z : x = b
    · subst z
      cases hx'.symm.trans B.1
      exact ⟨B', P.1, q1, q2, q3⟩
    · exact ⟨cx, by rw [P.2.1 x z, eT]; exact hx', rfl, rfl, rfl⟩
  · show _ = some (if j < cnt then f j else f' j)
    rw [q4 j]
    by_cases z : j < cnt
    · rw [if_pos (by omega), if_pos z]
      have : 0 + (j - 0) = j := by omega
      rw [this, ga j (by omega)]
    · rw [if_neg (by omega), if_neg z]; exact b3 j hj
theorem own_nb (x : Int32) : nar .boolean x = x &&& 1 := rfl
theorem own_nar1 : nar .boolean 1 = 1 := rfl
theorem own_nar0 : nar .boolean 0 = 0 := rfl
theorem own_nbyte (x : Int32) : nar .byte x = x.toInt8.toInt32 := rfl
theorem own_nar_ite (q : Prop) [Decidable q] (x y : Int32) : nar .boolean (if q then x else y) = if q then nar .boolean x else nar .boolean y := by split <;> rfl
theorem own_pos_ne {x : Int64} (q : 0 < x) : x ≠ 0 := fun z => by subst z; exact absurd q (by decide)
theorem own_cat {w : Value} (q : w.isRef = true) : w.category = 1 := by cases w <;> first | rfl | (simp [Value.isRef] at q)
/-- a static field that holds v, in a heap that keeps all that was old at the start -/
def SO (Z : State) (n0 : Nat) (h : Heap) (C n d : String) (v : Value) : Prop := Sta Z Z.heap C n d v ∧ Old Z n0 h
theorem SO.ext {n0 : Nat} {C nm d : String} (F : SO Z n0 h C nm d v) (E : Ext h h') : SO Z n0 h' C nm d v := ⟨F.1, F.2.ext E⟩
theorem SO.wr {n0 : Nat} {C nm d : String} {w : Value} (F : SO Z n0 h C nm d v) (W : Wr h h' a sl w) (q : n0 ≤ a) : SO Z n0 h' C nm d v := ⟨F.1, F.2.wr W q⟩
theorem SO.keep {n0 : Nat} {C nm d : String} (F : SO Z n0 h C nm d v) (K : Keep h h' ws) (q : ∀ x ∈ ws, n0 ≤ x) : SO Z n0 h' C nm d v := ⟨F.1, F.2.keep K q⟩
theorem SO.sta {n0 : Nat} {C nm d : String} (F : SO Z n0 h C nm d v) : Sta Z h C nm d v := F.1.ext F.2.2
theorem own_selp {y : MethodName} {n : Nat} (wi : (Jvm.Cond.instantiable y.cls n).before args s = true) (hpriv : s.PrivateAt y) (hinst : (Jvm.Cond.instanceMethod y).before args s = true) (hy : y.cls ≠ "java/lang/invoke/MethodHandle" ∧ y.cls ≠ "java/lang/invoke/VarHandle") : (Jvm.Cond.selects y.cls y y).before args s = true := by
  obtain ⟨c, k, h1, h2, -, h4, -⟩ := Cond.instantiable_spec wi
  exact Jvm.Stand.selects_self_of_private h1 h2 (by simp only [Bool.or_eq_false_iff] at h4; exact h4.1) hpriv hinst hy
end OwnKit

theorem pn_0 : plainName "com/example/commitlog/commitlog/model/PullRequestCommitsOffsetPinLaw" = true := by first | (simp [plainName, overriddenIn]; done) | decide +kernel
theorem d1_0 : decode prog_42_method_1_code 0 = .ok (.aload_n 0, 1) := by decide +kernel
theorem d1_1 : decode prog_42_method_1_code 1 = .ok (.invokespecial 1, 3) := by decide +kernel
theorem d1_4 : decode prog_42_method_1_code 4 = .ok (.aload_n 0, 1) := by decide +kernel
theorem d1_5 : decode prog_42_method_1_code 5 = .ok (.aload_n 1, 1) := by decide +kernel
theorem d1_6 : decode prog_42_method_1_code 6 = .ok (.putfield 7, 3) := by decide +kernel
theorem d1_9 : decode prog_42_method_1_code 9 = .ok (.aload_n 0, 1) := by decide +kernel
theorem d1_10 : decode prog_42_method_1_code 10 = .ok (.aload_n 2, 1) := by decide +kernel
theorem d1_11 : decode prog_42_method_1_code 11 = .ok (.putfield 13, 3) := by decide +kernel
theorem d1_14 : decode prog_42_method_1_code 14 = .ok (.aload_n 0, 1) := by decide +kernel
theorem d1_15 : decode prog_42_method_1_code 15 = .ok (.iload_n 3, 1) := by decide +kernel
theorem d1_16 : decode prog_42_method_1_code 16 = .ok (.putfield 16, 3) := by decide +kernel
theorem d1_19 : decode prog_42_method_1_code 19 = .ok (.aload_n 0, 1) := by decide +kernel
theorem d1_20 : decode prog_42_method_1_code 20 = .ok (.lload 4, 2) := by decide +kernel
theorem d1_22 : decode prog_42_method_1_code 22 = .ok (.putfield 20, 3) := by decide +kernel
theorem d1_25 : decode prog_42_method_1_code 25 = .ok (.aload_n 0, 1) := by decide +kernel
theorem d1_26 : decode prog_42_method_1_code 26 = .ok (.iload 6, 2) := by decide +kernel
theorem d1_28 : decode prog_42_method_1_code 28 = .ok (.putfield 24, 3) := by decide +kernel
theorem d1_31 : decode prog_42_method_1_code 31 = .ok (.aload_n 0, 1) := by decide +kernel
theorem d1_32 : decode prog_42_method_1_code 32 = .ok (.iload 7, 2) := by decide +kernel
theorem d1_34 : decode prog_42_method_1_code 34 = .ok (.putfield 27, 3) := by decide +kernel
theorem d1_37 : decode prog_42_method_1_code 37 = .ok (.aload_n 0, 1) := by decide +kernel
theorem d1_38 : decode prog_42_method_1_code 38 = .ok (.lload 8, 2) := by decide +kernel
theorem d1_40 : decode prog_42_method_1_code 40 = .ok (.putfield 30, 3) := by decide +kernel
theorem d1_43 : decode prog_42_method_1_code 43 = .ok (.aload_n 0, 1) := by decide +kernel
theorem d1_44 : decode prog_42_method_1_code 44 = .ok (.lload 10, 2) := by decide +kernel
theorem d1_46 : decode prog_42_method_1_code 46 = .ok (.putfield 33, 3) := by decide +kernel
theorem d1_49 : decode prog_42_method_1_code 49 = .ok (.aload_n 0, 1) := by decide +kernel
theorem d1_50 : decode prog_42_method_1_code 50 = .ok (.aload 12, 2) := by decide +kernel
theorem d1_52 : decode prog_42_method_1_code 52 = .ok (.putfield 36, 3) := by decide +kernel
theorem d1_55 : decode prog_42_method_1_code 55 = .ok (.aload_n 0, 1) := by decide +kernel
theorem d1_56 : decode prog_42_method_1_code 56 = .ok (.lload 13, 2) := by decide +kernel
theorem d1_58 : decode prog_42_method_1_code 58 = .ok (.putfield 39, 3) := by decide +kernel
theorem d1_61 : decode prog_42_method_1_code 61 = .ok (.aload_n 0, 1) := by decide +kernel
theorem d1_62 : decode prog_42_method_1_code 62 = .ok (.aload 15, 2) := by decide +kernel
theorem d1_64 : decode prog_42_method_1_code 64 = .ok (.putfield 42, 3) := by decide +kernel
theorem d1_67 : decode prog_42_method_1_code 67 = .ok (.return_, 1) := by decide +kernel
theorem pn_1 : plainName "com/example/commitlog/commitlog/model/PullRequest" = true := by first | (simp [plainName, overriddenIn]; done) | decide +kernel
theorem d2_0 : decode jdk_30_method_1_code 0 = .ok (.aload_n 0, 1) := by decide +kernel
theorem d2_1 : decode jdk_30_method_1_code 1 = .ok (.invokespecial 1, 3) := by decide +kernel
theorem d2_4 : decode jdk_30_method_1_code 4 = .ok (.return_, 1) := by decide +kernel
theorem pn_2 : plainName "java/lang/Record" = true := by first | (simp [plainName, overriddenIn]; done) | decide +kernel
theorem d4_0 : decode prog_42_method_3_code 0 = .ok (.aload_n 0, 1) := by decide +kernel
theorem d4_1 : decode prog_42_method_3_code 1 = .ok (.getfield 27, 3) := by decide +kernel
theorem d4_4 : decode prog_42_method_3_code 4 = .ok (.iconst 1, 1) := by decide +kernel
theorem d4_5 : decode prog_42_method_3_code 5 = .ok (.iand, 1) := by decide +kernel
theorem d4_6 : decode prog_42_method_3_code 6 = .ok (.ifCond .eq 16, 3) := by decide +kernel
theorem d4_9 : decode prog_42_method_3_code 9 = .ok (.aload_n 0, 1) := by decide +kernel
theorem d4_10 : decode prog_42_method_3_code 10 = .ok (.getfield 30, 3) := by decide +kernel
theorem d4_13 : decode prog_42_method_3_code 13 = .ok (.lconst 0, 1) := by decide +kernel
theorem d4_14 : decode prog_42_method_3_code 14 = .ok (.lcmp, 1) := by decide +kernel
theorem d4_15 : decode prog_42_method_3_code 15 = .ok (.ifCond .lt 7, 3) := by decide +kernel
theorem d4_18 : decode prog_42_method_3_code 18 = .ok (.iconst 1, 1) := by decide +kernel
theorem d4_19 : decode prog_42_method_3_code 19 = .ok (.goto 4, 3) := by decide +kernel
theorem d4_22 : decode prog_42_method_3_code 22 = .ok (.iconst 0, 1) := by decide +kernel
theorem d4_23 : decode prog_42_method_3_code 23 = .ok (.ireturn, 1) := by decide +kernel
theorem pn_4 : plainName "com/example/commitlog/commitlog/model/PullRequest" = true := by first | (simp [plainName, overriddenIn]; done) | decide +kernel
theorem pd_1 : parseMethodDescriptor "()V" = some ⟨[], none⟩ := by decide +kernel
theorem pd_0 : parseMethodDescriptor "(Ljava/lang/String;Ljava/lang/String;IJIIJJLjava/lang/String;JLjava/lang/String;)V" = some ⟨[(.object "java/lang/String"), (.object "java/lang/String"), .int, .long, .int, .int, .long, .long, (.object "java/lang/String"), .long, (.object "java/lang/String")], none⟩ := by decide +kernel
theorem pd_2 : parseMethodDescriptor "()Z" = some ⟨[], some .boolean⟩ := by decide +kernel

theorem own_odd (x : Int32) : (x &&& (1 : Int32)) = (0 : Int32) ↔ (x % (2 : Int32)) = (0 : Int32) := by
  have a := c_mask x 1 1 (by decide) (by decide)
  have b := c_irem x 2 2 (by decide)
  have k0 : (0 : Int32).toInt = 0 := by decide
  constructor
  · intro q
    have q' := congrArg Int32.toInt q
    apply Int32.toInt_inj.mp
    rw [k0] at *
    omega
  · intro q
    have q' := congrArg Int32.toInt q
    apply Int32.toInt_inj.mp
    rw [k0] at *
    omega
theorem own_even (x : Int32) : (x &&& (-2 : Int32)).toInt % 2 = 0 := by
  rw [par]
  have : (x &&& (-2 : Int32)).toBitVec.toNat = x.toBitVec.toNat &&& (-2 : Int32).toBitVec.toNat := by
    rw [Int32.toBitVec_and, BitVec.toNat_and]
  rw [this]
  have k : (-2 : Int32).toBitVec.toNat = 4294967294 := by decide
  rw [k]
  have z : (x.toBitVec.toNat &&& 4294967294) % 2 = 0 := by
    have := Nat.and_mod_two_pow (a := x.toBitVec.toNat) (b := 4294967294) (n := 1)
    simpa using this
  omega
theorem own_flip (x y : Int32) : ((x ^^^ (y &&& (-2 : Int32))) &&& (1 : Int32)) = (x &&& (1 : Int32)) := by
  have a := c_mask x 1 1 (by decide) (by decide)
  have b := c_mask (x ^^^ (y &&& (-2 : Int32))) 1 1 (by decide) (by decide)
  have c := c_xor2 x (y &&& (-2 : Int32))
  have d := own_even y
  apply Int32.toInt_inj.mp
  omega

theorem ef_2 (m : MethodId) (a0 : Addr) : entryFrame m #[(.ref a0)] 1 = mkF m 0 #[.val (.ref a0)] [] := by first | (simp [entryFrame, mkF, argsToLocals, Value.category]; done) | rfl
def Q2 (Z : State) (a0 : Addr) (h0 : Heap) (n0 : Nat) (v : Option Value) (h : Heap) (L : List Loc) : Prop := v = none ∧ Fr n0 L ∧ h = h0
set_option maxRecDepth 65536 in
set_option maxHeartbeats 40000000 in
theorem rm2 (l : Launch) (Z : State) (A0 : Array Value) (hw : ∀ d ∈ tables_1, d.before A0 Z = true) (ws : List Jvm.Cond) (a0 : Addr) (h0 : Heap) (n0 : Nat) (Z0 : n0 ≤ h0.size) :
    MetFree l (⟨"java/lang/Record", "<init>", "()V"⟩ : MethodName) (head1 (Jvm.Cond.code (⟨"java/lang/Record", "<init>", "()V"⟩ : MethodName) jdk_30_method_1_code 1 none :: ws) ({ frames := 1, cells := 0, slots := 0, locals := 12 } : Room)) (fun a U => a = #[(.ref a0)] ∧ Z.Warmed39 U.vm ∧ U.heap = h0) (fun _ _ _ _ _ => True) (fun _ U o U' => ∃ v L, o = .returned v ∧ Q2 Z a0 h0 n0 v U'.heap L ∧ FrameEnd U o U' L ({ frames := 1, cells := 0, slots := 0, locals := 12 } : Room).cells ({ frames := 1, cells := 0, slots := 0, locals := 12 } : Room).slots) := by
  refine MetFree.of_bodySF (plainFor_of_name pn_2) hisR ?_
  intro p e s m args below meth c s₁ Bd hml0 hP hK
  obtain ⟨rfl, hZ, hh⟩ := hP
  have hx := Bd.exec
  have hby := Bd.bytes
  have hml : c.maxLocals = 1 := hml0
  have hown : s.vm.findClass "java/lang/Record" = some m.cls := findClass_of_methodNamed Bd.named
  have hnm := (name_of_methodNamed Bd.named Bd.method).1
  have X0 : Stand p l e ({ frames := 1, cells := 0, slots := 0, locals := 12 } : Room) s m #[(.ref a0)] below meth c s₁ [] 0 0 := Stand.of_body Bd
  have e0 : s₁.heap = h0 := by rw [← hh, Bd.state]; rfl
  have N0 := Fr.nil n0
  have pre0 : ∀ t, Steps p.tables e below (s₁.setTop (mkF m 0 #[.val (.ref a0)] [])) t → Steps p.tables e below (s₁.setTop (entryFrame m #[(.ref a0)] 1)) t := fun t k => castTop (ef_2 m a0) k
  obtain ⟨T1, X1, e1, st1⟩ := initO X0 hx hZ hown (hw _ (List.mem_of_getElem? (i := 22) rfl)) (hw _ (List.mem_of_getElem? (i := 23) rfl)) (hw _ (List.mem_of_getElem? (i := 24) rfl)) e0 (g := (mkF m 1 #[.val (.ref a0)] [(.ref a0)])) rfl (by rw [hml]; rfl) rfl (hb hby d2_1) (by decide) (W := 0) (by show 2 * 0 + _ ≤ _; exact Nat.le_of_eq rfl) (by decide)
  obtain ⟨fs, hr, hrun, hended, hW, hsame⟩ := X1.leave (v := none) (fun _ => rfl)
  refine ⟨_, _, pre0 _ ?_, hrun, hended, _, _, rfl, ?_, ⟨_, rfl⟩, hW, hsame.mono (by decide) (by decide)⟩
  · show Steps p.tables e below (s₁.setTop (mkF m 0 #[.val (.ref a0)] [])) _
    refine XS.aloadN X0.here hx rfl (hb hby d2_0) rfl rfl ?_
    show Steps p.tables e below (s₁.setTop (mkF m 1 #[.val (.ref a0)] [(.ref a0)])) _
    refine st1 _ ?_
    show Steps p.tables e below (T1.setTop (mkF m 4 #[.val (.ref a0)] [])) _
    exact X1.returnOut hx Bd.returns (hb hby d2_4) hr
  · show Q2 Z a0 h0 n0 _ T1.heap _
    exact ⟨rfl, N0, e1⟩
theorem ef_1 (m : MethodId) (a0 : Addr) (a1 : Addr) (a2 : Addr) (p3 : Int32) (q4 : Int64) (p5 : Int32) (p6 : Int32) (q7 : Int64) (q8 : Int64) (a9 : Addr) (q10 : Int64) (a11 : Addr) : entryFrame m #[(.ref a0), (.ref a1), (.ref a2), (.int p3), (.long q4), (.int p5), (.int p6), (.long q7), (.long q8), (.ref a9), (.long q10), (.ref a11)] 16 = mkF m 0 #[.val (.ref a0), .val (.ref a1), .val (.ref a2), .val (.int p3), .val (.long q4), .second, .val (.int p5), .val (.int p6), .val (.long q7), .second, .val (.long q8), .second, .val (.ref a9), .val (.long q10), .second, .val (.ref a11)] [] := by first | (simp [entryFrame, mkF, argsToLocals, Value.category]; done) | rfl
def Q1 (Z : State) (a0 : Addr) (a1 : Addr) (a2 : Addr) (p3 : Int32) (q4 : Int64) (p5 : Int32) (p6 : Int32) (q7 : Int64) (q8 : Int64) (a9 : Addr) (q10 : Int64) (a11 : Addr) (w_consumerGroup_a0 : Value) (w_topic_a0 : Value) (w_queueId_a0 : Int32) (w_queueOffset_a0 : Int64) (w_maxMsgNums_a0 : Int32) (w_sysFlag_a0 : Int32) (w_commitOffset_a0 : Int64) (w_suspendTimeoutMillis_a0 : Int64) (w_subscription_a0 : Value) (w_subVersion_a0 : Int64) (w_expressionType_a0 : Value) (h0 : Heap) (n0 : Nat) (v : Option Value) (h : Heap) (L : List Loc) : Prop := v = none ∧ Fr n0 L ∧ Keep h0 h [a0] ∧ Exa Z h a0 "com/example/commitlog/commitlog/model/PullRequest" ∧ Fld Z h a0 "com/example/commitlog/commitlog/model/PullRequest" "consumerGroup" "Ljava/lang/String;" (.ref a1) ∧ Fld Z h a0 "com/example/commitlog/commitlog/model/PullRequest" "topic" "Ljava/lang/String;" (.ref a2) ∧ Fld Z h a0 "com/example/commitlog/commitlog/model/PullRequest" "queueId" "I" (.int p3) ∧ Fld Z h a0 "com/example/commitlog/commitlog/model/PullRequest" "queueOffset" "J" (.long q4) ∧ Fld Z h a0 "com/example/commitlog/commitlog/model/PullRequest" "maxMsgNums" "I" (.int p5) ∧ Fld Z h a0 "com/example/commitlog/commitlog/model/PullRequest" "sysFlag" "I" (.int p6) ∧ Fld Z h a0 "com/example/commitlog/commitlog/model/PullRequest" "commitOffset" "J" (.long q7) ∧ Fld Z h a0 "com/example/commitlog/commitlog/model/PullRequest" "suspendTimeoutMillis" "J" (.long q8) ∧ Fld Z h a0 "com/example/commitlog/commitlog/model/PullRequest" "subscription" "Ljava/lang/String;" (.ref a9) ∧ Fld Z h a0 "com/example/commitlog/commitlog/model/PullRequest" "subVersion" "J" (.long q10) ∧ Fld Z h a0 "com/example/commitlog/commitlog/model/PullRequest" "expressionType" "Ljava/lang/String;" (.ref a11)
set_option maxRecDepth 65536 in
set_option maxHeartbeats 40000000 in
theorem rm1 (l : Launch) (Z : State) (A0 : Array Value) (hw : ∀ d ∈ tables_1, d.before A0 Z = true) (ws : List Jvm.Cond) (a0 : Addr) (a1 : Addr) (a2 : Addr) (p3 : Int32) (q4 : Int64) (p5 : Int32) (p6 : Int32) (q7 : Int64) (q8 : Int64) (a9 : Addr) (q10 : Int64) (a11 : Addr) (w_consumerGroup_a0 : Value) (w_topic_a0 : Value) (w_queueId_a0 : Int32) (w_queueOffset_a0 : Int64) (w_maxMsgNums_a0 : Int32) (w_sysFlag_a0 : Int32) (w_commitOffset_a0 : Int64) (w_suspendTimeoutMillis_a0 : Int64) (w_subscription_a0 : Value) (w_subVersion_a0 : Int64) (w_expressionType_a0 : Value) (h0 : Heap) (n0 : Nat) (Z0 : n0 ≤ h0.size) (E_a0 : Exa Z h0 a0 "com/example/commitlog/commitlog/model/PullRequest") (F_consumerGroup_a0 : Fld Z h0 a0 "com/example/commitlog/commitlog/model/PullRequest" "consumerGroup" "Ljava/lang/String;" w_consumerGroup_a0) (F_topic_a0 : Fld Z h0 a0 "com/example/commitlog/commitlog/model/PullRequest" "topic" "Ljava/lang/String;" w_topic_a0) (F_queueId_a0 : Fld Z h0 a0 "com/example/commitlog/commitlog/model/PullRequest" "queueId" "I" (.int w_queueId_a0)) (F_queueOffset_a0 : Fld Z h0 a0 "com/example/commitlog/commitlog/model/PullRequest" "queueOffset" "J" (.long w_queueOffset_a0)) (F_maxMsgNums_a0 : Fld Z h0 a0 "com/example/commitlog/commitlog/model/PullRequest" "maxMsgNums" "I" (.int w_maxMsgNums_a0)) (F_sysFlag_a0 : Fld Z h0 a0 "com/example/commitlog/commitlog/model/PullRequest" "sysFlag" "I" (.int w_sysFlag_a0)) (F_commitOffset_a0 : Fld Z h0 a0 "com/example/commitlog/commitlog/model/PullRequest" "commitOffset" "J" (.long w_commitOffset_a0)) (F_suspendTimeoutMillis_a0 : Fld Z h0 a0 "com/example/commitlog/commitlog/model/PullRequest" "suspendTimeoutMillis" "J" (.long w_suspendTimeoutMillis_a0)) (F_subscription_a0 : Fld Z h0 a0 "com/example/commitlog/commitlog/model/PullRequest" "subscription" "Ljava/lang/String;" w_subscription_a0) (F_subVersion_a0 : Fld Z h0 a0 "com/example/commitlog/commitlog/model/PullRequest" "subVersion" "J" (.long w_subVersion_a0)) (F_expressionType_a0 : Fld Z h0 a0 "com/example/commitlog/commitlog/model/PullRequest" "expressionType" "Ljava/lang/String;" w_expressionType_a0) (nw_a0 : n0 ≤ a0) :
    MetFree l (⟨"com/example/commitlog/commitlog/model/PullRequest", "<init>", "(Ljava/lang/String;Ljava/lang/String;IJIIJJLjava/lang/String;JLjava/lang/String;)V"⟩ : MethodName) (head1 (Jvm.Cond.code (⟨"com/example/commitlog/commitlog/model/PullRequest", "<init>", "(Ljava/lang/String;Ljava/lang/String;IJIIJJLjava/lang/String;JLjava/lang/String;)V"⟩ : MethodName) prog_42_method_1_code 16 none :: ws) ({ frames := 2, cells := 0, slots := 0, locals := 24 } : Room)) (fun a U => a = #[(.ref a0), (.ref a1), (.ref a2), (.int p3), (.long q4), (.int p5), (.int p6), (.long q7), (.long q8), (.ref a9), (.long q10), (.ref a11)] ∧ Z.Warmed39 U.vm ∧ U.heap = h0) (fun _ _ _ _ _ => True) (fun _ U o U' => ∃ v L, o = .returned v ∧ Q1 Z a0 a1 a2 p3 q4 p5 p6 q7 q8 a9 q10 a11 w_consumerGroup_a0 w_topic_a0 w_queueId_a0 w_queueOffset_a0 w_maxMsgNums_a0 w_sysFlag_a0 w_commitOffset_a0 w_suspendTimeoutMillis_a0 w_subscription_a0 w_subVersion_a0 w_expressionType_a0 h0 n0 v U'.heap L ∧ FrameEnd U o U' L ({ frames := 2, cells := 0, slots := 0, locals := 24 } : Room).cells ({ frames := 2, cells := 0, slots := 0, locals := 24 } : Room).slots) := by
  refine MetFree.of_bodySF (plainFor_of_name pn_1) hisR ?_
  intro p e s m args below meth c s₁ Bd hml0 hP hK
  obtain ⟨rfl, hZ, hh⟩ := hP
  have hx := Bd.exec
  have hby := Bd.bytes
  have hml : c.maxLocals = 16 := hml0
  have hown : s.vm.findClass "com/example/commitlog/commitlog/model/PullRequest" = some m.cls := findClass_of_methodNamed Bd.named
  have hnm := (name_of_methodNamed Bd.named Bd.method).1
  have X0 : Stand p l e ({ frames := 2, cells := 0, slots := 0, locals := 24 } : Room) s m #[(.ref a0), (.ref a1), (.ref a2), (.int p3), (.long q4), (.int p5), (.int p6), (.long q7), (.long q8), (.ref a9), (.long q10), (.ref a11)] below meth c s₁ [] 0 0 := Stand.of_body Bd
  have e0 : s₁.heap = h0 := by rw [← hh, Bd.state]; rfl
  have N0 := Fr.nil n0
  have pre0 : ∀ t, Steps p.tables e below (s₁.setTop (mkF m 0 #[.val (.ref a0), .val (.ref a1), .val (.ref a2), .val (.int p3), .val (.long q4), .second, .val (.int p5), .val (.int p6), .val (.long q7), .second, .val (.long q8), .second, .val (.ref a9), .val (.long q10), .second, .val (.ref a11)] [])) t → Steps p.tables e below (s₁.setTop (entryFrame m #[(.ref a0), (.ref a1), (.ref a2), (.int p3), (.long q4), (.int p5), (.int p6), (.long q7), (.long q8), (.ref a9), (.long q10), (.ref a11)] 16)) t := fun t k => castTop (ef_1 m a0 a1 a2 p3 q4 p5 p6 q7 q8 a9 q10 a11) k
  obtain ⟨_, _, ⟨T1, L1, k1, n1⟩, -, X1, ⟨Lc1, hQ1, l1, y1, z1⟩, st1⟩ := X0.specialBack hx (y := (⟨"java/lang/Record", "<init>", "()V"⟩ : MethodName)) rfl hown (mvT hZ (hw _ (List.mem_of_getElem? (i := 17) rfl))) (mvT hZ (hw _ (List.mem_of_getElem? (i := 18) rfl))) (mvT hZ (hw _ (List.mem_of_getElem? (i := 21) rfl))) (by decide) (backOf (W := 0) (rm2 l Z A0 hw [] a0 h0 n0 (Nat.le_trans Z0 (Keep.refl h0 [a0]).1) ) hZ (hw _ (List.mem_of_getElem? (i := 21) rfl)) (hw _ (List.mem_of_getElem? (i := 20) rfl)) (by decide) (by decide)) (g := (mkF m 1 #[.val (.ref a0), .val (.ref a1), .val (.ref a2), .val (.int p3), .val (.long q4), .second, .val (.int p5), .val (.int p6), .val (.long q7), .second, .val (.long q8), .second, .val (.ref a9), .val (.long q10), .second, .val (.ref a11)] [(.ref a0)])) rfl (by rw [hml]; rfl) (Steps.refl _) (a := a0) (argsL := []) (rest := []) (lenOf pd_1 rfl) rfl (by show 2 * 0 + _ ≤ _; exact Nat.le_of_eq rfl) (hb hby d1_1) (fun _ _ => ⟨rfl, e0, (by decide : 0 + 0 ≤ _), (by decide : 0 + 0 ≤ _)⟩)
  dsimp only [Pt.U, Pt.locs, Pt.cells, Pt.slots] at X1 l1 y1 z1 st1 hQ1
  subst l1 y1 z1
  obtain ⟨rfl, N1q, e1⟩ := hQ1
  have N1 := Fr.app N0 N1q
  obtain ⟨T2, h2, X2, e2, W2, st2⟩ := putF X1 hx hZ hown (host := "") (Or.inl (hw _ (List.mem_of_getElem? (i := 25) rfl))) Via.refl e1 F_consumerGroup_a0 E_a0 (Or.inr ⟨(hw _ (List.mem_of_getElem? (i := 26) rfl)), rfl, hnm⟩) (hw _ (List.mem_of_getElem? (i := 1) rfl)) (ty := (.object "java/lang/String")) (by decide) rfl rfl (g := (mkF m 6 #[.val (.ref a0), .val (.ref a1), .val (.ref a2), .val (.int p3), .val (.long q4), .second, .val (.int p5), .val (.int p6), .val (.long q7), .second, .val (.long q8), .second, .val (.ref a9), .val (.long q10), .second, .val (.ref a11)] [(.ref a1), (.ref a0)])) rfl rfl (hb hby d1_6)
  have K2 : Keep h0 h2 [a0] := (Keep.refl h0 [a0]).wr W2 (Or.inl (by simp))
  have Fw2 : Fld Z h2 a0 "com/example/commitlog/commitlog/model/PullRequest" "consumerGroup" "Ljava/lang/String;" (.ref a1) := F_consumerGroup_a0.same W2
  have N2 := Fr.snoc X2 N1 nw_a0
  have G3 : Exa Z h2 a0 "com/example/commitlog/commitlog/model/PullRequest" := (E_a0.wr W2)
  have G4 : Fld Z h2 a0 "com/example/commitlog/commitlog/model/PullRequest" "topic" "Ljava/lang/String;" w_topic_a0 := (F_topic_a0.other W2 (Or.inr (slot_ne (Or.inr (hw _ (List.mem_of_getElem? (i := 28) rfl))) (Or.inr (hw _ (List.mem_of_getElem? (i := 26) rfl))) (by decide) (t := (.object "java/lang/String")) (t' := (.object "java/lang/String")) (by decide) (by decide))))
  obtain ⟨T5, h5, X5, e5, W5, st5⟩ := putF X2 hx hZ hown (host := "") (Or.inl (hw _ (List.mem_of_getElem? (i := 27) rfl))) Via.refl e2 G4 G3 (Or.inr ⟨(hw _ (List.mem_of_getElem? (i := 28) rfl)), rfl, hnm⟩) (hw _ (List.mem_of_getElem? (i := 1) rfl)) (ty := (.object "java/lang/String")) (by decide) rfl rfl (g := (mkF m 11 #[.val (.ref a0), .val (.ref a1), .val (.ref a2), .val (.int p3), .val (.long q4), .second, .val (.int p5), .val (.int p6), .val (.long q7), .second, .val (.long q8), .second, .val (.ref a9), .val (.long q10), .second, .val (.ref a11)] [(.ref a2), (.ref a0)])) rfl rfl (hb hby d1_11)
  have K5 : Keep h0 h5 [a0] := K2.wr W5 (Or.inl (by simp))
  have Fw5 : Fld Z h5 a0 "com/example/commitlog/commitlog/model/PullRequest" "topic" "Ljava/lang/String;" (.ref a2) := G4.same W5
  have N5 := Fr.snoc X5 N2 nw_a0
  have G6 : Exa Z h5 a0 "com/example/commitlog/commitlog/model/PullRequest" := (G3.wr W5)
  have G7 : Fld Z h5 a0 "com/example/commitlog/commitlog/model/PullRequest" "queueId" "I" (.int w_queueId_a0) := ((F_queueId_a0.other W2 (Or.inr (slot_ne (Or.inr (hw _ (List.mem_of_getElem? (i := 30) rfl))) (Or.inr (hw _ (List.mem_of_getElem? (i := 26) rfl))) (by decide) (t := .int) (t' := (.object "java/lang/String")) (by decide) (by decide)))).other W5 (Or.inr (slot_ne (Or.inr (hw _ (List.mem_of_getElem? (i := 30) rfl))) (Or.inr (hw _ (List.mem_of_getElem? (i := 28) rfl))) (by decide) (t := .int) (t' := (.object "java/lang/String")) (by decide) (by decide))))
  obtain ⟨T8, h8, X8, e8, W8, st8⟩ := putF X5 hx hZ hown (host := "") (Or.inl (hw _ (List.mem_of_getElem? (i := 29) rfl))) Via.refl e5 G7 G6 (Or.inr ⟨(hw _ (List.mem_of_getElem? (i := 30) rfl)), rfl, hnm⟩) (hw _ (List.mem_of_getElem? (i := 1) rfl)) (ty := .int) (by decide) rfl rfl (g := (mkF m 16 #[.val (.ref a0), .val (.ref a1), .val (.ref a2), .val (.int p3), .val (.long q4), .second, .val (.int p5), .val (.int p6), .val (.long q7), .second, .val (.long q8), .second, .val (.ref a9), .val (.long q10), .second, .val (.ref a11)] [(.int p3), (.ref a0)])) rfl rfl (hb hby d1_16)
  have K8 : Keep h0 h8 [a0] := K5.wr W8 (Or.inl (by simp))
  have Fw8 : Fld Z h8 a0 "com/example/commitlog/commitlog/model/PullRequest" "queueId" "I" (.int p3) := G7.same W8
  have N8 := Fr.snoc X8 N5 nw_a0
  have G9 : Exa Z h8 a0 "com/example/commitlog/commitlog/model/PullRequest" := (G6.wr W8)
  have G10 : Fld Z h8 a0 "com/example/commitlog/commitlog/model/PullRequest" "queueOffset" "J" (.long w_queueOffset_a0) := (((F_queueOffset_a0.other W2 (Or.inr (slot_ne (Or.inr (hw _ (List.mem_of_getElem? (i := 32) rfl))) (Or.inr (hw _ (List.mem_of_getElem? (i := 26) rfl))) (by decide) (t := .long) (t' := (.object "java/lang/String")) (by decide) (by decide)))).other W5 (Or.inr (slot_ne (Or.inr (hw _ (List.mem_of_getElem? (i := 32) rfl))) (Or.inr (hw _ (List.mem_of_getElem? (i := 28) rfl))) (by decide) (t := .long) (t' := (.object "java/lang/String")) (by decide) (by decide)))).other W8 (Or.inr (slot_ne (Or.inr (hw _ (List.mem_of_getElem? (i := 32) rfl))) (Or.inr (hw _ (List.mem_of_getElem? (i := 30) rfl))) (by decide) (t := .long) (t' := .int) (by decide) (by decide))))
  obtain ⟨T11, h11, X11, e11, W11, st11⟩ := putF X8 hx hZ hown (host := "") (Or.inl (hw _ (List.mem_of_getElem? (i := 31) rfl))) Via.refl e8 G10 G9 (Or.inr ⟨(hw _ (List.mem_of_getElem? (i := 32) rfl)), rfl, hnm⟩) (hw _ (List.mem_of_getElem? (i := 1) rfl)) (ty := .long) (by decide) rfl rfl (g := (mkF m 22 #[.val (.ref a0), .val (.ref a1), .val (.ref a2), .val (.int p3), .val (.long q4), .second, .val (.int p5), .val (.int p6), .val (.long q7), .second, .val (.long q8), .second, .val (.ref a9), .val (.long q10), .second, .val (.ref a11)] [(.long q4), (.ref a0)])) rfl rfl (hb hby d1_22)
  have K11 : Keep h0 h11 [a0] := K8.wr W11 (Or.inl (by simp))
  have Fw11 : Fld Z h11 a0 "com/example/commitlog/commitlog/model/PullRequest" "queueOffset" "J" (.long q4) := G10.same W11
  have N11 := Fr.snoc X11 N8 nw_a0
  have G12 : Exa Z h11 a0 "com/example/commitlog/commitlog/model/PullRequest" := (G9.wr W11)
  have G13 : Fld Z h11 a0 "com/example/commitlog/commitlog/model/PullRequest" "maxMsgNums" "I" (.int w_maxMsgNums_a0) := ((((F_maxMsgNums_a0.other W2 (Or.inr (slot_ne (Or.inr (hw _ (List.mem_of_getElem? (i := 34) rfl))) (Or.inr (hw _ (List.mem_of_getElem? (i := 26) rfl))) (by decide) (t := .int) (t' := (.object "java/lang/String")) (by decide) (by decide)))).other W5 (Or.inr (slot_ne (Or.inr (hw _ (List.mem_of_getElem? (i := 34) rfl))) (Or.inr (hw _ (List.mem_of_getElem? (i := 28) rfl))) (by decide) (t := .int) (t' := (.object "java/lang/String")) (by decide) (by decide)))).other W8 (Or.inr (slot_ne (Or.inr (hw _ (List.mem_of_getElem? (i := 34) rfl))) (Or.inr (hw _ (List.mem_of_getElem? (i := 30) rfl))) (by decide) (t := .int) (t' := .int) (by decide) (by decide)))).other W11 (Or.inr (slot_ne (Or.inr (hw _ (List.mem_of_getElem? (i := 34) rfl))) (Or.inr (hw _ (List.mem_of_getElem? (i := 32) rfl))) (by decide) (t := .int) (t' := .long) (by decide) (by decide))))
  obtain ⟨T14, h14, X14, e14, W14, st14⟩ := putF X11 hx hZ hown (host := "") (Or.inl (hw _ (List.mem_of_getElem? (i := 33) rfl))) Via.refl e11 G13 G12 (Or.inr ⟨(hw _ (List.mem_of_getElem? (i := 34) rfl)), rfl, hnm⟩) (hw _ (List.mem_of_getElem? (i := 1) rfl)) (ty := .int) (by decide) rfl rfl (g := (mkF m 28 #[.val (.ref a0), .val (.ref a1), .val (.ref a2), .val (.int p3), .val (.long q4), .second, .val (.int p5), .val (.int p6), .val (.long q7), .second, .val (.long q8), .second, .val (.ref a9), .val (.long q10), .second, .val (.ref a11)] [(.int p5), (.ref a0)])) rfl rfl (hb hby d1_28)
  have K14 : Keep h0 h14 [a0] := K11.wr W14 (Or.inl (by simp))
  have Fw14 : Fld Z h14 a0 "com/example/commitlog/commitlog/model/PullRequest" "maxMsgNums" "I" (.int p5) := G13.same W14
  have N14 := Fr.snoc X14 N11 nw_a0
  have G15 : Exa Z h14 a0 "com/example/commitlog/commitlog/model/PullRequest" := (G12.wr W14)
  have G16 : Fld Z h14 a0 "com/example/commitlog/commitlog/model/PullRequest" "sysFlag" "I" (.int w_sysFlag_a0) := (((((F_sysFlag_a0.other W2 (Or.inr (slot_ne (Or.inr (hw _ (List.mem_of_getElem? (i := 36) rfl))) (Or.inr (hw _ (List.mem_of_getElem? (i := 26) rfl))) (by decide) (t := .int) (t' := (.object "java/lang/String")) (by decide) (by decide)))).other W5 (Or.inr (slot_ne (Or.inr (hw _ (List.mem_of_getElem? (i := 36) rfl))) (Or.inr (hw _ (List.mem_of_getElem? (i := 28) rfl))) (by decide) (t := .int) (t' := (.object "java/lang/String")) (by decide) (by decide)))).other W8 (Or.inr (slot_ne (Or.inr (hw _ (List.mem_of_getElem? (i := 36) rfl))) (Or.inr (hw _ (List.mem_of_getElem? (i := 30) rfl))) (by decide) (t := .int) (t' := .int) (by decide) (by decide)))).other W11 (Or.inr (slot_ne (Or.inr (hw _ (List.mem_of_getElem? (i := 36) rfl))) (Or.inr (hw _ (List.mem_of_getElem? (i := 32) rfl))) (by decide) (t := .int) (t' := .long) (by decide) (by decide)))).other W14 (Or.inr (slot_ne (Or.inr (hw _ (List.mem_of_getElem? (i := 36) rfl))) (Or.inr (hw _ (List.mem_of_getElem? (i := 34) rfl))) (by decide) (t := .int) (t' := .int) (by decide) (by decide))))
  obtain ⟨T17, h17, X17, e17, W17, st17⟩ := putF X14 hx hZ hown (host := "") (Or.inl (hw _ (List.mem_of_getElem? (i := 35) rfl))) Via.refl e14 G16 G15 (Or.inr ⟨(hw _ (List.mem_of_getElem? (i := 36) rfl)), rfl, hnm⟩) (hw _ (List.mem_of_getElem? (i := 1) rfl)) (ty := .int) (by decide) rfl rfl (g := (mkF m 34 #[.val (.ref a0), .val (.ref a1), .val (.ref a2), .val (.int p3), .val (.long q4), .second, .val (.int p5), .val (.int p6), .val (.long q7), .second, .val (.long q8), .second, .val (.ref a9), .val (.long q10), .second, .val (.ref a11)] [(.int p6), (.ref a0)])) rfl rfl (hb hby d1_34)
  have K17 : Keep h0 h17 [a0] := K14.wr W17 (Or.inl (by simp))
  have Fw17 : Fld Z h17 a0 "com/example/commitlog/commitlog/model/PullRequest" "sysFlag" "I" (.int p6) := G16.same W17
  have N17 := Fr.snoc X17 N14 nw_a0
  have G18 : Exa Z h17 a0 "com/example/commitlog/commitlog/model/PullRequest" := (G15.wr W17)
  have G19 : Fld Z h17 a0 "com/example/commitlog/commitlog/model/PullRequest" "commitOffset" "J" (.long w_commitOffset_a0) := ((((((F_commitOffset_a0.other W2 (Or.inr (slot_ne (Or.inr (hw _ (List.mem_of_getElem? (i := 38) rfl))) (Or.inr (hw _ (List.mem_of_getElem? (i := 26) rfl))) (by decide) (t := .long) (t' := (.object "java/lang/String")) (by decide) (by decide)))).other W5 (Or.inr (slot_ne (Or.inr (hw _ (List.mem_of_getElem? (i := 38) rfl))) (Or.inr (hw _ (List.mem_of_getElem? (i := 28) rfl))) (by decide) (t := .long) (t' := (.object "java/lang/String")) (by decide) (by decide)))).other W8 (Or.inr (slot_ne (Or.inr (hw _ (List.mem_of_getElem? (i := 38) rfl))) (Or.inr (hw _ (List.mem_of_getElem? (i := 30) rfl))) (by decide) (t := .long) (t' := .int) (by decide) (by decide)))).other W11 (Or.inr (slot_ne (Or.inr (hw _ (List.mem_of_getElem? (i := 38) rfl))) (Or.inr (hw _ (List.mem_of_getElem? (i := 32) rfl))) (by decide) (t := .long) (t' := .long) (by decide) (by decide)))).other W14 (Or.inr (slot_ne (Or.inr (hw _ (List.mem_of_getElem? (i := 38) rfl))) (Or.inr (hw _ (List.mem_of_getElem? (i := 34) rfl))) (by decide) (t := .long) (t' := .int) (by decide) (by decide)))).other W17 (Or.inr (slot_ne (Or.inr (hw _ (List.mem_of_getElem? (i := 38) rfl))) (Or.inr (hw _ (List.mem_of_getElem? (i := 36) rfl))) (by decide) (t := .long) (t' := .int) (by decide) (by decide))))
  obtain ⟨T20, h20, X20, e20, W20, st20⟩ := putF X17 hx hZ hown (host := "") (Or.inl (hw _ (List.mem_of_getElem? (i := 37) rfl))) Via.refl e17 G19 G18 (Or.inr ⟨(hw _ (List.mem_of_getElem? (i := 38) rfl)), rfl, hnm⟩) (hw _ (List.mem_of_getElem? (i := 1) rfl)) (ty := .long) (by decide) rfl rfl (g := (mkF m 40 #[.val (.ref a0), .val (.ref a1), .val (.ref a2), .val (.int p3), .val (.long q4), .second, .val (.int p5), .val (.int p6), .val (.long q7), .second, .val (.long q8), .second, .val (.ref a9), .val (.long q10), .second, .val (.ref a11)] [(.long q7), (.ref a0)])) rfl rfl (hb hby d1_40)
  have K20 : Keep h0 h20 [a0] := K17.wr W20 (Or.inl (by simp))
  have Fw20 : Fld Z h20 a0 "com/example/commitlog/commitlog/model/PullRequest" "commitOffset" "J" (.long q7) := G19.same W20
  have N20 := Fr.snoc X20 N17 nw_a0
  have G21 : Exa Z h20 a0 "com/example/commitlog/commitlog/model/PullRequest" := (G18.wr W20)
  have G22 : Fld Z h20 a0 "com/example/commitlog/commitlog/model/PullRequest" "suspendTimeoutMillis" "J" (.long w_suspendTimeoutMillis_a0) := (((((((F_suspendTimeoutMillis_a0.other W2 (Or.inr (slot_ne (Or.inr (hw _ (List.mem_of_getElem? (i := 40) rfl))) (Or.inr (hw _ (List.mem_of_getElem? (i := 26) rfl))) (by decide) (t := .long) (t' := (.object "java/lang/String")) (by decide) (by decide)))).other W5 (Or.inr (slot_ne (Or.inr (hw _ (List.mem_of_getElem? (i := 40) rfl))) (Or.inr (hw _ (List.mem_of_getElem? (i := 28) rfl))) (by decide) (t := .long) (t' := (.object "java/lang/String")) (by decide) (by decide)))).other W8 (Or.inr (slot_ne (Or.inr (hw _ (List.mem_of_getElem? (i := 40) rfl))) (Or.inr (hw _ (List.mem_of_getElem? (i := 30) rfl))) (by decide) (t := .long) (t' := .int) (by decide) (by decide)))).other W11 (Or.inr (slot_ne (Or.inr (hw _ (List.mem_of_getElem? (i := 40) rfl))) (Or.inr (hw _ (List.mem_of_getElem? (i := 32) rfl))) (by decide) (t := .long) (t' := .long) (by decide) (by decide)))).other W14 (Or.inr (slot_ne (Or.inr (hw _ (List.mem_of_getElem? (i := 40) rfl))) (Or.inr (hw _ (List.mem_of_getElem? (i := 34) rfl))) (by decide) (t := .long) (t' := .int) (by decide) (by decide)))).other W17 (Or.inr (slot_ne (Or.inr (hw _ (List.mem_of_getElem? (i := 40) rfl))) (Or.inr (hw _ (List.mem_of_getElem? (i := 36) rfl))) (by decide) (t := .long) (t' := .int) (by decide) (by decide)))).other W20 (Or.inr (slot_ne (Or.inr (hw _ (List.mem_of_getElem? (i := 40) rfl))) (Or.inr (hw _ (List.mem_of_getElem? (i := 38) rfl))) (by decide) (t := .long) (t' := .long) (by decide) (by decide))))
  obtain ⟨T23, h23, X23, e23, W23, st23⟩ := putF X20 hx hZ hown (host := "") (Or.inl (hw _ (List.mem_of_getElem? (i := 39) rfl))) Via.refl e20 G22 G21 (Or.inr ⟨(hw _ (List.mem_of_getElem? (i := 40) rfl)), rfl, hnm⟩) (hw _ (List.mem_of_getElem? (i := 1) rfl)) (ty := .long) (by decide) rfl rfl (g := (mkF m 46 #[.val (.ref a0), .val (.ref a1), .val (.ref a2), .val (.int p3), .val (.long q4), .second, .val (.int p5), .val (.int p6), .val (.long q7), .second, .val (.long q8), .second, .val (.ref a9), .val (.long q10), .second, .val (.ref a11)] [(.long q8), (.ref a0)])) rfl rfl (hb hby d1_46)
  have K23 : Keep h0 h23 [a0] := K20.wr W23 (Or.inl (by simp))
  have Fw23 : Fld Z h23 a0 "com/example/commitlog/commitlog/model/PullRequest" "suspendTimeoutMillis" "J" (.long q8) := G22.same W23
  have N23 := Fr.snoc X23 N20 nw_a0
  have G24 : Exa Z h23 a0 "com/example/commitlog/commitlog/model/PullRequest" := (G21.wr W23)
  have G25 : Fld Z h23 a0 "com/example/commitlog/commitlog/model/PullRequest" "subscription" "Ljava/lang/String;" w_subscription_a0 := ((((((((F_subscription_a0.other W2 (Or.inr (slot_ne (Or.inr (hw _ (List.mem_of_getElem? (i := 42) rfl))) (Or.inr (hw _ (List.mem_of_getElem? (i := 26) rfl))) (by decide) (t := (.object "java/lang/String")) (t' := (.object "java/lang/String")) (by decide) (by decide)))).other W5 (Or.inr (slot_ne (Or.inr (hw _ (List.mem_of_getElem? (i := 42) rfl))) (Or.inr (hw _ (List.mem_of_getElem? (i := 28) rfl))) (by decide) (t := (.object "java/lang/String")) (t' := (.object "java/lang/String")) (by decide) (by decide)))).other W8 (Or.inr (slot_ne (Or.inr (hw _ (List.mem_of_getElem? (i := 42) rfl))) (Or.inr (hw _ (List.mem_of_getElem? (i := 30) rfl))) (by decide) (t := (.object "java/lang/String")) (t' := .int) (by decide) (by decide)))).other W11 (Or.inr (slot_ne (Or.inr (hw _ (List.mem_of_getElem? (i := 42) rfl))) (Or.inr (hw _ (List.mem_of_getElem? (i := 32) rfl))) (by decide) (t := (.object "java/lang/String")) (t' := .long) (by decide) (by decide)))).other W14 (Or.inr (slot_ne (Or.inr (hw _ (List.mem_of_getElem? (i := 42) rfl))) (Or.inr (hw _ (List.mem_of_getElem? (i := 34) rfl))) (by decide) (t := (.object "java/lang/String")) (t' := .int) (by decide) (by decide)))).other W17 (Or.inr (slot_ne (Or.inr (hw _ (List.mem_of_getElem? (i := 42) rfl))) (Or.inr (hw _ (List.mem_of_getElem? (i := 36) rfl))) (by decide) (t := (.object "java/lang/String")) (t' := .int) (by decide) (by decide)))).other W20 (Or.inr (slot_ne (Or.inr (hw _ (List.mem_of_getElem? (i := 42) rfl))) (Or.inr (hw _ (List.mem_of_getElem? (i := 38) rfl))) (by decide) (t := (.object "java/lang/String")) (t' := .long) (by decide) (by decide)))).other W23 (Or.inr (slot_ne (Or.inr (hw _ (List.mem_of_getElem? (i := 42) rfl))) (Or.inr (hw _ (List.mem_of_getElem? (i := 40) rfl))) (by decide) (t := (.object "java/lang/String")) (t' := .long) (by decide) (by decide))))
  obtain ⟨T26, h26, X26, e26, W26, st26⟩ := putF X23 hx hZ hown (host := "") (Or.inl (hw _ (List.mem_of_getElem? (i := 41) rfl))) Via.refl e23 G25 G24 (Or.inr ⟨(hw _ (List.mem_of_getElem? (i := 42) rfl)), rfl, hnm⟩) (hw _ (List.mem_of_getElem? (i := 1) rfl)) (ty := (.object "java/lang/String")) (by decide) rfl rfl (g := (mkF m 52 #[.val (.ref a0), .val (.ref a1), .val (.ref a2), .val (.int p3), .val (.long q4), .second, .val (.int p5), .val (.int p6), .val (.long q7), .second, .val (.long q8), .second, .val (.ref a9), .val (.long q10), .second, .val (.ref a11)] [(.ref a9), (.ref a0)])) rfl rfl (hb hby d1_52)
  have K26 : Keep h0 h26 [a0] := K23.wr W26 (Or.inl (by simp))
  have Fw26 : Fld Z h26 a0 "com/example/commitlog/commitlog/model/PullRequest" "subscription" "Ljava/lang/String;" (.ref a9) := G25.same W26
  have N26 := Fr.snoc X26 N23 nw_a0
  have G27 : Exa Z h26 a0 "com/example/commitlog/commitlog/model/PullRequest" := (G24.wr W26)
  have G28 : Fld Z h26 a0 "com/example/commitlog/commitlog/model/PullRequest" "subVersion" "J" (.long w_subVersion_a0) := (((((((((F_subVersion_a0.other W2 (Or.inr (slot_ne (Or.inr (hw _ (List.mem_of_getElem? (i := 44) rfl))) (Or.inr (hw _ (List.mem_of_getElem? (i := 26) rfl))) (by decide) (t := .long) (t' := (.object "java/lang/String")) (by decide) (by decide)))).other W5 (Or.inr (slot_ne (Or.inr (hw _ (List.mem_of_getElem? (i := 44) rfl))) (Or.inr (hw _ (List.mem_of_getElem? (i := 28) rfl))) (by decide) (t := .long) (t' := (.object "java/lang/String")) (by decide) (by decide)))).other W8 (Or.inr (slot_ne (Or.inr (hw _ (List.mem_of_getElem? (i := 44) rfl))) (Or.inr (hw _ (List.mem_of_getElem? (i := 30) rfl))) (by decide) (t := .long) (t' := .int) (by decide) (by decide)))).other W11 (Or.inr (slot_ne (Or.inr (hw _ (List.mem_of_getElem? (i := 44) rfl))) (Or.inr (hw _ (List.mem_of_getElem? (i := 32) rfl))) (by decide) (t := .long) (t' := .long) (by decide) (by decide)))).other W14 (Or.inr (slot_ne (Or.inr (hw _ (List.mem_of_getElem? (i := 44) rfl))) (Or.inr (hw _ (List.mem_of_getElem? (i := 34) rfl))) (by decide) (t := .long) (t' := .int) (by decide) (by decide)))).other W17 (Or.inr (slot_ne (Or.inr (hw _ (List.mem_of_getElem? (i := 44) rfl))) (Or.inr (hw _ (List.mem_of_getElem? (i := 36) rfl))) (by decide) (t := .long) (t' := .int) (by decide) (by decide)))).other W20 (Or.inr (slot_ne (Or.inr (hw _ (List.mem_of_getElem? (i := 44) rfl))) (Or.inr (hw _ (List.mem_of_getElem? (i := 38) rfl))) (by decide) (t := .long) (t' := .long) (by decide) (by decide)))).other W23 (Or.inr (slot_ne (Or.inr (hw _ (List.mem_of_getElem? (i := 44) rfl))) (Or.inr (hw _ (List.mem_of_getElem? (i := 40) rfl))) (by decide) (t := .long) (t' := .long) (by decide) (by decide)))).other W26 (Or.inr (slot_ne (Or.inr (hw _ (List.mem_of_getElem? (i := 44) rfl))) (Or.inr (hw _ (List.mem_of_getElem? (i := 42) rfl))) (by decide) (t := .long) (t' := (.object "java/lang/String")) (by decide) (by decide))))
  obtain ⟨T29, h29, X29, e29, W29, st29⟩ := putF X26 hx hZ hown (host := "") (Or.inl (hw _ (List.mem_of_getElem? (i := 43) rfl))) Via.refl e26 G28 G27 (Or.inr ⟨(hw _ (List.mem_of_getElem? (i := 44) rfl)), rfl, hnm⟩) (hw _ (List.mem_of_getElem? (i := 1) rfl)) (ty := .long) (by decide) rfl rfl (g := (mkF m 58 #[.val (.ref a0), .val (.ref a1), .val (.ref a2), .val (.int p3), .val (.long q4), .second, .val (.int p5), .val (.int p6), .val (.long q7), .second, .val (.long q8), .second, .val (.ref a9), .val (.long q10), .second, .val (.ref a11)] [(.long q10), (.ref a0)])) rfl rfl (hb hby d1_58)
  have K29 : Keep h0 h29 [a0] := K26.wr W29 (Or.inl (by simp))
  have Fw29 : Fld Z h29 a0 "com/example/commitlog/commitlog/model/PullRequest" "subVersion" "J" (.long q10) := G28.same W29
  have N29 := Fr.snoc X29 N26 nw_a0
  have G30 : Exa Z h29 a0 "com/example/commitlog/commitlog/model/PullRequest" := (G27.wr W29)
  have G31 : Fld Z h29 a0 "com/example/commitlog/commitlog/model/PullRequest" "expressionType" "Ljava/lang/String;" w_expressionType_a0 := ((((((((((F_expressionType_a0.other W2 (Or.inr (slot_ne (Or.inr (hw _ (List.mem_of_getElem? (i := 46) rfl))) (Or.inr (hw _ (List.mem_of_getElem? (i := 26) rfl))) (by decide) (t := (.object "java/lang/String")) (t' := (.object "java/lang/String")) (by decide) (by decide)))).other W5 (Or.inr (slot_ne (Or.inr (hw _ (List.mem_of_getElem? (i := 46) rfl))) (Or.inr (hw _ (List.mem_of_getElem? (i := 28) rfl))) (by decide) (t := (.object "java/lang/String")) (t' := (.object "java/lang/String")) (by decide) (by decide)))).other W8 (Or.inr (slot_ne (Or.inr (hw _ (List.mem_of_getElem? (i := 46) rfl))) (Or.inr (hw _ (List.mem_of_getElem? (i := 30) rfl))) (by decide) (t := (.object "java/lang/String")) (t' := .int) (by decide) (by decide)))).other W11 (Or.inr (slot_ne (Or.inr (hw _ (List.mem_of_getElem? (i := 46) rfl))) (Or.inr (hw _ (List.mem_of_getElem? (i := 32) rfl))) (by decide) (t := (.object "java/lang/String")) (t' := .long) (by decide) (by decide)))).other W14 (Or.inr (slot_ne (Or.inr (hw _ (List.mem_of_getElem? (i := 46) rfl))) (Or.inr (hw _ (List.mem_of_getElem? (i := 34) rfl))) (by decide) (t := (.object "java/lang/String")) (t' := .int) (by decide) (by decide)))).other W17 (Or.inr (slot_ne (Or.inr (hw _ (List.mem_of_getElem? (i := 46) rfl))) (Or.inr (hw _ (List.mem_of_getElem? (i := 36) rfl))) (by decide) (t := (.object "java/lang/String")) (t' := .int) (by decide) (by decide)))).other W20 (Or.inr (slot_ne (Or.inr (hw _ (List.mem_of_getElem? (i := 46) rfl))) (Or.inr (hw _ (List.mem_of_getElem? (i := 38) rfl))) (by decide) (t := (.object "java/lang/String")) (t' := .long) (by decide) (by decide)))).other W23 (Or.inr (slot_ne (Or.inr (hw _ (List.mem_of_getElem? (i := 46) rfl))) (Or.inr (hw _ (List.mem_of_getElem? (i := 40) rfl))) (by decide) (t := (.object "java/lang/String")) (t' := .long) (by decide) (by decide)))).other W26 (Or.inr (slot_ne (Or.inr (hw _ (List.mem_of_getElem? (i := 46) rfl))) (Or.inr (hw _ (List.mem_of_getElem? (i := 42) rfl))) (by decide) (t := (.object "java/lang/String")) (t' := (.object "java/lang/String")) (by decide) (by decide)))).other W29 (Or.inr (slot_ne (Or.inr (hw _ (List.mem_of_getElem? (i := 46) rfl))) (Or.inr (hw _ (List.mem_of_getElem? (i := 44) rfl))) (by decide) (t := (.object "java/lang/String")) (t' := .long) (by decide) (by decide))))
  obtain ⟨T32, h32, X32, e32, W32, st32⟩ := putF X29 hx hZ hown (host := "") (Or.inl (hw _ (List.mem_of_getElem? (i := 45) rfl))) Via.refl e29 G31 G30 (Or.inr ⟨(hw _ (List.mem_of_getElem? (i := 46) rfl)), rfl, hnm⟩) (hw _ (List.mem_of_getElem? (i := 1) rfl)) (ty := (.object "java/lang/String")) (by decide) rfl rfl (g := (mkF m 64 #[.val (.ref a0), .val (.ref a1), .val (.ref a2), .val (.int p3), .val (.long q4), .second, .val (.int p5), .val (.int p6), .val (.long q7), .second, .val (.long q8), .second, .val (.ref a9), .val (.long q10), .second, .val (.ref a11)] [(.ref a11), (.ref a0)])) rfl rfl (hb hby d1_64)
  have K32 : Keep h0 h32 [a0] := K29.wr W32 (Or.inl (by simp))
  have Fw32 : Fld Z h32 a0 "com/example/commitlog/commitlog/model/PullRequest" "expressionType" "Ljava/lang/String;" (.ref a11) := G31.same W32
  have N32 := Fr.snoc X32 N29 nw_a0
  obtain ⟨fs, hr, hrun, hended, hW, hsame⟩ := X32.leave (v := none) (fun _ => rfl)
  refine ⟨_, _, pre0 _ ?_, hrun, hended, _, _, rfl, ?_, ⟨_, rfl⟩, hW, hsame.mono (by decide) (by decide)⟩
  · show Steps p.tables e below (s₁.setTop (mkF m 0 #[.val (.ref a0), .val (.ref a1), .val (.ref a2), .val (.int p3), .val (.long q4), .second, .val (.int p5), .val (.int p6), .val (.long q7), .second, .val (.long q8), .second, .val (.ref a9), .val (.long q10), .second, .val (.ref a11)] [])) _
    refine XS.aloadN X0.here hx rfl (hb hby d1_0) rfl rfl ?_
    show Steps p.tables e below (s₁.setTop (mkF m 1 #[.val (.ref a0), .val (.ref a1), .val (.ref a2), .val (.int p3), .val (.long q4), .second, .val (.int p5), .val (.int p6), .val (.long q7), .second, .val (.long q8), .second, .val (.ref a9), .val (.long q10), .second, .val (.ref a11)] [(.ref a0)])) _
    refine st1.trans ?_
    show Steps p.tables e below (T1.setTop (mkF m 4 #[.val (.ref a0), .val (.ref a1), .val (.ref a2), .val (.int p3), .val (.long q4), .second, .val (.int p5), .val (.int p6), .val (.long q7), .second, .val (.long q8), .second, .val (.ref a9), .val (.long q10), .second, .val (.ref a11)] [])) _
    refine XS.aloadN X1.here hx rfl (hb hby d1_4) rfl rfl ?_
    show Steps p.tables e below (T1.setTop (mkF m 5 #[.val (.ref a0), .val (.ref a1), .val (.ref a2), .val (.int p3), .val (.long q4), .second, .val (.int p5), .val (.int p6), .val (.long q7), .second, .val (.long q8), .second, .val (.ref a9), .val (.long q10), .second, .val (.ref a11)] [(.ref a0)])) _
    refine XS.aloadN X1.here hx rfl (hb hby d1_5) rfl rfl ?_
    show Steps p.tables e below (T1.setTop (mkF m 6 #[.val (.ref a0), .val (.ref a1), .val (.ref a2), .val (.int p3), .val (.long q4), .second, .val (.int p5), .val (.int p6), .val (.long q7), .second, .val (.long q8), .second, .val (.ref a9), .val (.long q10), .second, .val (.ref a11)] [(.ref a1), (.ref a0)])) _
    refine st2 _ ?_
    show Steps p.tables e below (T2.setTop (mkF m 9 #[.val (.ref a0), .val (.ref a1), .val (.ref a2), .val (.int p3), .val (.long q4), .second, .val (.int p5), .val (.int p6), .val (.long q7), .second, .val (.long q8), .second, .val (.ref a9), .val (.long q10), .second, .val (.ref a11)] [])) _
    refine XS.aloadN X2.here hx rfl (hb hby d1_9) rfl rfl ?_
    show Steps p.tables e below (T2.setTop (mkF m 10 #[.val (.ref a0), .val (.ref a1), .val (.ref a2), .val (.int p3), .val (.long q4), .second, .val (.int p5), .val (.int p6), .val (.long q7), .second, .val (.long q8), .second, .val (.ref a9), .val (.long q10), .second, .val (.ref a11)] [(.ref a0)])) _
    refine XS.aloadN X2.here hx rfl (hb hby d1_10) rfl rfl ?_
    show Steps p.tables e below (T2.setTop (mkF m 11 #[.val (.ref a0), .val (.ref a1), .val (.ref a2), .val (.int p3), .val (.long q4), .second, .val (.int p5), .val (.int p6), .val (.long q7), .second, .val (.long q8), .second, .val (.ref a9), .val (.long q10), .second, .val (.ref a11)] [(.ref a2), (.ref a0)])) _
    refine st5 _ ?_
    show Steps p.tables e below (T5.setTop (mkF m 14 #[.val (.ref a0), .val (.ref a1), .val (.ref a2), .val (.int p3), .val (.long q4), .second, .val (.int p5), .val (.int p6), .val (.long q7), .second, .val (.long q8), .second, .val (.ref a9), .val (.long q10), .second, .val (.ref a11)] [])) _
    refine XS.aloadN X5.here hx rfl (hb hby d1_14) rfl rfl ?_
    show Steps p.tables e below (T5.setTop (mkF m 15 #[.val (.ref a0), .val (.ref a1), .val (.ref a2), .val (.int p3), .val (.long q4), .second, .val (.int p5), .val (.int p6), .val (.long q7), .second, .val (.long q8), .second, .val (.ref a9), .val (.long q10), .second, .val (.ref a11)] [(.ref a0)])) _
    refine XS.iloadN X5.here hx rfl (hb hby d1_15) rfl ?_
    show Steps p.tables e below (T5.setTop (mkF m 16 #[.val (.ref a0), .val (.ref a1), .val (.ref a2), .val (.int p3), .val (.long q4), .second, .val (.int p5), .val (.int p6), .val (.long q7), .second, .val (.long q8), .second, .val (.ref a9), .val (.long q10), .second, .val (.ref a11)] [(.int p3), (.ref a0)])) _
    refine st8 _ ?_
    show Steps p.tables e below (T8.setTop (mkF m 19 #[.val (.ref a0), .val (.ref a1), .val (.ref a2), .val (.int p3), .val (.long q4), .second, .val (.int p5), .val (.int p6), .val (.long q7), .second, .val (.long q8), .second, .val (.ref a9), .val (.long q10), .second, .val (.ref a11)] [])) _
    refine XS.aloadN X8.here hx rfl (hb hby d1_19) rfl rfl ?_
    show Steps p.tables e below (T8.setTop (mkF m 20 #[.val (.ref a0), .val (.ref a1), .val (.ref a2), .val (.int p3), .val (.long q4), .second, .val (.int p5), .val (.int p6), .val (.long q7), .second, .val (.long q8), .second, .val (.ref a9), .val (.long q10), .second, .val (.ref a11)] [(.ref a0)])) _
    refine XS.lload X8.here hx rfl (hb hby d1_20) rfl ?_
    show Steps p.tables e below (T8.setTop (mkF m 22 #[.val (.ref a0), .val (.ref a1), .val (.ref a2), .val (.int p3), .val (.long q4), .second, .val (.int p5), .val (.int p6), .val (.long q7), .second, .val (.long q8), .second, .val (.ref a9), .val (.long q10), .second, .val (.ref a11)] [(.long q4), (.ref a0)])) _
    refine st11 _ ?_
    show Steps p.tables e below (T11.setTop (mkF m 25 #[.val (.ref a0), .val (.ref a1), .val (.ref a2), .val (.int p3), .val (.long q4), .second, .val (.int p5), .val (.int p6), .val (.long q7), .second, .val (.long q8), .second, .val (.ref a9), .val (.long q10), .second, .val (.ref a11)] [])) _
    refine XS.aloadN X11.here hx rfl (hb hby d1_25) rfl rfl ?_
    show Steps p.tables e below (T11.setTop (mkF m 26 #[.val (.ref a0), .val (.ref a1), .val (.ref a2), .val (.int p3), .val (.long q4), .second, .val (.int p5), .val (.int p6), .val (.long q7), .second, .val (.long q8), .second, .val (.ref a9), .val (.long q10), .second, .val (.ref a11)] [(.ref a0)])) _
    refine XS.iload X11.here hx rfl (hb hby d1_26) rfl ?_
    show Steps p.tables e below (T11.setTop (mkF m 28 #[.val (.ref a0), .val (.ref a1), .val (.ref a2), .val (.int p3), .val (.long q4), .second, .val (.int p5), .val (.int p6), .val (.long q7), .second, .val (.long q8), .second, .val (.ref a9), .val (.long q10), .second, .val (.ref a11)] [(.int p5), (.ref a0)])) _
    refine st14 _ ?_
    show Steps p.tables e below (T14.setTop (mkF m 31 #[.val (.ref a0), .val (.ref a1), .val (.ref a2), .val (.int p3), .val (.long q4), .second, .val (.int p5), .val (.int p6), .val (.long q7), .second, .val (.long q8), .second, .val (.ref a9), .val (.long q10), .second, .val (.ref a11)] [])) _
    refine XS.aloadN X14.here hx rfl (hb hby d1_31) rfl rfl ?_
    show Steps p.tables e below (T14.setTop (mkF m 32 #[.val (.ref a0), .val (.ref a1), .val (.ref a2), .val (.int p3), .val (.long q4), .second, .val (.int p5), .val (.int p6), .val (.long q7), .second, .val (.long q8), .second, .val (.ref a9), .val (.long q10), .second, .val (.ref a11)] [(.ref a0)])) _
    refine XS.iload X14.here hx rfl (hb hby d1_32) rfl ?_
    show Steps p.tables e below (T14.setTop (mkF m 34 #[.val (.ref a0), .val (.ref a1), .val (.ref a2), .val (.int p3), .val (.long q4), .second, .val (.int p5), .val (.int p6), .val (.long q7), .second, .val (.long q8), .second, .val (.ref a9), .val (.long q10), .second, .val (.ref a11)] [(.int p6), (.ref a0)])) _
    refine st17 _ ?_
    show Steps p.tables e below (T17.setTop (mkF m 37 #[.val (.ref a0), .val (.ref a1), .val (.ref a2), .val (.int p3), .val (.long q4), .second, .val (.int p5), .val (.int p6), .val (.long q7), .second, .val (.long q8), .second, .val (.ref a9), .val (.long q10), .second, .val (.ref a11)] [])) _
    refine XS.aloadN X17.here hx rfl (hb hby d1_37) rfl rfl ?_
    show Steps p.tables e below (T17.setTop (mkF m 38 #[.val (.ref a0), .val (.ref a1), .val (.ref a2), .val (.int p3), .val (.long q4), .second, .val (.int p5), .val (.int p6), .val (.long q7), .second, .val (.long q8), .second, .val (.ref a9), .val (.long q10), .second, .val (.ref a11)] [(.ref a0)])) _
    refine XS.lload X17.here hx rfl (hb hby d1_38) rfl ?_
    show Steps p.tables e below (T17.setTop (mkF m 40 #[.val (.ref a0), .val (.ref a1), .val (.ref a2), .val (.int p3), .val (.long q4), .second, .val (.int p5), .val (.int p6), .val (.long q7), .second, .val (.long q8), .second, .val (.ref a9), .val (.long q10), .second, .val (.ref a11)] [(.long q7), (.ref a0)])) _
    refine st20 _ ?_
    show Steps p.tables e below (T20.setTop (mkF m 43 #[.val (.ref a0), .val (.ref a1), .val (.ref a2), .val (.int p3), .val (.long q4), .second, .val (.int p5), .val (.int p6), .val (.long q7), .second, .val (.long q8), .second, .val (.ref a9), .val (.long q10), .second, .val (.ref a11)] [])) _
    refine XS.aloadN X20.here hx rfl (hb hby d1_43) rfl rfl ?_
    show Steps p.tables e below (T20.setTop (mkF m 44 #[.val (.ref a0), .val (.ref a1), .val (.ref a2), .val (.int p3), .val (.long q4), .second, .val (.int p5), .val (.int p6), .val (.long q7), .second, .val (.long q8), .second, .val (.ref a9), .val (.long q10), .second, .val (.ref a11)] [(.ref a0)])) _
    refine XS.lload X20.here hx rfl (hb hby d1_44) rfl ?_
    show Steps p.tables e below (T20.setTop (mkF m 46 #[.val (.ref a0), .val (.ref a1), .val (.ref a2), .val (.int p3), .val (.long q4), .second, .val (.int p5), .val (.int p6), .val (.long q7), .second, .val (.long q8), .second, .val (.ref a9), .val (.long q10), .second, .val (.ref a11)] [(.long q8), (.ref a0)])) _
    refine st23 _ ?_
    show Steps p.tables e below (T23.setTop (mkF m 49 #[.val (.ref a0), .val (.ref a1), .val (.ref a2), .val (.int p3), .val (.long q4), .second, .val (.int p5), .val (.int p6), .val (.long q7), .second, .val (.long q8), .second, .val (.ref a9), .val (.long q10), .second, .val (.ref a11)] [])) _
    refine XS.aloadN X23.here hx rfl (hb hby d1_49) rfl rfl ?_
    show Steps p.tables e below (T23.setTop (mkF m 50 #[.val (.ref a0), .val (.ref a1), .val (.ref a2), .val (.int p3), .val (.long q4), .second, .val (.int p5), .val (.int p6), .val (.long q7), .second, .val (.long q8), .second, .val (.ref a9), .val (.long q10), .second, .val (.ref a11)] [(.ref a0)])) _
    refine XS.aload X23.here hx rfl (hb hby d1_50) rfl rfl ?_
    show Steps p.tables e below (T23.setTop (mkF m 52 #[.val (.ref a0), .val (.ref a1), .val (.ref a2), .val (.int p3), .val (.long q4), .second, .val (.int p5), .val (.int p6), .val (.long q7), .second, .val (.long q8), .second, .val (.ref a9), .val (.long q10), .second, .val (.ref a11)] [(.ref a9), (.ref a0)])) _
    refine st26 _ ?_
    show Steps p.tables e below (T26.setTop (mkF m 55 #[.val (.ref a0), .val (.ref a1), .val (.ref a2), .val (.int p3), .val (.long q4), .second, .val (.int p5), .val (.int p6), .val (.long q7), .second, .val (.long q8), .second, .val (.ref a9), .val (.long q10), .second, .val (.ref a11)] [])) _
    refine XS.aloadN X26.here hx rfl (hb hby d1_55) rfl rfl ?_
    show Steps p.tables e below (T26.setTop (mkF m 56 #[.val (.ref a0), .val (.ref a1), .val (.ref a2), .val (.int p3), .val (.long q4), .second, .val (.int p5), .val (.int p6), .val (.long q7), .second, .val (.long q8), .second, .val (.ref a9), .val (.long q10), .second, .val (.ref a11)] [(.ref a0)])) _
    refine XS.lload X26.here hx rfl (hb hby d1_56) rfl ?_
    show Steps p.tables e below (T26.setTop (mkF m 58 #[.val (.ref a0), .val (.ref a1), .val (.ref a2), .val (.int p3), .val (.long q4), .second, .val (.int p5), .val (.int p6), .val (.long q7), .second, .val (.long q8), .second, .val (.ref a9), .val (.long q10), .second, .val (.ref a11)] [(.long q10), (.ref a0)])) _
    refine st29 _ ?_
    show Steps p.tables e below (T29.setTop (mkF m 61 #[.val (.ref a0), .val (.ref a1), .val (.ref a2), .val (.int p3), .val (.long q4), .second, .val (.int p5), .val (.int p6), .val (.long q7), .second, .val (.long q8), .second, .val (.ref a9), .val (.long q10), .second, .val (.ref a11)] [])) _
    refine XS.aloadN X29.here hx rfl (hb hby d1_61) rfl rfl ?_
    show Steps p.tables e below (T29.setTop (mkF m 62 #[.val (.ref a0), .val (.ref a1), .val (.ref a2), .val (.int p3), .val (.long q4), .second, .val (.int p5), .val (.int p6), .val (.long q7), .second, .val (.long q8), .second, .val (.ref a9), .val (.long q10), .second, .val (.ref a11)] [(.ref a0)])) _
    refine XS.aload X29.here hx rfl (hb hby d1_62) rfl rfl ?_
    show Steps p.tables e below (T29.setTop (mkF m 64 #[.val (.ref a0), .val (.ref a1), .val (.ref a2), .val (.int p3), .val (.long q4), .second, .val (.int p5), .val (.int p6), .val (.long q7), .second, .val (.long q8), .second, .val (.ref a9), .val (.long q10), .second, .val (.ref a11)] [(.ref a11), (.ref a0)])) _
    refine st32 _ ?_
    show Steps p.tables e below (T32.setTop (mkF m 67 #[.val (.ref a0), .val (.ref a1), .val (.ref a2), .val (.int p3), .val (.long q4), .second, .val (.int p5), .val (.int p6), .val (.long q7), .second, .val (.long q8), .second, .val (.ref a9), .val (.long q10), .second, .val (.ref a11)] [])) _
    exact X32.returnOut hx Bd.returns (hb hby d1_67) hr
  have G33 : Exa Z h32 a0 "com/example/commitlog/commitlog/model/PullRequest" := (G30.wr W32)
  have G34 : Fld Z h32 a0 "com/example/commitlog/commitlog/model/PullRequest" "consumerGroup" "Ljava/lang/String;" (.ref a1) := ((((((((((Fw2.other W5 (Or.inr (slot_ne (Or.inr (hw _ (List.mem_of_getElem? (i := 26) rfl))) (Or.inr (hw _ (List.mem_of_getElem? (i := 28) rfl))) (by decide) (t := (.object "java/lang/String")) (t' := (.object "java/lang/String")) (by decide) (by decide)))).other W8 (Or.inr (slot_ne (Or.inr (hw _ (List.mem_of_getElem? (i := 26) rfl))) (Or.inr (hw _ (List.mem_of_getElem? (i := 30) rfl))) (by decide) (t := (.object "java/lang/String")) (t' := .int) (by decide) (by decide)))).other W11 (Or.inr (slot_ne (Or.inr (hw _ (List.mem_of_getElem? (i := 26) rfl))) (Or.inr (hw _ (List.mem_of_getElem? (i := 32) rfl))) (by decide) (t := (.object "java/lang/String")) (t' := .long) (by decide) (by decide)))).other W14 (Or.inr (slot_ne (Or.inr (hw _ (List.mem_of_getElem? (i := 26) rfl))) (Or.inr (hw _ (List.mem_of_getElem? (i := 34) rfl))) (by decide) (t := (.object "java/lang/String")) (t' := .int) (by decide) (by decide)))).other W17 (Or.inr (slot_ne (Or.inr (hw _ (List.mem_of_getElem? (i := 26) rfl))) (Or.inr (hw _ (List.mem_of_getElem? (i := 36) rfl))) (by decide) (t := (.object "java/lang/String")) (t' := .int) (by decide) (by decide)))).other W20 (Or.inr (slot_ne (Or.inr (hw _ (List.mem_of_getElem? (i := 26) rfl))) (Or.inr (hw _ (List.mem_of_getElem? (i := 38) rfl))) (by decide) (t := (.object "java/lang/String")) (t' := .long) (by decide) (by decide)))).other W23 (Or.inr (slot_ne (Or.inr (hw _ (List.mem_of_getElem? (i := 26) rfl))) (Or.inr (hw _ (List.mem_of_getElem? (i := 40) rfl))) (by decide) (t := (.object "java/lang/String")) (t' := .long) (by decide) (by decide)))).other W26 (Or.inr (slot_ne (Or.inr (hw _ (List.mem_of_getElem? (i := 26) rfl))) (Or.inr (hw _ (List.mem_of_getElem? (i := 42) rfl))) (by decide) (t := (.object "java/lang/String")) (t' := (.object "java/lang/String")) (by decide) (by decide)))).other W29 (Or.inr (slot_ne (Or.inr (hw _ (List.mem_of_getElem? (i := 26) rfl))) (Or.inr (hw _ (List.mem_of_getElem? (i := 44) rfl))) (by decide) (t := (.object "java/lang/String")) (t' := .long) (by decide) (by decide)))).other W32 (Or.inr (slot_ne (Or.inr (hw _ (List.mem_of_getElem? (i := 26) rfl))) (Or.inr (hw _ (List.mem_of_getElem? (i := 46) rfl))) (by decide) (t := (.object "java/lang/String")) (t' := (.object "java/lang/String")) (by decide) (by decide))))
  have G35 : Fld Z h32 a0 "com/example/commitlog/commitlog/model/PullRequest" "topic" "Ljava/lang/String;" (.ref a2) := (((((((((Fw5.other W8 (Or.inr (slot_ne (Or.inr (hw _ (List.mem_of_getElem? (i := 28) rfl))) (Or.inr (hw _ (List.mem_of_getElem? (i := 30) rfl))) (by decide) (t := (.object "java/lang/String")) (t' := .int) (by decide) (by decide)))).other W11 (Or.inr (slot_ne (Or.inr (hw _ (List.mem_of_getElem? (i := 28) rfl))) (Or.inr (hw _ (List.mem_of_getElem? (i := 32) rfl))) (by decide) (t := (.object "java/lang/String")) (t' := .long) (by decide) (by decide)))).other W14 (Or.inr (slot_ne (Or.inr (hw _ (List.mem_of_getElem? (i := 28) rfl))) (Or.inr (hw _ (List.mem_of_getElem? (i := 34) rfl))) (by decide) (t := (.object "java/lang/String")) (t' := .int) (by decide) (by decide)))).other W17 (Or.inr (slot_ne (Or.inr (hw _ (List.mem_of_getElem? (i := 28) rfl))) (Or.inr (hw _ (List.mem_of_getElem? (i := 36) rfl))) (by decide) (t := (.object "java/lang/String")) (t' := .int) (by decide) (by decide)))).other W20 (Or.inr (slot_ne (Or.inr (hw _ (List.mem_of_getElem? (i := 28) rfl))) (Or.inr (hw _ (List.mem_of_getElem? (i := 38) rfl))) (by decide) (t := (.object "java/lang/String")) (t' := .long) (by decide) (by decide)))).other W23 (Or.inr (slot_ne (Or.inr (hw _ (List.mem_of_getElem? (i := 28) rfl))) (Or.inr (hw _ (List.mem_of_getElem? (i := 40) rfl))) (by decide) (t := (.object "java/lang/String")) (t' := .long) (by decide) (by decide)))).other W26 (Or.inr (slot_ne (Or.inr (hw _ (List.mem_of_getElem? (i := 28) rfl))) (Or.inr (hw _ (List.mem_of_getElem? (i := 42) rfl))) (by decide) (t := (.object "java/lang/String")) (t' := (.object "java/lang/String")) (by decide) (by decide)))).other W29 (Or.inr (slot_ne (Or.inr (hw _ (List.mem_of_getElem? (i := 28) rfl))) (Or.inr (hw _ (List.mem_of_getElem? (i := 44) rfl))) (by decide) (t := (.object "java/lang/String")) (t' := .long) (by decide) (by decide)))).other W32 (Or.inr (slot_ne (Or.inr (hw _ (List.mem_of_getElem? (i := 28) rfl))) (Or.inr (hw _ (List.mem_of_getElem? (i := 46) rfl))) (by decide) (t := (.object "java/lang/String")) (t' := (.object "java/lang/String")) (by decide) (by decide))))
  have G36 : Fld Z h32 a0 "com/example/commitlog/commitlog/model/PullRequest" "queueId" "I" (.int p3) := ((((((((Fw8.other W11 (Or.inr (slot_ne (Or.inr (hw _ (List.mem_of_getElem? (i := 30) rfl))) (Or.inr (hw _ (List.mem_of_getElem? (i := 32) rfl))) (by decide) (t := .int) (t' := .long) (by decide) (by decide)))).other W14 (Or.inr (slot_ne (Or.inr (hw _ (List.mem_of_getElem? (i := 30) rfl))) (Or.inr (hw _ (List.mem_of_getElem? (i := 34) rfl))) (by decide) (t := .int) (t' := .int) (by decide) (by decide)))).other W17 (Or.inr (slot_ne (Or.inr (hw _ (List.mem_of_getElem? (i := 30) rfl))) (Or.inr (hw _ (List.mem_of_getElem? (i := 36) rfl))) (by decide) (t := .int) (t' := .int) (by decide) (by decide)))).other W20 (Or.inr (slot_ne (Or.inr (hw _ (List.mem_of_getElem? (i := 30) rfl))) (Or.inr (hw _ (List.mem_of_getElem? (i := 38) rfl))) (by decide) (t := .int) (t' := .long) (by decide) (by decide)))).other W23 (Or.inr (slot_ne (Or.inr (hw _ (List.mem_of_getElem? (i := 30) rfl))) (Or.inr (hw _ (List.mem_of_getElem? (i := 40) rfl))) (by decide) (t := .int) (t' := .long) (by decide) (by decide)))).other W26 (Or.inr (slot_ne (Or.inr (hw _ (List.mem_of_getElem? (i := 30) rfl))) (Or.inr (hw _ (List.mem_of_getElem? (i := 42) rfl))) (by decide) (t := .int) (t' := (.object "java/lang/String")) (by decide) (by decide)))).other W29 (Or.inr (slot_ne (Or.inr (hw _ (List.mem_of_getElem? (i := 30) rfl))) (Or.inr (hw _ (List.mem_of_getElem? (i := 44) rfl))) (by decide) (t := .int) (t' := .long) (by decide) (by decide)))).other W32 (Or.inr (slot_ne (Or.inr (hw _ (List.mem_of_getElem? (i := 30) rfl))) (Or.inr (hw _ (List.mem_of_getElem? (i := 46) rfl))) (by decide) (t := .int) (t' := (.object "java/lang/String")) (by decide) (by decide))))
  have G37 : Fld Z h32 a0 "com/example/commitlog/commitlog/model/PullRequest" "queueOffset" "J" (.long q4) := (((((((Fw11.other W14 (Or.inr (slot_ne (Or.inr (hw _ (List.mem_of_getElem? (i := 32) rfl))) (Or.inr (hw _ (List.mem_of_getElem? (i := 34) rfl))) (by decide) (t := .long) (t' := .int) (by decide) (by decide)))).other W17 (Or.inr (slot_ne (Or.inr (hw _ (List.mem_of_getElem? (i := 32) rfl))) (Or.inr (hw _ (List.mem_of_getElem? (i := 36) rfl))) (by decide) (t := .long) (t' := .int) (by decide) (by decide)))).other W20 (Or.inr (slot_ne (Or.inr (hw _ (List.mem_of_getElem? (i := 32) rfl))) (Or.inr (hw _ (List.mem_of_getElem? (i := 38) rfl))) (by decide) (t := .long) (t' := .long) (by decide) (by decide)))).other W23 (Or.inr (slot_ne (Or.inr (hw _ (List.mem_of_getElem? (i := 32) rfl))) (Or.inr (hw _ (List.mem_of_getElem? (i := 40) rfl))) (by decide) (t := .long) (t' := .long) (by decide) (by decide)))).other W26 (Or.inr (slot_ne (Or.inr (hw _ (List.mem_of_getElem? (i := 32) rfl))) (Or.inr (hw _ (List.mem_of_getElem? (i := 42) rfl))) (by decide) (t := .long) (t' := (.object "java/lang/String")) (by decide) (by decide)))).other W29 (Or.inr (slot_ne (Or.inr (hw _ (List.mem_of_getElem? (i := 32) rfl))) (Or.inr (hw _ (List.mem_of_getElem? (i := 44) rfl))) (by decide) (t := .long) (t' := .long) (by decide) (by decide)))).other W32 (Or.inr (slot_ne (Or.inr (hw _ (List.mem_of_getElem? (i := 32) rfl))) (Or.inr (hw _ (List.mem_of_getElem? (i := 46) rfl))) (by decide) (t := .long) (t' := (.object "java/lang/String")) (by decide) (by decide))))
  have G38 : Fld Z h32 a0 "com/example/commitlog/commitlog/model/PullRequest" "maxMsgNums" "I" (.int p5) := ((((((Fw14.other W17 (Or.inr (slot_ne (Or.inr (hw _ (List.mem_of_getElem? (i := 34) rfl))) (Or.inr (hw _ (List.mem_of_getElem? (i := 36) rfl))) (by decide) (t := .int) (t' := .int) (by decide) (by decide)))).other W20 (Or.inr (slot_ne (Or.inr (hw _ (List.mem_of_getElem? (i := 34) rfl))) (Or.inr (hw _ (List.mem_of_getElem? (i := 38) rfl))) (by decide) (t := .int) (t' := .long) (by decide) (by decide)))).other W23 (Or.inr (slot_ne (Or.inr (hw _ (List.mem_of_getElem? (i := 34) rfl))) (Or.inr (hw _ (List.mem_of_getElem? (i := 40) rfl))) (by decide) (t := .int) (t' := .long) (by decide) (by decide)))).other W26 (Or.inr (slot_ne (Or.inr (hw _ (List.mem_of_getElem? (i := 34) rfl))) (Or.inr (hw _ (List.mem_of_getElem? (i := 42) rfl))) (by decide) (t := .int) (t' := (.object "java/lang/String")) (by decide) (by decide)))).other W29 (Or.inr (slot_ne (Or.inr (hw _ (List.mem_of_getElem? (i := 34) rfl))) (Or.inr (hw _ (List.mem_of_getElem? (i := 44) rfl))) (by decide) (t := .int) (t' := .long) (by decide) (by decide)))).other W32 (Or.inr (slot_ne (Or.inr (hw _ (List.mem_of_getElem? (i := 34) rfl))) (Or.inr (hw _ (List.mem_of_getElem? (i := 46) rfl))) (by decide) (t := .int) (t' := (.object "java/lang/String")) (by decide) (by decide))))
  have G39 : Fld Z h32 a0 "com/example/commitlog/commitlog/model/PullRequest" "sysFlag" "I" (.int p6) := (((((Fw17.other W20 (Or.inr (slot_ne (Or.inr (hw _ (List.mem_of_getElem? (i := 36) rfl))) (Or.inr (hw _ (List.mem_of_getElem? (i := 38) rfl))) (by decide) (t := .int) (t' := .long) (by decide) (by decide)))).other W23 (Or.inr (slot_ne (Or.inr (hw _ (List.mem_of_getElem? (i := 36) rfl))) (Or.inr (hw _ (List.mem_of_getElem? (i := 40) rfl))) (by decide) (t := .int) (t' := .long) (by decide) (by decide)))).other W26 (Or.inr (slot_ne (Or.inr (hw _ (List.mem_of_getElem? (i := 36) rfl))) (Or.inr (hw _ (List.mem_of_getElem? (i := 42) rfl))) (by decide) (t := .int) (t' := (.object "java/lang/String")) (by decide) (by decide)))).other W29 (Or.inr (slot_ne (Or.inr (hw _ (List.mem_of_getElem? (i := 36) rfl))) (Or.inr (hw _ (List.mem_of_getElem? (i := 44) rfl))) (by decide) (t := .int) (t' := .long) (by decide) (by decide)))).other W32 (Or.inr (slot_ne (Or.inr (hw _ (List.mem_of_getElem? (i := 36) rfl))) (Or.inr (hw _ (List.mem_of_getElem? (i := 46) rfl))) (by decide) (t := .int) (t' := (.object "java/lang/String")) (by decide) (by decide))))
  have G40 : Fld Z h32 a0 "com/example/commitlog/commitlog/model/PullRequest" "commitOffset" "J" (.long q7) := ((((Fw20.other W23 (Or.inr (slot_ne (Or.inr (hw _ (List.mem_of_getElem? (i := 38) rfl))) (Or.inr (hw _ (List.mem_of_getElem? (i := 40) rfl))) (by decide) (t := .long) (t' := .long) (by decide) (by decide)))).other W26 (Or.inr (slot_ne (Or.inr (hw _ (List.mem_of_getElem? (i := 38) rfl))) (Or.inr (hw _ (List.mem_of_getElem? (i := 42) rfl))) (by decide) (t := .long) (t' := (.object "java/lang/String")) (by decide) (by decide)))).other W29 (Or.inr (slot_ne (Or.inr (hw _ (List.mem_of_getElem? (i := 38) rfl))) (Or.inr (hw _ (List.mem_of_getElem? (i := 44) rfl))) (by decide) (t := .long) (t' := .long) (by decide) (by decide)))).other W32 (Or.inr (slot_ne (Or.inr (hw _ (List.mem_of_getElem? (i := 38) rfl))) (Or.inr (hw _ (List.mem_of_getElem? (i := 46) rfl))) (by decide) (t := .long) (t' := (.object "java/lang/String")) (by decide) (by decide))))
  have G41 : Fld Z h32 a0 "com/example/commitlog/commitlog/model/PullRequest" "suspendTimeoutMillis" "J" (.long q8) := (((Fw23.other W26 (Or.inr (slot_ne (Or.inr (hw _ (List.mem_of_getElem? (i := 40) rfl))) (Or.inr (hw _ (List.mem_of_getElem? (i := 42) rfl))) (by decide) (t := .long) (t' := (.object "java/lang/String")) (by decide) (by decide)))).other W29 (Or.inr (slot_ne (Or.inr (hw _ (List.mem_of_getElem? (i := 40) rfl))) (Or.inr (hw _ (List.mem_of_getElem? (i := 44) rfl))) (by decide) (t := .long) (t' := .long) (by decide) (by decide)))).other W32 (Or.inr (slot_ne (Or.inr (hw _ (List.mem_of_getElem? (i := 40) rfl))) (Or.inr (hw _ (List.mem_of_getElem? (i := 46) rfl))) (by decide) (t := .long) (t' := (.object "java/lang/String")) (by decide) (by decide))))
  have G42 : Fld Z h32 a0 "com/example/commitlog/commitlog/model/PullRequest" "subscription" "Ljava/lang/String;" (.ref a9) := ((Fw26.other W29 (Or.inr (slot_ne (Or.inr (hw _ (List.mem_of_getElem? (i := 42) rfl))) (Or.inr (hw _ (List.mem_of_getElem? (i := 44) rfl))) (by decide) (t := (.object "java/lang/String")) (t' := .long) (by decide) (by decide)))).other W32 (Or.inr (slot_ne (Or.inr (hw _ (List.mem_of_getElem? (i := 42) rfl))) (Or.inr (hw _ (List.mem_of_getElem? (i := 46) rfl))) (by decide) (t := (.object "java/lang/String")) (t' := (.object "java/lang/String")) (by decide) (by decide))))
  have G43 : Fld Z h32 a0 "com/example/commitlog/commitlog/model/PullRequest" "subVersion" "J" (.long q10) := (Fw29.other W32 (Or.inr (slot_ne (Or.inr (hw _ (List.mem_of_getElem? (i := 44) rfl))) (Or.inr (hw _ (List.mem_of_getElem? (i := 46) rfl))) (by decide) (t := .long) (t' := (.object "java/lang/String")) (by decide) (by decide))))
  · show Q1 Z a0 a1 a2 p3 q4 p5 p6 q7 q8 a9 q10 a11 w_consumerGroup_a0 w_topic_a0 w_queueId_a0 w_queueOffset_a0 w_maxMsgNums_a0 w_sysFlag_a0 w_commitOffset_a0 w_suspendTimeoutMillis_a0 w_subscription_a0 w_subVersion_a0 w_expressionType_a0 h0 n0 _ T32.heap _
    rw [e32]
    exact ⟨rfl, N32, K32, G33, G34, G35, G36, G37, G38, G39, G40, G41, G42, G43, Fw32⟩
theorem ef_4 (m : MethodId) (a0 : Addr) : entryFrame m #[(.ref a0)] 1 = mkF m 0 #[.val (.ref a0)] [] := by first | (simp [entryFrame, mkF, argsToLocals, Value.category]; done) | rfl
def Q4 (Z : State) (a0 : Addr) (w_consumerGroup_a0 : Value) (w_topic_a0 : Value) (w_queueId_a0 : Int32) (w_queueOffset_a0 : Int64) (w_maxMsgNums_a0 : Int32) (w_sysFlag_a0 : Int32) (w_commitOffset_a0 : Int64) (w_suspendTimeoutMillis_a0 : Int64) (w_subscription_a0 : Value) (w_subVersion_a0 : Int64) (w_expressionType_a0 : Value) (h0 : Heap) (n0 : Nat) (v : Option Value) (h : Heap) (L : List Loc) : Prop := v = some (.int (nar .boolean (if (w_sysFlag_a0 &&& (1 : Int32)) = (0 : Int32) then (0 : Int32) else (if w_commitOffset_a0 < (0 : Int64) then (0 : Int32) else (1 : Int32))))) ∧ Fr n0 L ∧ h = h0
set_option maxRecDepth 65536 in
set_option maxHeartbeats 40000000 in
theorem rm4 (l : Launch) (Z : State) (A0 : Array Value) (hw : ∀ d ∈ tables_1, d.before A0 Z = true) (ws : List Jvm.Cond) (a0 : Addr) (w_consumerGroup_a0 : Value) (w_topic_a0 : Value) (w_queueId_a0 : Int32) (w_queueOffset_a0 : Int64) (w_maxMsgNums_a0 : Int32) (w_sysFlag_a0 : Int32) (w_commitOffset_a0 : Int64) (w_suspendTimeoutMillis_a0 : Int64) (w_subscription_a0 : Value) (w_subVersion_a0 : Int64) (w_expressionType_a0 : Value) (h0 : Heap) (n0 : Nat) (Z0 : n0 ≤ h0.size) (E_a0 : Exa Z h0 a0 "com/example/commitlog/commitlog/model/PullRequest") (F_consumerGroup_a0 : Fld Z h0 a0 "com/example/commitlog/commitlog/model/PullRequest" "consumerGroup" "Ljava/lang/String;" w_consumerGroup_a0) (F_topic_a0 : Fld Z h0 a0 "com/example/commitlog/commitlog/model/PullRequest" "topic" "Ljava/lang/String;" w_topic_a0) (F_queueId_a0 : Fld Z h0 a0 "com/example/commitlog/commitlog/model/PullRequest" "queueId" "I" (.int w_queueId_a0)) (F_queueOffset_a0 : Fld Z h0 a0 "com/example/commitlog/commitlog/model/PullRequest" "queueOffset" "J" (.long w_queueOffset_a0)) (F_maxMsgNums_a0 : Fld Z h0 a0 "com/example/commitlog/commitlog/model/PullRequest" "maxMsgNums" "I" (.int w_maxMsgNums_a0)) (F_sysFlag_a0 : Fld Z h0 a0 "com/example/commitlog/commitlog/model/PullRequest" "sysFlag" "I" (.int w_sysFlag_a0)) (F_commitOffset_a0 : Fld Z h0 a0 "com/example/commitlog/commitlog/model/PullRequest" "commitOffset" "J" (.long w_commitOffset_a0)) (F_suspendTimeoutMillis_a0 : Fld Z h0 a0 "com/example/commitlog/commitlog/model/PullRequest" "suspendTimeoutMillis" "J" (.long w_suspendTimeoutMillis_a0)) (F_subscription_a0 : Fld Z h0 a0 "com/example/commitlog/commitlog/model/PullRequest" "subscription" "Ljava/lang/String;" w_subscription_a0) (F_subVersion_a0 : Fld Z h0 a0 "com/example/commitlog/commitlog/model/PullRequest" "subVersion" "J" (.long w_subVersion_a0)) (F_expressionType_a0 : Fld Z h0 a0 "com/example/commitlog/commitlog/model/PullRequest" "expressionType" "Ljava/lang/String;" w_expressionType_a0) :
    MetFree l (⟨"com/example/commitlog/commitlog/model/PullRequest", "commitsOffset", "()Z"⟩ : MethodName) (head1 (Jvm.Cond.code (⟨"com/example/commitlog/commitlog/model/PullRequest", "commitsOffset", "()Z"⟩ : MethodName) prog_42_method_3_code 1 (some .boolean) :: ws) ({ frames := 0, cells := 0, slots := 0, locals := 0 } : Room)) (fun a U => a = #[(.ref a0)] ∧ Z.Warmed39 U.vm ∧ U.heap = h0) (fun _ _ _ _ _ => True) (fun _ U o U' => ∃ v L, o = .returned v ∧ Q4 Z a0 w_consumerGroup_a0 w_topic_a0 w_queueId_a0 w_queueOffset_a0 w_maxMsgNums_a0 w_sysFlag_a0 w_commitOffset_a0 w_suspendTimeoutMillis_a0 w_subscription_a0 w_subVersion_a0 w_expressionType_a0 h0 n0 v U'.heap L ∧ FrameEnd U o U' L ({ frames := 0, cells := 0, slots := 0, locals := 0 } : Room).cells ({ frames := 0, cells := 0, slots := 0, locals := 0 } : Room).slots) := by
  refine MetFree.of_bodySF (plainFor_of_name pn_4) hisR ?_
  intro p e s m args below meth c s₁ Bd hml0 hP hK
  obtain ⟨rfl, hZ, hh⟩ := hP
  have hx := Bd.exec
  have hby := Bd.bytes
  have hml : c.maxLocals = 1 := hml0
  have hown : s.vm.findClass "com/example/commitlog/commitlog/model/PullRequest" = some m.cls := findClass_of_methodNamed Bd.named
  have hnm := (name_of_methodNamed Bd.named Bd.method).1
  have X0 : Stand p l e ({ frames := 0, cells := 0, slots := 0, locals := 0 } : Room) s m #[(.ref a0)] below meth c s₁ [] 0 0 := Stand.of_body Bd
  have e0 : s₁.heap = h0 := by rw [← hh, Bd.state]; rfl
  have N0 := Fr.nil n0
  have pre0 : ∀ t, Steps p.tables e below (s₁.setTop (mkF m 0 #[.val (.ref a0)] [])) t → Steps p.tables e below (s₁.setTop (entryFrame m #[(.ref a0)] 1)) t := fun t k => castTop (ef_4 m a0) k
  obtain ⟨T1, X1, e1, st1⟩ := getF X0 hx hZ hown (host := "") (Or.inl (hw _ (List.mem_of_getElem? (i := 35) rfl))) Via.refl e0 F_sysFlag_a0 (g := (mkF m 1 #[.val (.ref a0)] [(.ref a0)])) rfl rfl (hb hby d4_1)
  obtain ⟨v7, hv7⟩ : ∃ z : Int32, z = if (w_sysFlag_a0 &&& (1 : Int32)) = (0 : Int32) then (0 : Int32) else (if w_commitOffset_a0 < (0 : Int64) then (0 : Int32) else (1 : Int32)) := ⟨_, rfl⟩
  obtain ⟨T8, L8, X8, N8, e8, st8⟩ : ∃ (T' : State) (L' : List Loc), Stand p l e ({ frames := 0, cells := 0, slots := 0, locals := 0 } : Room) s m #[(.ref a0)] below meth c T' L' 0 0 ∧ Fr n0 L' ∧ T'.heap = h0 ∧ ∀ target, Steps p.tables e below (T'.setTop (mkF m 23 #[.val (.ref a0)] [(.int v7)])) target → Steps p.tables e below (T1.setTop (mkF m 6 #[.val (.ref a0)] [(.int (w_sysFlag_a0 &&& (1 : Int32)))])) target := by
    by_cases hc3 : (w_sysFlag_a0 &&& (1 : Int32)) = (0 : Int32)
    · refine ⟨T1, _, X1, N0, e1, fun target kt => ?_⟩
      show Steps p.tables e below (T1.setTop (mkF m 6 #[.val (.ref a0)] [(.int (w_sysFlag_a0 &&& (1 : Int32)))])) _
      refine XS.ifYes X1.here hx rfl (pc0 := 6) (pc' := 22) rfl (hb hby d4_6) rfl ((if0 _ _).trans (teq hc3).1) (by decide) (by decide) ?_
      show Steps p.tables e below (T1.setTop (mkF m 22 #[.val (.ref a0)] [])) _
      refine XS.iconst X1.here hx rfl (hb hby d4_22) ?_
      exact castTop (by rw [hv7, if_pos hc3] <;> rfl) kt
    · obtain ⟨T4, X4, e4, st4⟩ := getF X1 hx hZ hown (host := "") (Or.inl (hw _ (List.mem_of_getElem? (i := 37) rfl))) Via.refl e1 F_commitOffset_a0 (g := (mkF m 10 #[.val (.ref a0)] [(.ref a0)])) rfl rfl (hb hby d4_10)
      obtain ⟨v6, hv6⟩ : ∃ z : Int32, z = if w_commitOffset_a0 < (0 : Int64) then (0 : Int32) else (1 : Int32) := ⟨_, rfl⟩
      refine ⟨T4, _, X4, N0, e4, fun target kt => ?_⟩
      show Steps p.tables e below (T1.setTop (mkF m 6 #[.val (.ref a0)] [(.int (w_sysFlag_a0 &&& (1 : Int32)))])) _
      refine XS.ifNo X1.here hx rfl (hb hby d4_6) rfl ((if0 _ _).trans (feq hc3).1) ?_
      show Steps p.tables e below (T1.setTop (mkF m 9 #[.val (.ref a0)] [])) _
      refine XS.aloadN X1.here hx rfl (hb hby d4_9) rfl rfl ?_
      show Steps p.tables e below (T1.setTop (mkF m 10 #[.val (.ref a0)] [(.ref a0)])) _
      refine st4 _ ?_
      show Steps p.tables e below (T4.setTop (mkF m 13 #[.val (.ref a0)] [(.long w_commitOffset_a0)])) _
      refine XS.lconst X4.here hx rfl (hb hby d4_13) ?_
      show Steps p.tables e below (T4.setTop (mkF m 14 #[.val (.ref a0)] [(.long (0 : Int64)), (.long w_commitOffset_a0)])) _
      refine XS.lcmp X4.here hx rfl (hb hby d4_14) rfl ?_
      show Steps p.tables e below (T4.setTop (mkF m 15 #[.val (.ref a0)] [(.int (lcmpW w_commitOffset_a0 (0 : Int64)))])) _
      refine own_dia (F := (mkF m 23 #[.val (.ref a0)] [(.int v6)])) ?_ ?_
      · intro kt
        by_cases hc5 : w_commitOffset_a0 < (0 : Int64)
        · show Steps p.tables e below (T4.setTop (mkF m 15 #[.val (.ref a0)] [(.int (lcmpW w_commitOffset_a0 (0 : Int64)))])) _
          refine XS.ifYes X4.here hx rfl (pc0 := 15) (pc' := 22) rfl (hb hby d4_15) rfl ((if0 _ _).trans (tlt ((lw_lt w_commitOffset_a0 (0 : Int64)).mpr hc5)).1) (by decide) (by decide) ?_
          show Steps p.tables e below (T4.setTop (mkF m 22 #[.val (.ref a0)] [])) _
          refine XS.iconst X4.here hx rfl (hb hby d4_22) ?_
          exact castTop (by rw [hv6, if_pos hc5] <;> rfl) kt
        · show Steps p.tables e below (T4.setTop (mkF m 15 #[.val (.ref a0)] [(.int (lcmpW w_commitOffset_a0 (0 : Int64)))])) _
          refine XS.ifNo X4.here hx rfl (hb hby d4_15) rfl ((if0 _ _).trans (flt (fun q => hc5 ((lw_lt w_commitOffset_a0 (0 : Int64)).mp q))).1) ?_
          show Steps p.tables e below (T4.setTop (mkF m 18 #[.val (.ref a0)] [])) _
          refine XS.iconst X4.here hx rfl (hb hby d4_18) ?_
          show Steps p.tables e below (T4.setTop (mkF m 19 #[.val (.ref a0)] [(.int (1 : Int32))])) _
          refine XS.goto X4.here hx rfl (pc0 := 19) (pc' := 23) rfl (hb hby d4_19) (by decide) (by decide) ?_
          exact castTop (by rw [hv6, if_neg hc5] <;> rfl) kt
      exact castTop (by subst hv6; rw [hv7, if_neg hc3] <;> rfl) kt
  obtain ⟨fs, hr, hrun, hended, hW, hsame⟩ := X8.leave (v := some (.int (nar .boolean v7))) (fun h => by rw [Bd.returns] at h; cases h)
  refine ⟨_, _, pre0 _ ?_, hrun, hended, _, _, rfl, ?_, ⟨_, rfl⟩, hW, hsame.mono (by decide) (by decide)⟩
  · show Steps p.tables e below (s₁.setTop (mkF m 0 #[.val (.ref a0)] [])) _
    refine XS.aloadN X0.here hx rfl (hb hby d4_0) rfl rfl ?_
    show Steps p.tables e below (s₁.setTop (mkF m 1 #[.val (.ref a0)] [(.ref a0)])) _
    refine st1 _ ?_
    show Steps p.tables e below (T1.setTop (mkF m 4 #[.val (.ref a0)] [(.int w_sysFlag_a0)])) _
    refine XS.iconst X1.here hx rfl (hb hby d4_4) ?_
    show Steps p.tables e below (T1.setTop (mkF m 5 #[.val (.ref a0)] [(.int (1 : Int32)), (.int w_sysFlag_a0)])) _
    refine XS.iand X1.here hx rfl (hb hby d4_5) rfl ?_
    show Steps p.tables e below (T1.setTop (mkF m 6 #[.val (.ref a0)] [(.int (w_sysFlag_a0 &&& (1 : Int32)))])) _
    refine st8 _ ?_
    show Steps p.tables e below (T8.setTop (mkF m 23 #[.val (.ref a0)] [(.int v7)])) _
    exact retN X8 hx (t := .boolean) Bd.returns (by simp) (hb hby d4_23) hr
  · show Q4 Z a0 w_consumerGroup_a0 w_topic_a0 w_queueId_a0 w_queueOffset_a0 w_maxMsgNums_a0 w_sysFlag_a0 w_commitOffset_a0 w_suspendTimeoutMillis_a0 w_subscription_a0 w_subVersion_a0 w_expressionType_a0 h0 n0 _ T8.heap _
    subst hv7
    exact ⟨rfl, N8, e8⟩
theorem own_law (p0 : Int32) (q1 : Int64) (p2 : Int32) (v64 : Int32) (v66 : Int32) (v69 : Int32) (v70 : Int32) (v89 : Int32) (hv64 : v64 = (if (p0 % (2 : Int32)) = (0 : Int32) then (0 : Int32) else (1 : Int32))) (hv66 : v66 = (if q1 < (0 : Int64) then (0 : Int32) else (1 : Int32))) (hv69 : v69 = (if v66 = (0 : Int32) then (0 : Int32) else (1 : Int32))) (hv70 : v70 = (if v64 = (0 : Int32) then (0 : Int32) else v69)) (hv89 : v89 = (if (nar .boolean (if (p0 &&& (1 : Int32)) = (0 : Int32) then (0 : Int32) else (if q1 < (0 : Int64) then (0 : Int32) else (1 : Int32)))) = v70 then (if (nar .boolean (if ((p0 ^^^ (p2 &&& (-2 : Int32))) &&& (1 : Int32)) = (0 : Int32) then (0 : Int32) else (if q1 < (0 : Int64) then (0 : Int32) else (1 : Int32)))) = v70 then (1 : Int32) else (0 : Int32)) else (0 : Int32))) : (nar .boolean v89) = (1 : Int32) := by
  rw [own_flip] at hv89
  by_cases a : (p0 % (2 : Int32)) = (0 : Int32)
  · have a' := (own_odd p0).mpr a
    simp_all +decide [own_nar_ite, own_nar0, own_nar1]
  · have a' : ¬ (p0 &&& (1 : Int32)) = (0 : Int32) := fun q => a ((own_odd p0).mp q)
    by_cases b : q1 < (0 : Int64)
    · simp_all +decide [own_nar_ite, own_nar0, own_nar1]
    · simp_all +decide [own_nar_ite, own_nar0, own_nar1]
theorem ef_0 (m : MethodId) (p0 : Int32) (q1 : Int64) (p2 : Int32) (p3 : Int32) (q4 : Int64) : entryFrame m #[(.int p0), (.long q1), (.int p2), (.int p3), (.long q4)] maxLocals = mkF m 0 #[.val (.int p0), .val (.long q1), .second, .val (.int p2), .val (.int p3), .val (.long q4), .second, .unset, .unset, .unset, .unset, .unset] [] := by first | (simp [entryFrame, mkF, argsToLocals, Value.category, maxLocals]; done) | rfl
def Q0 (h0 : Heap) (n0 : Nat) (v : Option Value) (h : Heap) (L : List Loc) : Prop := v = some (.int 1) ∧ Fr n0 L
set_option maxRecDepth 65536 in
set_option maxHeartbeats 40000000 in
theorem rm0 (l : Launch) (Z : State) (A0 : Array Value) (hw : ∀ d ∈ tables_1, d.before A0 Z = true) (ws : List Jvm.Cond) (p0 : Int32) (q1 : Int64) (p2 : Int32) (p3 : Int32) (q4 : Int64) (h0 : Heap) (n0 : Nat) (Z0 : n0 ≤ h0.size) :
    MetFree l x (head1 (Jvm.Cond.code x code maxLocals ret :: ws) room_1) (fun a U => a = #[(.int p0), (.long q1), (.int p2), (.int p3), (.long q4)] ∧ Z.Warmed39 U.vm ∧ U.heap = h0) (fun _ _ _ _ _ => True) (fun _ U o U' => ∃ v L, o = .returned v ∧ Q0 h0 n0 v U'.heap L ∧ ReturnedEndW U o U' L 18 102) := by
  refine MetFree.of_bodySF (plainFor_of_name pn_0) hisR ?_
  intro p e s m args below meth c s₁ Bd hml0 hP hK
  obtain ⟨rfl, hZ, hh⟩ := hP
  have hx := Bd.exec
  have hby := Bd.bytes
  have hml : c.maxLocals = 12 := hml0
  have hown : s.vm.findClass "com/example/commitlog/commitlog/model/PullRequestCommitsOffsetPinLaw" = some m.cls := findClass_of_methodNamed Bd.named
  have hnm := (name_of_methodNamed Bd.named Bd.method).1
  have X0 : Stand p l e room_1 s m #[(.int p0), (.long q1), (.int p2), (.int p3), (.long q4)] below meth c s₁ [] 0 0 := Stand.of_body Bd
  have e0 : s₁.heap = h0 := by rw [← hh, Bd.state]; rfl
  have N0 := Fr.nil n0
  have pre0 : ∀ t, Steps p.tables e below (s₁.setTop (mkF m 0 #[.val (.int p0), .val (.long q1), .second, .val (.int p2), .val (.int p3), .val (.long q4), .second, .unset, .unset, .unset, .unset, .unset] [])) t → Steps p.tables e below (s₁.setTop (entryFrame m #[(.int p0), (.long q1), (.int p2), (.int p3), (.long q4)] maxLocals)) t := fun t k => castTop (ef_0 m p0 q1 p2 p3 q4) k
  obtain ⟨T1, h1, X1, e1, E1, A1, D1, -, st1⟩ := newO X0 hx hZ hown (hw _ (List.mem_of_getElem? (i := 0) rfl)) (hw _ (List.mem_of_getElem? (i := 1) rfl)) (hw _ (List.mem_of_getElem? (i := 2) rfl)) e0 (g := (mkF m 0 #[.val (.int p0), .val (.long q1), .second, .val (.int p2), .val (.int p3), .val (.long q4), .second, .unset, .unset, .unset, .unset, .unset] [])) rfl (hb hby at_0) (by decide) (by decide)
  obtain ⟨b1, g1⟩ : ∃ z, z = h0.size := ⟨_, rfl⟩
  rw [← g1] at A1 D1 st1
  have nw_b1 : n0 ≤ b1 := Nat.le_trans (Nat.le_trans Z0 (Keep.refl h0 []).1) (Nat.le_of_eq g1.symm)
  have sz_b1 : h0.size ≤ b1 := Nat.le_trans (Keep.refl h0 []).1 (Nat.le_of_eq g1.symm)
  have K1 : Keep h0 h1 [] := (Keep.refl h0 []).ext E1
  have F_consumerGroup_b1 : Fld Z h1 b1 "com/example/commitlog/commitlog/model/PullRequest" "consumerGroup" "Ljava/lang/String;" .null := D1 (Or.inr (hw _ (List.mem_of_getElem? (i := 26) rfl))) (ty := (.object "java/lang/String")) (by decide)
  have F_topic_b1 : Fld Z h1 b1 "com/example/commitlog/commitlog/model/PullRequest" "topic" "Ljava/lang/String;" .null := D1 (Or.inr (hw _ (List.mem_of_getElem? (i := 28) rfl))) (ty := (.object "java/lang/String")) (by decide)
  have F_queueId_b1 : Fld Z h1 b1 "com/example/commitlog/commitlog/model/PullRequest" "queueId" "I" (.int (0 : Int32)) := D1 (Or.inr (hw _ (List.mem_of_getElem? (i := 30) rfl))) (ty := .int) (by decide)
  have F_queueOffset_b1 : Fld Z h1 b1 "com/example/commitlog/commitlog/model/PullRequest" "queueOffset" "J" (.long (0 : Int64)) := D1 (Or.inr (hw _ (List.mem_of_getElem? (i := 32) rfl))) (ty := .long) (by decide)
  have F_maxMsgNums_b1 : Fld Z h1 b1 "com/example/commitlog/commitlog/model/PullRequest" "maxMsgNums" "I" (.int (0 : Int32)) := D1 (Or.inr (hw _ (List.mem_of_getElem? (i := 34) rfl))) (ty := .int) (by decide)
  have F_sysFlag_b1 : Fld Z h1 b1 "com/example/commitlog/commitlog/model/PullRequest" "sysFlag" "I" (.int (0 : Int32)) := D1 (Or.inr (hw _ (List.mem_of_getElem? (i := 36) rfl))) (ty := .int) (by decide)
  have F_commitOffset_b1 : Fld Z h1 b1 "com/example/commitlog/commitlog/model/PullRequest" "commitOffset" "J" (.long (0 : Int64)) := D1 (Or.inr (hw _ (List.mem_of_getElem? (i := 38) rfl))) (ty := .long) (by decide)
  have F_suspendTimeoutMillis_b1 : Fld Z h1 b1 "com/example/commitlog/commitlog/model/PullRequest" "suspendTimeoutMillis" "J" (.long (0 : Int64)) := D1 (Or.inr (hw _ (List.mem_of_getElem? (i := 40) rfl))) (ty := .long) (by decide)
  have F_subscription_b1 : Fld Z h1 b1 "com/example/commitlog/commitlog/model/PullRequest" "subscription" "Ljava/lang/String;" .null := D1 (Or.inr (hw _ (List.mem_of_getElem? (i := 42) rfl))) (ty := (.object "java/lang/String")) (by decide)
  have F_subVersion_b1 : Fld Z h1 b1 "com/example/commitlog/commitlog/model/PullRequest" "subVersion" "J" (.long (0 : Int64)) := D1 (Or.inr (hw _ (List.mem_of_getElem? (i := 44) rfl))) (ty := .long) (by decide)
  have F_expressionType_b1 : Fld Z h1 b1 "com/example/commitlog/commitlog/model/PullRequest" "expressionType" "Ljava/lang/String;" .null := D1 (Or.inr (hw _ (List.mem_of_getElem? (i := 46) rfl))) (ty := (.object "java/lang/String")) (by decide)
  have wS : ∀ d ∈ Bundle.stringAtoms, d.before A0 Z = true := by
    intro d hd
    simp only [Bundle.stringAtoms, List.mem_cons, List.not_mem_nil, or_false] at hd
    rcases hd with rfl | rfl | rfl | rfl | rfl | rfl | rfl
    · exact (hw _ (List.mem_of_getElem? (i := 4) rfl))
    · exact (hw _ (List.mem_of_getElem? (i := 5) rfl))
    · exact (hw _ (List.mem_of_getElem? (i := 6) rfl))
    · exact (hw _ (List.mem_of_getElem? (i := 7) rfl))
    · exact (hw _ (List.mem_of_getElem? (i := 8) rfl))
    · exact (hw _ (List.mem_of_getElem? (i := 9) rfl))
    · exact (hw _ (List.mem_of_getElem? (i := 10) rfl))
  have SI0 : s.Since s.vm 0 := State.WarmedH.since (State.WarmedH.refl s) 0
  have X2 : Stand p l e room_1 (s.setVm s.vm) m #[(.int p0), (.long q1), (.int p2), (.int p3), (.long q4)] below meth c T1 _ 1 11 := X1
  have LE0 : 0 ≤ h1.size := Nat.zero_le _
  obtain ⟨as3, T3, h3, k3, X3, e3, E3, SI3, LE3, hZ3, hown3, st3⟩ := ldcS X2 hx hZ hown (hw _ (List.mem_of_getElem? (i := 3) rfl)) wS e1 SI0 LE0 (g := (mkF m 4 #[.val (.int p0), .val (.long q1), .second, .val (.int p2), .val (.int p3), .val (.long q4), .second, .unset, .unset, .unset, .unset, .unset] [(.ref b1), (.ref b1)])) rfl (hb hby at_4) (n := 4) (by decide) (by decide) (by decide) (by decide)
  have K3 : Keep h0 h3 [] := K1.ext E3
  obtain ⟨as4, T4, h4, k4, X4, e4, E4, SI4, LE4, hZ4, hown4, st4⟩ := ldcS X3 hx hZ3 hown3 (hw _ (List.mem_of_getElem? (i := 11) rfl)) wS e3 SI3 LE3 (g := (mkF m 6 #[.val (.int p0), .val (.long q1), .second, .val (.int p2), .val (.int p3), .val (.long q4), .second, .unset, .unset, .unset, .unset, .unset] [(.ref as3), (.ref b1), (.ref b1)])) rfl (hb hby at_6) (n := 4) (by decide) (by decide) (by decide) (by decide)
  have K4 : Keep h0 h4 [] := K3.ext E4
  obtain ⟨as5, T5, h5, k5, X5, e5, E5, SI5, LE5, hZ5, hown5, st5⟩ := ldcS X4 hx hZ4 hown4 (hw _ (List.mem_of_getElem? (i := 12) rfl)) wS e4 SI4 LE4 (g := (mkF m 18 #[.val (.int p0), .val (.long q1), .second, .val (.int p2), .val (.int p3), .val (.long q4), .second, .unset, .unset, .unset, .unset, .unset] [(.long q4), (.long q1), (.int p0), (.int p3), (.long q4), (.int p3), (.ref as4), (.ref as3), (.ref b1), (.ref b1)])) rfl (hb hby at_18) (n := 4) (by decide) (by decide) (by decide) (by decide)
  have K5 : Keep h0 h5 [] := K4.ext E5
  obtain ⟨as6, T6, h6, k6, X6, e6, E6, SI6, LE6, hZ6, hown6, st6⟩ := ldcS X5 hx hZ5 hown5 (hw _ (List.mem_of_getElem? (i := 13) rfl)) wS e5 SI5 LE5 (g := (mkF m 22 #[.val (.int p0), .val (.long q1), .second, .val (.int p2), .val (.int p3), .val (.long q4), .second, .unset, .unset, .unset, .unset, .unset] [(.long q4), (.ref as5), (.long q4), (.long q1), (.int p0), (.int p3), (.long q4), (.int p3), (.ref as4), (.ref as3), (.ref b1), (.ref b1)])) rfl (hb hby at_22) (n := 12) (by decide) (by decide) (by decide) (by decide)
  have K6 : Keep h0 h6 [] := K5.ext E6
  have G7 : Exa Z h6 b1 "com/example/commitlog/commitlog/model/PullRequest" := ((((A1.ext E3).ext E4).ext E5).ext E6)
  have G8 : Fld Z h6 b1 "com/example/commitlog/commitlog/model/PullRequest" "consumerGroup" "Ljava/lang/String;" .null := ((((F_consumerGroup_b1.ext E3).ext E4).ext E5).ext E6)
  have G9 : Fld Z h6 b1 "com/example/commitlog/commitlog/model/PullRequest" "topic" "Ljava/lang/String;" .null := ((((F_topic_b1.ext E3).ext E4).ext E5).ext E6)
  have G10 : Fld Z h6 b1 "com/example/commitlog/commitlog/model/PullRequest" "queueId" "I" (.int (0 : Int32)) := ((((F_queueId_b1.ext E3).ext E4).ext E5).ext E6)
  have G11 : Fld Z h6 b1 "com/example/commitlog/commitlog/model/PullRequest" "queueOffset" "J" (.long (0 : Int64)) := ((((F_queueOffset_b1.ext E3).ext E4).ext E5).ext E6)
  have G12 : Fld Z h6 b1 "com/example/commitlog/commitlog/model/PullRequest" "maxMsgNums" "I" (.int (0 : Int32)) := ((((F_maxMsgNums_b1.ext E3).ext E4).ext E5).ext E6)
  have G13 : Fld Z h6 b1 "com/example/commitlog/commitlog/model/PullRequest" "sysFlag" "I" (.int (0 : Int32)) := ((((F_sysFlag_b1.ext E3).ext E4).ext E5).ext E6)
  have G14 : Fld Z h6 b1 "com/example/commitlog/commitlog/model/PullRequest" "commitOffset" "J" (.long (0 : Int64)) := ((((F_commitOffset_b1.ext E3).ext E4).ext E5).ext E6)
  have G15 : Fld Z h6 b1 "com/example/commitlog/commitlog/model/PullRequest" "suspendTimeoutMillis" "J" (.long (0 : Int64)) := ((((F_suspendTimeoutMillis_b1.ext E3).ext E4).ext E5).ext E6)
  have G16 : Fld Z h6 b1 "com/example/commitlog/commitlog/model/PullRequest" "subscription" "Ljava/lang/String;" .null := ((((F_subscription_b1.ext E3).ext E4).ext E5).ext E6)
  have G17 : Fld Z h6 b1 "com/example/commitlog/commitlog/model/PullRequest" "subVersion" "J" (.long (0 : Int64)) := ((((F_subVersion_b1.ext E3).ext E4).ext E5).ext E6)
  have G18 : Fld Z h6 b1 "com/example/commitlog/commitlog/model/PullRequest" "expressionType" "Ljava/lang/String;" .null := ((((F_expressionType_b1.ext E3).ext E4).ext E5).ext E6)
  obtain ⟨_, _, ⟨T19, L19, k19, n19⟩, -, X19, ⟨Lc19, hQ19, l19, y19, z19⟩, st19⟩ := X6.specialBack hx (y := (⟨"com/example/commitlog/commitlog/model/PullRequest", "<init>", "(Ljava/lang/String;Ljava/lang/String;IJIIJJLjava/lang/String;JLjava/lang/String;)V"⟩ : MethodName)) rfl hown6 (mvT hZ6 (hw _ (List.mem_of_getElem? (i := 14) rfl))) (mvT hZ6 (hw _ (List.mem_of_getElem? (i := 15) rfl))) (mvT hZ6 (hw _ (List.mem_of_getElem? (i := 16) rfl))) (by decide) (backOf (W := 1) (rm1 l Z A0 hw [] b1 as3 as4 p3 q4 p3 p0 q1 q4 as5 q4 as6 .null .null (0 : Int32) (0 : Int64) (0 : Int32) (0 : Int32) (0 : Int64) (0 : Int64) .null (0 : Int64) .null h6 n0 (Nat.le_trans Z0 K6.1) G7 G8 G9 G10 G11 G12 G13 G14 G15 G16 G17 G18 nw_b1) hZ6 (hw _ (List.mem_of_getElem? (i := 16) rfl)) (hw _ (List.mem_of_getElem? (i := 2) rfl)) (by decide) (by decide)) (g := (mkF m 24 #[.val (.int p0), .val (.long q1), .second, .val (.int p2), .val (.int p3), .val (.long q4), .second, .unset, .unset, .unset, .unset, .unset] [(.ref as6), (.long q4), (.ref as5), (.long q4), (.long q1), (.int p0), (.int p3), (.long q4), (.int p3), (.ref as4), (.ref as3), (.ref b1), (.ref b1)])) rfl (by rw [hml]; rfl) (Steps.refl _) (a := b1) (argsL := [(.ref as3), (.ref as4), (.int p3), (.long q4), (.int p3), (.int p0), (.long q1), (.long q4), (.ref as5), (.long q4), (.ref as6)]) (rest := [(.ref b1)]) (lenOf pd_0 rfl) rfl (by show 2 * 0 + _ ≤ _; exact Nat.le_of_eq rfl) (hb hby at_24) (fun _ _ => ⟨rfl, e6, (by decide : 9 + 0 ≤ _), (by decide : 51 + 0 ≤ _)⟩)
  dsimp only [Pt.U, Pt.locs, Pt.cells, Pt.slots] at X19 l19 y19 z19 st19 hQ19
  subst l19 y19 z19
  obtain ⟨rfl, N19q, Kc19, P20, P21, P22, P23, P24, P25, P26, P27, P28, P29, P30, P31⟩ := hQ19
  have K19 : Keep h0 T19.heap [] := K6.trans Kc19 (allS (Or.inr sz_b1) all0)
  have N19 := Fr.app N0 N19q
  obtain ⟨T32, h32, X32, e32, E32, A32, D32, -, st32⟩ := newO X19 hx hZ6 hown6 (hw _ (List.mem_of_getElem? (i := 0) rfl)) (hw _ (List.mem_of_getElem? (i := 1) rfl)) (hw _ (List.mem_of_getElem? (i := 2) rfl)) rfl (g := (mkF m 29 #[.val (.int p0), .val (.long q1), .second, .val (.int p2), .val (.int p3), .val (.long q4), .second, .val (.ref b1), .unset, .unset, .unset, .unset] [])) rfl (hb hby at_29) (by decide) (by decide)
  obtain ⟨b32, g32⟩ : ∃ z, z = T19.heap.size := ⟨_, rfl⟩
  rw [← g32] at A32 D32 st32
  have ne_b1_b32 : b1 ≠ b32 := Nat.ne_of_lt (Nat.lt_of_lt_of_le P20.lt (Nat.le_of_eq g32.symm))
  have nw_b32 : n0 ≤ b32 := Nat.le_trans (Nat.le_trans Z0 K19.1) (Nat.le_of_eq g32.symm)
  have sz_b32 : h0.size ≤ b32 := Nat.le_trans K19.1 (Nat.le_of_eq g32.symm)
  have K32 : Keep h0 h32 [] := K19.ext E32
  have F_consumerGroup_b32 : Fld Z h32 b32 "com/example/commitlog/commitlog/model/PullRequest" "consumerGroup" "Ljava/lang/String;" .null := D32 (Or.inr (hw _ (List.mem_of_getElem? (i := 26) rfl))) (ty := (.object "java/lang/String")) (by decide)
  have F_topic_b32 : Fld Z h32 b32 "com/example/commitlog/commitlog/model/PullRequest" "topic" "Ljava/lang/String;" .null := D32 (Or.inr (hw _ (List.mem_of_getElem? (i := 28) rfl))) (ty := (.object "java/lang/String")) (by decide)
  have F_queueId_b32 : Fld Z h32 b32 "com/example/commitlog/commitlog/model/PullRequest" "queueId" "I" (.int (0 : Int32)) := D32 (Or.inr (hw _ (List.mem_of_getElem? (i := 30) rfl))) (ty := .int) (by decide)
  have F_queueOffset_b32 : Fld Z h32 b32 "com/example/commitlog/commitlog/model/PullRequest" "queueOffset" "J" (.long (0 : Int64)) := D32 (Or.inr (hw _ (List.mem_of_getElem? (i := 32) rfl))) (ty := .long) (by decide)
  have F_maxMsgNums_b32 : Fld Z h32 b32 "com/example/commitlog/commitlog/model/PullRequest" "maxMsgNums" "I" (.int (0 : Int32)) := D32 (Or.inr (hw _ (List.mem_of_getElem? (i := 34) rfl))) (ty := .int) (by decide)
  have F_sysFlag_b32 : Fld Z h32 b32 "com/example/commitlog/commitlog/model/PullRequest" "sysFlag" "I" (.int (0 : Int32)) := D32 (Or.inr (hw _ (List.mem_of_getElem? (i := 36) rfl))) (ty := .int) (by decide)
  have F_commitOffset_b32 : Fld Z h32 b32 "com/example/commitlog/commitlog/model/PullRequest" "commitOffset" "J" (.long (0 : Int64)) := D32 (Or.inr (hw _ (List.mem_of_getElem? (i := 38) rfl))) (ty := .long) (by decide)
  have F_suspendTimeoutMillis_b32 : Fld Z h32 b32 "com/example/commitlog/commitlog/model/PullRequest" "suspendTimeoutMillis" "J" (.long (0 : Int64)) := D32 (Or.inr (hw _ (List.mem_of_getElem? (i := 40) rfl))) (ty := .long) (by decide)
  have F_subscription_b32 : Fld Z h32 b32 "com/example/commitlog/commitlog/model/PullRequest" "subscription" "Ljava/lang/String;" .null := D32 (Or.inr (hw _ (List.mem_of_getElem? (i := 42) rfl))) (ty := (.object "java/lang/String")) (by decide)
  have F_subVersion_b32 : Fld Z h32 b32 "com/example/commitlog/commitlog/model/PullRequest" "subVersion" "J" (.long (0 : Int64)) := D32 (Or.inr (hw _ (List.mem_of_getElem? (i := 44) rfl))) (ty := .long) (by decide)
  have F_expressionType_b32 : Fld Z h32 b32 "com/example/commitlog/commitlog/model/PullRequest" "expressionType" "Ljava/lang/String;" .null := D32 (Or.inr (hw _ (List.mem_of_getElem? (i := 46) rfl))) (ty := (.object "java/lang/String")) (by decide)
  have G33 : k6 ≤ h32.size := (Nat.le_trans (Nat.le_trans LE6 Kc19.1) E32.1)
  obtain ⟨as34, T34, h34, k34, X34, e34, E34, SI34, LE34, hZ34, hown34, st34⟩ := ldcS X32 hx hZ6 hown6 (hw _ (List.mem_of_getElem? (i := 3) rfl)) wS e32 SI6 G33 (g := (mkF m 33 #[.val (.int p0), .val (.long q1), .second, .val (.int p2), .val (.int p3), .val (.long q4), .second, .val (.ref b1), .unset, .unset, .unset, .unset] [(.ref b32), (.ref b32)])) rfl (hb hby at_33) (n := 4) (by decide) (by decide) (by decide) (by decide)
  have K34 : Keep h0 h34 [] := K32.ext E34
  obtain ⟨as35, T35, h35, k35, X35, e35, E35, SI35, LE35, hZ35, hown35, st35⟩ := ldcS X34 hx hZ34 hown34 (hw _ (List.mem_of_getElem? (i := 11) rfl)) wS e34 SI34 LE34 (g := (mkF m 35 #[.val (.int p0), .val (.long q1), .second, .val (.int p2), .val (.int p3), .val (.long q4), .second, .val (.ref b1), .unset, .unset, .unset, .unset] [(.ref as34), (.ref b32), (.ref b32)])) rfl (hb hby at_35) (n := 4) (by decide) (by decide) (by decide) (by decide)
  have K35 : Keep h0 h35 [] := K34.ext E35
  obtain ⟨as36, T36, h36, k36, X36, e36, E36, SI36, LE36, hZ36, hown36, st36⟩ := ldcS X35 hx hZ35 hown35 (hw _ (List.mem_of_getElem? (i := 12) rfl)) wS e35 SI35 LE35 (g := (mkF m 51 #[.val (.int p0), .val (.long q1), .second, .val (.int p2), .val (.int p3), .val (.long q4), .second, .val (.ref b1), .unset, .unset, .unset, .unset] [(.long (p3.toInt64)), (.long q1), (.int (p0 ^^^ (p2 &&& (-2 : Int32)))), (.int p3), (.long q1), (.int p2), (.ref as35), (.ref as34), (.ref b32), (.ref b32)])) rfl (hb hby at_51) (n := 4) (by decide) (by decide) (by decide) (by decide)
  have K36 : Keep h0 h36 [] := K35.ext E36
  obtain ⟨as37, T37, h37, k37, X37, e37, E37, SI37, LE37, hZ37, hown37, st37⟩ := ldcS X36 hx hZ36 hown36 (hw _ (List.mem_of_getElem? (i := 13) rfl)) wS e36 SI36 LE36 (g := (mkF m 54 #[.val (.int p0), .val (.long q1), .second, .val (.int p2), .val (.int p3), .val (.long q4), .second, .val (.ref b1), .unset, .unset, .unset, .unset] [(.long q1), (.ref as36), (.long (p3.toInt64)), (.long q1), (.int (p0 ^^^ (p2 &&& (-2 : Int32)))), (.int p3), (.long q1), (.int p2), (.ref as35), (.ref as34), (.ref b32), (.ref b32)])) rfl (hb hby at_54) (n := 12) (by decide) (by decide) (by decide) (by decide)
  have K37 : Keep h0 h37 [] := K36.ext E37
  have G38 : Exa Z h37 b32 "com/example/commitlog/commitlog/model/PullRequest" := ((((A32.ext E34).ext E35).ext E36).ext E37)
  have G39 : Fld Z h37 b32 "com/example/commitlog/commitlog/model/PullRequest" "consumerGroup" "Ljava/lang/String;" .null := ((((F_consumerGroup_b32.ext E34).ext E35).ext E36).ext E37)
  have G40 : Fld Z h37 b32 "com/example/commitlog/commitlog/model/PullRequest" "topic" "Ljava/lang/String;" .null := ((((F_topic_b32.ext E34).ext E35).ext E36).ext E37)
  have G41 : Fld Z h37 b32 "com/example/commitlog/commitlog/model/PullRequest" "queueId" "I" (.int (0 : Int32)) := ((((F_queueId_b32.ext E34).ext E35).ext E36).ext E37)
  have G42 : Fld Z h37 b32 "com/example/commitlog/commitlog/model/PullRequest" "queueOffset" "J" (.long (0 : Int64)) := ((((F_queueOffset_b32.ext E34).ext E35).ext E36).ext E37)
  have G43 : Fld Z h37 b32 "com/example/commitlog/commitlog/model/PullRequest" "maxMsgNums" "I" (.int (0 : Int32)) := ((((F_maxMsgNums_b32.ext E34).ext E35).ext E36).ext E37)
  have G44 : Fld Z h37 b32 "com/example/commitlog/commitlog/model/PullRequest" "sysFlag" "I" (.int (0 : Int32)) := ((((F_sysFlag_b32.ext E34).ext E35).ext E36).ext E37)
  have G45 : Fld Z h37 b32 "com/example/commitlog/commitlog/model/PullRequest" "commitOffset" "J" (.long (0 : Int64)) := ((((F_commitOffset_b32.ext E34).ext E35).ext E36).ext E37)
  have G46 : Fld Z h37 b32 "com/example/commitlog/commitlog/model/PullRequest" "suspendTimeoutMillis" "J" (.long (0 : Int64)) := ((((F_suspendTimeoutMillis_b32.ext E34).ext E35).ext E36).ext E37)
  have G47 : Fld Z h37 b32 "com/example/commitlog/commitlog/model/PullRequest" "subscription" "Ljava/lang/String;" .null := ((((F_subscription_b32.ext E34).ext E35).ext E36).ext E37)
  have G48 : Fld Z h37 b32 "com/example/commitlog/commitlog/model/PullRequest" "subVersion" "J" (.long (0 : Int64)) := ((((F_subVersion_b32.ext E34).ext E35).ext E36).ext E37)
  have G49 : Fld Z h37 b32 "com/example/commitlog/commitlog/model/PullRequest" "expressionType" "Ljava/lang/String;" .null := ((((F_expressionType_b32.ext E34).ext E35).ext E36).ext E37)
  obtain ⟨_, _, ⟨T50, L50, k50, n50⟩, -, X50, ⟨Lc50, hQ50, l50, y50, z50⟩, st50⟩ := X37.specialBack hx (y := (⟨"com/example/commitlog/commitlog/model/PullRequest", "<init>", "(Ljava/lang/String;Ljava/lang/String;IJIIJJLjava/lang/String;JLjava/lang/String;)V"⟩ : MethodName)) rfl hown37 (mvT hZ37 (hw _ (List.mem_of_getElem? (i := 14) rfl))) (mvT hZ37 (hw _ (List.mem_of_getElem? (i := 15) rfl))) (mvT hZ37 (hw _ (List.mem_of_getElem? (i := 16) rfl))) (by decide) (backOf (W := 1) (rm1 l Z A0 hw [] b32 as34 as35 p2 q1 p3 (p0 ^^^ (p2 &&& (-2 : Int32))) q1 (p3.toInt64) as36 q1 as37 .null .null (0 : Int32) (0 : Int64) (0 : Int32) (0 : Int32) (0 : Int64) (0 : Int64) .null (0 : Int64) .null h37 n0 (Nat.le_trans Z0 K37.1) G38 G39 G40 G41 G42 G43 G44 G45 G46 G47 G48 G49 nw_b32) hZ37 (hw _ (List.mem_of_getElem? (i := 16) rfl)) (hw _ (List.mem_of_getElem? (i := 2) rfl)) (by decide) (by decide)) (g := (mkF m 56 #[.val (.int p0), .val (.long q1), .second, .val (.int p2), .val (.int p3), .val (.long q4), .second, .val (.ref b1), .unset, .unset, .unset, .unset] [(.ref as37), (.long q1), (.ref as36), (.long (p3.toInt64)), (.long q1), (.int (p0 ^^^ (p2 &&& (-2 : Int32)))), (.int p3), (.long q1), (.int p2), (.ref as35), (.ref as34), (.ref b32), (.ref b32)])) rfl (by rw [hml]; rfl) (Steps.refl _) (a := b32) (argsL := [(.ref as34), (.ref as35), (.int p2), (.long q1), (.int p3), (.int (p0 ^^^ (p2 &&& (-2 : Int32)))), (.long q1), (.long (p3.toInt64)), (.ref as36), (.long q1), (.ref as37)]) (rest := [(.ref b32)]) (lenOf pd_0 rfl) rfl (by show 2 * 0 + _ ≤ _; exact Nat.le_of_eq rfl) (hb hby at_56) (fun _ _ => ⟨rfl, e37, (by decide : 18 + 0 ≤ _), (by decide : 102 + 0 ≤ _)⟩)
  dsimp only [Pt.U, Pt.locs, Pt.cells, Pt.slots] at X50 l50 y50 z50 st50 hQ50
  subst l50 y50 z50
  obtain ⟨rfl, N50q, Kc50, P51, P52, P53, P54, P55, P56, P57, P58, P59, P60, P61, P62⟩ := hQ50
  have K50 : Keep h0 T50.heap [] := K37.trans Kc50 (allS (Or.inr sz_b32) all0)
  have N50 := Fr.app N19 N50q
  obtain ⟨v64, hv64⟩ : ∃ z : Int32, z = if (p0 % (2 : Int32)) = (0 : Int32) then (0 : Int32) else (1 : Int32) := ⟨_, rfl⟩
  obtain ⟨v66, hv66⟩ : ∃ z : Int32, z = if q1 < (0 : Int64) then (0 : Int32) else (1 : Int32) := ⟨_, rfl⟩
  obtain ⟨v69, hv69⟩ : ∃ z : Int32, z = if v66 = (0 : Int32) then (0 : Int32) else (1 : Int32) := ⟨_, rfl⟩
  obtain ⟨v70, hv70⟩ : ∃ z : Int32, z = if v64 = (0 : Int32) then (0 : Int32) else v69 := ⟨_, rfl⟩
  have G71 : Exa Z T50.heap b1 "com/example/commitlog/commitlog/model/PullRequest" := ((((((P20.ext E32).ext E34).ext E35).ext E36).ext E37).keep Kc50)
  have G72 : Fld Z T50.heap b1 "com/example/commitlog/commitlog/model/PullRequest" "consumerGroup" "Ljava/lang/String;" (.ref as3) := ((((((P21.ext E32).ext E34).ext E35).ext E36).ext E37).keep Kc50 (ninS ne_b1_b32 nin0))
  have G73 : Fld Z T50.heap b1 "com/example/commitlog/commitlog/model/PullRequest" "topic" "Ljava/lang/String;" (.ref as4) := ((((((P22.ext E32).ext E34).ext E35).ext E36).ext E37).keep Kc50 (ninS ne_b1_b32 nin0))
  have G74 : Fld Z T50.heap b1 "com/example/commitlog/commitlog/model/PullRequest" "queueId" "I" (.int p3) := ((((((P23.ext E32).ext E34).ext E35).ext E36).ext E37).keep Kc50 (ninS ne_b1_b32 nin0))
  have G75 : Fld Z T50.heap b1 "com/example/commitlog/commitlog/model/PullRequest" "queueOffset" "J" (.long q4) := ((((((P24.ext E32).ext E34).ext E35).ext E36).ext E37).keep Kc50 (ninS ne_b1_b32 nin0))
  have G76 : Fld Z T50.heap b1 "com/example/commitlog/commitlog/model/PullRequest" "maxMsgNums" "I" (.int p3) := ((((((P25.ext E32).ext E34).ext E35).ext E36).ext E37).keep Kc50 (ninS ne_b1_b32 nin0))
  have G77 : Fld Z T50.heap b1 "com/example/commitlog/commitlog/model/PullRequest" "sysFlag" "I" (.int p0) := ((((((P26.ext E32).ext E34).ext E35).ext E36).ext E37).keep Kc50 (ninS ne_b1_b32 nin0))
  have G78 : Fld Z T50.heap b1 "com/example/commitlog/commitlog/model/PullRequest" "commitOffset" "J" (.long q1) := ((((((P27.ext E32).ext E34).ext E35).ext E36).ext E37).keep Kc50 (ninS ne_b1_b32 nin0))
  have G79 : Fld Z T50.heap b1 "com/example/commitlog/commitlog/model/PullRequest" "suspendTimeoutMillis" "J" (.long q4) := ((((((P28.ext E32).ext E34).ext E35).ext E36).ext E37).keep Kc50 (ninS ne_b1_b32 nin0))
  have G80 : Fld Z T50.heap b1 "com/example/commitlog/commitlog/model/PullRequest" "subscription" "Ljava/lang/String;" (.ref as5) := ((((((P29.ext E32).ext E34).ext E35).ext E36).ext E37).keep Kc50 (ninS ne_b1_b32 nin0))
  have G81 : Fld Z T50.heap b1 "com/example/commitlog/commitlog/model/PullRequest" "subVersion" "J" (.long q4) := ((((((P30.ext E32).ext E34).ext E35).ext E36).ext E37).keep Kc50 (ninS ne_b1_b32 nin0))
  have G82 : Fld Z T50.heap b1 "com/example/commitlog/commitlog/model/PullRequest" "expressionType" "Ljava/lang/String;" (.ref as6) := ((((((P31.ext E32).ext E34).ext E35).ext E36).ext E37).keep Kc50 (ninS ne_b1_b32 nin0))
  obtain ⟨cq83, kq83, q83a, q83b, q83c⟩ := isOf hZ37 rfl G71
  obtain ⟨_, _, ⟨T83, L83, k83, n83⟩, -, X83, ⟨Lc83, hQ83, l83, y83, z83⟩, st83⟩ := X50.virtualBack hx (y := (⟨"com/example/commitlog/commitlog/model/PullRequest", "commitsOffset", "()Z"⟩ : MethodName)) (z := (⟨"com/example/commitlog/commitlog/model/PullRequest", "commitsOffset", "()Z"⟩ : MethodName)) hown37 (mvT hZ37 (hw _ (List.mem_of_getElem? (i := 47) rfl))) (mvT hZ37 (hw _ (List.mem_of_getElem? (i := 48) rfl))) (notFace_of_selects (args := #[]) (mvT hZ37 (hw _ (List.mem_of_getElem? (i := 50) rfl)))) (mvT hZ37 (hw _ (List.mem_of_getElem? (i := 50) rfl))) (mvT hZ37 (hw _ (List.mem_of_getElem? (i := 49) rfl))) (by decide) (backOf (W := 0) (rm4 l Z A0 hw [] b1 (.ref as3) (.ref as4) p3 q4 p3 p0 q1 q4 (.ref as5) q4 (.ref as6) T50.heap n0 (Nat.le_trans Z0 K50.1) G71 G72 G73 G74 G75 G76 G77 G78 G79 G80 G81 G82) hZ37 (hw _ (List.mem_of_getElem? (i := 51) rfl)) (hw _ (List.mem_of_getElem? (i := 2) rfl)) (by decide) (by decide)) q83a q83c (g := (mkF m 106 #[.val (.int p0), .val (.long q1), .second, .val (.int p2), .val (.int p3), .val (.long q4), .second, .val (.ref b1), .val (.ref b32), .val (.int v64), .val (.int v66), .val (.int v70)] [(.ref b1)])) rfl (by rw [hml]; rfl) (Steps.refl _) (argsL := []) (rest := []) (lenOf pd_2 rfl) rfl (by show 2 * 0 + _ ≤ _; exact Nat.le_of_eq rfl) (hb hby at_106) (fun _ _ => ⟨rfl, rfl, (by decide : 18 + 0 ≤ _), (by decide : 102 + 0 ≤ _)⟩)
  dsimp only [Pt.U, Pt.locs, Pt.cells, Pt.slots] at X83 l83 y83 z83 st83 hQ83
  subst l83 y83 z83
  obtain ⟨rfl, N83q, e83⟩ := hQ83
  have N83 := Fr.app N50 N83q
  obtain ⟨v89, hv89⟩ : ∃ z : Int32, z = if (nar .boolean (if (p0 &&& (1 : Int32)) = (0 : Int32) then (0 : Int32) else (if q1 < (0 : Int64) then (0 : Int32) else (1 : Int32)))) = v70 then (if (nar .boolean (if ((p0 ^^^ (p2 &&& (-2 : Int32))) &&& (1 : Int32)) = (0 : Int32) then (0 : Int32) else (if q1 < (0 : Int64) then (0 : Int32) else (1 : Int32)))) = v70 then (1 : Int32) else (0 : Int32)) else (0 : Int32) := ⟨_, rfl⟩
  obtain ⟨T90, L90, X90, N90, e90, st90⟩ : ∃ (T' : State) (L' : List Loc), Stand p l e room_1 (s.setVm T37.vm) m #[(.int p0), (.long q1), (.int p2), (.int p3), (.long q4)] below meth c T' L' 18 102 ∧ Fr n0 L' ∧ T'.heap = T50.heap ∧ ∀ target, Steps p.tables e below (T'.setTop (mkF m 129 #[.val (.int p0), .val (.long q1), .second, .val (.int p2), .val (.int p3), .val (.long q4), .second, .val (.ref b1), .val (.ref b32), .val (.int v64), .val (.int v66), .val (.int v70)] [(.int v89)])) target → Steps p.tables e below (T83.setTop (mkF m 111 #[.val (.int p0), .val (.long q1), .second, .val (.int p2), .val (.int p3), .val (.long q4), .second, .val (.ref b1), .val (.ref b32), .val (.int v64), .val (.int v66), .val (.int v70)] [(.int v70), (.int (nar .boolean (if (p0 &&& (1 : Int32)) = (0 : Int32) then (0 : Int32) else (if q1 < (0 : Int64) then (0 : Int32) else (1 : Int32)))))])) target := by
    by_cases hc85 : (nar .boolean (if (p0 &&& (1 : Int32)) = (0 : Int32) then (0 : Int32) else (if q1 < (0 : Int64) then (0 : Int32) else (1 : Int32)))) = v70
    · obtain ⟨cq86, kq86, q86a, q86b, q86c⟩ := isOf hZ37 e83 P51
      obtain ⟨_, _, ⟨T86, L86, k86, n86⟩, -, X86, ⟨Lc86, hQ86, l86, y86, z86⟩, st86⟩ := X83.virtualBack hx (y := (⟨"com/example/commitlog/commitlog/model/PullRequest", "commitsOffset", "()Z"⟩ : MethodName)) (z := (⟨"com/example/commitlog/commitlog/model/PullRequest", "commitsOffset", "()Z"⟩ : MethodName)) hown37 (mvT hZ37 (hw _ (List.mem_of_getElem? (i := 47) rfl))) (mvT hZ37 (hw _ (List.mem_of_getElem? (i := 48) rfl))) (notFace_of_selects (args := #[]) (mvT hZ37 (hw _ (List.mem_of_getElem? (i := 50) rfl)))) (mvT hZ37 (hw _ (List.mem_of_getElem? (i := 50) rfl))) (mvT hZ37 (hw _ (List.mem_of_getElem? (i := 49) rfl))) (by decide) (backOf (W := 0) (rm4 l Z A0 hw [] b32 (.ref as34) (.ref as35) p2 q1 p3 (p0 ^^^ (p2 &&& (-2 : Int32))) q1 (p3.toInt64) (.ref as36) q1 (.ref as37) T50.heap n0 (Nat.le_trans Z0 K50.1) P51 P52 P53 P54 P55 P56 P57 P58 P59 P60 P61 P62) hZ37 (hw _ (List.mem_of_getElem? (i := 51) rfl)) (hw _ (List.mem_of_getElem? (i := 2) rfl)) (by decide) (by decide)) q86a q86c (g := (mkF m 116 #[.val (.int p0), .val (.long q1), .second, .val (.int p2), .val (.int p3), .val (.long q4), .second, .val (.ref b1), .val (.ref b32), .val (.int v64), .val (.int v66), .val (.int v70)] [(.ref b32)])) rfl (by rw [hml]; rfl) (Steps.refl _) (argsL := []) (rest := []) (lenOf pd_2 rfl) rfl (by show 2 * 0 + _ ≤ _; exact Nat.le_of_eq rfl) (hb hby at_116) (fun _ _ => ⟨rfl, e83, (by decide : 18 + 0 ≤ _), (by decide : 102 + 0 ≤ _)⟩)
      dsimp only [Pt.U, Pt.locs, Pt.cells, Pt.slots] at X86 l86 y86 z86 st86 hQ86
      subst l86 y86 z86
      obtain ⟨rfl, N86q, e86⟩ := hQ86
      have N86 := Fr.app N83 N86q
      obtain ⟨v88, hv88⟩ : ∃ z : Int32, z = if (nar .boolean (if ((p0 ^^^ (p2 &&& (-2 : Int32))) &&& (1 : Int32)) = (0 : Int32) then (0 : Int32) else (if q1 < (0 : Int64) then (0 : Int32) else (1 : Int32)))) = v70 then (1 : Int32) else (0 : Int32) := ⟨_, rfl⟩
      refine ⟨T86, _, X86, N86, e86, fun target kt => ?_⟩
      show Steps p.tables e below (T83.setTop (mkF m 111 #[.val (.int p0), .val (.long q1), .second, .val (.int p2), .val (.int p3), .val (.long q4), .second, .val (.ref b1), .val (.ref b32), .val (.int v64), .val (.int v66), .val (.int v70)] [(.int v70), (.int (nar .boolean (if (p0 &&& (1 : Int32)) = (0 : Int32) then (0 : Int32) else (if q1 < (0 : Int64) then (0 : Int32) else (1 : Int32)))))])) _
      refine XS.icmpNo X83.here hx rfl (hb hby at_111) rfl (teq hc85).2 ?_
      show Steps p.tables e below (T83.setTop (mkF m 114 #[.val (.int p0), .val (.long q1), .second, .val (.int p2), .val (.int p3), .val (.long q4), .second, .val (.ref b1), .val (.ref b32), .val (.int v64), .val (.int v66), .val (.int v70)] [])) _
      refine XS.aload X83.here hx rfl (hb hby at_114) rfl rfl ?_
      show Steps p.tables e below (T83.setTop (mkF m 116 #[.val (.int p0), .val (.long q1), .second, .val (.int p2), .val (.int p3), .val (.long q4), .second, .val (.ref b1), .val (.ref b32), .val (.int v64), .val (.int v66), .val (.int v70)] [(.ref b32)])) _
      refine st86.trans ?_
      show Steps p.tables e below (T86.setTop (mkF m 119 #[.val (.int p0), .val (.long q1), .second, .val (.int p2), .val (.int p3), .val (.long q4), .second, .val (.ref b1), .val (.ref b32), .val (.int v64), .val (.int v66), .val (.int v70)] [(.int (nar .boolean (if ((p0 ^^^ (p2 &&& (-2 : Int32))) &&& (1 : Int32)) = (0 : Int32) then (0 : Int32) else (if q1 < (0 : Int64) then (0 : Int32) else (1 : Int32)))))])) _
      refine XS.iload X86.here hx rfl (hb hby at_119) rfl ?_
      show Steps p.tables e below (T86.setTop (mkF m 121 #[.val (.int p0), .val (.long q1), .second, .val (.int p2), .val (.int p3), .val (.long q4), .second, .val (.ref b1), .val (.ref b32), .val (.int v64), .val (.int v66), .val (.int v70)] [(.int v70), (.int (nar .boolean (if ((p0 ^^^ (p2 &&& (-2 : Int32))) &&& (1 : Int32)) = (0 : Int32) then (0 : Int32) else (if q1 < (0 : Int64) then (0 : Int32) else (1 : Int32)))))])) _
      refine own_dia (F := (mkF m 129 #[.val (.int p0), .val (.long q1), .second, .val (.int p2), .val (.int p3), .val (.long q4), .second, .val (.ref b1), .val (.ref b32), .val (.int v64), .val (.int v66), .val (.int v70)] [(.int v88)])) ?_ ?_
      · intro kt
        by_cases hc87 : (nar .boolean (if ((p0 ^^^ (p2 &&& (-2 : Int32))) &&& (1 : Int32)) = (0 : Int32) then (0 : Int32) else (if q1 < (0 : Int64) then (0 : Int32) else (1 : Int32)))) = v70
        · show Steps p.tables e below (T86.setTop (mkF m 121 #[.val (.int p0), .val (.long q1), .second, .val (.int p2), .val (.int p3), .val (.long q4), .second, .val (.ref b1), .val (.ref b32), .val (.int v64), .val (.int v66), .val (.int v70)] [(.int v70), (.int (nar .boolean (if ((p0 ^^^ (p2 &&& (-2 : Int32))) &&& (1 : Int32)) = (0 : Int32) then (0 : Int32) else (if q1 < (0 : Int64) then (0 : Int32) else (1 : Int32)))))])) _
          refine XS.icmpNo X86.here hx rfl (hb hby at_121) rfl (teq hc87).2 ?_
          show Steps p.tables e below (T86.setTop (mkF m 124 #[.val (.int p0), .val (.long q1), .second, .val (.int p2), .val (.int p3), .val (.long q4), .second, .val (.ref b1), .val (.ref b32), .val (.int v64), .val (.int v66), .val (.int v70)] [])) _
          refine XS.iconst X86.here hx rfl (hb hby at_124) ?_
          show Steps p.tables e below (T86.setTop (mkF m 125 #[.val (.int p0), .val (.long q1), .second, .val (.int p2), .val (.int p3), .val (.long q4), .second, .val (.ref b1), .val (.ref b32), .val (.int v64), .val (.int v66), .val (.int v70)] [(.int (1 : Int32))])) _
          refine XS.goto X86.here hx rfl (pc0 := 125) (pc' := 129) rfl (hb hby at_125) (by decide) (by decide) ?_
          exact castTop (by rw [hv88, if_pos hc87] <;> rfl) kt
        · show Steps p.tables e below (T86.setTop (mkF m 121 #[.val (.int p0), .val (.long q1), .second, .val (.int p2), .val (.int p3), .val (.long q4), .second, .val (.ref b1), .val (.ref b32), .val (.int v64), .val (.int v66), .val (.int v70)] [(.int v70), (.int (nar .boolean (if ((p0 ^^^ (p2 &&& (-2 : Int32))) &&& (1 : Int32)) = (0 : Int32) then (0 : Int32) else (if q1 < (0 : Int64) then (0 : Int32) else (1 : Int32)))))])) _
          refine XS.icmpYes X86.here hx rfl (pc0 := 121) (pc' := 128) rfl (hb hby at_121) rfl (feq hc87).2 (by decide) (by decide) ?_
          show Steps p.tables e below (T86.setTop (mkF m 128 #[.val (.int p0), .val (.long q1), .second, .val (.int p2), .val (.int p3), .val (.long q4), .second, .val (.ref b1), .val (.ref b32), .val (.int v64), .val (.int v66), .val (.int v70)] [])) _
          refine XS.iconst X86.here hx rfl (hb hby at_128) ?_
          exact castTop (by rw [hv88, if_neg hc87] <;> rfl) kt
      exact castTop (by subst hv88; rw [hv89, if_pos hc85] <;> rfl) kt
    · refine ⟨T83, _, X83, N83, e83, fun target kt => ?_⟩
      show Steps p.tables e below (T83.setTop (mkF m 111 #[.val (.int p0), .val (.long q1), .second, .val (.int p2), .val (.int p3), .val (.long q4), .second, .val (.ref b1), .val (.ref b32), .val (.int v64), .val (.int v66), .val (.int v70)] [(.int v70), (.int (nar .boolean (if (p0 &&& (1 : Int32)) = (0 : Int32) then (0 : Int32) else (if q1 < (0 : Int64) then (0 : Int32) else (1 : Int32)))))])) _
      refine XS.icmpYes X83.here hx rfl (pc0 := 111) (pc' := 128) rfl (hb hby at_111) rfl (feq hc85).2 (by decide) (by decide) ?_
      show Steps p.tables e below (T83.setTop (mkF m 128 #[.val (.int p0), .val (.long q1), .second, .val (.int p2), .val (.int p3), .val (.long q4), .second, .val (.ref b1), .val (.ref b32), .val (.int v64), .val (.int v66), .val (.int v70)] [])) _
      refine XS.iconst X83.here hx rfl (hb hby at_128) ?_
      exact castTop (by rw [hv89, if_neg hc85] <;> rfl) kt
  have G91 : k37 ≤ T50.heap.size := (Nat.le_trans LE37 Kc50.1)
  obtain ⟨fs, hr, hrun, hended, hRW⟩ := X90.leaveW SI37 (by rw [e90]; exact G91) (v := some (.int (nar .boolean v89))) (fun h => by rw [Bd.returns] at h; cases h)
  refine ⟨_, _, pre0 _ ?_, hrun, hended, _, _, rfl, ?_, hRW.1, hRW.2.1, hRW.2.2.1, hRW.2.2.2.mono (by decide) (by decide)⟩
  · show Steps p.tables e below (s₁.setTop (mkF m 0 #[.val (.int p0), .val (.long q1), .second, .val (.int p2), .val (.int p3), .val (.long q4), .second, .unset, .unset, .unset, .unset, .unset] [])) _
    refine st1 _ ?_
    show Steps p.tables e below (T1.setTop (mkF m 3 #[.val (.int p0), .val (.long q1), .second, .val (.int p2), .val (.int p3), .val (.long q4), .second, .unset, .unset, .unset, .unset, .unset] [(.ref b1)])) _
    refine XS.dup X1.here hx rfl (hb hby at_3) rfl rfl ?_
    show Steps p.tables e below (T1.setTop (mkF m 4 #[.val (.int p0), .val (.long q1), .second, .val (.int p2), .val (.int p3), .val (.long q4), .second, .unset, .unset, .unset, .unset, .unset] [(.ref b1), (.ref b1)])) _
    refine st3 _ ?_
    show Steps p.tables e below (T3.setTop (mkF m 6 #[.val (.int p0), .val (.long q1), .second, .val (.int p2), .val (.int p3), .val (.long q4), .second, .unset, .unset, .unset, .unset, .unset] [(.ref as3), (.ref b1), (.ref b1)])) _
    refine st4 _ ?_
    show Steps p.tables e below (T4.setTop (mkF m 8 #[.val (.int p0), .val (.long q1), .second, .val (.int p2), .val (.int p3), .val (.long q4), .second, .unset, .unset, .unset, .unset, .unset] [(.ref as4), (.ref as3), (.ref b1), (.ref b1)])) _
    refine XS.iload X4.here hx rfl (hb hby at_8) rfl ?_
    show Steps p.tables e below (T4.setTop (mkF m 10 #[.val (.int p0), .val (.long q1), .second, .val (.int p2), .val (.int p3), .val (.long q4), .second, .unset, .unset, .unset, .unset, .unset] [(.int p3), (.ref as4), (.ref as3), (.ref b1), (.ref b1)])) _
    refine XS.lload X4.here hx rfl (hb hby at_10) rfl ?_
    show Steps p.tables e below (T4.setTop (mkF m 12 #[.val (.int p0), .val (.long q1), .second, .val (.int p2), .val (.int p3), .val (.long q4), .second, .unset, .unset, .unset, .unset, .unset] [(.long q4), (.int p3), (.ref as4), (.ref as3), (.ref b1), (.ref b1)])) _
    refine XS.iload X4.here hx rfl (hb hby at_12) rfl ?_
    show Steps p.tables e below (T4.setTop (mkF m 14 #[.val (.int p0), .val (.long q1), .second, .val (.int p2), .val (.int p3), .val (.long q4), .second, .unset, .unset, .unset, .unset, .unset] [(.int p3), (.long q4), (.int p3), (.ref as4), (.ref as3), (.ref b1), (.ref b1)])) _
    refine XS.iloadN X4.here hx rfl (hb hby at_14) rfl ?_
    show Steps p.tables e below (T4.setTop (mkF m 15 #[.val (.int p0), .val (.long q1), .second, .val (.int p2), .val (.int p3), .val (.long q4), .second, .unset, .unset, .unset, .unset, .unset] [(.int p0), (.int p3), (.long q4), (.int p3), (.ref as4), (.ref as3), (.ref b1), (.ref b1)])) _
    refine XS.lloadN X4.here hx rfl (hb hby at_15) rfl ?_
    show Steps p.tables e below (T4.setTop (mkF m 16 #[.val (.int p0), .val (.long q1), .second, .val (.int p2), .val (.int p3), .val (.long q4), .second, .unset, .unset, .unset, .unset, .unset] [(.long q1), (.int p0), (.int p3), (.long q4), (.int p3), (.ref as4), (.ref as3), (.ref b1), (.ref b1)])) _
    refine XS.lload X4.here hx rfl (hb hby at_16) rfl ?_
    show Steps p.tables e below (T4.setTop (mkF m 18 #[.val (.int p0), .val (.long q1), .second, .val (.int p2), .val (.int p3), .val (.long q4), .second, .unset, .unset, .unset, .unset, .unset] [(.long q4), (.long q1), (.int p0), (.int p3), (.long q4), (.int p3), (.ref as4), (.ref as3), (.ref b1), (.ref b1)])) _
    refine st5 _ ?_
    show Steps p.tables e below (T5.setTop (mkF m 20 #[.val (.int p0), .val (.long q1), .second, .val (.int p2), .val (.int p3), .val (.long q4), .second, .unset, .unset, .unset, .unset, .unset] [(.ref as5), (.long q4), (.long q1), (.int p0), (.int p3), (.long q4), (.int p3), (.ref as4), (.ref as3), (.ref b1), (.ref b1)])) _
    refine XS.lload X5.here hx rfl (hb hby at_20) rfl ?_
    show Steps p.tables e below (T5.setTop (mkF m 22 #[.val (.int p0), .val (.long q1), .second, .val (.int p2), .val (.int p3), .val (.long q4), .second, .unset, .unset, .unset, .unset, .unset] [(.long q4), (.ref as5), (.long q4), (.long q1), (.int p0), (.int p3), (.long q4), (.int p3), (.ref as4), (.ref as3), (.ref b1), (.ref b1)])) _
    refine st6 _ ?_
    show Steps p.tables e below (T6.setTop (mkF m 24 #[.val (.int p0), .val (.long q1), .second, .val (.int p2), .val (.int p3), .val (.long q4), .second, .unset, .unset, .unset, .unset, .unset] [(.ref as6), (.long q4), (.ref as5), (.long q4), (.long q1), (.int p0), (.int p3), (.long q4), (.int p3), (.ref as4), (.ref as3), (.ref b1), (.ref b1)])) _
    refine st19.trans ?_
    show Steps p.tables e below (T19.setTop (mkF m 27 #[.val (.int p0), .val (.long q1), .second, .val (.int p2), .val (.int p3), .val (.long q4), .second, .unset, .unset, .unset, .unset, .unset] [(.ref b1)])) _
    refine XS.astore X19.here hx rfl (hb hby at_27) rfl rfl (l' := #[.val (.int p0), .val (.long q1), .second, .val (.int p2), .val (.int p3), .val (.long q4), .second, .val (.ref b1), .unset, .unset, .unset, .unset]) rfl ?_
    show Steps p.tables e below (T19.setTop (mkF m 29 #[.val (.int p0), .val (.long q1), .second, .val (.int p2), .val (.int p3), .val (.long q4), .second, .val (.ref b1), .unset, .unset, .unset, .unset] [])) _
    refine st32 _ ?_
    show Steps p.tables e below (T32.setTop (mkF m 32 #[.val (.int p0), .val (.long q1), .second, .val (.int p2), .val (.int p3), .val (.long q4), .second, .val (.ref b1), .unset, .unset, .unset, .unset] [(.ref b32)])) _
    refine XS.dup X32.here hx rfl (hb hby at_32) rfl rfl ?_
    show Steps p.tables e below (T32.setTop (mkF m 33 #[.val (.int p0), .val (.long q1), .second, .val (.int p2), .val (.int p3), .val (.long q4), .second, .val (.ref b1), .unset, .unset, .unset, .unset] [(.ref b32), (.ref b32)])) _
    refine st34 _ ?_
    show Steps p.tables e below (T34.setTop (mkF m 35 #[.val (.int p0), .val (.long q1), .second, .val (.int p2), .val (.int p3), .val (.long q4), .second, .val (.ref b1), .unset, .unset, .unset, .unset] [(.ref as34), (.ref b32), (.ref b32)])) _
    refine st35 _ ?_
    show Steps p.tables e below (T35.setTop (mkF m 37 #[.val (.int p0), .val (.long q1), .second, .val (.int p2), .val (.int p3), .val (.long q4), .second, .val (.ref b1), .unset, .unset, .unset, .unset] [(.ref as35), (.ref as34), (.ref b32), (.ref b32)])) _
    refine XS.iloadN X35.here hx rfl (hb hby at_37) rfl ?_
    show Steps p.tables e below (T35.setTop (mkF m 38 #[.val (.int p0), .val (.long q1), .second, .val (.int p2), .val (.int p3), .val (.long q4), .second, .val (.ref b1), .unset, .unset, .unset, .unset] [(.int p2), (.ref as35), (.ref as34), (.ref b32), (.ref b32)])) _
    refine XS.lloadN X35.here hx rfl (hb hby at_38) rfl ?_
    show Steps p.tables e below (T35.setTop (mkF m 39 #[.val (.int p0), .val (.long q1), .second, .val (.int p2), .val (.int p3), .val (.long q4), .second, .val (.ref b1), .unset, .unset, .unset, .unset] [(.long q1), (.int p2), (.ref as35), (.ref as34), (.ref b32), (.ref b32)])) _
    refine XS.iload X35.here hx rfl (hb hby at_39) rfl ?_
    show Steps p.tables e below (T35.setTop (mkF m 41 #[.val (.int p0), .val (.long q1), .second, .val (.int p2), .val (.int p3), .val (.long q4), .second, .val (.ref b1), .unset, .unset, .unset, .unset] [(.int p3), (.long q1), (.int p2), (.ref as35), (.ref as34), (.ref b32), (.ref b32)])) _
    refine XS.iloadN X35.here hx rfl (hb hby at_41) rfl ?_
    show Steps p.tables e below (T35.setTop (mkF m 42 #[.val (.int p0), .val (.long q1), .second, .val (.int p2), .val (.int p3), .val (.long q4), .second, .val (.ref b1), .unset, .unset, .unset, .unset] [(.int p0), (.int p3), (.long q1), (.int p2), (.ref as35), (.ref as34), (.ref b32), (.ref b32)])) _
    refine XS.iloadN X35.here hx rfl (hb hby at_42) rfl ?_
    show Steps p.tables e below (T35.setTop (mkF m 43 #[.val (.int p0), .val (.long q1), .second, .val (.int p2), .val (.int p3), .val (.long q4), .second, .val (.ref b1), .unset, .unset, .unset, .unset] [(.int p2), (.int p0), (.int p3), (.long q1), (.int p2), (.ref as35), (.ref as34), (.ref b32), (.ref b32)])) _
    refine XS.bipush X35.here hx rfl (hb hby at_43) ?_
    show Steps p.tables e below (T35.setTop (mkF m 45 #[.val (.int p0), .val (.long q1), .second, .val (.int p2), .val (.int p3), .val (.long q4), .second, .val (.ref b1), .unset, .unset, .unset, .unset] [(.int (-2 : Int32)), (.int p2), (.int p0), (.int p3), (.long q1), (.int p2), (.ref as35), (.ref as34), (.ref b32), (.ref b32)])) _
    refine XS.iand X35.here hx rfl (hb hby at_45) rfl ?_
    show Steps p.tables e below (T35.setTop (mkF m 46 #[.val (.int p0), .val (.long q1), .second, .val (.int p2), .val (.int p3), .val (.long q4), .second, .val (.ref b1), .unset, .unset, .unset, .unset] [(.int (p2 &&& (-2 : Int32))), (.int p0), (.int p3), (.long q1), (.int p2), (.ref as35), (.ref as34), (.ref b32), (.ref b32)])) _
    refine XS.ixor X35.here hx rfl (hb hby at_46) rfl ?_
    show Steps p.tables e below (T35.setTop (mkF m 47 #[.val (.int p0), .val (.long q1), .second, .val (.int p2), .val (.int p3), .val (.long q4), .second, .val (.ref b1), .unset, .unset, .unset, .unset] [(.int (p0 ^^^ (p2 &&& (-2 : Int32)))), (.int p3), (.long q1), (.int p2), (.ref as35), (.ref as34), (.ref b32), (.ref b32)])) _
    refine XS.lloadN X35.here hx rfl (hb hby at_47) rfl ?_
    show Steps p.tables e below (T35.setTop (mkF m 48 #[.val (.int p0), .val (.long q1), .second, .val (.int p2), .val (.int p3), .val (.long q4), .second, .val (.ref b1), .unset, .unset, .unset, .unset] [(.long q1), (.int (p0 ^^^ (p2 &&& (-2 : Int32)))), (.int p3), (.long q1), (.int p2), (.ref as35), (.ref as34), (.ref b32), (.ref b32)])) _
    refine XS.iload X35.here hx rfl (hb hby at_48) rfl ?_
    show Steps p.tables e below (T35.setTop (mkF m 50 #[.val (.int p0), .val (.long q1), .second, .val (.int p2), .val (.int p3), .val (.long q4), .second, .val (.ref b1), .unset, .unset, .unset, .unset] [(.int p3), (.long q1), (.int (p0 ^^^ (p2 &&& (-2 : Int32)))), (.int p3), (.long q1), (.int p2), (.ref as35), (.ref as34), (.ref b32), (.ref b32)])) _
    refine XS.i2l X35.here hx rfl (hb hby at_50) rfl ?_
    show Steps p.tables e below (T35.setTop (mkF m 51 #[.val (.int p0), .val (.long q1), .second, .val (.int p2), .val (.int p3), .val (.long q4), .second, .val (.ref b1), .unset, .unset, .unset, .unset] [(.long (p3.toInt64)), (.long q1), (.int (p0 ^^^ (p2 &&& (-2 : Int32)))), (.int p3), (.long q1), (.int p2), (.ref as35), (.ref as34), (.ref b32), (.ref b32)])) _
    refine st36 _ ?_
    show Steps p.tables e below (T36.setTop (mkF m 53 #[.val (.int p0), .val (.long q1), .second, .val (.int p2), .val (.int p3), .val (.long q4), .second, .val (.ref b1), .unset, .unset, .unset, .unset] [(.ref as36), (.long (p3.toInt64)), (.long q1), (.int (p0 ^^^ (p2 &&& (-2 : Int32)))), (.int p3), (.long q1), (.int p2), (.ref as35), (.ref as34), (.ref b32), (.ref b32)])) _
    refine XS.lloadN X36.here hx rfl (hb hby at_53) rfl ?_
    show Steps p.tables e below (T36.setTop (mkF m 54 #[.val (.int p0), .val (.long q1), .second, .val (.int p2), .val (.int p3), .val (.long q4), .second, .val (.ref b1), .unset, .unset, .unset, .unset] [(.long q1), (.ref as36), (.long (p3.toInt64)), (.long q1), (.int (p0 ^^^ (p2 &&& (-2 : Int32)))), (.int p3), (.long q1), (.int p2), (.ref as35), (.ref as34), (.ref b32), (.ref b32)])) _
    refine st37 _ ?_
    show Steps p.tables e below (T37.setTop (mkF m 56 #[.val (.int p0), .val (.long q1), .second, .val (.int p2), .val (.int p3), .val (.long q4), .second, .val (.ref b1), .unset, .unset, .unset, .unset] [(.ref as37), (.long q1), (.ref as36), (.long (p3.toInt64)), (.long q1), (.int (p0 ^^^ (p2 &&& (-2 : Int32)))), (.int p3), (.long q1), (.int p2), (.ref as35), (.ref as34), (.ref b32), (.ref b32)])) _
    refine st50.trans ?_
    show Steps p.tables e below (T50.setTop (mkF m 59 #[.val (.int p0), .val (.long q1), .second, .val (.int p2), .val (.int p3), .val (.long q4), .second, .val (.ref b1), .unset, .unset, .unset, .unset] [(.ref b32)])) _
    refine XS.astore X50.here hx rfl (hb hby at_59) rfl rfl (l' := #[.val (.int p0), .val (.long q1), .second, .val (.int p2), .val (.int p3), .val (.long q4), .second, .val (.ref b1), .val (.ref b32), .unset, .unset, .unset]) rfl ?_
    show Steps p.tables e below (T50.setTop (mkF m 61 #[.val (.int p0), .val (.long q1), .second, .val (.int p2), .val (.int p3), .val (.long q4), .second, .val (.ref b1), .val (.ref b32), .unset, .unset, .unset] [])) _
    refine XS.iloadN X50.here hx rfl (hb hby at_61) rfl ?_
    show Steps p.tables e below (T50.setTop (mkF m 62 #[.val (.int p0), .val (.long q1), .second, .val (.int p2), .val (.int p3), .val (.long q4), .second, .val (.ref b1), .val (.ref b32), .unset, .unset, .unset] [(.int p0)])) _
    refine XS.iconst X50.here hx rfl (hb hby at_62) ?_
    show Steps p.tables e below (T50.setTop (mkF m 63 #[.val (.int p0), .val (.long q1), .second, .val (.int p2), .val (.int p3), .val (.long q4), .second, .val (.ref b1), .val (.ref b32), .unset, .unset, .unset] [(.int (2 : Int32)), (.int p0)])) _
    refine iremM X50 hx rfl (hb hby at_63) rfl (by decide) ?_
    show Steps p.tables e below (T50.setTop (mkF m 64 #[.val (.int p0), .val (.long q1), .second, .val (.int p2), .val (.int p3), .val (.long q4), .second, .val (.ref b1), .val (.ref b32), .unset, .unset, .unset] [(.int (p0 % (2 : Int32)))])) _
    refine own_dia (F := (mkF m 72 #[.val (.int p0), .val (.long q1), .second, .val (.int p2), .val (.int p3), .val (.long q4), .second, .val (.ref b1), .val (.ref b32), .unset, .unset, .unset] [(.int v64)])) ?_ ?_
    · intro kt
      by_cases hc63 : (p0 % (2 : Int32)) = (0 : Int32)
      · show Steps p.tables e below (T50.setTop (mkF m 64 #[.val (.int p0), .val (.long q1), .second, .val (.int p2), .val (.int p3), .val (.long q4), .second, .val (.ref b1), .val (.ref b32), .unset, .unset, .unset] [(.int (p0 % (2 : Int32)))])) _
        refine XS.ifYes X50.here hx rfl (pc0 := 64) (pc' := 71) rfl (hb hby at_64) rfl ((if0 _ _).trans (teq hc63).1) (by decide) (by decide) ?_
        show Steps p.tables e below (T50.setTop (mkF m 71 #[.val (.int p0), .val (.long q1), .second, .val (.int p2), .val (.int p3), .val (.long q4), .second, .val (.ref b1), .val (.ref b32), .unset, .unset, .unset] [])) _
        refine XS.iconst X50.here hx rfl (hb hby at_71) ?_
        exact castTop (by rw [hv64, if_pos hc63] <;> rfl) kt
      · show Steps p.tables e below (T50.setTop (mkF m 64 #[.val (.int p0), .val (.long q1), .second, .val (.int p2), .val (.int p3), .val (.long q4), .second, .val (.ref b1), .val (.ref b32), .unset, .unset, .unset] [(.int (p0 % (2 : Int32)))])) _
        refine XS.ifNo X50.here hx rfl (hb hby at_64) rfl ((if0 _ _).trans (feq hc63).1) ?_
        show Steps p.tables e below (T50.setTop (mkF m 67 #[.val (.int p0), .val (.long q1), .second, .val (.int p2), .val (.int p3), .val (.long q4), .second, .val (.ref b1), .val (.ref b32), .unset, .unset, .unset] [])) _
        refine XS.iconst X50.here hx rfl (hb hby at_67) ?_
        show Steps p.tables e below (T50.setTop (mkF m 68 #[.val (.int p0), .val (.long q1), .second, .val (.int p2), .val (.int p3), .val (.long q4), .second, .val (.ref b1), .val (.ref b32), .unset, .unset, .unset] [(.int (1 : Int32))])) _
        refine XS.goto X50.here hx rfl (pc0 := 68) (pc' := 72) rfl (hb hby at_68) (by decide) (by decide) ?_
        exact castTop (by rw [hv64, if_neg hc63] <;> rfl) kt
    show Steps p.tables e below (T50.setTop (mkF m 72 #[.val (.int p0), .val (.long q1), .second, .val (.int p2), .val (.int p3), .val (.long q4), .second, .val (.ref b1), .val (.ref b32), .unset, .unset, .unset] [(.int v64)])) _
    refine XS.istore X50.here hx rfl (hb hby at_72) rfl (l' := #[.val (.int p0), .val (.long q1), .second, .val (.int p2), .val (.int p3), .val (.long q4), .second, .val (.ref b1), .val (.ref b32), .val (.int v64), .unset, .unset]) rfl ?_
    show Steps p.tables e below (T50.setTop (mkF m 74 #[.val (.int p0), .val (.long q1), .second, .val (.int p2), .val (.int p3), .val (.long q4), .second, .val (.ref b1), .val (.ref b32), .val (.int v64), .unset, .unset] [])) _
    refine XS.lloadN X50.here hx rfl (hb hby at_74) rfl ?_
    show Steps p.tables e below (T50.setTop (mkF m 75 #[.val (.int p0), .val (.long q1), .second, .val (.int p2), .val (.int p3), .val (.long q4), .second, .val (.ref b1), .val (.ref b32), .val (.int v64), .unset, .unset] [(.long q1)])) _
    refine XS.lconst X50.here hx rfl (hb hby at_75) ?_
    show Steps p.tables e below (T50.setTop (mkF m 76 #[.val (.int p0), .val (.long q1), .second, .val (.int p2), .val (.int p3), .val (.long q4), .second, .val (.ref b1), .val (.ref b32), .val (.int v64), .unset, .unset] [(.long (0 : Int64)), (.long q1)])) _
    refine XS.lcmp X50.here hx rfl (hb hby at_76) rfl ?_
    show Steps p.tables e below (T50.setTop (mkF m 77 #[.val (.int p0), .val (.long q1), .second, .val (.int p2), .val (.int p3), .val (.long q4), .second, .val (.ref b1), .val (.ref b32), .val (.int v64), .unset, .unset] [(.int (lcmpW q1 (0 : Int64)))])) _
    refine own_dia (F := (mkF m 85 #[.val (.int p0), .val (.long q1), .second, .val (.int p2), .val (.int p3), .val (.long q4), .second, .val (.ref b1), .val (.ref b32), .val (.int v64), .unset, .unset] [(.int v66)])) ?_ ?_
    · intro kt
      by_cases hc65 : q1 < (0 : Int64)
      · show Steps p.tables e below (T50.setTop (mkF m 77 #[.val (.int p0), .val (.long q1), .second, .val (.int p2), .val (.int p3), .val (.long q4), .second, .val (.ref b1), .val (.ref b32), .val (.int v64), .unset, .unset] [(.int (lcmpW q1 (0 : Int64)))])) _
        refine XS.ifYes X50.here hx rfl (pc0 := 77) (pc' := 84) rfl (hb hby at_77) rfl ((if0 _ _).trans (tlt ((lw_lt q1 (0 : Int64)).mpr hc65)).1) (by decide) (by decide) ?_
        show Steps p.tables e below (T50.setTop (mkF m 84 #[.val (.int p0), .val (.long q1), .second, .val (.int p2), .val (.int p3), .val (.long q4), .second, .val (.ref b1), .val (.ref b32), .val (.int v64), .unset, .unset] [])) _
        refine XS.iconst X50.here hx rfl (hb hby at_84) ?_
        exact castTop (by rw [hv66, if_pos hc65] <;> rfl) kt
      · show Steps p.tables e below (T50.setTop (mkF m 77 #[.val (.int p0), .val (.long q1), .second, .val (.int p2), .val (.int p3), .val (.long q4), .second, .val (.ref b1), .val (.ref b32), .val (.int v64), .unset, .unset] [(.int (lcmpW q1 (0 : Int64)))])) _
        refine XS.ifNo X50.here hx rfl (hb hby at_77) rfl ((if0 _ _).trans (flt (fun q => hc65 ((lw_lt q1 (0 : Int64)).mp q))).1) ?_
        show Steps p.tables e below (T50.setTop (mkF m 80 #[.val (.int p0), .val (.long q1), .second, .val (.int p2), .val (.int p3), .val (.long q4), .second, .val (.ref b1), .val (.ref b32), .val (.int v64), .unset, .unset] [])) _
        refine XS.iconst X50.here hx rfl (hb hby at_80) ?_
        show Steps p.tables e below (T50.setTop (mkF m 81 #[.val (.int p0), .val (.long q1), .second, .val (.int p2), .val (.int p3), .val (.long q4), .second, .val (.ref b1), .val (.ref b32), .val (.int v64), .unset, .unset] [(.int (1 : Int32))])) _
        refine XS.goto X50.here hx rfl (pc0 := 81) (pc' := 85) rfl (hb hby at_81) (by decide) (by decide) ?_
        exact castTop (by rw [hv66, if_neg hc65] <;> rfl) kt
    show Steps p.tables e below (T50.setTop (mkF m 85 #[.val (.int p0), .val (.long q1), .second, .val (.int p2), .val (.int p3), .val (.long q4), .second, .val (.ref b1), .val (.ref b32), .val (.int v64), .unset, .unset] [(.int v66)])) _
    refine XS.istore X50.here hx rfl (hb hby at_85) rfl (l' := #[.val (.int p0), .val (.long q1), .second, .val (.int p2), .val (.int p3), .val (.long q4), .second, .val (.ref b1), .val (.ref b32), .val (.int v64), .val (.int v66), .unset]) rfl ?_
    show Steps p.tables e below (T50.setTop (mkF m 87 #[.val (.int p0), .val (.long q1), .second, .val (.int p2), .val (.int p3), .val (.long q4), .second, .val (.ref b1), .val (.ref b32), .val (.int v64), .val (.int v66), .unset] [])) _
    refine XS.iload X50.here hx rfl (hb hby at_87) rfl ?_
    show Steps p.tables e below (T50.setTop (mkF m 89 #[.val (.int p0), .val (.long q1), .second, .val (.int p2), .val (.int p3), .val (.long q4), .second, .val (.ref b1), .val (.ref b32), .val (.int v64), .val (.int v66), .unset] [(.int v64)])) _
    refine own_dia (F := (mkF m 102 #[.val (.int p0), .val (.long q1), .second, .val (.int p2), .val (.int p3), .val (.long q4), .second, .val (.ref b1), .val (.ref b32), .val (.int v64), .val (.int v66), .unset] [(.int v70)])) ?_ ?_
    · intro kt
      by_cases hc67 : v64 = (0 : Int32)
      · show Steps p.tables e below (T50.setTop (mkF m 89 #[.val (.int p0), .val (.long q1), .second, .val (.int p2), .val (.int p3), .val (.long q4), .second, .val (.ref b1), .val (.ref b32), .val (.int v64), .val (.int v66), .unset] [(.int v64)])) _
        refine XS.ifYes X50.here hx rfl (pc0 := 89) (pc' := 101) rfl (hb hby at_89) rfl ((if0 _ _).trans (teq hc67).1) (by decide) (by decide) ?_
        show Steps p.tables e below (T50.setTop (mkF m 101 #[.val (.int p0), .val (.long q1), .second, .val (.int p2), .val (.int p3), .val (.long q4), .second, .val (.ref b1), .val (.ref b32), .val (.int v64), .val (.int v66), .unset] [])) _
        refine XS.iconst X50.here hx rfl (hb hby at_101) ?_
        exact castTop (by rw [hv70, if_pos hc67] <;> rfl) kt
      · show Steps p.tables e below (T50.setTop (mkF m 89 #[.val (.int p0), .val (.long q1), .second, .val (.int p2), .val (.int p3), .val (.long q4), .second, .val (.ref b1), .val (.ref b32), .val (.int v64), .val (.int v66), .unset] [(.int v64)])) _
        refine XS.ifNo X50.here hx rfl (hb hby at_89) rfl ((if0 _ _).trans (feq hc67).1) ?_
        show Steps p.tables e below (T50.setTop (mkF m 92 #[.val (.int p0), .val (.long q1), .second, .val (.int p2), .val (.int p3), .val (.long q4), .second, .val (.ref b1), .val (.ref b32), .val (.int v64), .val (.int v66), .unset] [])) _
        refine XS.iload X50.here hx rfl (hb hby at_92) rfl ?_
        show Steps p.tables e below (T50.setTop (mkF m 94 #[.val (.int p0), .val (.long q1), .second, .val (.int p2), .val (.int p3), .val (.long q4), .second, .val (.ref b1), .val (.ref b32), .val (.int v64), .val (.int v66), .unset] [(.int v66)])) _
        refine own_dia (F := (mkF m 102 #[.val (.int p0), .val (.long q1), .second, .val (.int p2), .val (.int p3), .val (.long q4), .second, .val (.ref b1), .val (.ref b32), .val (.int v64), .val (.int v66), .unset] [(.int v69)])) ?_ ?_
        · intro kt
          by_cases hc68 : v66 = (0 : Int32)
          · show Steps p.tables e below (T50.setTop (mkF m 94 #[.val (.int p0), .val (.long q1), .second, .val (.int p2), .val (.int p3), .val (.long q4), .second, .val (.ref b1), .val (.ref b32), .val (.int v64), .val (.int v66), .unset] [(.int v66)])) _
            refine XS.ifYes X50.here hx rfl (pc0 := 94) (pc' := 101) rfl (hb hby at_94) rfl ((if0 _ _).trans (teq hc68).1) (by decide) (by decide) ?_
            show Steps p.tables e below (T50.setTop (mkF m 101 #[.val (.int p0), .val (.long q1), .second, .val (.int p2), .val (.int p3), .val (.long q4), .second, .val (.ref b1), .val (.ref b32), .val (.int v64), .val (.int v66), .unset] [])) _
            refine XS.iconst X50.here hx rfl (hb hby at_101) ?_
            exact castTop (by rw [hv69, if_pos hc68] <;> rfl) kt
          · show Steps p.tables e below (T50.setTop (mkF m 94 #[.val (.int p0), .val (.long q1), .second, .val (.int p2), .val (.int p3), .val (.long q4), .second, .val (.ref b1), .val (.ref b32), .val (.int v64), .val (.int v66), .unset] [(.int v66)])) _
            refine XS.ifNo X50.here hx rfl (hb hby at_94) rfl ((if0 _ _).trans (feq hc68).1) ?_
            show Steps p.tables e below (T50.setTop (mkF m 97 #[.val (.int p0), .val (.long q1), .second, .val (.int p2), .val (.int p3), .val (.long q4), .second, .val (.ref b1), .val (.ref b32), .val (.int v64), .val (.int v66), .unset] [])) _
            refine XS.iconst X50.here hx rfl (hb hby at_97) ?_
            show Steps p.tables e below (T50.setTop (mkF m 98 #[.val (.int p0), .val (.long q1), .second, .val (.int p2), .val (.int p3), .val (.long q4), .second, .val (.ref b1), .val (.ref b32), .val (.int v64), .val (.int v66), .unset] [(.int (1 : Int32))])) _
            refine XS.goto X50.here hx rfl (pc0 := 98) (pc' := 102) rfl (hb hby at_98) (by decide) (by decide) ?_
            exact castTop (by rw [hv69, if_neg hc68] <;> rfl) kt
        exact castTop (by rw [hv70, if_neg hc67] <;> rfl) kt
    show Steps p.tables e below (T50.setTop (mkF m 102 #[.val (.int p0), .val (.long q1), .second, .val (.int p2), .val (.int p3), .val (.long q4), .second, .val (.ref b1), .val (.ref b32), .val (.int v64), .val (.int v66), .unset] [(.int v70)])) _
    refine XS.istore X50.here hx rfl (hb hby at_102) rfl (l' := #[.val (.int p0), .val (.long q1), .second, .val (.int p2), .val (.int p3), .val (.long q4), .second, .val (.ref b1), .val (.ref b32), .val (.int v64), .val (.int v66), .val (.int v70)]) rfl ?_
    show Steps p.tables e below (T50.setTop (mkF m 104 #[.val (.int p0), .val (.long q1), .second, .val (.int p2), .val (.int p3), .val (.long q4), .second, .val (.ref b1), .val (.ref b32), .val (.int v64), .val (.int v66), .val (.int v70)] [])) _
    refine XS.aload X50.here hx rfl (hb hby at_104) rfl rfl ?_
    show Steps p.tables e below (T50.setTop (mkF m 106 #[.val (.int p0), .val (.long q1), .second, .val (.int p2), .val (.int p3), .val (.long q4), .second, .val (.ref b1), .val (.ref b32), .val (.int v64), .val (.int v66), .val (.int v70)] [(.ref b1)])) _
    refine st83.trans ?_
    show Steps p.tables e below (T83.setTop (mkF m 109 #[.val (.int p0), .val (.long q1), .second, .val (.int p2), .val (.int p3), .val (.long q4), .second, .val (.ref b1), .val (.ref b32), .val (.int v64), .val (.int v66), .val (.int v70)] [(.int (nar .boolean (if (p0 &&& (1 : Int32)) = (0 : Int32) then (0 : Int32) else (if q1 < (0 : Int64) then (0 : Int32) else (1 : Int32)))))])) _
    refine XS.iload X83.here hx rfl (hb hby at_109) rfl ?_
    show Steps p.tables e below (T83.setTop (mkF m 111 #[.val (.int p0), .val (.long q1), .second, .val (.int p2), .val (.int p3), .val (.long q4), .second, .val (.ref b1), .val (.ref b32), .val (.int v64), .val (.int v66), .val (.int v70)] [(.int v70), (.int (nar .boolean (if (p0 &&& (1 : Int32)) = (0 : Int32) then (0 : Int32) else (if q1 < (0 : Int64) then (0 : Int32) else (1 : Int32)))))])) _
    refine st90 _ ?_
    show Steps p.tables e below (T90.setTop (mkF m 129 #[.val (.int p0), .val (.long q1), .second, .val (.int p2), .val (.int p3), .val (.long q4), .second, .val (.ref b1), .val (.ref b32), .val (.int v64), .val (.int v66), .val (.int v70)] [(.int v89)])) _
    exact retN X90 hx (t := .boolean) Bd.returns (by simp) (hb hby at_129) hr
  · show Q0 h0 n0 _ T90.heap _
    refine ⟨?_, N90⟩
    have hfin : (nar .boolean v89) = (1 : Int32) := by
      exact (own_law p0 q1 p2 v64 v66 v69 v70 v89 hv64 hv66 hv69 hv70 hv89)
    rw [hfin]
set_option maxRecDepth 65536 in
set_option maxHeartbeats 40000000 in
theorem comes_1 {Post : Tables → Env → Array Value → State → Outcome → State → Prop} (hpost : ∀ tb e args s v u, (limb_1_1.after args s (.returned v) u = true ∧ limb_1_2.after args s (.returned v) u = true ∧ True) → ReturnedEndW s (.returned v) u (Jvm.fieldLocs frame_1_writes args s ++ Jvm.arrayLocs frame_1_arrays args s ++ Jvm.staticLocs frame_1_statics s) 24 4224 → Post tb e args s (.returned v) u) :
    ArmFor flags0 classFile x code maxLocals ret World_1 tables_1 room_1 Calls_1 rest_1 Pre_1 Post := by
  intro l hfl _ _ p e ha hc hk s m args below hf hA hF happ hP
  obtain ⟨hcalls, hrest, hpre⟩ := hP
  obtain ⟨-, -, -, hnamed, -, -, -, hat⟩ := (Spec.applies_iff hf).mp happ
  obtain ⟨hg, hn⟩ := and_e (Cond.before_iff.mp (show (Jvm.Cond.and given_1 narrow_1).before args s = true from hpre))
  obtain ⟨gg1, gg2⟩ := and_e hg
  obtain ⟨gg3, gg4⟩ := and_e gg2
  obtain ⟨gg5, gg6⟩ := and_e gg4
  obtain ⟨gg7, gg8⟩ := and_e gg6
  obtain ⟨gg9, gg10⟩ := and_e gg8
  obtain ⟨w0, w1, w2, w3, w4, rfl⟩ : ∃ w0 w1 w2 w3 w4 : Value, args = #[w0, w1, w2, w3, w4] := by
    have hs : args.size = 5 := by simpa [Cond.value, given_1] using gg1
    obtain ⟨L⟩ := args
    match L, hs with
    | [w0, w1, w2, w3, w4], _ => exact ⟨w0, w1, w2, w3, w4, rfl⟩
  have hw := fun d (hd : d ∈ tables_1) => atoms_spec (ws := Jvm.Cond.code x code maxLocals ret :: tables_1) hat d (List.mem_cons_of_mem _ hd)
  have hfit : Fit s := fun {y c} hc i hi => by
    obtain ⟨ha, rfl⟩ := Array.getElem?_eq_some_iff.mp hc
    have q := List.all_eq_true.mp ((Array.all_eq_true_iff_forall_mem.mp hF) _ (Array.getElem_mem ha)) i (List.mem_range.mpr hi)
    simpa [Array.getElem?_eq_getElem hi] using q
  obtain ⟨i0, ei0⟩ := is_v gg3
  obtain rfl : w0 = (.int i0) := Option.some.inj ei0
  obtain ⟨i1, ei1⟩ := isL_v gg5
  obtain rfl : w1 = (.long i1) := Option.some.inj ei1
  obtain ⟨i2, ei2⟩ := is_v gg7
  obtain rfl : w2 = (.int i2) := Option.some.inj ei2
  obtain ⟨i3, ei3⟩ := is_v gg9
  obtain rfl : w3 = (.int i3) := Option.some.inj ei3
  obtain ⟨i4, ei4⟩ := isL_v gg10
  obtain rfl : w4 = (.long i4) := Option.some.inj ei4
  obtain ⟨n, o, h1, h2, h3, _, L, rfl, ⟨rfl, N⟩, hq⟩ := rm0 l s _ hw tables_1 i0 i1 i2 i3 i4  s.heap s.heap.size (Nat.le_refl _)  p e ha hc hk s m _ below hf ((Spec.applies_iff_loose hf).mp happ).1 ⟨rfl, State.Warmed39.refl s, rfl⟩ trivial
  refine ⟨n, _, h1, h2, h3, hpost _ _ _ _ _ _ ⟨Cond.after_iff.mpr rfl, Cond.after_iff.mpr (eq_i res_at (Term.int_eval (1)) rfl), trivial⟩ ⟨hq.1, hq.2.1, hq.2.2.1, (hq.2.2.2.sift fun y hy => Or.inr (N y hy)).mono (by decide) (by decide)⟩⟩
theorem main_1_1 : Claimed_1_1 := comes_1 fun _ _ _ _ _ _ h hF => ⟨h.1, hF⟩
theorem main_1_2 : Claimed_1_2 := comes_1 fun _ _ _ _ _ _ h hF => ⟨h.2.1, hF⟩
end Jvm.Pilot.@@N@@
namespace Jvm.Pilot.@@N@@
open Jvm Jvm.ClassFile Sem Op Lib Jvm.Free Jvm.Stand Jvm.Pilot.@@N@@.Jvm.D
/-! MADE BY PROGRAM (witnessworld.py) out of the Statement's table words and the real class files: 15 classes; the members and pool entries that the words name. The judged class is class 1, her method 1. -/
namespace start1
open Jvm.ClassFile
def u (s : String) : CpInfo := .utf8 (stringToUtf16 s)
/-- a pool by its gaps: so many unusable entries, then the entry; so many at the end -/
def gap : Nat → List CpInfo → List CpInfo
  | 0, r => r
  | n + 1, r => .unusable :: gap n r
def poolList (es : List (Nat × CpInfo)) (last : Nat) : List CpInfo := es.foldr (fun e r => gap e.1 (e.2 :: r)) (gap last [])
def pool (es : List (Nat × CpInfo)) (last : Nat) : Array CpInfo := ⟨poolList es last⟩
def fileOf (pool : Array CpInfo) (this : Nat) (attrs : Array Attribute := #[]) (ms : Array MethodInfo := #[]) (fl : Nat := 33) (sup : Nat := 0) (ifs : Array Nat := #[]) (fds : Array FieldInfo := #[]) : ClassFile where
  minorVersion := 0
  majorVersion := 65
  constantPool := pool
  accessFlags := fl
  thisClass := this
  superClass := sup
  interfaces := ifs
  fields := fds
  methods := ms
  attributes := attrs
def plain (name : String) (sup : Option ClassId) : Class where
  name := name
  kind := .ordinary
  loader := none
  accessFlags := 33
  super := sup
  interfaces := #[]
  cf := none
  fields := #[]
  methods := #[]
  instanceTypes := #[]
  staticTypes := #[]
  resolved := #[]
  callSites := []
  init := .initialized
  statics := none
  mirror := none

def pool0 : Array CpInfo := pool [(5, u "<init>"), (0, u "()V"), (1, .class_ 10), (1, u "java/lang/Object")] 113

def k0c0 : Code := { maxStack := 0, maxLocals := 1, code := object_method_1_code, exceptionTable := #[], attributes := #[] }
def k0m0 : Method := { name := "<init>", desc := "()V", sig := { parameters := [], returnType := none }, accessFlags := 1, code := some k0c0 }
/-- java/lang/Object -/
def k0 : Class := { plain "java/lang/Object" none with
  accessFlags := 33
  interfaces := #[]
  cf := some (fileOf pool0 8 #[] #[{ accessFlags := 1, nameIndex := 5, descriptorIndex := 6, attributes := #[] }] 33 0 #[] #[])
  fields := #[]
  methods := #[k0m0]
  instanceTypes := #[]
  staticTypes := #[]
  resolved := Array.replicate 124 none
  statics := none }

def pool1 : Array CpInfo := pool [(2, .class_ 4), (1, u "java/lang/Object"), (0, u "<init>"), (0, u "()V"), (0, .class_ 8), (0, u "com/example/commitlog/commitlog/model/PullRequest"), (0, .string 10), (0, u "g"), (0, .string 12), (0, u "t"), (0, .string 14), (0, u "*"), (0, .string 16), (0, u "TAG"), (0, .methodref 7 18), (0, .nameAndType 5 19), (0, u "(Ljava/lang/String;Ljava/lang/String;IJIIJJLjava/lang/String;JLjava/lang/String;)V"), (0, .methodref 7 21), (0, .nameAndType 22 23), (0, u "commitsOffset"), (0, u "()Z"), (0, .class_ 25), (0, u "com/example/commitlog/commitlog/model/PullRequestCommitsOffsetPinLaw"), (2, u "law"), (0, u "(IJIIJ)Z")] 3

def k1m0 : Method := { name := "<init>", desc := "()V", sig := { parameters := [], returnType := none }, accessFlags := 2, code := none }
def k1c1 : Code := { maxStack := 17, maxLocals := 12, code := code, exceptionTable := #[], attributes := #[] }
def k1m1 : Method := { name := "law", desc := "(IJIIJ)Z", sig := { parameters := [.int, .long, .int, .int, .long], returnType := some .boolean }, accessFlags := 9, code := some k1c1 }
/-- com/example/commitlog/commitlog/model/PullRequestCommitsOffsetPinLaw -/
def k1 : Class := { plain "com/example/commitlog/commitlog/model/PullRequestCommitsOffsetPinLaw" (some 0) with
  accessFlags := 49
  interfaces := #[]
  cf := some (fileOf pool1 24 #[] #[{ accessFlags := 2, nameIndex := 5, descriptorIndex := 6, attributes := #[] }, { accessFlags := 9, nameIndex := 28, descriptorIndex := 29, attributes := #[] }] 49 2 #[] #[])
  fields := #[]
  methods := #[k1m0, k1m1]
  instanceTypes := #[]
  staticTypes := #[]
  resolved := Array.replicate 33 none
  statics := none }

def pool2 : Array CpInfo := pool [(1, .methodref 2 3), (0, .class_ 4), (0, .nameAndType 5 6), (0, u "java/lang/Object"), (0, u "<init>"), (0, u "()V"), (0, .class_ 8), (0, u "java/lang/Record")] 13

def k2c0 : Code := { maxStack := 1, maxLocals := 1, code := jdk_30_method_1_code, exceptionTable := #[], attributes := #[] }
def k2m0 : Method := { name := "<init>", desc := "()V", sig := { parameters := [], returnType := none }, accessFlags := 4, code := some k2c0 }
/-- java/lang/Record -/
def k2 : Class := { plain "java/lang/Record" (some 0) with
  accessFlags := 1057
  interfaces := #[]
  cf := some (fileOf pool2 7 #[] #[{ accessFlags := 4, nameIndex := 5, descriptorIndex := 6, attributes := #[] }] 1057 2 #[] #[])
  fields := #[]
  methods := #[k2m0]
  instanceTypes := #[]
  staticTypes := #[]
  resolved := Array.replicate 22 none
  statics := none }

def pool3 : Array CpInfo := pool [(1, .methodref 2 3), (0, .class_ 4), (0, .nameAndType 5 6), (0, u "java/lang/Record"), (0, u "<init>"), (0, u "()V"), (0, .fieldref 8 9), (0, .class_ 10), (0, .nameAndType 11 12), (0, u "com/example/commitlog/commitlog/model/PullRequest"), (0, u "consumerGroup"), (0, u "Ljava/lang/String;"), (0, .fieldref 8 14), (0, .nameAndType 15 12), (0, u "topic"), (0, .fieldref 8 17), (0, .nameAndType 18 19), (0, u "queueId"), (0, u "I"), (0, .fieldref 8 21), (0, .nameAndType 22 23), (0, u "queueOffset"), (0, u "J"), (0, .fieldref 8 25), (0, .nameAndType 26 19), (0, u "maxMsgNums"), (0, .fieldref 8 28), (0, .nameAndType 29 19), (0, u "sysFlag"), (0, .fieldref 8 31), (0, .nameAndType 32 23), (0, u "commitOffset"), (0, .fieldref 8 34), (0, .nameAndType 35 23), (0, u "suspendTimeoutMillis"), (0, .fieldref 8 37), (0, .nameAndType 38 12), (0, u "subscription"), (0, .fieldref 8 40), (0, .nameAndType 41 23), (0, u "subVersion"), (0, .fieldref 8 43), (0, .nameAndType 44 12), (0, u "expressionType"), (43, u "(Ljava/lang/String;Ljava/lang/String;IJIIJJLjava/lang/String;JLjava/lang/String;)V"), (29, u "SUBSCRIPTION_FLAG"), (2, u "COMMIT_OFFSET_FLAG"), (1, u "SUSPEND_FLAG"), (8, u "commitsOffset"), (0, u "()Z")] 40

def k3c0 : Code := { maxStack := 3, maxLocals := 16, code := prog_42_method_1_code, exceptionTable := #[], attributes := #[] }
def k3m0 : Method := { name := "<init>", desc := "(Ljava/lang/String;Ljava/lang/String;IJIIJJLjava/lang/String;JLjava/lang/String;)V", sig := { parameters := [(.object "java/lang/String"), (.object "java/lang/String"), .int, .long, .int, .int, .long, .long, (.object "java/lang/String"), .long, (.object "java/lang/String")], returnType := none }, accessFlags := 1, code := some k3c0 }
def k3c1 : Code := { maxStack := 4, maxLocals := 1, code := prog_42_method_3_code, exceptionTable := #[], attributes := #[] }
def k3m1 : Method := { name := "commitsOffset", desc := "()Z", sig := { parameters := [], returnType := some .boolean }, accessFlags := 1, code := some k3c1 }
/-- com/example/commitlog/commitlog/model/PullRequest -/
def k3 : Class := { plain "com/example/commitlog/commitlog/model/PullRequest" (some 2) with
  accessFlags := 49
  interfaces := #[]
  cf := some (fileOf pool3 8 #[] #[{ accessFlags := 1, nameIndex := 5, descriptorIndex := 88, attributes := #[] }, { accessFlags := 1, nameIndex := 132, descriptorIndex := 133, attributes := #[] }] 49 2 #[] #[{ accessFlags := 18, nameIndex := 11, descriptorIndex := 12, attributes := #[] }, { accessFlags := 18, nameIndex := 15, descriptorIndex := 12, attributes := #[] }, { accessFlags := 18, nameIndex := 18, descriptorIndex := 19, attributes := #[] }, { accessFlags := 18, nameIndex := 22, descriptorIndex := 23, attributes := #[] }, { accessFlags := 18, nameIndex := 26, descriptorIndex := 19, attributes := #[] }, { accessFlags := 18, nameIndex := 29, descriptorIndex := 19, attributes := #[] }, { accessFlags := 18, nameIndex := 32, descriptorIndex := 23, attributes := #[] }, { accessFlags := 18, nameIndex := 35, descriptorIndex := 23, attributes := #[] }, { accessFlags := 18, nameIndex := 38, descriptorIndex := 12, attributes := #[] }, { accessFlags := 18, nameIndex := 41, descriptorIndex := 23, attributes := #[] }, { accessFlags := 18, nameIndex := 44, descriptorIndex := 12, attributes := #[] }, { accessFlags := 25, nameIndex := 118, descriptorIndex := 19, attributes := #[] }, { accessFlags := 26, nameIndex := 121, descriptorIndex := 19, attributes := #[] }, { accessFlags := 26, nameIndex := 123, descriptorIndex := 19, attributes := #[] }])
  fields := #[{ name := "consumerGroup", type := (.object "java/lang/String"), accessFlags := 18, slot := 0, constantValue := 0 }, { name := "topic", type := (.object "java/lang/String"), accessFlags := 18, slot := 1, constantValue := 0 }, { name := "queueId", type := .int, accessFlags := 18, slot := 2, constantValue := 0 }, { name := "queueOffset", type := .long, accessFlags := 18, slot := 3, constantValue := 0 }, { name := "maxMsgNums", type := .int, accessFlags := 18, slot := 4, constantValue := 0 }, { name := "sysFlag", type := .int, accessFlags := 18, slot := 5, constantValue := 0 }, { name := "commitOffset", type := .long, accessFlags := 18, slot := 6, constantValue := 0 }, { name := "suspendTimeoutMillis", type := .long, accessFlags := 18, slot := 7, constantValue := 0 }, { name := "subscription", type := (.object "java/lang/String"), accessFlags := 18, slot := 8, constantValue := 0 }, { name := "subVersion", type := .long, accessFlags := 18, slot := 9, constantValue := 0 }, { name := "expressionType", type := (.object "java/lang/String"), accessFlags := 18, slot := 10, constantValue := 0 }, { name := "SUBSCRIPTION_FLAG", type := .int, accessFlags := 25, slot := 0, constantValue := 0 }, { name := "COMMIT_OFFSET_FLAG", type := .int, accessFlags := 26, slot := 1, constantValue := 0 }, { name := "SUSPEND_FLAG", type := .int, accessFlags := 26, slot := 2, constantValue := 0 }]
  methods := #[k3m0, k3m1]
  instanceTypes := #[(.object "java/lang/String"), (.object "java/lang/String"), .int, .long, .int, .int, .long, .long, (.object "java/lang/String"), .long, (.object "java/lang/String")]
  staticTypes := #[.int, .int, .int]
  resolved := Array.replicate 174 none
  statics := none }

def pool4 : Array CpInfo := pool [(1, .class_ 2), (0, u "java/io/Serializable"), (0, .class_ 4), (0, u "java/lang/Object")] 2

/-- java/io/Serializable -/
def k4 : Class := { plain "java/io/Serializable" (some 0) with
  accessFlags := 1537
  interfaces := #[]
  cf := some (fileOf pool4 1 #[] #[] 1537 3 #[] #[])
  fields := #[]
  methods := #[]
  instanceTypes := #[]
  staticTypes := #[]
  resolved := Array.replicate 7 none
  statics := none }

def pool5 : Array CpInfo := pool [(1, .class_ 2), (0, u "java/lang/Comparable"), (0, .class_ 4), (0, u "java/lang/Object")] 7

/-- java/lang/Comparable -/
def k5 : Class := { plain "java/lang/Comparable" (some 0) with
  accessFlags := 1537
  interfaces := #[]
  cf := some (fileOf pool5 1 #[] #[] 1537 3 #[] #[])
  fields := #[]
  methods := #[]
  instanceTypes := #[]
  staticTypes := #[]
  resolved := Array.replicate 12 none
  statics := none }

def pool6 : Array CpInfo := pool [(2, .class_ 4), (1, u "java/lang/CharSequence"), (42, .class_ 48), (0, u "java/lang/CharSequence$1CodePointIterator"), (10, .class_ 60), (0, u "java/lang/CharSequence$1CharIterator"), (5, .class_ 67), (0, u "java/lang/Object")] 63

/-- java/lang/CharSequence -/
def k6 : Class := { plain "java/lang/CharSequence" (some 0) with
  accessFlags := 1537
  interfaces := #[]
  cf := some (fileOf pool6 2 #[.nestMembers #[47, 59]] #[] 1537 66 #[] #[])
  fields := #[]
  methods := #[]
  instanceTypes := #[]
  staticTypes := #[]
  resolved := Array.replicate 131 none
  statics := none }

def pool7 : Array CpInfo := pool [(1, .class_ 2), (0, u "java/lang/constant/Constable"), (0, .class_ 4), (0, u "java/lang/Object")] 6

/-- java/lang/constant/Constable -/
def k7 : Class := { plain "java/lang/constant/Constable" (some 0) with
  accessFlags := 1537
  interfaces := #[]
  cf := some (fileOf pool7 1 #[] #[] 1537 3 #[] #[])
  fields := #[]
  methods := #[]
  instanceTypes := #[]
  staticTypes := #[]
  resolved := Array.replicate 11 none
  statics := none }

def pool8 : Array CpInfo := pool [(1, .class_ 2), (0, u "java/lang/constant/ConstantDesc"), (0, .class_ 4), (0, u "java/lang/Object")] 32

/-- java/lang/constant/ConstantDesc -/
def k8 : Class := { plain "java/lang/constant/ConstantDesc" (some 0) with
  accessFlags := 1537
  interfaces := #[]
  cf := some (fileOf pool8 1 #[] #[] 1537 3 #[] #[])
  fields := #[]
  methods := #[]
  instanceTypes := #[]
  staticTypes := #[]
  resolved := Array.replicate 37 none
  statics := none }

def pool9 : Array CpInfo := pool [(2, .class_ 4), (1, u "java/lang/Object"), (0, u "<init>"), (0, u "()V"), (3, .class_ 12), (1, u "java/lang/String"), (0, u "value"), (0, u "[B"), (2, u "coder"), (0, u "B"), (2, u "hash"), (0, u "I"), (2, u "hashIsZero"), (0, u "Z"), (13, u "COMPACT_STRINGS"), (534, .class_ 576), (0, u "java/lang/CharSequence"), (22, u "CASE_INSENSITIVE_ORDER"), (0, u "Ljava/util/Comparator;"), (500, u "serialPersistentFields"), (0, u "[Ljava/io/ObjectStreamField;"), (0, .class_ 1104), (0, u "java/lang/String$CaseInsensitiveComparator"), (1, .class_ 1107), (0, u "java/io/Serializable"), (0, .class_ 1109), (0, u "java/lang/Comparable"), (0, .class_ 1111), (0, u "java/lang/constant/Constable"), (0, .class_ 1113), (0, u "java/lang/constant/ConstantDesc"), (2, u "serialVersionUID"), (0, u "J"), (3, u "REPL"), (0, u "C"), (2, u "LATIN1"), (1, u "UTF16")] 323

def k9m0 : Method := { name := "<init>", desc := "()V", sig := { parameters := [], returnType := none }, accessFlags := 1, code := none }
/-- java/lang/String -/
def k9 : Class := { plain "java/lang/String" (some 0) with
  accessFlags := 49
  interfaces := #[4, 5, 6, 7, 8]
  cf := some (fileOf pool9 10 #[.nestMembers #[1103]] #[{ accessFlags := 1, nameIndex := 5, descriptorIndex := 6, attributes := #[] }] 49 2 #[1106, 1108, 575, 1110, 1112] #[{ accessFlags := 18, nameIndex := 13, descriptorIndex := 14, attributes := #[] }, { accessFlags := 18, nameIndex := 17, descriptorIndex := 18, attributes := #[] }, { accessFlags := 2, nameIndex := 21, descriptorIndex := 22, attributes := #[] }, { accessFlags := 2, nameIndex := 25, descriptorIndex := 26, attributes := #[] }, { accessFlags := 26, nameIndex := 1116, descriptorIndex := 1117, attributes := #[] }, { accessFlags := 24, nameIndex := 40, descriptorIndex := 26, attributes := #[] }, { accessFlags := 26, nameIndex := 1101, descriptorIndex := 1102, attributes := #[] }, { accessFlags := 26, nameIndex := 1121, descriptorIndex := 1122, attributes := #[] }, { accessFlags := 25, nameIndex := 599, descriptorIndex := 600, attributes := #[] }, { accessFlags := 24, nameIndex := 1125, descriptorIndex := 18, attributes := #[] }, { accessFlags := 24, nameIndex := 1127, descriptorIndex := 18, attributes := #[] }])
  fields := #[{ name := "value", type := (.array .byte), accessFlags := 18, slot := 0, constantValue := 0 }, { name := "coder", type := .byte, accessFlags := 18, slot := 1, constantValue := 0 }, { name := "hash", type := .int, accessFlags := 2, slot := 2, constantValue := 0 }, { name := "hashIsZero", type := .boolean, accessFlags := 2, slot := 3, constantValue := 0 }, { name := "serialVersionUID", type := .long, accessFlags := 26, slot := 0, constantValue := 0 }, { name := "COMPACT_STRINGS", type := .boolean, accessFlags := 24, slot := 1, constantValue := 0 }, { name := "serialPersistentFields", type := (.array (.object "java/io/ObjectStreamField")), accessFlags := 26, slot := 2, constantValue := 0 }, { name := "REPL", type := .char, accessFlags := 26, slot := 3, constantValue := 0 }, { name := "CASE_INSENSITIVE_ORDER", type := (.object "java/util/Comparator"), accessFlags := 25, slot := 4, constantValue := 0 }, { name := "LATIN1", type := .byte, accessFlags := 24, slot := 5, constantValue := 0 }, { name := "UTF16", type := .byte, accessFlags := 24, slot := 6, constantValue := 0 }]
  methods := #[k9m0]
  instanceTypes := #[(.array .byte), .byte, .int, .boolean]
  staticTypes := #[.long, .boolean, (.array (.object "java/io/ObjectStreamField")), .char, (.object "java/util/Comparator"), .byte, .byte]
  resolved := Array.replicate 1451 none
  statics := none }

def pool10 : Array CpInfo := pool [(1, u "java/lang/Cloneable"), (0, .class_ 1), (0, u "java/lang/Object"), (0, .class_ 3)] 3

/-- java/lang/Cloneable -/
def k10 : Class := { plain "java/lang/Cloneable" (some 0) with
  accessFlags := 1537
  interfaces := #[]
  cf := some (fileOf pool10 2 #[] #[] 1537 4 #[] #[])
  fields := #[]
  methods := #[]
  instanceTypes := #[]
  staticTypes := #[]
  resolved := Array.replicate 8 none
  statics := none }

/-- the primitive byte -/
def k11 : Class := { plain "byte" none with kind := .primitive 'B', accessFlags := 0x411 }
/-- [B -/
def k12 : Class := { plain "[B" (some 0) with kind := .array 11 .byte, interfaces := #[10, 4], accessFlags := 1041 }

/-- the primitive int -/
def k13 : Class := { plain "int" none with kind := .primitive 'I', accessFlags := 0x411 }
/-- [I -/
def k14 : Class := { plain "[I" (some 0) with kind := .array 13 .int, interfaces := #[10, 4], accessFlags := 1041 }

def heap : Heap := #[]
def classes : Array Class := #[k0, k1, k2, k3, k4, k5, k6, k7, k8, k9, k10, k11, k12, k13, k14]
def interned : List (Array UInt16 × Addr) := []
def slotsUsed : Nat := 0
def theMethod : MethodId := ⟨1, 1⟩
def args0 : Array Value := #[.int 5, .long 5, .int 5, .int 5, .long 5]
def aboutOver (below : List Frame) : State where
  vm := { classes := classes, interned := interned.toArray }
  heap := heap
  slotsUsed := slotsUsed
  threads := #[{ frames := .invoking theMethod args0 :: below }]
def below0 : List Frame := [.native { method := ⟨0, 0⟩, args := #[] }]
def about1 : State := aboutOver below0
def p0 : Program := .bare "" "" ""
def e0 : Env := launch0.env 0 0 0
theorem w_frames : about1.frames = Frame.invoking theMethod args0 :: below0 := rfl
set_option maxRecDepth 65536 in
theorem w_args : argsFit about1.vm theMethod args0 = true := by decide +kernel
set_option maxRecDepth 65536 in
theorem w_heap : heapFits about1 = true := by decide +kernel
set_option maxRecDepth 65536 in
theorem w_runnable : about1.curStatus? = some .runnable := by decide +kernel
set_option maxRecDepth 65536 in
theorem w_alone : about1.alone = true := by decide +kernel
set_option maxRecDepth 65536 in
theorem w_named : about1.methodNamed? x = some theMethod := by decide +kernel
set_option maxRecDepth 65536 in
theorem w_hears : about1.hears theMethod below0 = true := by decide +kernel
set_option maxRecDepth 65536 in
theorem w_ripe : about1.ripe theMethod args0 below0 = true := by decide +kernel
theorem w_running : about1.status = .running := rfl
set_option maxRecDepth 65536 in
theorem w_room : about1.hasRoom e0.platform room_1 = true :=
  launch0.hasRoom_least _ room_1 (by decide +kernel) (by decide +kernel) (by decide +kernel) (by decide +kernel) (by decide +kernel) (by decide +kernel)
theorem allAtoms_all (ts : List Jvm.Cond) (a : Array Jvm.Value) (st : Jvm.State) : (allAtoms ts).before a st = ts.all (fun c => c.before a st) := by
  induction ts with
  | nil => rfl
  | cons c t ih =>
    show (Jvm.Cond.and c (allAtoms t)).before a st = _
    rw [Jvm.Cond.before_and, ih, List.all_cons]
def words1 : List Jvm.Cond := Jvm.Cond.code x code maxLocals ret :: tables_1
/-- a 'code' word, met by the world's own term for the bytes: nothing is compared byte by byte -/
theorem code_word {y : MethodName} {bytes : ByteArray} {mx : Nat} {rt : Option FieldType} {a : Array Value} {s : State} {m : MethodId} {meth : Method} {c : Code} (h1 : s.methodNamed? y = some m) (h2 : s.vm.method? m = some meth) (h3 : meth.code = some c) (h4 : c.code = bytes)
    (h5 : (c.maxLocals == mx && c.exceptionTable.isEmpty && decide (c.maxStack ≤ mostOperands) && decide (meth.sig.returnType = rt) && !meth.locks && decide (parseMethodDescriptor y.desc = some meth.sig)) = true) : (Jvm.Cond.code y bytes mx rt).before a s = true := by
  simp only [Bool.and_eq_true, beq_iff_eq, Bool.not_eq_true', decide_eq_true_eq] at h5
  obtain ⟨⟨⟨⟨⟨g1, g2⟩, g3⟩, g4⟩, g5⟩, g6⟩ := h5
  simp [Cond.before, Cond.holds, Cond.value, h1, h2, h3, h4, g1, g2, g3, g4, g5, g6]
def isCode : Jvm.Cond → Bool
  | .code _ _ _ _ => true
  | _ => false
theorem all_split {L : List Jvm.Cond} {P : Jvm.Cond → Bool} (h1 : L.all (fun c => isCode c || P c) = true) (h2 : ∀ c ∈ L.filter isCode, P c = true) : L.all P = true := by
  refine List.all_eq_true.mpr fun c hc => ?_
  have h := List.all_eq_true.mp h1 c hc
  rcases Bool.eq_false_or_eq_true (isCode c) with hi | hi
  · exact h2 c (List.mem_filter.mpr ⟨hc, hi⟩)
  · simpa [hi] using h
set_option maxRecDepth 65536 in
theorem w_c0 : (Jvm.Cond.code x code maxLocals ret).before args0 about1 = true := code_word (m := ⟨1, 1⟩) (meth := k1m1) (c := k1c1) (by decide +kernel) rfl rfl rfl (by decide +kernel)
set_option maxRecDepth 65536 in
theorem w_c1 : (Jvm.Cond.code ({ cls := "com/example/commitlog/commitlog/model/PullRequest", name := "<init>", desc := "(Ljava/lang/String;Ljava/lang/String;IJIIJJLjava/lang/String;JLjava/lang/String;)V" } : Jvm.MethodName) prog_42_method_1_code (16 : Nat) (Option.none : Option Jvm.ClassFile.FieldType)).before args0 about1 = true := code_word (m := ⟨3, 0⟩) (meth := k3m0) (c := k3c0) (by decide +kernel) rfl rfl rfl (by decide +kernel)
set_option maxRecDepth 65536 in
theorem w_c2 : (Jvm.Cond.code ({ cls := "java/lang/Record", name := "<init>", desc := "()V" } : Jvm.MethodName) jdk_30_method_1_code (1 : Nat) (Option.none : Option Jvm.ClassFile.FieldType)).before args0 about1 = true := code_word (m := ⟨2, 0⟩) (meth := k2m0) (c := k2c0) (by decide +kernel) rfl rfl rfl (by decide +kernel)
set_option maxRecDepth 65536 in
theorem w_c3 : (Jvm.Cond.code ({ cls := "java/lang/Object", name := "<init>", desc := "()V" } : Jvm.MethodName) object_method_1_code (1 : Nat) (Option.none : Option Jvm.ClassFile.FieldType)).before args0 about1 = true := code_word (m := ⟨0, 0⟩) (meth := k0m0) (c := k0c0) (by decide +kernel) rfl rfl rfl (by decide +kernel)
set_option maxRecDepth 65536 in
theorem w_c4 : (Jvm.Cond.code ({ cls := "com/example/commitlog/commitlog/model/PullRequest", name := "commitsOffset", desc := "()Z" } : Jvm.MethodName) prog_42_method_3_code (1 : Nat) (Option.some Jvm.ClassFile.FieldType.boolean)).before args0 about1 = true := code_word (m := ⟨3, 1⟩) (meth := k3m1) (c := k3c1) (by decide +kernel) rfl rfl rfl (by decide +kernel)
def codes1 : List Jvm.Cond := [Jvm.Cond.code x code maxLocals ret, Jvm.Cond.code ({ cls := "com/example/commitlog/commitlog/model/PullRequest", name := "<init>", desc := "(Ljava/lang/String;Ljava/lang/String;IJIIJJLjava/lang/String;JLjava/lang/String;)V" } : Jvm.MethodName) prog_42_method_1_code (16 : Nat) (Option.none : Option Jvm.ClassFile.FieldType), Jvm.Cond.code ({ cls := "java/lang/Record", name := "<init>", desc := "()V" } : Jvm.MethodName) jdk_30_method_1_code (1 : Nat) (Option.none : Option Jvm.ClassFile.FieldType), Jvm.Cond.code ({ cls := "java/lang/Object", name := "<init>", desc := "()V" } : Jvm.MethodName) object_method_1_code (1 : Nat) (Option.none : Option Jvm.ClassFile.FieldType), Jvm.Cond.code ({ cls := "com/example/commitlog/commitlog/model/PullRequest", name := "commitsOffset", desc := "()Z" } : Jvm.MethodName) prog_42_method_3_code (1 : Nat) (Option.some Jvm.ClassFile.FieldType.boolean)]
set_option maxRecDepth 65536 in
theorem codes_eq : words1.filter isCode = codes1 := rfl
theorem w_codes : ∀ c ∈ words1.filter isCode, c.before args0 about1 = true := by
  rw [codes_eq]
  intro c hc
  simp only [codes1, List.mem_cons, List.not_mem_nil, or_false] at hc
  rcases hc with rfl | rfl | rfl | rfl | rfl
  · exact w_c0
  · exact w_c1
  · exact w_c2
  · exact w_c3
  · exact w_c4
set_option maxRecDepth 65536 in
theorem w_t1 : (words1.take 24).all (fun c => isCode c || c.before args0 about1) = true := by decide +kernel
set_option maxRecDepth 65536 in
theorem w_t2 : ((words1.drop 24).take 24).all (fun c => isCode c || c.before args0 about1) = true := by decide +kernel
set_option maxRecDepth 65536 in
theorem w_t3 : ((words1.drop 24).drop 24).all (fun c => isCode c || c.before args0 about1) = true := by decide +kernel
theorem w_tables : (allAtoms (Jvm.Cond.code x code maxLocals ret :: tables_1)).before args0 about1 = true := by
  rw [allAtoms_all]
  show words1.all (fun c => c.before args0 about1) = true
  refine all_split ?_ w_codes
  rw [← List.take_append_drop 24 words1, List.all_append, w_t1, ← List.take_append_drop 24 (words1.drop 24), List.all_append, w_t2, w_t3]
  rfl
set_option maxRecDepth 65536 in
theorem w_case : (Jvm.Cond.and given_1 narrow_1).before args0 about1 = true := by decide +kernel
theorem w_applies : (headSpec (Jvm.Cond.code x code maxLocals ret :: tables_1) room_1).applies x e0.platform about1 = true :=
  (Spec.applies_iff w_frames).mpr ⟨w_running, w_runnable, w_alone, w_named, w_hears, w_ripe, w_room, w_tables⟩
theorem atStart : AtStart classFile x code maxLocals ret World_1 tables_1 room_1 Calls_1 rest_1 Pre_1 launch0 p0 e0 about1 theMethod args0 below0 :=
  ⟨lists_1, trivial, launch0.admits_env _ _ _, launch0.least_env, fairChoices_fair.cas, fairChoices_fair.clock, w_frames, w_args, w_heap, w_applies, trivial, trivial, w_case⟩
end start1
theorem witness_1 : WitnessClaimed_1 := ⟨start1.p0, start1.e0, start1.about1, start1.theMethod, start1.args0, start1.below0, start1.atStart⟩
end Jvm.Pilot.@@N@@
