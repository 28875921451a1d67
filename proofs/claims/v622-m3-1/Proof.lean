import JvmDerived
import JvmDerived.Pilot.@@N@@Statement
import JvmDerived.Pilot.@@N@@Code
set_option linter.unusedVariables false
set_option linter.unusedSimpArgs false
namespace Jvm.Pilot.@@N@@
open Jvm Jvm.ClassFile Sem Op Lib Jvm.Free Jvm.Stand Jvm.LawKit Jvm.RoadKit Bundle Jvm.Pilot.@@N@@.Jvm.D
section OwnKit
variable {p : Program} {l : Launch} {e : Env} {R : Room} {s : State} {m : MethodId} {args : Array Value} {below : List Frame} {meth : Method} {c : Code} {T : State} {locs : List Loc} {cells slots : Nat} {Z : State} {h h' : Heap} {a b : Addr} {ty : FieldType} {n : Nat} {f f' : Nat → Value} {sl : Nat} {v : Value} {ws : List Addr}
theorem own_dia {t : State} {B F : JFrame} (hh : Steps p.tables e below (T.setTop F) t → Steps p.tables e below (T.setTop B) t) (k : Steps p.tables e below (T.setTop F) t) : Steps p.tables e below (T.setTop B) t := hh k
/-- the place j lies in an array of n places -/
abbrev own_in (j : Int32) (n : Nat) : Prop := 0 ≤ j.toInt ∧ j.toInt < n
theorem own_in_nat {j : Int32} (hj : own_in j n) : j.toNatClampNeg < n := by simp only [Int32.toNatClampNeg]; omega
theorem own_in_arr {cl : Cell} {j : Int32} (hs : cl.slots.size = n) (hj : own_in j n) : ¬ (j < 0 ∨ cl.slots.size ≤ j.toNatClampNeg) := by
  have := own_in_nat hj
  have k0 : (0 : Int32).toInt = 0 := by decide
  rw [Int32.lt_iff_toInt_lt, hs, k0]; omega
/-- an array: its kind, its length, and what each place holds -/
def AF (Z : State) (h : Heap) (a : Addr) (ty : FieldType) (n : Nat) (f : Nat → Value) : Prop := ∃ c : Cell, Arr Z h a c ty ∧ c.slots.size = n ∧ n < 2147483648 ∧ ∀ j, j < n → c.slots[j]? = some (f j)
theorem AF.lt (F : AF Z h a ty n f) : a < h.size := by obtain ⟨c, A, -⟩ := F; exact A.lt
theorem AF.small (F : AF Z h a ty n f) : n < 2147483648 := by obtain ⟨c, -, -, q, -⟩ := F; exact q
theorem AF.ext (F : AF Z h a ty n f) (E : Ext h h') : AF Z h' a ty n f := by obtain ⟨c, A, r⟩ := F; exact ⟨c, A.ext E, r⟩
theorem AF.other (F : AF Z h b ty n f) (W : Wr h h' a sl v) (q : b ≠ a) : AF Z h' b ty n f := by obtain ⟨c, A, r⟩ := F; exact ⟨c, A.other W q, r⟩
theorem AF.keep (F : AF Z h a ty n f) (K : Keep h h' ws) (q : a ∉ ws) : AF Z h' a ty n f := by obtain ⟨c, A, r⟩ := F; exact ⟨c, ⟨K.2.1 a c A.1 q, A.2⟩, r⟩
theorem AF.cong (F : AF Z h a ty n f) (q : ∀ j, j < n → f j = f' j) : AF Z h a ty n f' := by obtain ⟨c, A, r1, r2, r3⟩ := F; exact ⟨c, A, r1, r2, fun j hj => by rw [← q j hj]; exact r3 j hj⟩
theorem AF.new {k : ClassId} {z : Int32} (A : Arr Z h a (newA k ty z) ty) (q : ¬ z < 0) : AF Z h a ty z.toNatClampNeg (fun _ => defaultValue ty) := ⟨_, A, sz_new _ _ _, (back32 q).2, fun j hj => by simp [newA, hj]⟩
theorem AF.set (F : AF Z h a ty n f) {k : Nat} (W : Wr h h' a k v) : AF Z h' a ty n (fun i => if i = k then v else f i) := by
  obtain ⟨c, A, r1, r2, r3⟩ := F
  refine ⟨_, Arr.same W A, by rw [sz_set]; exact r1, r2, fun j hj => ?_⟩
  obtain ⟨cell, h1, -, h3, -⟩ := W
  cases h1.symm.trans A.1
  by_cases q : j = k
  · subst q; simp [Cell.setSlot, h3]
  · have q' : ¬ k = j := fun z => q z.symm
    simp only [Cell.setSlot, Array.getElem?_setIfInBounds, if_neg q, if_neg q']; exact r3 j hj
theorem own_updI {g fN : Nat → Int32} {x : Int32} {J k : Nat} (hk : k = J) (hf : fN = fun i => if i = J then x else g i) : ∀ j, j < n → (if j = k then Value.int x else Value.int (g j)) = Value.int (fN j) := by
  subst hk hf; intro j _; by_cases q : j = k <;> simp [q]
theorem own_updJ {g fN : Nat → Int64} {x : Int64} {J k : Nat} (hk : k = J) (hf : fN = fun i => if i = J then x else g i) : ∀ j, j < n → (if j = k then Value.long x else Value.long (g j)) = Value.long (fN j) := by
  subst hk hf; intro j _; by_cases q : j = k <;> simp [q]
theorem AF.ldI (X : Stand p l e R s m args below meth c T locs cells slots) (hx : p.tables.exec = Jvm.exec) (hZ : Z.Warmed39 s.vm) (eT : T.heap = h) {f : Nat → Int32} (A : AF Z h a .int n (fun j => .int (f j))) {j : Int32} (hj : own_in j n) {g : JFrame} (hg : g.method = m) {rest : List Value} (hs : g.stack = .int j :: .ref a :: rest) (hd : decode c.code g.pc = .ok (.iaload, 1)) (target : State)
    (k : Steps p.tables e below (T.setTop { g with pc := g.pc + 1, stack := .int (f j.toNatClampNeg) :: rest }) target) : Steps p.tables e below (T.setTop g) target := by
  obtain ⟨cl, A, r1, r2, r3⟩ := A
  exact X.iaload hx (j := j) (v := .int (f j.toNatClampNeg)) (by rw [eT]; exact A.1) (State.isArrayOf_alike hZ.alike A.2.1) A.2.2 (own_in_arr r1 hj) (r3 _ (own_in_nat hj)) hg hs hd _ k
theorem AF.ldJ (X : Stand p l e R s m args below meth c T locs cells slots) (hx : p.tables.exec = Jvm.exec) (hZ : Z.Warmed39 s.vm) (eT : T.heap = h) {f : Nat → Int64} (A : AF Z h a .long n (fun j => .long (f j))) {j : Int32} (hj : own_in j n) {g : JFrame} (hg : g.method = m) {rest : List Value} (hs : g.stack = .int j :: .ref a :: rest) (hd : decode c.code g.pc = .ok (.laload, 1)) (target : State)
    (k : Steps p.tables e below (T.setTop { g with pc := g.pc + 1, stack := .long (f j.toNatClampNeg) :: rest }) target) : Steps p.tables e below (T.setTop g) target := by
  obtain ⟨cl, A, r1, r2, r3⟩ := A
  exact X.laload hx (j := j) (v := .long (f j.toNatClampNeg)) (by rw [eT]; exact A.1) (State.isArrayOf_alike hZ.alike A.2.1) A.2.2 (own_in_arr r1 hj) (r3 _ (own_in_nat hj)) hg hs hd _ k
theorem AF.ldB (X : Stand p l e R s m args below meth c T locs cells slots) (hx : p.tables.exec = Jvm.exec) (hZ : Z.Warmed39 s.vm) (eT : T.heap = h) {f : Nat → Int32} (A : AF Z h a .byte n (fun j => .int (f j))) {j : Int32} (hj : own_in j n) {g : JFrame} (hg : g.method = m) {rest : List Value} (hs : g.stack = .int j :: .ref a :: rest) (hd : decode c.code g.pc = .ok (.baload, 1)) (target : State)
    (k : Steps p.tables e below (T.setTop { g with pc := g.pc + 1, stack := .int (f j.toNatClampNeg) :: rest }) target) : Steps p.tables e below (T.setTop g) target := by
  obtain ⟨cl, A, r1, r2, r3⟩ := A
  exact X.baloadBytes hx (j := j) (v := .int (f j.toNatClampNeg)) (by rw [eT]; exact A.1) (State.isArrayOf_alike hZ.alike A.2.1) A.2.2 (own_in_arr r1 hj) (r3 _ (own_in_nat hj)) hg hs hd _ k
theorem AF.len (X : Stand p l e R s m args below meth c T locs cells slots) (hx : p.tables.exec = Jvm.exec) (hZ : Z.Warmed39 s.vm) (eT : T.heap = h) (A : AF Z h a ty n f) {g : JFrame} (hg : g.method = m) {rest : List Value} (hs : g.stack = .ref a :: rest) (hd : decode c.code g.pc = .ok (.arraylength, 1)) (target : State)
    (k : Steps p.tables e below (T.setTop { g with pc := g.pc + 1, stack := .int (Int32.ofNat n) :: rest }) target) : Steps p.tables e below (T.setTop g) target := by
  obtain ⟨cl, A, r1, r2, r3⟩ := A
  subst r1
  exact X.arraylength hx (by rw [eT]; exact A.1) (State.isArrayOf_alike hZ.alike A.2.1) hg hs hd _ k
theorem AF.stI (X : Stand p l e R s m args below meth c T locs cells slots) (hx : p.tables.exec = Jvm.exec) (hZ : Z.Warmed39 s.vm) (eT : T.heap = h) (A : AF Z h a .int n f) {j x : Int32} (hj : own_in j n) {g : JFrame} (hg : g.method = m) {rest : List Value} (hs : g.stack = .int x :: .int j :: .ref a :: rest) (hd : decode c.code g.pc = .ok (.iastore, 1)) :
    ∃ T' h', Stand p l e R s m args below meth c T' (locs ++ [⟨a, j.toNatClampNeg⟩]) cells slots ∧ T'.heap = h' ∧ Wr h h' a j.toNatClampNeg (.int x) ∧ AF Z h' a .int n (fun i => if i = j.toNatClampNeg then .int x else f i) ∧ ∀ target, Steps p.tables e below (T'.setTop { g with pc := g.pc + 1, stack := rest }) target → Steps p.tables e below (T.setTop g) target := by
  have A0 := A
  obtain ⟨cl, A, r1, r2, r3⟩ := A
  obtain ⟨T', h', X', e', W, st⟩ := Jvm.RoadKit.stI X hx hZ eT A (j := j) (own_in_arr r1 hj) hg hs hd
  exact ⟨T', h', X', e', W, A0.set W, st⟩
theorem AF.stJ (X : Stand p l e R s m args below meth c T locs cells slots) (hx : p.tables.exec = Jvm.exec) (hZ : Z.Warmed39 s.vm) (eT : T.heap = h) (A : AF Z h a .long n f) {j : Int32} {x : Int64} (hj : own_in j n) {g : JFrame} (hg : g.method = m) {rest : List Value} (hs : g.stack = .long x :: .int j :: .ref a :: rest) (hd : decode c.code g.pc = .ok (.lastore, 1)) :
    ∃ T' h', Stand p l e R s m args below meth c T' (locs ++ [⟨a, j.toNatClampNeg⟩]) cells slots ∧ T'.heap = h' ∧ Wr h h' a j.toNatClampNeg (.long x) ∧ AF Z h' a .long n (fun i => if i = j.toNatClampNeg then .long x else f i) ∧ ∀ target, Steps p.tables e below (T'.setTop { g with pc := g.pc + 1, stack := rest }) target → Steps p.tables e below (T.setTop g) target := by
  have A0 := A
  obtain ⟨cl, A, r1, r2, r3⟩ := A
  obtain ⟨T', h', X', e', W, st⟩ := Jvm.RoadKit.stJ X hx hZ eT A (j := j) (own_in_arr r1 hj) hg hs hd
  exact ⟨T', h', X', e', W, A0.set W, st⟩
theorem AF.stB (X : Stand p l e R s m args below meth c T locs cells slots) (hx : p.tables.exec = Jvm.exec) (hZ : Z.Warmed39 s.vm) (eT : T.heap = h) (A : AF Z h a .byte n f) {j x : Int32} (hj : own_in j n) {g : JFrame} (hg : g.method = m) {rest : List Value} (hs : g.stack = .int x :: .int j :: .ref a :: rest) (hd : decode c.code g.pc = .ok (.bastore, 1)) :
    ∃ T' h', Stand p l e R s m args below meth c T' (locs ++ [⟨a, j.toNatClampNeg⟩]) cells slots ∧ T'.heap = h' ∧ Wr h h' a j.toNatClampNeg (.int x.toInt8.toInt32) ∧ AF Z h' a .byte n (fun i => if i = j.toNatClampNeg then .int x.toInt8.toInt32 else f i) ∧ ∀ target, Steps p.tables e below (T'.setTop { g with pc := g.pc + 1, stack := rest }) target → Steps p.tables e below (T.setTop g) target := by
  have A0 := A
  obtain ⟨cl, A, r1, r2, r3⟩ := A
  obtain ⟨T', h', X', e', W, st⟩ := Jvm.RoadKit.stB X hx hZ eT A (j := j) (own_in_arr r1 hj) hg hs hd
  exact ⟨T', h', X', e', W, A0.set W, st⟩
theorem own_cpyI {f g fN : Nat → Int32} {k : Nat} (hf : fN = fun j => if j < k then f j else g j) : ∀ j, j < n → (if j < k then Value.int (f j) else Value.int (g j)) = Value.int (fN j) := by
  subst hf; intro j _; by_cases q : j < k <;> simp [q]
theorem own_cpyJ {f g fN : Nat → Int64} {k : Nat} (hf : fN = fun j => if j < k then f j else g j) : ∀ j, j < n → (if j < k then Value.long (f j) else Value.long (g j)) = Value.long (fN j) := by
  subst hf; intro j _; by_cases q : j < k <;> simp [q]
theorem own_acW {own : String} {index : Nat} (h1 : (Jvm.Cond.methodLink own index Jvm.Stand.acN).before args s = true) (h2 : (Jvm.Cond.native Jvm.Stand.acN).before args s = true) (h3 : (Jvm.Cond.static Jvm.Stand.acN).before args s = true) (h4 : (Jvm.Cond.initialized "java/lang/System").before args s = true) : ∀ w ∈ Jvm.Free.XT.acW own index, w.before args s = true := by
  intro w hw
  change w ∈ [Jvm.Cond.methodLink own index Jvm.Stand.acN, Jvm.Cond.native Jvm.Stand.acN, Jvm.Cond.static Jvm.Stand.acN, Jvm.Cond.initialized "java/lang/System"] at hw
  simp only [List.mem_cons, List.not_mem_nil, or_false] at hw
  rcases hw with rfl | rfl | rfl | rfl
  · exact h1
  · exact h2
  · exact h3
  · exact h4
theorem own_isArr {c c' : Cell} (q : Z.isArrayOf c ty) (h1 : c'.cls = c.cls) (h2 : c'.vm = c.vm) : Z.isArrayOf c' ty := by
  obtain ⟨q1, k, q2, q3⟩ := q
  exact ⟨by rw [h2]; exact q1, k, by rw [h1]; exact q2, q3⟩
theorem AF.copy (X : Stand p l e R s m args below meth c T locs cells slots) (hx : p.tables.exec = Jvm.exec) (hZ : Z.Warmed39 s.vm) {own : String} {index : Nat} (hown : s.vm.findClass own = some m.cls) (hw : ∀ w ∈ Jvm.Free.XT.acW own index, w.before args s = true)
    (eT : T.heap = h) {k : Nat} {f' : Nat → Value} (A : AF Z h a ty n f) (B : AF Z h b ty k f') (hp : ty.isReference = false) {cnt : Nat} (hfit : ∀ j, j < cnt → fits ty (f j) = true) (h1 : cnt ≤ n) (h2 : cnt ≤ k) {jn : Int32} (hn : jn = Int32.ofNat cnt)
    {g : JFrame} (hg : g.method = m) (hsize : g.locals.size = c.maxLocals) {rest : List Value} (hs : g.stack = .int jn :: .int 0 :: .ref b :: .int 0 :: .ref a :: rest) (hd : decode c.code g.pc = .ok (.invokestatic index, 3))
    {W : Nat} (hW : 2 * g.monitorRoom + (rest.map fun v => v.category).sum ≤ W) (hfr : 1 ≤ R.frames) (hlo : W + 40 ≤ R.locals) :
    ∃ (T' : State) (h' : Heap) (L' : List Loc), Stand p l e R s m args below meth c T' (locs ++ L') cells slots ∧ T'.heap = h' ∧ (∀ y ∈ L', y.base = b) ∧ Keep h h' [b] ∧ AF Z h' b ty k (fun j => if j < cnt then f j else f' j) ∧
      ∀ target, Steps p.tables e below (T'.setTop { g with pc := g.pc + 3, stack := rest }) target → Steps p.tables e below (T.setTop g) target := by
  obtain ⟨ca, A, a1, a2, a3⟩ := A
  obtain ⟨cb, B, b1, b2, b3⟩ := B
  have tA : Jvm.Free.XT.Arr ty a ca T := ⟨by rw [eT]; exact A.1, State.isArrayOf_alike X.warmed.alike (State.isArrayOf_alike hZ.alike A.2.1), A.2.2, by omega⟩
  have tB : Jvm.Free.XT.Arr ty b cb T := ⟨by rw [eT]; exact B.1, State.isArrayOf_alike X.warmed.alike (State.isArrayOf_alike hZ.alike B.2.1), B.2.2, by omega⟩
  have ga : ∀ j, j < n → ca.slots.getD j .null = f j := fun j hj => by
    have q := a3 j hj
    rw [Array.getD_eq_getD_getElem?, q]; rfl
  obtain ⟨T', B', X', P, q1, q2, q3, q4, st⟩ := X.acopy hx (o := 0) (q := 0) (n := cnt) (jo := 0) (jq := 0) hown hw tA tB (by simp) rfl rfl hn (by omega) (by omega)
    (fun i hi => ⟨by rw [Nat.zero_add, ga i (by omega)]; exact hfit i hi, fun z => by rw [hp] at z; cases z⟩) hg hsize hs hd hW hfr hlo
  refine ⟨T', _, _, X', rfl, fun y hy => ?_, ⟨by rw [P.2.2, eT]; exact Nat.le_refl _, fun x cx hx' hn' => ?_, fun x cx hx' => ?_⟩, ⟨B', ⟨P.1, own_isArr B.2.1 q1 q2, by rw [q2]; exact B.2.2⟩, q3.trans b1, b2, fun j hj => ?_⟩, st⟩
  · simp only [copyLocs, List.mem_map] at hy
    obtain ⟨i, -, rfl⟩ := hy
    rfl
  · rw [P.2.1 x (fun z => hn' (by simp [z])), eT]; exact hx'
  · by_cases z : x = b
    · subst z
      cases hx'.symm.trans B.1
      exact ⟨B', P.1, q1, q2, q3⟩
    · exact ⟨cx, by rw [P.2.1 x z, eT]; exact hx', rfl, rfl, rfl⟩
  · show _ = some (if j < cnt then f j else f' j)
    rw [q4 j]
    by_cases z : j < cnt
    · rw [if_pos (by omega), if_pos z]
      have : 0 + (j - 0) = j := by omega
      rw [this, ga j (by omega)]
    · rw [if_neg (by omega), if_neg z]; exact b3 j hj
theorem own_nb (x : Int32) : nar .boolean x = x &&& 1 := rfl
theorem own_nar1 : nar .boolean 1 = 1 := rfl
theorem own_nar0 : nar .boolean 0 = 0 := rfl
theorem own_nbyte (x : Int32) : nar .byte x = x.toInt8.toInt32 := rfl
theorem own_nar_ite (q : Prop) [Decidable q] (x y : Int32) : nar .boolean (if q then x else y) = if q then nar .boolean x else nar .boolean y := by split <;> rfl
theorem own_pos_ne {x : Int64} (q : 0 < x) : x ≠ 0 := fun z => by subst z; exact absurd q (by decide)
theorem own_cat {w : Value} (q : w.isRef = true) : w.category = 1 := by cases w <;> first | rfl | (simp [Value.isRef] at q)
/-- a static field that holds v, in a heap that keeps all that was old at the start -/
def SO (Z : State) (n0 : Nat) (h : Heap) (C n d : String) (v : Value) : Prop := Sta Z Z.heap C n d v ∧ Old Z n0 h
theorem SO.ext {n0 : Nat} {C nm d : String} (F : SO Z n0 h C nm d v) (E : Ext h h') : SO Z n0 h' C nm d v := ⟨F.1, F.2.ext E⟩
theorem SO.wr {n0 : Nat} {C nm d : String} {w : Value} (F : SO Z n0 h C nm d v) (W : Wr h h' a sl w) (q : n0 ≤ a) : SO Z n0 h' C nm d v := ⟨F.1, F.2.wr W q⟩
theorem SO.keep {n0 : Nat} {C nm d : String} (F : SO Z n0 h C nm d v) (K : Keep h h' ws) (q : ∀ x ∈ ws, n0 ≤ x) : SO Z n0 h' C nm d v := ⟨F.1, F.2.keep K q⟩
theorem SO.sta {n0 : Nat} {C nm d : String} (F : SO Z n0 h C nm d v) : Sta Z h C nm d v := F.1.ext F.2.2
theorem own_selp {y : MethodName} {n : Nat} (wi : (Jvm.Cond.instantiable y.cls n).before args s = true) (hpriv : s.PrivateAt y) (hinst : (Jvm.Cond.instanceMethod y).before args s = true) (hy : y.cls ≠ "java/lang/invoke/MethodHandle" ∧ y.cls ≠ "java/lang/invoke/VarHandle") : (Jvm.Cond.selects y.cls y y).before args s = true := by
  obtain ⟨c, k, h1, h2, -, h4, -⟩ := Cond.instantiable_spec wi
  exact Jvm.Stand.selects_self_of_private h1 h2 (by simp only [Bool.or_eq_false_iff] at h4; exact h4.1) hpriv hinst hy
end OwnKit

theorem pn_0 : plainName "com/example/tidewheel/tidewheel/store/DueAfterPinLaw" = true := by first | (simp [plainName, overriddenIn]; done) | decide +kernel
theorem d1_0 : decode prog_19_method_2_code 0 = .ok (.lload_n 0, 1) := by decide +kernel
theorem d1_1 : decode prog_19_method_2_code 1 = .ok (.lconst 0, 1) := by decide +kernel
theorem d1_2 : decode prog_19_method_2_code 2 = .ok (.lcmp, 1) := by decide +kernel
theorem d1_3 : decode prog_19_method_2_code 3 = .ok (.ifCond .lt 11, 3) := by decide +kernel
theorem d1_6 : decode prog_19_method_2_code 6 = .ok (.lload_n 0, 1) := by decide +kernel
theorem d1_7 : decode prog_19_method_2_code 7 = .ok (.ldc2_w 17, 3) := by decide +kernel
theorem d1_10 : decode prog_19_method_2_code 10 = .ok (.lcmp, 1) := by decide +kernel
theorem d1_11 : decode prog_19_method_2_code 11 = .ok (.ifCond .le 17, 3) := by decide +kernel
theorem d1_28 : decode prog_19_method_2_code 28 = .ok (.new 8, 3) := by decide +kernel
theorem d1_31 : decode prog_19_method_2_code 31 = .ok (.dup, 1) := by decide +kernel
theorem d1_32 : decode prog_19_method_2_code 32 = .ok (.iconst 0, 1) := by decide +kernel
theorem d1_33 : decode prog_19_method_2_code 33 = .ok (.lload_n 0, 1) := by decide +kernel
theorem d1_34 : decode prog_19_method_2_code 34 = .ok (.invokespecial 28, 3) := by decide +kernel
theorem d1_37 : decode prog_19_method_2_code 37 = .ok (.areturn, 1) := by decide +kernel
theorem pn_1 : plainName "com/example/tidewheel/tidewheel/store/Due" = true := by first | (simp [plainName, overriddenIn]; done) | decide +kernel
theorem d2_0 : decode prog_19_method_1_code 0 = .ok (.aload_n 0, 1) := by decide +kernel
theorem d2_1 : decode prog_19_method_1_code 1 = .ok (.invokespecial 1, 3) := by decide +kernel
theorem d2_4 : decode prog_19_method_1_code 4 = .ok (.aload_n 0, 1) := by decide +kernel
theorem d2_5 : decode prog_19_method_1_code 5 = .ok (.iload_n 1, 1) := by decide +kernel
theorem d2_6 : decode prog_19_method_1_code 6 = .ok (.putfield 7, 3) := by decide +kernel
theorem d2_9 : decode prog_19_method_1_code 9 = .ok (.aload_n 0, 1) := by decide +kernel
theorem d2_10 : decode prog_19_method_1_code 10 = .ok (.lload_n 2, 1) := by decide +kernel
theorem d2_11 : decode prog_19_method_1_code 11 = .ok (.putfield 13, 3) := by decide +kernel
theorem d2_14 : decode prog_19_method_1_code 14 = .ok (.return_, 1) := by decide +kernel
theorem pn_2 : plainName "com/example/tidewheel/tidewheel/store/Due" = true := by first | (simp [plainName, overriddenIn]; done) | decide +kernel
theorem d4_0 : decode prog_19_method_4_code 0 = .ok (.aload_n 0, 1) := by decide +kernel
theorem d4_1 : decode prog_19_method_4_code 1 = .ok (.getfield 7, 3) := by decide +kernel
theorem d4_4 : decode prog_19_method_4_code 4 = .ok (.ifCond .eq 14, 3) := by decide +kernel
theorem d4_18 : decode prog_19_method_4_code 18 = .ok (.lload_n 1, 1) := by decide +kernel
theorem d4_19 : decode prog_19_method_4_code 19 = .ok (.aload_n 0, 1) := by decide +kernel
theorem d4_20 : decode prog_19_method_4_code 20 = .ok (.getfield 13, 3) := by decide +kernel
theorem d4_23 : decode prog_19_method_4_code 23 = .ok (.ladd, 1) := by decide +kernel
theorem d4_24 : decode prog_19_method_4_code 24 = .ok (.lreturn, 1) := by decide +kernel
theorem pn_4 : plainName "com/example/tidewheel/tidewheel/store/Due" = true := by first | (simp [plainName, overriddenIn]; done) | decide +kernel
theorem pd_1 : parseMethodDescriptor "(ZJ)V" = some ⟨[.boolean, .long], none⟩ := by decide +kernel
theorem pd_0 : parseMethodDescriptor "(J)Lcom/example/tidewheel/tidewheel/store/Due;" = some ⟨[.long], some (.object "com/example/tidewheel/tidewheel/store/Due")⟩ := by decide +kernel
theorem pd_3 : parseMethodDescriptor "(J)J" = some ⟨[.long], some .long⟩ := by decide +kernel

theorem own_d (q v3 v4 v5 : Int64) (p : Int32) (hv3 : v3 = ((q &&& (9223372036854775807 : Int64)) % (259200001 : Int64))) (hv4 : v4 = if (p &&& (3 : Int32)) = (1 : Int32) then (259200000 : Int64) else v3) (hv5 : v5 = if (p &&& (3 : Int32)) = (0 : Int32) then (0 : Int64) else v4) : 0 ≤ v5.toInt ∧ v5.toInt ≤ 259200000 := by
  have k0 : (0 : Int64).toInt = 0 := by decide
  have k2 : (259200000 : Int64).toInt = 259200000 := by decide
  have e1 : (q &&& (9223372036854775807 : Int64)).toInt = q.toInt % (2 ^ 63 : Nat) := c_maskL q _ 63 (by decide) (by decide)
  have e2 := (c_lrem (q &&& (9223372036854775807 : Int64)) (259200001 : Int64) 259200001 (by decide)).1 (by rw [e1]; omega)
  rw [lrem_mod, ← hv3] at e2
  rw [hv5, hv4]
  split
  · omega
  · split <;> omega

theorem ef_2 (m : MethodId) (a0 : Addr) (p1 : Int32) (q2 : Int64) : entryFrame m #[(.ref a0), (.int p1), (.long q2)] 4 = mkF m 0 #[.val (.ref a0), .val (.int p1), .val (.long q2), .second] [] := by first | (simp [entryFrame, mkF, argsToLocals, Value.category]; done) | rfl
def Q2 (Z : State) (a0 : Addr) (p1 : Int32) (q2 : Int64) (w_absolute_a0 : Int32) (w_millis_a0 : Int64) (h0 : Heap) (n0 : Nat) (v : Option Value) (h : Heap) (L : List Loc) : Prop := v = none ∧ Fr n0 L ∧ Keep h0 h [a0] ∧ Exa Z h a0 "com/example/tidewheel/tidewheel/store/Due" ∧ Fld Z h a0 "com/example/tidewheel/tidewheel/store/Due" "absolute" "Z" (.int (nar .boolean p1)) ∧ Fld Z h a0 "com/example/tidewheel/tidewheel/store/Due" "millis" "J" (.long q2)
set_option maxRecDepth 65536 in
set_option maxHeartbeats 40000000 in
theorem rm2 (l : Launch) (Z : State) (A0 : Array Value) (hw : ∀ d ∈ tables_1, d.before A0 Z = true) (ws : List Jvm.Cond) (a0 : Addr) (p1 : Int32) (q2 : Int64) (w_absolute_a0 : Int32) (w_millis_a0 : Int64) (h0 : Heap) (n0 : Nat) (Z0 : n0 ≤ h0.size) (E_a0 : Exa Z h0 a0 "com/example/tidewheel/tidewheel/store/Due") (F_absolute_a0 : Fld Z h0 a0 "com/example/tidewheel/tidewheel/store/Due" "absolute" "Z" (.int w_absolute_a0)) (F_millis_a0 : Fld Z h0 a0 "com/example/tidewheel/tidewheel/store/Due" "millis" "J" (.long w_millis_a0)) (nw_a0 : n0 ≤ a0) :
    MetFree l (⟨"com/example/tidewheel/tidewheel/store/Due", "<init>", "(ZJ)V"⟩ : MethodName) (head1 (Jvm.Cond.code (⟨"com/example/tidewheel/tidewheel/store/Due", "<init>", "(ZJ)V"⟩ : MethodName) prog_19_method_1_code 4 none :: ws) ({ frames := 1, cells := 0, slots := 0, locals := 12 } : Room)) (fun a U => a = #[(.ref a0), (.int p1), (.long q2)] ∧ Z.Warmed39 U.vm ∧ U.heap = h0) (fun _ _ _ _ _ => True) (fun _ U o U' => ∃ v L, o = .returned v ∧ Q2 Z a0 p1 q2 w_absolute_a0 w_millis_a0 h0 n0 v U'.heap L ∧ FrameEnd U o U' L ({ frames := 1, cells := 0, slots := 0, locals := 12 } : Room).cells ({ frames := 1, cells := 0, slots := 0, locals := 12 } : Room).slots) := by
  refine MetFree.of_bodySF (plainFor_of_name pn_2) hisR ?_
  intro p e s m args below meth c s₁ Bd hml0 hP hK
  obtain ⟨rfl, hZ, hh⟩ := hP
  have hx := Bd.exec
  have hby := Bd.bytes
  have hml : c.maxLocals = 4 := hml0
  have hown : s.vm.findClass "com/example/tidewheel/tidewheel/store/Due" = some m.cls := findClass_of_methodNamed Bd.named
  have hnm := (name_of_methodNamed Bd.named Bd.method).1
  have X0 : Stand p l e ({ frames := 1, cells := 0, slots := 0, locals := 12 } : Room) s m #[(.ref a0), (.int p1), (.long q2)] below meth c s₁ [] 0 0 := Stand.of_body Bd
  have e0 : s₁.heap = h0 := by rw [← hh, Bd.state]; rfl
  have N0 := Fr.nil n0
  have pre0 : ∀ t, Steps p.tables e below (s₁.setTop (mkF m 0 #[.val (.ref a0), .val (.int p1), .val (.long q2), .second] [])) t → Steps p.tables e below (s₁.setTop (entryFrame m #[(.ref a0), (.int p1), (.long q2)] 4)) t := fun t k => castTop (ef_2 m a0 p1 q2) k
  obtain ⟨T1, X1, e1, st1⟩ := initO X0 hx hZ hown (hw _ (List.mem_of_getElem? (i := 10) rfl)) (hw _ (List.mem_of_getElem? (i := 11) rfl)) (hw _ (List.mem_of_getElem? (i := 12) rfl)) e0 (g := (mkF m 1 #[.val (.ref a0), .val (.int p1), .val (.long q2), .second] [(.ref a0)])) rfl (by rw [hml]; rfl) rfl (hb hby d2_1) (by decide) (W := 0) (by show 2 * 0 + _ ≤ _; exact Nat.le_of_eq rfl) (by decide)
  obtain ⟨T2, h2, X2, e2, W2, st2⟩ := putFN X1 hx hZ hown (hw _ (List.mem_of_getElem? (i := 13) rfl)) Via.refl e1 F_absolute_a0 E_a0 (Or.inr ⟨(hw _ (List.mem_of_getElem? (i := 14) rfl)), rfl, hnm⟩) (hw _ (List.mem_of_getElem? (i := 6) rfl)) (ty := .boolean) (v' := .int (nar .boolean p1)) (by decide) rfl (fits_nar_bool _) (g := (mkF m 6 #[.val (.ref a0), .val (.int p1), .val (.long q2), .second] [(.int p1), (.ref a0)])) rfl rfl (hb hby d2_6)
  have K2 : Keep h0 h2 [a0] := (Keep.refl h0 [a0]).wr W2 (Or.inl (by simp))
  have Fw2 : Fld Z h2 a0 "com/example/tidewheel/tidewheel/store/Due" "absolute" "Z" (.int (nar .boolean p1)) := F_absolute_a0.same W2
  have N2 := Fr.snoc X2 N0 nw_a0
  have G3 : Exa Z h2 a0 "com/example/tidewheel/tidewheel/store/Due" := (E_a0.wr W2)
  have G4 : Fld Z h2 a0 "com/example/tidewheel/tidewheel/store/Due" "millis" "J" (.long w_millis_a0) := (F_millis_a0.other W2 (Or.inr (slot_ne (Or.inr (hw _ (List.mem_of_getElem? (i := 16) rfl))) (Or.inr (hw _ (List.mem_of_getElem? (i := 14) rfl))) (by decide) (t := .long) (t' := .boolean) (by decide) (by decide))))
  obtain ⟨T5, h5, X5, e5, W5, st5⟩ := putF X2 hx hZ hown (host := "") (Or.inl (hw _ (List.mem_of_getElem? (i := 15) rfl))) Via.refl e2 G4 G3 (Or.inr ⟨(hw _ (List.mem_of_getElem? (i := 16) rfl)), rfl, hnm⟩) (hw _ (List.mem_of_getElem? (i := 6) rfl)) (ty := .long) (by decide) rfl rfl (g := (mkF m 11 #[.val (.ref a0), .val (.int p1), .val (.long q2), .second] [(.long q2), (.ref a0)])) rfl rfl (hb hby d2_11)
  have K5 : Keep h0 h5 [a0] := K2.wr W5 (Or.inl (by simp))
  have Fw5 : Fld Z h5 a0 "com/example/tidewheel/tidewheel/store/Due" "millis" "J" (.long q2) := G4.same W5
  have N5 := Fr.snoc X5 N2 nw_a0
  obtain ⟨fs, hr, hrun, hended, hW, hsame⟩ := X5.leave (v := none) (fun _ => rfl)
  refine ⟨_, _, pre0 _ ?_, hrun, hended, _, _, rfl, ?_, ⟨_, rfl⟩, hW, hsame.mono (by decide) (by decide)⟩
  · show Steps p.tables e below (s₁.setTop (mkF m 0 #[.val (.ref a0), .val (.int p1), .val (.long q2), .second] [])) _
    refine XS.aloadN X0.here hx rfl (hb hby d2_0) rfl rfl ?_
    show Steps p.tables e below (s₁.setTop (mkF m 1 #[.val (.ref a0), .val (.int p1), .val (.long q2), .second] [(.ref a0)])) _
    refine st1 _ ?_
    show Steps p.tables e below (T1.setTop (mkF m 4 #[.val (.ref a0), .val (.int p1), .val (.long q2), .second] [])) _
    refine XS.aloadN X1.here hx rfl (hb hby d2_4) rfl rfl ?_
    show Steps p.tables e below (T1.setTop (mkF m 5 #[.val (.ref a0), .val (.int p1), .val (.long q2), .second] [(.ref a0)])) _
    refine XS.iloadN X1.here hx rfl (hb hby d2_5) rfl ?_
    show Steps p.tables e below (T1.setTop (mkF m 6 #[.val (.ref a0), .val (.int p1), .val (.long q2), .second] [(.int p1), (.ref a0)])) _
    refine st2 _ ?_
    show Steps p.tables e below (T2.setTop (mkF m 9 #[.val (.ref a0), .val (.int p1), .val (.long q2), .second] [])) _
    refine XS.aloadN X2.here hx rfl (hb hby d2_9) rfl rfl ?_
    show Steps p.tables e below (T2.setTop (mkF m 10 #[.val (.ref a0), .val (.int p1), .val (.long q2), .second] [(.ref a0)])) _
    refine XS.lloadN X2.here hx rfl (hb hby d2_10) rfl ?_
    show Steps p.tables e below (T2.setTop (mkF m 11 #[.val (.ref a0), .val (.int p1), .val (.long q2), .second] [(.long q2), (.ref a0)])) _
    refine st5 _ ?_
    show Steps p.tables e below (T5.setTop (mkF m 14 #[.val (.ref a0), .val (.int p1), .val (.long q2), .second] [])) _
    exact X5.returnOut hx Bd.returns (hb hby d2_14) hr
  have G6 : Exa Z h5 a0 "com/example/tidewheel/tidewheel/store/Due" := (G3.wr W5)
  have G7 : Fld Z h5 a0 "com/example/tidewheel/tidewheel/store/Due" "absolute" "Z" (.int (nar .boolean p1)) := (Fw2.other W5 (Or.inr (slot_ne (Or.inr (hw _ (List.mem_of_getElem? (i := 14) rfl))) (Or.inr (hw _ (List.mem_of_getElem? (i := 16) rfl))) (by decide) (t := .boolean) (t' := .long) (by decide) (by decide))))
  · show Q2 Z a0 p1 q2 w_absolute_a0 w_millis_a0 h0 n0 _ T5.heap _
    rw [e5]
    exact ⟨rfl, N5, K5, G6, G7, Fw5⟩
theorem ef_1 (m : MethodId) (q0 : Int64) : entryFrame m #[(.long q0)] 2 = mkF m 0 #[.val (.long q0), .second] [] := by first | (simp [entryFrame, mkF, argsToLocals, Value.category]; done) | rfl
def Q1 (Z : State) (q0 : Int64) (h0 : Heap) (n0 : Nat) (v : Option Value) (h : Heap) (L : List Loc) : Prop := ∃ b1 : Addr, v = some (.ref b1) ∧ Fr n0 L ∧ Keep h0 h [] ∧ h0.size ≤ b1 ∧ Exa Z h b1 "com/example/tidewheel/tidewheel/store/Due" ∧ Fld Z h b1 "com/example/tidewheel/tidewheel/store/Due" "absolute" "Z" (.int (nar .boolean (0 : Int32))) ∧ Fld Z h b1 "com/example/tidewheel/tidewheel/store/Due" "millis" "J" (.long q0)
set_option maxRecDepth 65536 in
set_option maxHeartbeats 40000000 in
theorem rm1 (l : Launch) (Z : State) (A0 : Array Value) (hw : ∀ d ∈ tables_1, d.before A0 Z = true) (ws : List Jvm.Cond) (q0 : Int64) (h0 : Heap) (n0 : Nat) (Z0 : n0 ≤ h0.size) (hc3 : ¬ (q0 < (0 : Int64))) (hc11 : ¬ ((259200000 : Int64) < q0)) :
    MetFree l (⟨"com/example/tidewheel/tidewheel/store/Due", "after", "(J)Lcom/example/tidewheel/tidewheel/store/Due;"⟩ : MethodName) (head1 (Jvm.Cond.code (⟨"com/example/tidewheel/tidewheel/store/Due", "after", "(J)Lcom/example/tidewheel/tidewheel/store/Due;"⟩ : MethodName) prog_19_method_2_code 2 (some (.object "com/example/tidewheel/tidewheel/store/Due")) :: ws) ({ frames := 2, cells := 1, slots := 2, locals := 28 } : Room)) (fun a U => a = #[(.long q0)] ∧ Z.Warmed39 U.vm ∧ U.heap = h0) (fun _ _ _ _ _ => True) (fun _ U o U' => ∃ v L, o = .returned v ∧ Q1 Z q0 h0 n0 v U'.heap L ∧ FrameEnd U o U' L ({ frames := 2, cells := 1, slots := 2, locals := 28 } : Room).cells ({ frames := 2, cells := 1, slots := 2, locals := 28 } : Room).slots) := by
  refine MetFree.of_bodySF (plainFor_of_name pn_1) hisR ?_
  intro p e s m args below meth c s₁ Bd hml0 hP hK
  obtain ⟨rfl, hZ, hh⟩ := hP
  have hx := Bd.exec
  have hby := Bd.bytes
  have hml : c.maxLocals = 2 := hml0
  have hown : s.vm.findClass "com/example/tidewheel/tidewheel/store/Due" = some m.cls := findClass_of_methodNamed Bd.named
  have hnm := (name_of_methodNamed Bd.named Bd.method).1
  have X0 : Stand p l e ({ frames := 2, cells := 1, slots := 2, locals := 28 } : Room) s m #[(.long q0)] below meth c s₁ [] 0 0 := Stand.of_body Bd
  have e0 : s₁.heap = h0 := by rw [← hh, Bd.state]; rfl
  have N0 := Fr.nil n0
  have pre0 : ∀ t, Steps p.tables e below (s₁.setTop (mkF m 0 #[.val (.long q0), .second] [])) t → Steps p.tables e below (s₁.setTop (entryFrame m #[(.long q0)] 2)) t := fun t k => castTop (ef_1 m q0) k
  obtain ⟨T1, h1, X1, e1, E1, A1, D1, -, st1⟩ := newO X0 hx hZ hown (hw _ (List.mem_of_getElem? (i := 5) rfl)) (hw _ (List.mem_of_getElem? (i := 6) rfl)) (hw _ (List.mem_of_getElem? (i := 2) rfl)) e0 (g := (mkF m 28 #[.val (.long q0), .second] [])) rfl (hb hby d1_28) (by decide) (by decide)
  obtain ⟨b1, g1⟩ : ∃ z, z = h0.size := ⟨_, rfl⟩
  rw [← g1] at A1 D1 st1
  have nw_b1 : n0 ≤ b1 := Nat.le_trans (Nat.le_trans Z0 (Keep.refl h0 []).1) (Nat.le_of_eq g1.symm)
  have sz_b1 : h0.size ≤ b1 := Nat.le_trans (Keep.refl h0 []).1 (Nat.le_of_eq g1.symm)
  have K1 : Keep h0 h1 [] := (Keep.refl h0 []).ext E1
  have F_absolute_b1 : Fld Z h1 b1 "com/example/tidewheel/tidewheel/store/Due" "absolute" "Z" (.int (0 : Int32)) := D1 (Or.inr (hw _ (List.mem_of_getElem? (i := 14) rfl))) (ty := .boolean) (by decide)
  have F_millis_b1 : Fld Z h1 b1 "com/example/tidewheel/tidewheel/store/Due" "millis" "J" (.long (0 : Int64)) := D1 (Or.inr (hw _ (List.mem_of_getElem? (i := 16) rfl))) (ty := .long) (by decide)
  obtain ⟨_, _, ⟨T2, L2, k2, n2⟩, -, X2, ⟨Lc2, hQ2, l2, y2, z2⟩, st2⟩ := X1.specialBack hx (y := (⟨"com/example/tidewheel/tidewheel/store/Due", "<init>", "(ZJ)V"⟩ : MethodName)) rfl hown (mvT hZ (hw _ (List.mem_of_getElem? (i := 7) rfl))) (mvT hZ (hw _ (List.mem_of_getElem? (i := 8) rfl))) (mvT hZ (hw _ (List.mem_of_getElem? (i := 9) rfl))) (by decide) (backOf (W := 1) (rm2 l Z A0 hw [] b1 (0 : Int32) q0 (0 : Int32) (0 : Int64) h1 n0 (Nat.le_trans Z0 K1.1) A1 F_absolute_b1 F_millis_b1 nw_b1) hZ (hw _ (List.mem_of_getElem? (i := 9) rfl)) (hw _ (List.mem_of_getElem? (i := 2) rfl)) (by decide) (by decide)) (g := (mkF m 34 #[.val (.long q0), .second] [(.long q0), (.int (0 : Int32)), (.ref b1), (.ref b1)])) rfl (by rw [hml]; rfl) (Steps.refl _) (a := b1) (argsL := [(.int (0 : Int32)), (.long q0)]) (rest := [(.ref b1)]) (lenOf pd_1 rfl) rfl (by show 2 * 0 + _ ≤ _; exact Nat.le_of_eq rfl) (hb hby d1_34) (fun _ _ => ⟨rfl, e1, (by decide : 1 + 0 ≤ _), (by decide : 2 + 0 ≤ _)⟩)
  dsimp only [Pt.U, Pt.locs, Pt.cells, Pt.slots] at X2 l2 y2 z2 st2 hQ2
  subst l2 y2 z2
  obtain ⟨rfl, N2q, Kc2, P3, P4, P5⟩ := hQ2
  have K2 : Keep h0 T2.heap [] := K1.trans Kc2 (allS (Or.inr sz_b1) all0)
  have N2 := Fr.app N0 N2q
  obtain ⟨fs, hr, hrun, hended, hW, hsame⟩ := X2.leave (v := some (.ref b1)) (fun h => by rw [Bd.returns] at h; cases h)
  refine ⟨_, _, pre0 _ ?_, hrun, hended, _, _, rfl, ?_, ⟨_, rfl⟩, hW, hsame.mono (by decide) (by decide)⟩
  · show Steps p.tables e below (s₁.setTop (mkF m 0 #[.val (.long q0), .second] [])) _
    refine XS.lloadN X0.here hx rfl (hb hby d1_0) rfl ?_
    show Steps p.tables e below (s₁.setTop (mkF m 1 #[.val (.long q0), .second] [(.long q0)])) _
    refine XS.lconst X0.here hx rfl (hb hby d1_1) ?_
    show Steps p.tables e below (s₁.setTop (mkF m 2 #[.val (.long q0), .second] [(.long (0 : Int64)), (.long q0)])) _
    refine XS.lcmp X0.here hx rfl (hb hby d1_2) rfl ?_
    show Steps p.tables e below (s₁.setTop (mkF m 3 #[.val (.long q0), .second] [(.int (lcmpW q0 (0 : Int64)))])) _
    refine XS.ifNo X0.here hx rfl (hb hby d1_3) rfl ((if0 _ _).trans (flt (fun q => hc3 ((lw_lt q0 (0 : Int64)).mp q))).1) ?_
    show Steps p.tables e below (s₁.setTop (mkF m 6 #[.val (.long q0), .second] [])) _
    refine XS.lloadN X0.here hx rfl (hb hby d1_6) rfl ?_
    show Steps p.tables e below (s₁.setTop (mkF m 7 #[.val (.long q0), .second] [(.long q0)])) _
    refine X0.ldc2Long hx hown (mvT hZ (hw _ (List.mem_of_getElem? (i := 4) rfl))) (g := (mkF m 7 #[.val (.long q0), .second] [(.long q0)])) rfl (hb hby d1_7) _ ?_
    show Steps p.tables e below (s₁.setTop (mkF m 10 #[.val (.long q0), .second] [(.long (259200000 : Int64)), (.long q0)])) _
    refine XS.lcmp X0.here hx rfl (hb hby d1_10) rfl ?_
    show Steps p.tables e below (s₁.setTop (mkF m 11 #[.val (.long q0), .second] [(.int (lcmpW q0 (259200000 : Int64)))])) _
    refine XS.ifYes X0.here hx rfl (pc0 := 11) (pc' := 28) rfl (hb hby d1_11) rfl ((if0 _ _).trans (flt (fun q => hc11 ((lw_gt q0 (259200000 : Int64)).mp q))).2.2.2) (by decide) (by decide) ?_
    show Steps p.tables e below (s₁.setTop (mkF m 28 #[.val (.long q0), .second] [])) _
    refine st1 _ ?_
    show Steps p.tables e below (T1.setTop (mkF m 31 #[.val (.long q0), .second] [(.ref b1)])) _
    refine XS.dup X1.here hx rfl (hb hby d1_31) rfl rfl ?_
    show Steps p.tables e below (T1.setTop (mkF m 32 #[.val (.long q0), .second] [(.ref b1), (.ref b1)])) _
    refine XS.iconst X1.here hx rfl (hb hby d1_32) ?_
    show Steps p.tables e below (T1.setTop (mkF m 33 #[.val (.long q0), .second] [(.int (0 : Int32)), (.ref b1), (.ref b1)])) _
    refine XS.lloadN X1.here hx rfl (hb hby d1_33) rfl ?_
    show Steps p.tables e below (T1.setTop (mkF m 34 #[.val (.long q0), .second] [(.long q0), (.int (0 : Int32)), (.ref b1), (.ref b1)])) _
    refine st2.trans ?_
    show Steps p.tables e below (T2.setTop (mkF m 37 #[.val (.long q0), .second] [(.ref b1)])) _
    exact retOut X2 hx Bd.returns rfl (Or.inr (Or.inr (Or.inr (Or.inr ⟨rfl, rfl, rfl⟩)))) (hb hby d1_37) hr
  · show Q1 Z q0 h0 n0 _ T2.heap _
    exact ⟨b1, rfl, N2, K2, sz_b1, P3, P4, P5⟩
theorem ef_4 (m : MethodId) (a0 : Addr) (q1 : Int64) : entryFrame m #[(.ref a0), (.long q1)] 3 = mkF m 0 #[.val (.ref a0), .val (.long q1), .second] [] := by first | (simp [entryFrame, mkF, argsToLocals, Value.category]; done) | rfl
def Q4 (Z : State) (a0 : Addr) (q1 : Int64) (w_absolute_a0 : Int32) (w_millis_a0 : Int64) (h0 : Heap) (n0 : Nat) (v : Option Value) (h : Heap) (L : List Loc) : Prop := v = some (.long (q1 + w_millis_a0)) ∧ Fr n0 L ∧ h = h0
set_option maxRecDepth 65536 in
set_option maxHeartbeats 40000000 in
theorem rm4 (l : Launch) (Z : State) (A0 : Array Value) (hw : ∀ d ∈ tables_1, d.before A0 Z = true) (ws : List Jvm.Cond) (a0 : Addr) (q1 : Int64) (w_absolute_a0 : Int32) (w_millis_a0 : Int64) (h0 : Heap) (n0 : Nat) (Z0 : n0 ≤ h0.size) (E_a0 : Exa Z h0 a0 "com/example/tidewheel/tidewheel/store/Due") (F_absolute_a0 : Fld Z h0 a0 "com/example/tidewheel/tidewheel/store/Due" "absolute" "Z" (.int w_absolute_a0)) (F_millis_a0 : Fld Z h0 a0 "com/example/tidewheel/tidewheel/store/Due" "millis" "J" (.long w_millis_a0)) (hc4 : w_absolute_a0 = (0 : Int32)) :
    MetFree l (⟨"com/example/tidewheel/tidewheel/store/Due", "resolve", "(J)J"⟩ : MethodName) (head1 (Jvm.Cond.code (⟨"com/example/tidewheel/tidewheel/store/Due", "resolve", "(J)J"⟩ : MethodName) prog_19_method_4_code 3 (some .long) :: ws) ({ frames := 0, cells := 0, slots := 0, locals := 0 } : Room)) (fun a U => a = #[(.ref a0), (.long q1)] ∧ Z.Warmed39 U.vm ∧ U.heap = h0) (fun _ _ _ _ _ => True) (fun _ U o U' => ∃ v L, o = .returned v ∧ Q4 Z a0 q1 w_absolute_a0 w_millis_a0 h0 n0 v U'.heap L ∧ FrameEnd U o U' L ({ frames := 0, cells := 0, slots := 0, locals := 0 } : Room).cells ({ frames := 0, cells := 0, slots := 0, locals := 0 } : Room).slots) := by
  refine MetFree.of_bodySF (plainFor_of_name pn_4) hisR ?_
  intro p e s m args below meth c s₁ Bd hml0 hP hK
  obtain ⟨rfl, hZ, hh⟩ := hP
  have hx := Bd.exec
  have hby := Bd.bytes
  have hml : c.maxLocals = 3 := hml0
  have hown : s.vm.findClass "com/example/tidewheel/tidewheel/store/Due" = some m.cls := findClass_of_methodNamed Bd.named
  have hnm := (name_of_methodNamed Bd.named Bd.method).1
  have X0 : Stand p l e ({ frames := 0, cells := 0, slots := 0, locals := 0 } : Room) s m #[(.ref a0), (.long q1)] below meth c s₁ [] 0 0 := Stand.of_body Bd
  have e0 : s₁.heap = h0 := by rw [← hh, Bd.state]; rfl
  have N0 := Fr.nil n0
  have pre0 : ∀ t, Steps p.tables e below (s₁.setTop (mkF m 0 #[.val (.ref a0), .val (.long q1), .second] [])) t → Steps p.tables e below (s₁.setTop (entryFrame m #[(.ref a0), (.long q1)] 3)) t := fun t k => castTop (ef_4 m a0 q1) k
  obtain ⟨T1, X1, e1, st1⟩ := getF X0 hx hZ hown (host := "") (Or.inl (hw _ (List.mem_of_getElem? (i := 13) rfl))) Via.refl e0 F_absolute_a0 (g := (mkF m 1 #[.val (.ref a0), .val (.long q1), .second] [(.ref a0)])) rfl rfl (hb hby d4_1)
  obtain ⟨T2, X2, e2, st2⟩ := getF X1 hx hZ hown (host := "") (Or.inl (hw _ (List.mem_of_getElem? (i := 15) rfl))) Via.refl e1 F_millis_a0 (g := (mkF m 20 #[.val (.ref a0), .val (.long q1), .second] [(.ref a0), (.long q1)])) rfl rfl (hb hby d4_20)
  obtain ⟨fs, hr, hrun, hended, hW, hsame⟩ := X2.leave (v := some (.long (q1 + w_millis_a0))) (fun h => by rw [Bd.returns] at h; cases h)
  refine ⟨_, _, pre0 _ ?_, hrun, hended, _, _, rfl, ?_, ⟨_, rfl⟩, hW, hsame.mono (by decide) (by decide)⟩
  · show Steps p.tables e below (s₁.setTop (mkF m 0 #[.val (.ref a0), .val (.long q1), .second] [])) _
    refine XS.aloadN X0.here hx rfl (hb hby d4_0) rfl rfl ?_
    show Steps p.tables e below (s₁.setTop (mkF m 1 #[.val (.ref a0), .val (.long q1), .second] [(.ref a0)])) _
    refine st1 _ ?_
    show Steps p.tables e below (T1.setTop (mkF m 4 #[.val (.ref a0), .val (.long q1), .second] [(.int w_absolute_a0)])) _
    refine XS.ifYes X1.here hx rfl (pc0 := 4) (pc' := 18) rfl (hb hby d4_4) rfl ((if0 _ _).trans (teq hc4).1) (by decide) (by decide) ?_
    show Steps p.tables e below (T1.setTop (mkF m 18 #[.val (.ref a0), .val (.long q1), .second] [])) _
    refine XS.lloadN X1.here hx rfl (hb hby d4_18) rfl ?_
    show Steps p.tables e below (T1.setTop (mkF m 19 #[.val (.ref a0), .val (.long q1), .second] [(.long q1)])) _
    refine XS.aloadN X1.here hx rfl (hb hby d4_19) rfl rfl ?_
    show Steps p.tables e below (T1.setTop (mkF m 20 #[.val (.ref a0), .val (.long q1), .second] [(.ref a0), (.long q1)])) _
    refine st2 _ ?_
    show Steps p.tables e below (T2.setTop (mkF m 23 #[.val (.ref a0), .val (.long q1), .second] [(.long w_millis_a0), (.long q1)])) _
    refine XS.ladd X2.here hx rfl (hb hby d4_23) rfl ?_
    show Steps p.tables e below (T2.setTop (mkF m 24 #[.val (.ref a0), .val (.long q1), .second] [(.long (q1 + w_millis_a0))])) _
    exact retOut X2 hx Bd.returns rfl (Or.inr (Or.inl ⟨rfl, rfl, _, rfl⟩)) (hb hby d4_24) hr
  · show Q4 Z a0 q1 w_absolute_a0 w_millis_a0 h0 n0 _ T2.heap _
    exact ⟨rfl, N0, e2⟩
theorem own_hc3 (q0 : Int64) (p2 : Int32) (v3 : Int64) (v4 : Int64) (v5 : Int64) (hv3 : v3 = ((q0 &&& (9223372036854775807 : Int64)) % (259200001 : Int64))) (hv4 : v4 = (if (p2 &&& (3 : Int32)) = (1 : Int32) then (259200000 : Int64) else v3)) (hv5 : v5 = (if (p2 &&& (3 : Int32)) = (0 : Int32) then (0 : Int64) else v4)) : ¬ (v5 < (0 : Int64)) := by
  obtain ⟨a, b⟩ := own_d _ v3 v4 v5 _ hv3 hv4 hv5
  have k0 : (0 : Int64).toInt = 0 := by decide
  rw [Int64.lt_iff_toInt_lt, k0]; omega
theorem own_hc11 (q0 : Int64) (p2 : Int32) (v3 : Int64) (v4 : Int64) (v5 : Int64) (hv3 : v3 = ((q0 &&& (9223372036854775807 : Int64)) % (259200001 : Int64))) (hv4 : v4 = (if (p2 &&& (3 : Int32)) = (1 : Int32) then (259200000 : Int64) else v3)) (hv5 : v5 = (if (p2 &&& (3 : Int32)) = (0 : Int32) then (0 : Int64) else v4)) : ¬ ((259200000 : Int64) < v5) := by
  obtain ⟨a, b⟩ := own_d _ v3 v4 v5 _ hv3 hv4 hv5
  have k2 : (259200000 : Int64).toInt = 259200000 := by decide
  rw [Int64.lt_iff_toInt_lt, k2]; omega
theorem own_law (q0 : Int64) (q1 : Int64) (p2 : Int32) (v3 : Int64) (v4 : Int64) (v5 : Int64) (v18 : Int32) (v19 : Int32) (hv3 : v3 = ((q0 &&& (9223372036854775807 : Int64)) % (259200001 : Int64))) (hv4 : v4 = (if (p2 &&& (3 : Int32)) = (1 : Int32) then (259200000 : Int64) else v3)) (hv5 : v5 = (if (p2 &&& (3 : Int32)) = (0 : Int32) then (0 : Int64) else v4)) (hv18 : v18 = (if ((0 : Int64) + v5) = v5 then (1 : Int32) else (0 : Int32))) (hv19 : v19 = (if (q1 + v5) = (q1 + v5) then v18 else (0 : Int32))) : (nar .boolean v19) = (1 : Int32) := by
  rw [hv19, if_pos rfl, hv18, if_pos (Int64.zero_add _), own_nar1]
theorem ef_0 (m : MethodId) (q0 : Int64) (q1 : Int64) (p2 : Int32) : entryFrame m #[(.long q0), (.long q1), (.int p2)] maxLocals = mkF m 0 #[.val (.long q0), .second, .val (.long q1), .second, .val (.int p2), .unset, .unset, .unset, .unset, .unset, .unset, .unset, .unset] [] := by first | (simp [entryFrame, mkF, argsToLocals, Value.category, maxLocals]; done) | rfl
def Q0 (h0 : Heap) (n0 : Nat) (v : Option Value) (h : Heap) (L : List Loc) : Prop := v = some (.int 1) ∧ Fr n0 L
set_option maxRecDepth 65536 in
set_option maxHeartbeats 40000000 in
theorem rm0 (l : Launch) (Z : State) (A0 : Array Value) (hw : ∀ d ∈ tables_1, d.before A0 Z = true) (ws : List Jvm.Cond) (q0 : Int64) (q1 : Int64) (p2 : Int32) (h0 : Heap) (n0 : Nat) (Z0 : n0 ≤ h0.size) :
    MetFree l x (head1 (Jvm.Cond.code x code maxLocals ret :: ws) room_1) (fun a U => a = #[(.long q0), (.long q1), (.int p2)] ∧ Z.Warmed39 U.vm ∧ U.heap = h0) (fun _ _ _ _ _ => True) (fun _ U o U' => ∃ v L, o = .returned v ∧ Q0 h0 n0 v U'.heap L ∧ FrameEnd U o U' L 1 2) := by
  refine MetFree.of_bodySF (plainFor_of_name pn_0) hisR ?_
  intro p e s m args below meth c s₁ Bd hml0 hP hK
  obtain ⟨rfl, hZ, hh⟩ := hP
  have hx := Bd.exec
  have hby := Bd.bytes
  have hml : c.maxLocals = 13 := hml0
  have hown : s.vm.findClass "com/example/tidewheel/tidewheel/store/DueAfterPinLaw" = some m.cls := findClass_of_methodNamed Bd.named
  have hnm := (name_of_methodNamed Bd.named Bd.method).1
  have X0 : Stand p l e room_1 s m #[(.long q0), (.long q1), (.int p2)] below meth c s₁ [] 0 0 := Stand.of_body Bd
  have e0 : s₁.heap = h0 := by rw [← hh, Bd.state]; rfl
  have N0 := Fr.nil n0
  have pre0 : ∀ t, Steps p.tables e below (s₁.setTop (mkF m 0 #[.val (.long q0), .second, .val (.long q1), .second, .val (.int p2), .unset, .unset, .unset, .unset, .unset, .unset, .unset, .unset] [])) t → Steps p.tables e below (s₁.setTop (entryFrame m #[(.long q0), (.long q1), (.int p2)] maxLocals)) t := fun t k => castTop (ef_0 m q0 q1 p2) k
  obtain ⟨v3, hv3⟩ : ∃ z : Int64, z = ((q0 &&& (9223372036854775807 : Int64)) % (259200001 : Int64)) := ⟨_, rfl⟩
  obtain ⟨v4, hv4⟩ : ∃ z : Int64, z = if (p2 &&& (3 : Int32)) = (1 : Int32) then (259200000 : Int64) else v3 := ⟨_, rfl⟩
  obtain ⟨v5, hv5⟩ : ∃ z : Int64, z = if (p2 &&& (3 : Int32)) = (0 : Int32) then (0 : Int64) else v4 := ⟨_, rfl⟩
  have hp6 : ¬ (v5 < (0 : Int64)) := (own_hc3 q0 p2 v3 v4 v5 hv3 hv4 hv5)
  have hp7 : ¬ ((259200000 : Int64) < v5) := (own_hc11 q0 p2 v3 v4 v5 hv3 hv4 hv5)
  obtain ⟨_, _, ⟨T8, L8, k8, n8⟩, -, X8, ⟨Lc8, hQ8, l8, y8, z8⟩, st8⟩ := Jvm.LawKit.callS X0 hx (y := (⟨"com/example/tidewheel/tidewheel/store/Due", "after", "(J)Lcom/example/tidewheel/tidewheel/store/Due;"⟩ : MethodName)) hown (mvT hZ (hw _ (List.mem_of_getElem? (i := 0) rfl))) (mvT hZ (hw _ (List.mem_of_getElem? (i := 1) rfl))) (mvT hZ (hw _ (List.mem_of_getElem? (i := 2) rfl))) (mvT hZ (hw _ (List.mem_of_getElem? (i := 3) rfl))) (by decide) (backOf (W := 0) (rm1 l Z A0 hw [] v5 h0 n0 (Nat.le_trans Z0 (Keep.refl h0 []).1) hp6 hp7) hZ (hw _ (List.mem_of_getElem? (i := 3) rfl)) (hw _ (List.mem_of_getElem? (i := 2) rfl)) (by decide) (by decide)) (g := (mkF m 44 #[.val (.long q0), .second, .val (.long q1), .second, .val (.int p2), .val (.long v5), .second, .val (.int (p2 &&& (3 : Int32))), .unset, .unset, .unset, .unset, .unset] [(.long v5)])) rfl (by rw [hml]; rfl) (argsL := [(.long v5)]) (rest := []) (lenOf pd_0 rfl) rfl (by show 2 * 0 + _ ≤ _; exact Nat.le_of_eq rfl) (hb hby at_44) (fun _ _ => ⟨rfl, e0, (by decide : 0 + 1 ≤ _), (by decide : 0 + 2 ≤ _)⟩)
  dsimp only [Pt.U, Pt.locs, Pt.cells, Pt.slots] at X8 l8 y8 z8 st8 hQ8
  subst l8 y8 z8
  obtain ⟨b8_b1, rfl, N8q, Kc8, szb8_b1, P9, P10, P11⟩ := hQ8
  have nw_b8_b1 : n0 ≤ b8_b1 := Nat.le_trans (Nat.le_trans Z0 (Keep.refl h0 []).1) szb8_b1
  have sq_b8_b1 : h0.size ≤ b8_b1 := Nat.le_trans (Keep.refl h0 []).1 szb8_b1
  have K8 : Keep h0 T8.heap [] := (Keep.refl h0 []).trans Kc8 all0
  have N8 := Fr.app N0 N8q
  have hp12 : (nar .boolean (0 : Int32)) = (0 : Int32) := rfl
  obtain ⟨cq13, kq13, q13a, q13b, q13c⟩ := isOf hZ rfl P9
  obtain ⟨_, _, ⟨T13, L13, k13, n13⟩, -, X13, ⟨Lc13, hQ13, l13, y13, z13⟩, st13⟩ := X8.virtualBack hx (y := (⟨"com/example/tidewheel/tidewheel/store/Due", "resolve", "(J)J"⟩ : MethodName)) (z := (⟨"com/example/tidewheel/tidewheel/store/Due", "resolve", "(J)J"⟩ : MethodName)) hown (mvT hZ (hw _ (List.mem_of_getElem? (i := 17) rfl))) (mvT hZ (hw _ (List.mem_of_getElem? (i := 18) rfl))) (notFace_of_selects (args := #[]) (mvT hZ (hw _ (List.mem_of_getElem? (i := 20) rfl)))) (mvT hZ (hw _ (List.mem_of_getElem? (i := 20) rfl))) (mvT hZ (hw _ (List.mem_of_getElem? (i := 19) rfl))) (by decide) (backOf (W := 0) (rm4 l Z A0 hw [] b8_b1 q1 (nar .boolean (0 : Int32)) v5 T8.heap n0 (Nat.le_trans Z0 K8.1) P9 P10 P11 hp12) hZ (hw _ (List.mem_of_getElem? (i := 21) rfl)) (hw _ (List.mem_of_getElem? (i := 2) rfl)) (by decide) (by decide)) q13a q13c (g := (mkF m 52 #[.val (.long q0), .second, .val (.long q1), .second, .val (.int p2), .val (.long v5), .second, .val (.int (p2 &&& (3 : Int32))), .val (.ref b8_b1), .unset, .unset, .unset, .unset] [(.long q1), (.ref b8_b1)])) rfl (by rw [hml]; rfl) (Steps.refl _) (argsL := [(.long q1)]) (rest := []) (lenOf pd_3 rfl) rfl (by show 2 * 0 + _ ≤ _; exact Nat.le_of_eq rfl) (hb hby at_52) (fun _ _ => ⟨rfl, rfl, (by decide : 1 + 0 ≤ _), (by decide : 2 + 0 ≤ _)⟩)
  dsimp only [Pt.U, Pt.locs, Pt.cells, Pt.slots] at X13 l13 y13 z13 st13 hQ13
  subst l13 y13 z13
  obtain ⟨rfl, N13q, e13⟩ := hQ13
  have N13 := Fr.app N8 N13q
  have hp14 : (nar .boolean (0 : Int32)) = (0 : Int32) := rfl
  obtain ⟨cq15, kq15, q15a, q15b, q15c⟩ := isOf hZ e13 P9
  obtain ⟨_, _, ⟨T15, L15, k15, n15⟩, -, X15, ⟨Lc15, hQ15, l15, y15, z15⟩, st15⟩ := X13.virtualBack hx (y := (⟨"com/example/tidewheel/tidewheel/store/Due", "resolve", "(J)J"⟩ : MethodName)) (z := (⟨"com/example/tidewheel/tidewheel/store/Due", "resolve", "(J)J"⟩ : MethodName)) hown (mvT hZ (hw _ (List.mem_of_getElem? (i := 17) rfl))) (mvT hZ (hw _ (List.mem_of_getElem? (i := 18) rfl))) (notFace_of_selects (args := #[]) (mvT hZ (hw _ (List.mem_of_getElem? (i := 20) rfl)))) (mvT hZ (hw _ (List.mem_of_getElem? (i := 20) rfl))) (mvT hZ (hw _ (List.mem_of_getElem? (i := 19) rfl))) (by decide) (backOf (W := 0) (rm4 l Z A0 hw [] b8_b1 (0 : Int64) (nar .boolean (0 : Int32)) v5 T8.heap n0 (Nat.le_trans Z0 K8.1) P9 P10 P11 hp14) hZ (hw _ (List.mem_of_getElem? (i := 21) rfl)) (hw _ (List.mem_of_getElem? (i := 2) rfl)) (by decide) (by decide)) q15a q15c (g := (mkF m 60 #[.val (.long q0), .second, .val (.long q1), .second, .val (.int p2), .val (.long v5), .second, .val (.int (p2 &&& (3 : Int32))), .val (.ref b8_b1), .val (.long (q1 + v5)), .second, .unset, .unset] [(.long (0 : Int64)), (.ref b8_b1)])) rfl (by rw [hml]; rfl) (Steps.refl _) (argsL := [(.long (0 : Int64))]) (rest := []) (lenOf pd_3 rfl) rfl (by show 2 * 0 + _ ≤ _; exact Nat.le_of_eq rfl) (hb hby at_60) (fun _ _ => ⟨rfl, e13, (by decide : 1 + 0 ≤ _), (by decide : 2 + 0 ≤ _)⟩)
  dsimp only [Pt.U, Pt.locs, Pt.cells, Pt.slots] at X15 l15 y15 z15 st15 hQ15
  subst l15 y15 z15
  obtain ⟨rfl, N15q, e15⟩ := hQ15
  have N15 := Fr.app N13 N15q
  obtain ⟨v18, hv18⟩ : ∃ z : Int32, z = if ((0 : Int64) + v5) = v5 then (1 : Int32) else (0 : Int32) := ⟨_, rfl⟩
  obtain ⟨v19, hv19⟩ : ∃ z : Int32, z = if (q1 + v5) = (q1 + v5) then v18 else (0 : Int32) := ⟨_, rfl⟩
  obtain ⟨fs, hr, hrun, hended, hW, hsame⟩ := X15.leave (v := some (.int (nar .boolean v19))) (fun h => by rw [Bd.returns] at h; cases h)
  refine ⟨_, _, pre0 _ ?_, hrun, hended, _, _, rfl, ?_, ⟨_, rfl⟩, hW, hsame.mono (by decide) (by decide)⟩
  · show Steps p.tables e below (s₁.setTop (mkF m 0 #[.val (.long q0), .second, .val (.long q1), .second, .val (.int p2), .unset, .unset, .unset, .unset, .unset, .unset, .unset, .unset] [])) _
    refine XS.iload X0.here hx rfl (hb hby at_0) rfl ?_
    show Steps p.tables e below (s₁.setTop (mkF m 2 #[.val (.long q0), .second, .val (.long q1), .second, .val (.int p2), .unset, .unset, .unset, .unset, .unset, .unset, .unset, .unset] [(.int p2)])) _
    refine XS.iconst X0.here hx rfl (hb hby at_2) ?_
    show Steps p.tables e below (s₁.setTop (mkF m 3 #[.val (.long q0), .second, .val (.long q1), .second, .val (.int p2), .unset, .unset, .unset, .unset, .unset, .unset, .unset, .unset] [(.int (3 : Int32)), (.int p2)])) _
    refine XS.iand X0.here hx rfl (hb hby at_3) rfl ?_
    show Steps p.tables e below (s₁.setTop (mkF m 4 #[.val (.long q0), .second, .val (.long q1), .second, .val (.int p2), .unset, .unset, .unset, .unset, .unset, .unset, .unset, .unset] [(.int (p2 &&& (3 : Int32)))])) _
    refine XS.istore X0.here hx rfl (hb hby at_4) rfl (l' := #[.val (.long q0), .second, .val (.long q1), .second, .val (.int p2), .unset, .unset, .val (.int (p2 &&& (3 : Int32))), .unset, .unset, .unset, .unset, .unset]) rfl ?_
    show Steps p.tables e below (s₁.setTop (mkF m 6 #[.val (.long q0), .second, .val (.long q1), .second, .val (.int p2), .unset, .unset, .val (.int (p2 &&& (3 : Int32))), .unset, .unset, .unset, .unset, .unset] [])) _
    refine XS.iload X0.here hx rfl (hb hby at_6) rfl ?_
    show Steps p.tables e below (s₁.setTop (mkF m 8 #[.val (.long q0), .second, .val (.long q1), .second, .val (.int p2), .unset, .unset, .val (.int (p2 &&& (3 : Int32))), .unset, .unset, .unset, .unset, .unset] [(.int (p2 &&& (3 : Int32)))])) _
    refine own_dia (F := (mkF m 42 #[.val (.long q0), .second, .val (.long q1), .second, .val (.int p2), .val (.long v5), .second, .val (.int (p2 &&& (3 : Int32))), .unset, .unset, .unset, .unset, .unset] [])) ?_ ?_
    · intro kt
      by_cases hc1 : (p2 &&& (3 : Int32)) = (0 : Int32)
      · show Steps p.tables e below (s₁.setTop (mkF m 8 #[.val (.long q0), .second, .val (.long q1), .second, .val (.int p2), .unset, .unset, .val (.int (p2 &&& (3 : Int32))), .unset, .unset, .unset, .unset, .unset] [(.int (p2 &&& (3 : Int32)))])) _
        refine XS.ifNo X0.here hx rfl (hb hby at_8) rfl ((if0 _ _).trans (teq hc1).2) ?_
        show Steps p.tables e below (s₁.setTop (mkF m 11 #[.val (.long q0), .second, .val (.long q1), .second, .val (.int p2), .unset, .unset, .val (.int (p2 &&& (3 : Int32))), .unset, .unset, .unset, .unset, .unset] [])) _
        refine XS.lconst X0.here hx rfl (hb hby at_11) ?_
        show Steps p.tables e below (s₁.setTop (mkF m 12 #[.val (.long q0), .second, .val (.long q1), .second, .val (.int p2), .unset, .unset, .val (.int (p2 &&& (3 : Int32))), .unset, .unset, .unset, .unset, .unset] [(.long (0 : Int64))])) _
        refine XS.lstore X0.here hx rfl (hb hby at_12) rfl (l' := #[.val (.long q0), .second, .val (.long q1), .second, .val (.int p2), .val (.long (0 : Int64)), .second, .val (.int (p2 &&& (3 : Int32))), .unset, .unset, .unset, .unset, .unset]) rfl ?_
        show Steps p.tables e below (s₁.setTop (mkF m 14 #[.val (.long q0), .second, .val (.long q1), .second, .val (.int p2), .val (.long (0 : Int64)), .second, .val (.int (p2 &&& (3 : Int32))), .unset, .unset, .unset, .unset, .unset] [])) _
        refine XS.goto X0.here hx rfl (pc0 := 14) (pc' := 42) rfl (hb hby at_14) (by decide) (by decide) ?_
        exact castTop (by rw [hv5, if_pos hc1] <;> rfl) kt
      · show Steps p.tables e below (s₁.setTop (mkF m 8 #[.val (.long q0), .second, .val (.long q1), .second, .val (.int p2), .unset, .unset, .val (.int (p2 &&& (3 : Int32))), .unset, .unset, .unset, .unset, .unset] [(.int (p2 &&& (3 : Int32)))])) _
        refine XS.ifYes X0.here hx rfl (pc0 := 8) (pc' := 17) rfl (hb hby at_8) rfl ((if0 _ _).trans (feq hc1).2) (by decide) (by decide) ?_
        show Steps p.tables e below (s₁.setTop (mkF m 17 #[.val (.long q0), .second, .val (.long q1), .second, .val (.int p2), .unset, .unset, .val (.int (p2 &&& (3 : Int32))), .unset, .unset, .unset, .unset, .unset] [])) _
        refine XS.iload X0.here hx rfl (hb hby at_17) rfl ?_
        show Steps p.tables e below (s₁.setTop (mkF m 19 #[.val (.long q0), .second, .val (.long q1), .second, .val (.int p2), .unset, .unset, .val (.int (p2 &&& (3 : Int32))), .unset, .unset, .unset, .unset, .unset] [(.int (p2 &&& (3 : Int32)))])) _
        refine XS.iconst X0.here hx rfl (hb hby at_19) ?_
        show Steps p.tables e below (s₁.setTop (mkF m 20 #[.val (.long q0), .second, .val (.long q1), .second, .val (.int p2), .unset, .unset, .val (.int (p2 &&& (3 : Int32))), .unset, .unset, .unset, .unset, .unset] [(.int (1 : Int32)), (.int (p2 &&& (3 : Int32)))])) _
        refine own_dia (F := (mkF m 42 #[.val (.long q0), .second, .val (.long q1), .second, .val (.int p2), .val (.long v4), .second, .val (.int (p2 &&& (3 : Int32))), .unset, .unset, .unset, .unset, .unset] [])) ?_ ?_
        · intro kt
          by_cases hc2 : (p2 &&& (3 : Int32)) = (1 : Int32)
          · show Steps p.tables e below (s₁.setTop (mkF m 20 #[.val (.long q0), .second, .val (.long q1), .second, .val (.int p2), .unset, .unset, .val (.int (p2 &&& (3 : Int32))), .unset, .unset, .unset, .unset, .unset] [(.int (1 : Int32)), (.int (p2 &&& (3 : Int32)))])) _
            refine XS.icmpNo X0.here hx rfl (hb hby at_20) rfl (teq hc2).2 ?_
            show Steps p.tables e below (s₁.setTop (mkF m 23 #[.val (.long q0), .second, .val (.long q1), .second, .val (.int p2), .unset, .unset, .val (.int (p2 &&& (3 : Int32))), .unset, .unset, .unset, .unset, .unset] [])) _
            refine X0.ldc2Long hx hown (mvT hZ (hw _ (List.mem_of_getElem? (i := 24) rfl))) (g := (mkF m 23 #[.val (.long q0), .second, .val (.long q1), .second, .val (.int p2), .unset, .unset, .val (.int (p2 &&& (3 : Int32))), .unset, .unset, .unset, .unset, .unset] [])) rfl (hb hby at_23) _ ?_
            show Steps p.tables e below (s₁.setTop (mkF m 26 #[.val (.long q0), .second, .val (.long q1), .second, .val (.int p2), .unset, .unset, .val (.int (p2 &&& (3 : Int32))), .unset, .unset, .unset, .unset, .unset] [(.long (259200000 : Int64))])) _
            refine XS.lstore X0.here hx rfl (hb hby at_26) rfl (l' := #[.val (.long q0), .second, .val (.long q1), .second, .val (.int p2), .val (.long (259200000 : Int64)), .second, .val (.int (p2 &&& (3 : Int32))), .unset, .unset, .unset, .unset, .unset]) rfl ?_
            show Steps p.tables e below (s₁.setTop (mkF m 28 #[.val (.long q0), .second, .val (.long q1), .second, .val (.int p2), .val (.long (259200000 : Int64)), .second, .val (.int (p2 &&& (3 : Int32))), .unset, .unset, .unset, .unset, .unset] [])) _
            refine XS.goto X0.here hx rfl (pc0 := 28) (pc' := 42) rfl (hb hby at_28) (by decide) (by decide) ?_
            exact castTop (by rw [hv4, if_pos hc2] <;> rfl) kt
          · show Steps p.tables e below (s₁.setTop (mkF m 20 #[.val (.long q0), .second, .val (.long q1), .second, .val (.int p2), .unset, .unset, .val (.int (p2 &&& (3 : Int32))), .unset, .unset, .unset, .unset, .unset] [(.int (1 : Int32)), (.int (p2 &&& (3 : Int32)))])) _
            refine XS.icmpYes X0.here hx rfl (pc0 := 20) (pc' := 31) rfl (hb hby at_20) rfl (feq hc2).2 (by decide) (by decide) ?_
            show Steps p.tables e below (s₁.setTop (mkF m 31 #[.val (.long q0), .second, .val (.long q1), .second, .val (.int p2), .unset, .unset, .val (.int (p2 &&& (3 : Int32))), .unset, .unset, .unset, .unset, .unset] [])) _
            refine XS.lloadN X0.here hx rfl (hb hby at_31) rfl ?_
            show Steps p.tables e below (s₁.setTop (mkF m 32 #[.val (.long q0), .second, .val (.long q1), .second, .val (.int p2), .unset, .unset, .val (.int (p2 &&& (3 : Int32))), .unset, .unset, .unset, .unset, .unset] [(.long q0)])) _
            refine X0.ldc2Long hx hown (mvT hZ (hw _ (List.mem_of_getElem? (i := 22) rfl))) (g := (mkF m 32 #[.val (.long q0), .second, .val (.long q1), .second, .val (.int p2), .unset, .unset, .val (.int (p2 &&& (3 : Int32))), .unset, .unset, .unset, .unset, .unset] [(.long q0)])) rfl (hb hby at_32) _ ?_
            show Steps p.tables e below (s₁.setTop (mkF m 35 #[.val (.long q0), .second, .val (.long q1), .second, .val (.int p2), .unset, .unset, .val (.int (p2 &&& (3 : Int32))), .unset, .unset, .unset, .unset, .unset] [(.long (9223372036854775807 : Int64)), (.long q0)])) _
            refine XS.land X0.here hx rfl (hb hby at_35) rfl ?_
            show Steps p.tables e below (s₁.setTop (mkF m 36 #[.val (.long q0), .second, .val (.long q1), .second, .val (.int p2), .unset, .unset, .val (.int (p2 &&& (3 : Int32))), .unset, .unset, .unset, .unset, .unset] [(.long (q0 &&& (9223372036854775807 : Int64)))])) _
            refine X0.ldc2Long hx hown (mvT hZ (hw _ (List.mem_of_getElem? (i := 23) rfl))) (g := (mkF m 36 #[.val (.long q0), .second, .val (.long q1), .second, .val (.int p2), .unset, .unset, .val (.int (p2 &&& (3 : Int32))), .unset, .unset, .unset, .unset, .unset] [(.long (q0 &&& (9223372036854775807 : Int64)))])) rfl (hb hby at_36) _ ?_
            show Steps p.tables e below (s₁.setTop (mkF m 39 #[.val (.long q0), .second, .val (.long q1), .second, .val (.int p2), .unset, .unset, .val (.int (p2 &&& (3 : Int32))), .unset, .unset, .unset, .unset, .unset] [(.long (259200001 : Int64)), (.long (q0 &&& (9223372036854775807 : Int64)))])) _
            refine XS.lrem X0.here hx rfl (hb hby at_39) rfl (by decide) ?_
            rw [lrem_mod]
            show Steps p.tables e below (s₁.setTop (mkF m 40 #[.val (.long q0), .second, .val (.long q1), .second, .val (.int p2), .unset, .unset, .val (.int (p2 &&& (3 : Int32))), .unset, .unset, .unset, .unset, .unset] [(.long ((q0 &&& (9223372036854775807 : Int64)) % (259200001 : Int64)))])) _
            refine castTop (g' := (mkF m 40 #[.val (.long q0), .second, .val (.long q1), .second, .val (.int p2), .unset, .unset, .val (.int (p2 &&& (3 : Int32))), .unset, .unset, .unset, .unset, .unset] [(.long v3)])) (by rw [hv3] <;> rfl) ?_
            show Steps p.tables e below (s₁.setTop (mkF m 40 #[.val (.long q0), .second, .val (.long q1), .second, .val (.int p2), .unset, .unset, .val (.int (p2 &&& (3 : Int32))), .unset, .unset, .unset, .unset, .unset] [(.long v3)])) _
            refine XS.lstore X0.here hx rfl (hb hby at_40) rfl (l' := #[.val (.long q0), .second, .val (.long q1), .second, .val (.int p2), .val (.long v3), .second, .val (.int (p2 &&& (3 : Int32))), .unset, .unset, .unset, .unset, .unset]) rfl ?_
            exact castTop (by rw [hv4, if_neg hc2] <;> rfl) kt
        exact castTop (by rw [hv5, if_neg hc1] <;> rfl) kt
    show Steps p.tables e below (s₁.setTop (mkF m 42 #[.val (.long q0), .second, .val (.long q1), .second, .val (.int p2), .val (.long v5), .second, .val (.int (p2 &&& (3 : Int32))), .unset, .unset, .unset, .unset, .unset] [])) _
    refine XS.lload X0.here hx rfl (hb hby at_42) rfl ?_
    show Steps p.tables e below (s₁.setTop (mkF m 44 #[.val (.long q0), .second, .val (.long q1), .second, .val (.int p2), .val (.long v5), .second, .val (.int (p2 &&& (3 : Int32))), .unset, .unset, .unset, .unset, .unset] [(.long v5)])) _
    refine st8 _ ?_
    show Steps p.tables e below (T8.setTop (mkF m 47 #[.val (.long q0), .second, .val (.long q1), .second, .val (.int p2), .val (.long v5), .second, .val (.int (p2 &&& (3 : Int32))), .unset, .unset, .unset, .unset, .unset] [(.ref b8_b1)])) _
    refine XS.astore X8.here hx rfl (hb hby at_47) rfl rfl (l' := #[.val (.long q0), .second, .val (.long q1), .second, .val (.int p2), .val (.long v5), .second, .val (.int (p2 &&& (3 : Int32))), .val (.ref b8_b1), .unset, .unset, .unset, .unset]) rfl ?_
    show Steps p.tables e below (T8.setTop (mkF m 49 #[.val (.long q0), .second, .val (.long q1), .second, .val (.int p2), .val (.long v5), .second, .val (.int (p2 &&& (3 : Int32))), .val (.ref b8_b1), .unset, .unset, .unset, .unset] [])) _
    refine XS.aload X8.here hx rfl (hb hby at_49) rfl rfl ?_
    show Steps p.tables e below (T8.setTop (mkF m 51 #[.val (.long q0), .second, .val (.long q1), .second, .val (.int p2), .val (.long v5), .second, .val (.int (p2 &&& (3 : Int32))), .val (.ref b8_b1), .unset, .unset, .unset, .unset] [(.ref b8_b1)])) _
    refine XS.lloadN X8.here hx rfl (hb hby at_51) rfl ?_
    show Steps p.tables e below (T8.setTop (mkF m 52 #[.val (.long q0), .second, .val (.long q1), .second, .val (.int p2), .val (.long v5), .second, .val (.int (p2 &&& (3 : Int32))), .val (.ref b8_b1), .unset, .unset, .unset, .unset] [(.long q1), (.ref b8_b1)])) _
    refine st13.trans ?_
    show Steps p.tables e below (T13.setTop (mkF m 55 #[.val (.long q0), .second, .val (.long q1), .second, .val (.int p2), .val (.long v5), .second, .val (.int (p2 &&& (3 : Int32))), .val (.ref b8_b1), .unset, .unset, .unset, .unset] [(.long (q1 + v5))])) _
    refine XS.lstore X13.here hx rfl (hb hby at_55) rfl (l' := #[.val (.long q0), .second, .val (.long q1), .second, .val (.int p2), .val (.long v5), .second, .val (.int (p2 &&& (3 : Int32))), .val (.ref b8_b1), .val (.long (q1 + v5)), .second, .unset, .unset]) rfl ?_
    show Steps p.tables e below (T13.setTop (mkF m 57 #[.val (.long q0), .second, .val (.long q1), .second, .val (.int p2), .val (.long v5), .second, .val (.int (p2 &&& (3 : Int32))), .val (.ref b8_b1), .val (.long (q1 + v5)), .second, .unset, .unset] [])) _
    refine XS.aload X13.here hx rfl (hb hby at_57) rfl rfl ?_
    show Steps p.tables e below (T13.setTop (mkF m 59 #[.val (.long q0), .second, .val (.long q1), .second, .val (.int p2), .val (.long v5), .second, .val (.int (p2 &&& (3 : Int32))), .val (.ref b8_b1), .val (.long (q1 + v5)), .second, .unset, .unset] [(.ref b8_b1)])) _
    refine XS.lconst X13.here hx rfl (hb hby at_59) ?_
    show Steps p.tables e below (T13.setTop (mkF m 60 #[.val (.long q0), .second, .val (.long q1), .second, .val (.int p2), .val (.long v5), .second, .val (.int (p2 &&& (3 : Int32))), .val (.ref b8_b1), .val (.long (q1 + v5)), .second, .unset, .unset] [(.long (0 : Int64)), (.ref b8_b1)])) _
    refine st15.trans ?_
    show Steps p.tables e below (T15.setTop (mkF m 63 #[.val (.long q0), .second, .val (.long q1), .second, .val (.int p2), .val (.long v5), .second, .val (.int (p2 &&& (3 : Int32))), .val (.ref b8_b1), .val (.long (q1 + v5)), .second, .unset, .unset] [(.long ((0 : Int64) + v5))])) _
    refine XS.lstore X15.here hx rfl (hb hby at_63) rfl (l' := #[.val (.long q0), .second, .val (.long q1), .second, .val (.int p2), .val (.long v5), .second, .val (.int (p2 &&& (3 : Int32))), .val (.ref b8_b1), .val (.long (q1 + v5)), .second, .val (.long ((0 : Int64) + v5)), .second]) rfl ?_
    show Steps p.tables e below (T15.setTop (mkF m 65 #[.val (.long q0), .second, .val (.long q1), .second, .val (.int p2), .val (.long v5), .second, .val (.int (p2 &&& (3 : Int32))), .val (.ref b8_b1), .val (.long (q1 + v5)), .second, .val (.long ((0 : Int64) + v5)), .second] [])) _
    refine XS.lload X15.here hx rfl (hb hby at_65) rfl ?_
    show Steps p.tables e below (T15.setTop (mkF m 67 #[.val (.long q0), .second, .val (.long q1), .second, .val (.int p2), .val (.long v5), .second, .val (.int (p2 &&& (3 : Int32))), .val (.ref b8_b1), .val (.long (q1 + v5)), .second, .val (.long ((0 : Int64) + v5)), .second] [(.long (q1 + v5))])) _
    refine XS.lloadN X15.here hx rfl (hb hby at_67) rfl ?_
    show Steps p.tables e below (T15.setTop (mkF m 68 #[.val (.long q0), .second, .val (.long q1), .second, .val (.int p2), .val (.long v5), .second, .val (.int (p2 &&& (3 : Int32))), .val (.ref b8_b1), .val (.long (q1 + v5)), .second, .val (.long ((0 : Int64) + v5)), .second] [(.long q1), (.long (q1 + v5))])) _
    refine XS.lload X15.here hx rfl (hb hby at_68) rfl ?_
    show Steps p.tables e below (T15.setTop (mkF m 70 #[.val (.long q0), .second, .val (.long q1), .second, .val (.int p2), .val (.long v5), .second, .val (.int (p2 &&& (3 : Int32))), .val (.ref b8_b1), .val (.long (q1 + v5)), .second, .val (.long ((0 : Int64) + v5)), .second] [(.long v5), (.long q1), (.long (q1 + v5))])) _
    refine XS.ladd X15.here hx rfl (hb hby at_70) rfl ?_
    show Steps p.tables e below (T15.setTop (mkF m 71 #[.val (.long q0), .second, .val (.long q1), .second, .val (.int p2), .val (.long v5), .second, .val (.int (p2 &&& (3 : Int32))), .val (.ref b8_b1), .val (.long (q1 + v5)), .second, .val (.long ((0 : Int64) + v5)), .second] [(.long (q1 + v5)), (.long (q1 + v5))])) _
    refine XS.lcmp X15.here hx rfl (hb hby at_71) rfl ?_
    show Steps p.tables e below (T15.setTop (mkF m 72 #[.val (.long q0), .second, .val (.long q1), .second, .val (.int p2), .val (.long v5), .second, .val (.int (p2 &&& (3 : Int32))), .val (.ref b8_b1), .val (.long (q1 + v5)), .second, .val (.long ((0 : Int64) + v5)), .second] [(.int (lcmpW (q1 + v5) (q1 + v5)))])) _
    refine own_dia (F := (mkF m 88 #[.val (.long q0), .second, .val (.long q1), .second, .val (.int p2), .val (.long v5), .second, .val (.int (p2 &&& (3 : Int32))), .val (.ref b8_b1), .val (.long (q1 + v5)), .second, .val (.long ((0 : Int64) + v5)), .second] [(.int v19)])) ?_ ?_
    · intro kt
      by_cases hc16 : (q1 + v5) = (q1 + v5)
      · show Steps p.tables e below (T15.setTop (mkF m 72 #[.val (.long q0), .second, .val (.long q1), .second, .val (.int p2), .val (.long v5), .second, .val (.int (p2 &&& (3 : Int32))), .val (.ref b8_b1), .val (.long (q1 + v5)), .second, .val (.long ((0 : Int64) + v5)), .second] [(.int (lcmpW (q1 + v5) (q1 + v5)))])) _
        refine XS.ifNo X15.here hx rfl (hb hby at_72) rfl ((if0 _ _).trans (teq ((lw_eq (q1 + v5) (q1 + v5)).mpr hc16)).2) ?_
        show Steps p.tables e below (T15.setTop (mkF m 75 #[.val (.long q0), .second, .val (.long q1), .second, .val (.int p2), .val (.long v5), .second, .val (.int (p2 &&& (3 : Int32))), .val (.ref b8_b1), .val (.long (q1 + v5)), .second, .val (.long ((0 : Int64) + v5)), .second] [])) _
        refine XS.lload X15.here hx rfl (hb hby at_75) rfl ?_
        show Steps p.tables e below (T15.setTop (mkF m 77 #[.val (.long q0), .second, .val (.long q1), .second, .val (.int p2), .val (.long v5), .second, .val (.int (p2 &&& (3 : Int32))), .val (.ref b8_b1), .val (.long (q1 + v5)), .second, .val (.long ((0 : Int64) + v5)), .second] [(.long ((0 : Int64) + v5))])) _
        refine XS.lload X15.here hx rfl (hb hby at_77) rfl ?_
        show Steps p.tables e below (T15.setTop (mkF m 79 #[.val (.long q0), .second, .val (.long q1), .second, .val (.int p2), .val (.long v5), .second, .val (.int (p2 &&& (3 : Int32))), .val (.ref b8_b1), .val (.long (q1 + v5)), .second, .val (.long ((0 : Int64) + v5)), .second] [(.long v5), (.long ((0 : Int64) + v5))])) _
        refine XS.lcmp X15.here hx rfl (hb hby at_79) rfl ?_
        show Steps p.tables e below (T15.setTop (mkF m 80 #[.val (.long q0), .second, .val (.long q1), .second, .val (.int p2), .val (.long v5), .second, .val (.int (p2 &&& (3 : Int32))), .val (.ref b8_b1), .val (.long (q1 + v5)), .second, .val (.long ((0 : Int64) + v5)), .second] [(.int (lcmpW ((0 : Int64) + v5) v5))])) _
        refine own_dia (F := (mkF m 88 #[.val (.long q0), .second, .val (.long q1), .second, .val (.int p2), .val (.long v5), .second, .val (.int (p2 &&& (3 : Int32))), .val (.ref b8_b1), .val (.long (q1 + v5)), .second, .val (.long ((0 : Int64) + v5)), .second] [(.int v18)])) ?_ ?_
        · intro kt
          by_cases hc17 : ((0 : Int64) + v5) = v5
          · show Steps p.tables e below (T15.setTop (mkF m 80 #[.val (.long q0), .second, .val (.long q1), .second, .val (.int p2), .val (.long v5), .second, .val (.int (p2 &&& (3 : Int32))), .val (.ref b8_b1), .val (.long (q1 + v5)), .second, .val (.long ((0 : Int64) + v5)), .second] [(.int (lcmpW ((0 : Int64) + v5) v5))])) _
            refine XS.ifNo X15.here hx rfl (hb hby at_80) rfl ((if0 _ _).trans (teq ((lw_eq ((0 : Int64) + v5) v5).mpr hc17)).2) ?_
            show Steps p.tables e below (T15.setTop (mkF m 83 #[.val (.long q0), .second, .val (.long q1), .second, .val (.int p2), .val (.long v5), .second, .val (.int (p2 &&& (3 : Int32))), .val (.ref b8_b1), .val (.long (q1 + v5)), .second, .val (.long ((0 : Int64) + v5)), .second] [])) _
            refine XS.iconst X15.here hx rfl (hb hby at_83) ?_
            show Steps p.tables e below (T15.setTop (mkF m 84 #[.val (.long q0), .second, .val (.long q1), .second, .val (.int p2), .val (.long v5), .second, .val (.int (p2 &&& (3 : Int32))), .val (.ref b8_b1), .val (.long (q1 + v5)), .second, .val (.long ((0 : Int64) + v5)), .second] [(.int (1 : Int32))])) _
            refine XS.goto X15.here hx rfl (pc0 := 84) (pc' := 88) rfl (hb hby at_84) (by decide) (by decide) ?_
            exact castTop (by rw [hv18, if_pos hc17] <;> rfl) kt
          · show Steps p.tables e below (T15.setTop (mkF m 80 #[.val (.long q0), .second, .val (.long q1), .second, .val (.int p2), .val (.long v5), .second, .val (.int (p2 &&& (3 : Int32))), .val (.ref b8_b1), .val (.long (q1 + v5)), .second, .val (.long ((0 : Int64) + v5)), .second] [(.int (lcmpW ((0 : Int64) + v5) v5))])) _
            refine XS.ifYes X15.here hx rfl (pc0 := 80) (pc' := 87) rfl (hb hby at_80) rfl ((if0 _ _).trans (feq (fun q => hc17 ((lw_eq ((0 : Int64) + v5) v5).mp q))).2) (by decide) (by decide) ?_
            show Steps p.tables e below (T15.setTop (mkF m 87 #[.val (.long q0), .second, .val (.long q1), .second, .val (.int p2), .val (.long v5), .second, .val (.int (p2 &&& (3 : Int32))), .val (.ref b8_b1), .val (.long (q1 + v5)), .second, .val (.long ((0 : Int64) + v5)), .second] [])) _
            refine XS.iconst X15.here hx rfl (hb hby at_87) ?_
            exact castTop (by rw [hv18, if_neg hc17] <;> rfl) kt
        exact castTop (by rw [hv19, if_pos hc16] <;> rfl) kt
      · show Steps p.tables e below (T15.setTop (mkF m 72 #[.val (.long q0), .second, .val (.long q1), .second, .val (.int p2), .val (.long v5), .second, .val (.int (p2 &&& (3 : Int32))), .val (.ref b8_b1), .val (.long (q1 + v5)), .second, .val (.long ((0 : Int64) + v5)), .second] [(.int (lcmpW (q1 + v5) (q1 + v5)))])) _
        refine XS.ifYes X15.here hx rfl (pc0 := 72) (pc' := 87) rfl (hb hby at_72) rfl ((if0 _ _).trans (feq (fun q => hc16 ((lw_eq (q1 + v5) (q1 + v5)).mp q))).2) (by decide) (by decide) ?_
        show Steps p.tables e below (T15.setTop (mkF m 87 #[.val (.long q0), .second, .val (.long q1), .second, .val (.int p2), .val (.long v5), .second, .val (.int (p2 &&& (3 : Int32))), .val (.ref b8_b1), .val (.long (q1 + v5)), .second, .val (.long ((0 : Int64) + v5)), .second] [])) _
        refine XS.iconst X15.here hx rfl (hb hby at_87) ?_
        exact castTop (by rw [hv19, if_neg hc16] <;> rfl) kt
    show Steps p.tables e below (T15.setTop (mkF m 88 #[.val (.long q0), .second, .val (.long q1), .second, .val (.int p2), .val (.long v5), .second, .val (.int (p2 &&& (3 : Int32))), .val (.ref b8_b1), .val (.long (q1 + v5)), .second, .val (.long ((0 : Int64) + v5)), .second] [(.int v19)])) _
    exact retN X15 hx (t := .boolean) Bd.returns (by simp) (hb hby at_88) hr
  · show Q0 h0 n0 _ T15.heap _
    refine ⟨?_, N15⟩
    have hfin : (nar .boolean v19) = (1 : Int32) := by
      exact (own_law q0 q1 p2 v3 v4 v5 v18 v19 hv3 hv4 hv5 hv18 hv19)
    rw [hfin]
set_option maxRecDepth 65536 in
set_option maxHeartbeats 40000000 in
theorem comes_1 {Post : Tables → Env → Array Value → State → Outcome → State → Prop} (hpost : ∀ tb e args s v u, (limb_1_1.after args s (.returned v) u = true ∧ limb_1_2.after args s (.returned v) u = true ∧ True) → FrameEnd s (.returned v) u (Jvm.fieldLocs frame_1_writes args s ++ Jvm.arrayLocs frame_1_arrays args s ++ Jvm.staticLocs frame_1_statics s) 16 128 → Post tb e args s (.returned v) u) :
    ArmFor flags0 classFile x code maxLocals ret World_1 tables_1 room_1 Calls_1 rest_1 Pre_1 Post := by
  intro l hfl _ _ p e ha hc hk s m args below hf hA hF happ hP
  obtain ⟨hcalls, hrest, hpre⟩ := hP
  obtain ⟨-, -, -, hnamed, -, -, -, hat⟩ := (Spec.applies_iff hf).mp happ
  obtain ⟨hg, hn⟩ := and_e (Cond.before_iff.mp (show (Jvm.Cond.and given_1 narrow_1).before args s = true from hpre))
  obtain ⟨gg1, gg2⟩ := and_e hg
  obtain ⟨gg3, gg4⟩ := and_e gg2
  obtain ⟨gg5, gg6⟩ := and_e gg4
  obtain ⟨w0, w1, w2, rfl⟩ : ∃ w0 w1 w2 : Value, args = #[w0, w1, w2] := by
    have hs : args.size = 3 := by simpa [Cond.value, given_1] using gg1
    obtain ⟨L⟩ := args
    match L, hs with
    | [w0, w1, w2], _ => exact ⟨w0, w1, w2, rfl⟩
  have hw := fun d (hd : d ∈ tables_1) => atoms_spec (ws := Jvm.Cond.code x code maxLocals ret :: tables_1) hat d (List.mem_cons_of_mem _ hd)
  have hfit : Fit s := fun {y c} hc i hi => by
    obtain ⟨ha, rfl⟩ := Array.getElem?_eq_some_iff.mp hc
    have q := List.all_eq_true.mp ((Array.all_eq_true_iff_forall_mem.mp hF) _ (Array.getElem_mem ha)) i (List.mem_range.mpr hi)
    simpa [Array.getElem?_eq_getElem hi] using q
  obtain ⟨i0, ei0⟩ := isL_v gg3
  obtain rfl : w0 = (.long i0) := Option.some.inj ei0
  obtain ⟨i1, ei1⟩ := isL_v gg5
  obtain rfl : w1 = (.long i1) := Option.some.inj ei1
  obtain ⟨i2, ei2⟩ := is_v gg6
  obtain rfl : w2 = (.int i2) := Option.some.inj ei2
  obtain ⟨n, o, h1, h2, h3, _, L, rfl, ⟨rfl, N⟩, hq⟩ := rm0 l s _ hw tables_1 i0 i1 i2  s.heap s.heap.size (Nat.le_refl _)  p e ha hc hk s m _ below hf ((Spec.applies_iff_loose hf).mp happ).1 ⟨rfl, State.Warmed39.refl s, rfl⟩ trivial
  refine ⟨n, _, h1, h2, h3, hpost _ _ _ _ _ _ ⟨Cond.after_iff.mpr rfl, Cond.after_iff.mpr (eq_i res_at (Term.int_eval (1)) rfl), trivial⟩ ⟨hq.1, hq.2.1, (hq.2.2.sift fun y hy => Or.inr (N y hy)).mono (by decide) (by decide)⟩⟩
theorem main_1_1 : Claimed_1_1 := comes_1 fun _ _ _ _ _ _ h hF => ⟨h.1, hF⟩
theorem main_1_2 : Claimed_1_2 := comes_1 fun _ _ _ _ _ _ h hF => ⟨h.2.1, hF⟩
end Jvm.Pilot.@@N@@
namespace Jvm.Pilot.@@N@@
open Jvm Jvm.ClassFile Sem Op Lib Jvm.Free Jvm.Stand Jvm.Pilot.@@N@@.Jvm.D
/-! MADE BY PROGRAM (witnessworld.py) out of the Statement's table words and the real class files: 9 classes; the members and pool entries that the words name. The judged class is class 1, her method 1. -/
namespace start1
open Jvm.ClassFile
def u (s : String) : CpInfo := .utf8 (stringToUtf16 s)
/-- a pool by its gaps: so many unusable entries, then the entry; so many at the end -/
def gap : Nat → List CpInfo → List CpInfo
  | 0, r => r
  | n + 1, r => .unusable :: gap n r
def poolList (es : List (Nat × CpInfo)) (last : Nat) : List CpInfo := es.foldr (fun e r => gap e.1 (e.2 :: r)) (gap last [])
def pool (es : List (Nat × CpInfo)) (last : Nat) : Array CpInfo := ⟨poolList es last⟩
def fileOf (pool : Array CpInfo) (this : Nat) (attrs : Array Attribute := #[]) (ms : Array MethodInfo := #[]) (fl : Nat := 33) (sup : Nat := 0) (ifs : Array Nat := #[]) (fds : Array FieldInfo := #[]) : ClassFile where
  minorVersion := 0
  majorVersion := 65
  constantPool := pool
  accessFlags := fl
  thisClass := this
  superClass := sup
  interfaces := ifs
  fields := fds
  methods := ms
  attributes := attrs
def plain (name : String) (sup : Option ClassId) : Class where
  name := name
  kind := .ordinary
  loader := none
  accessFlags := 33
  super := sup
  interfaces := #[]
  cf := none
  fields := #[]
  methods := #[]
  instanceTypes := #[]
  staticTypes := #[]
  resolved := #[]
  callSites := []
  init := .initialized
  statics := none
  mirror := none

def pool0 : Array CpInfo := pool [(5, u "<init>"), (0, u "()V"), (1, .class_ 10), (1, u "java/lang/Object")] 113

def k0c0 : Code := { maxStack := 0, maxLocals := 1, code := object_method_1_code, exceptionTable := #[], attributes := #[] }
def k0m0 : Method := { name := "<init>", desc := "()V", sig := { parameters := [], returnType := none }, accessFlags := 1, code := some k0c0 }
/-- java/lang/Object -/
def k0 : Class := { plain "java/lang/Object" none with
  accessFlags := 33
  interfaces := #[]
  cf := some (fileOf pool0 8 #[] #[{ accessFlags := 1, nameIndex := 5, descriptorIndex := 6, attributes := #[] }] 33 0 #[] #[])
  fields := #[]
  methods := #[k0m0]
  instanceTypes := #[]
  staticTypes := #[]
  resolved := Array.replicate 124 none
  statics := none }

def pool1 : Array CpInfo := pool [(2, .class_ 4), (1, u "java/lang/Object"), (0, u "<init>"), (0, u "()V"), (0, .class_ 8), (0, u "com/example/tidewheel/tidewheel/store/Due"), (0, .long 259200000), (3, .long 9223372036854775807), (1, .long 259200001), (1, .methodref 7 18), (0, .nameAndType 19 20), (0, u "after"), (0, u "(J)Lcom/example/tidewheel/tidewheel/store/Due;"), (0, .methodref 7 22), (0, .nameAndType 23 24), (0, u "resolve"), (0, u "(J)J"), (0, .class_ 26), (0, u "com/example/tidewheel/tidewheel/store/DueAfterPinLaw"), (2, u "law"), (0, u "(JJI)Z")] 3

def k1m0 : Method := { name := "<init>", desc := "()V", sig := { parameters := [], returnType := none }, accessFlags := 1, code := none }
def k1c1 : Code := { maxStack := 6, maxLocals := 13, code := code, exceptionTable := #[], attributes := #[] }
def k1m1 : Method := { name := "law", desc := "(JJI)Z", sig := { parameters := [.long, .long, .int], returnType := some .boolean }, accessFlags := 9, code := some k1c1 }
/-- com/example/tidewheel/tidewheel/store/DueAfterPinLaw -/
def k1 : Class := { plain "com/example/tidewheel/tidewheel/store/DueAfterPinLaw" (some 0) with
  accessFlags := 49
  interfaces := #[]
  cf := some (fileOf pool1 25 #[] #[{ accessFlags := 1, nameIndex := 5, descriptorIndex := 6, attributes := #[] }, { accessFlags := 9, nameIndex := 29, descriptorIndex := 30, attributes := #[] }] 49 2 #[] #[])
  fields := #[]
  methods := #[k1m0, k1m1]
  instanceTypes := #[]
  staticTypes := #[]
  resolved := Array.replicate 34 none
  statics := none }

def pool2 : Array CpInfo := pool [(1, .methodref 2 3), (0, .class_ 4), (0, .nameAndType 5 6), (0, u "java/lang/Object"), (0, u "<init>"), (0, u "()V"), (0, .fieldref 8 9), (0, .class_ 10), (0, .nameAndType 11 12), (0, u "com/example/tidewheel/tidewheel/store/Due"), (0, u "absolute"), (0, u "Z"), (0, .fieldref 8 14), (0, .nameAndType 15 16), (0, u "millis"), (0, u "J"), (0, .long 259200000), (10, .methodref 8 29), (0, .nameAndType 5 30), (0, u "(ZJ)V"), (8, u "NOW"), (0, u "Lcom/example/tidewheel/tidewheel/store/Due;"), (0, u "MAX_DELAY_MS"), (3, u "after"), (0, u "(J)Lcom/example/tidewheel/tidewheel/store/Due;"), (2, u "resolve"), (0, u "(J)J")] 18

def k2c0 : Code := { maxStack := 3, maxLocals := 4, code := prog_19_method_1_code, exceptionTable := #[], attributes := #[] }
def k2m0 : Method := { name := "<init>", desc := "(ZJ)V", sig := { parameters := [.boolean, .long], returnType := none }, accessFlags := 2, code := some k2c0 }
def k2c1 : Code := { maxStack := 5, maxLocals := 2, code := prog_19_method_2_code, exceptionTable := #[], attributes := #[] }
def k2m1 : Method := { name := "after", desc := "(J)Lcom/example/tidewheel/tidewheel/store/Due;", sig := { parameters := [.long], returnType := some (.object "com/example/tidewheel/tidewheel/store/Due") }, accessFlags := 9, code := some k2c1 }
def k2c2 : Code := { maxStack := 4, maxLocals := 3, code := prog_19_method_4_code, exceptionTable := #[], attributes := #[] }
def k2m2 : Method := { name := "resolve", desc := "(J)J", sig := { parameters := [.long], returnType := some .long }, accessFlags := 0, code := some k2c2 }
/-- com/example/tidewheel/tidewheel/store/Due -/
def k2 : Class := { plain "com/example/tidewheel/tidewheel/store/Due" (some 0) with
  accessFlags := 49
  interfaces := #[]
  cf := some (fileOf pool2 8 #[] #[{ accessFlags := 2, nameIndex := 5, descriptorIndex := 30, attributes := #[] }, { accessFlags := 9, nameIndex := 45, descriptorIndex := 46, attributes := #[] }, { accessFlags := 0, nameIndex := 49, descriptorIndex := 50, attributes := #[] }] 49 2 #[] #[{ accessFlags := 25, nameIndex := 41, descriptorIndex := 16, attributes := #[] }, { accessFlags := 25, nameIndex := 39, descriptorIndex := 40, attributes := #[] }, { accessFlags := 18, nameIndex := 11, descriptorIndex := 12, attributes := #[] }, { accessFlags := 18, nameIndex := 15, descriptorIndex := 16, attributes := #[] }])
  fields := #[{ name := "MAX_DELAY_MS", type := .long, accessFlags := 25, slot := 0, constantValue := 0 }, { name := "NOW", type := (.object "com/example/tidewheel/tidewheel/store/Due"), accessFlags := 25, slot := 1, constantValue := 0 }, { name := "absolute", type := .boolean, accessFlags := 18, slot := 0, constantValue := 0 }, { name := "millis", type := .long, accessFlags := 18, slot := 1, constantValue := 0 }]
  methods := #[k2m0, k2m1, k2m2]
  instanceTypes := #[.boolean, .long]
  staticTypes := #[.long, (.object "com/example/tidewheel/tidewheel/store/Due")]
  resolved := Array.replicate 69 none
  statics := none }

def pool3 : Array CpInfo := pool [(1, u "java/lang/Cloneable"), (0, .class_ 1), (0, u "java/lang/Object"), (0, .class_ 3)] 3

/-- java/lang/Cloneable -/
def k3 : Class := { plain "java/lang/Cloneable" (some 0) with
  accessFlags := 1537
  interfaces := #[]
  cf := some (fileOf pool3 2 #[] #[] 1537 4 #[] #[])
  fields := #[]
  methods := #[]
  instanceTypes := #[]
  staticTypes := #[]
  resolved := Array.replicate 8 none
  statics := none }

def pool4 : Array CpInfo := pool [(1, u "java/io/Serializable"), (0, .class_ 1), (0, u "java/lang/Object"), (0, .class_ 3)] 3

/-- java/io/Serializable -/
def k4 : Class := { plain "java/io/Serializable" (some 0) with
  accessFlags := 1537
  interfaces := #[]
  cf := some (fileOf pool4 2 #[] #[] 1537 4 #[] #[])
  fields := #[]
  methods := #[]
  instanceTypes := #[]
  staticTypes := #[]
  resolved := Array.replicate 8 none
  statics := none }

/-- the primitive byte -/
def k5 : Class := { plain "byte" none with kind := .primitive 'B', accessFlags := 0x411 }
/-- [B -/
def k6 : Class := { plain "[B" (some 0) with kind := .array 5 .byte, interfaces := #[3, 4], accessFlags := 1041 }

/-- the primitive int -/
def k7 : Class := { plain "int" none with kind := .primitive 'I', accessFlags := 0x411 }
/-- [I -/
def k8 : Class := { plain "[I" (some 0) with kind := .array 7 .int, interfaces := #[3, 4], accessFlags := 1041 }

def heap : Heap := #[]
def classes : Array Class := #[k0, k1, k2, k3, k4, k5, k6, k7, k8]
def interned : List (Array UInt16 × Addr) := []
def slotsUsed : Nat := 0
def theMethod : MethodId := ⟨1, 1⟩
def args0 : Array Value := #[.long 5, .long 5, .int 5]
def aboutOver (below : List Frame) : State where
  vm := { classes := classes, interned := interned.toArray }
  heap := heap
  slotsUsed := slotsUsed
  threads := #[{ frames := .invoking theMethod args0 :: below }]
def below0 : List Frame := [.native { method := ⟨0, 0⟩, args := #[] }]
def about1 : State := aboutOver below0
def p0 : Program := .bare "" "" ""
def e0 : Env := launch0.env 0 0 0
theorem w_frames : about1.frames = Frame.invoking theMethod args0 :: below0 := rfl
set_option maxRecDepth 65536 in
theorem w_args : argsFit about1.vm theMethod args0 = true := by decide +kernel
set_option maxRecDepth 65536 in
theorem w_heap : heapFits about1 = true := by decide +kernel
set_option maxRecDepth 65536 in
theorem w_runnable : about1.curStatus? = some .runnable := by decide +kernel
set_option maxRecDepth 65536 in
theorem w_alone : about1.alone = true := by decide +kernel
set_option maxRecDepth 65536 in
theorem w_named : about1.methodNamed? x = some theMethod := by decide +kernel
set_option maxRecDepth 65536 in
theorem w_hears : about1.hears theMethod below0 = true := by decide +kernel
set_option maxRecDepth 65536 in
theorem w_ripe : about1.ripe theMethod args0 below0 = true := by decide +kernel
theorem w_running : about1.status = .running := rfl
set_option maxRecDepth 65536 in
theorem w_room : about1.hasRoom e0.platform room_1 = true :=
  launch0.hasRoom_least _ room_1 (by decide +kernel) (by decide +kernel) (by decide +kernel) (by decide +kernel) (by decide +kernel) (by decide +kernel)
theorem allAtoms_all (ts : List Jvm.Cond) (a : Array Jvm.Value) (st : Jvm.State) : (allAtoms ts).before a st = ts.all (fun c => c.before a st) := by
  induction ts with
  | nil => rfl
  | cons c t ih =>
    show (Jvm.Cond.and c (allAtoms t)).before a st = _
    rw [Jvm.Cond.before_and, ih, List.all_cons]
def words1 : List Jvm.Cond := Jvm.Cond.code x code maxLocals ret :: tables_1
/-- a 'code' word, met by the world's own term for the bytes: nothing is compared byte by byte -/
theorem code_word {y : MethodName} {bytes : ByteArray} {mx : Nat} {rt : Option FieldType} {a : Array Value} {s : State} {m : MethodId} {meth : Method} {c : Code} (h1 : s.methodNamed? y = some m) (h2 : s.vm.method? m = some meth) (h3 : meth.code = some c) (h4 : c.code = bytes)
    (h5 : (c.maxLocals == mx && c.exceptionTable.isEmpty && decide (c.maxStack ≤ mostOperands) && decide (meth.sig.returnType = rt) && !meth.locks && decide (parseMethodDescriptor y.desc = some meth.sig)) = true) : (Jvm.Cond.code y bytes mx rt).before a s = true := by
  simp only [Bool.and_eq_true, beq_iff_eq, Bool.not_eq_true', decide_eq_true_eq] at h5
  obtain ⟨⟨⟨⟨⟨g1, g2⟩, g3⟩, g4⟩, g5⟩, g6⟩ := h5
  simp [Cond.before, Cond.holds, Cond.value, h1, h2, h3, h4, g1, g2, g3, g4, g5, g6]
def isCode : Jvm.Cond → Bool
  | .code _ _ _ _ => true
  | _ => false
theorem all_split {L : List Jvm.Cond} {P : Jvm.Cond → Bool} (h1 : L.all (fun c => isCode c || P c) = true) (h2 : ∀ c ∈ L.filter isCode, P c = true) : L.all P = true := by
  refine List.all_eq_true.mpr fun c hc => ?_
  have h := List.all_eq_true.mp h1 c hc
  rcases Bool.eq_false_or_eq_true (isCode c) with hi | hi
  · exact h2 c (List.mem_filter.mpr ⟨hc, hi⟩)
  · simpa [hi] using h
set_option maxRecDepth 65536 in
theorem w_c0 : (Jvm.Cond.code x code maxLocals ret).before args0 about1 = true := code_word (m := ⟨1, 1⟩) (meth := k1m1) (c := k1c1) (by decide +kernel) rfl rfl rfl (by decide +kernel)
set_option maxRecDepth 65536 in
theorem w_c1 : (Jvm.Cond.code ({ cls := "com/example/tidewheel/tidewheel/store/Due", name := "after", desc := "(J)Lcom/example/tidewheel/tidewheel/store/Due;" } : Jvm.MethodName) prog_19_method_2_code (2 : Nat) (Option.some (Jvm.ClassFile.FieldType.object "com/example/tidewheel/tidewheel/store/Due"))).before args0 about1 = true := code_word (m := ⟨2, 1⟩) (meth := k2m1) (c := k2c1) (by decide +kernel) rfl rfl rfl (by decide +kernel)
set_option maxRecDepth 65536 in
theorem w_c2 : (Jvm.Cond.code ({ cls := "com/example/tidewheel/tidewheel/store/Due", name := "<init>", desc := "(ZJ)V" } : Jvm.MethodName) prog_19_method_1_code (4 : Nat) (Option.none : Option Jvm.ClassFile.FieldType)).before args0 about1 = true := code_word (m := ⟨2, 0⟩) (meth := k2m0) (c := k2c0) (by decide +kernel) rfl rfl rfl (by decide +kernel)
set_option maxRecDepth 65536 in
theorem w_c3 : (Jvm.Cond.code ({ cls := "java/lang/Object", name := "<init>", desc := "()V" } : Jvm.MethodName) object_method_1_code (1 : Nat) (Option.none : Option Jvm.ClassFile.FieldType)).before args0 about1 = true := code_word (m := ⟨0, 0⟩) (meth := k0m0) (c := k0c0) (by decide +kernel) rfl rfl rfl (by decide +kernel)
set_option maxRecDepth 65536 in
theorem w_c4 : (Jvm.Cond.code ({ cls := "com/example/tidewheel/tidewheel/store/Due", name := "resolve", desc := "(J)J" } : Jvm.MethodName) prog_19_method_4_code (3 : Nat) (Option.some Jvm.ClassFile.FieldType.long)).before args0 about1 = true := code_word (m := ⟨2, 2⟩) (meth := k2m2) (c := k2c2) (by decide +kernel) rfl rfl rfl (by decide +kernel)
def codes1 : List Jvm.Cond := [Jvm.Cond.code x code maxLocals ret, Jvm.Cond.code ({ cls := "com/example/tidewheel/tidewheel/store/Due", name := "after", desc := "(J)Lcom/example/tidewheel/tidewheel/store/Due;" } : Jvm.MethodName) prog_19_method_2_code (2 : Nat) (Option.some (Jvm.ClassFile.FieldType.object "com/example/tidewheel/tidewheel/store/Due")), Jvm.Cond.code ({ cls := "com/example/tidewheel/tidewheel/store/Due", name := "<init>", desc := "(ZJ)V" } : Jvm.MethodName) prog_19_method_1_code (4 : Nat) (Option.none : Option Jvm.ClassFile.FieldType), Jvm.Cond.code ({ cls := "java/lang/Object", name := "<init>", desc := "()V" } : Jvm.MethodName) object_method_1_code (1 : Nat) (Option.none : Option Jvm.ClassFile.FieldType), Jvm.Cond.code ({ cls := "com/example/tidewheel/tidewheel/store/Due", name := "resolve", desc := "(J)J" } : Jvm.MethodName) prog_19_method_4_code (3 : Nat) (Option.some Jvm.ClassFile.FieldType.long)]
set_option maxRecDepth 65536 in
theorem codes_eq : words1.filter isCode = codes1 := rfl
theorem w_codes : ∀ c ∈ words1.filter isCode, c.before args0 about1 = true := by
  rw [codes_eq]
  intro c hc
  simp only [codes1, List.mem_cons, List.not_mem_nil, or_false] at hc
  rcases hc with rfl | rfl | rfl | rfl | rfl
  · exact w_c0
  · exact w_c1
  · exact w_c2
  · exact w_c3
  · exact w_c4
set_option maxRecDepth 65536 in
theorem w_t1 : (words1.take 24).all (fun c => isCode c || c.before args0 about1) = true := by decide +kernel
set_option maxRecDepth 65536 in
theorem w_t2 : (words1.drop 24).all (fun c => isCode c || c.before args0 about1) = true := by decide +kernel
theorem w_tables : (allAtoms (Jvm.Cond.code x code maxLocals ret :: tables_1)).before args0 about1 = true := by
  rw [allAtoms_all]
  show words1.all (fun c => c.before args0 about1) = true
  refine all_split ?_ w_codes
  rw [← List.take_append_drop 24 words1, List.all_append, w_t1, w_t2]
  rfl
set_option maxRecDepth 65536 in
theorem w_case : (Jvm.Cond.and given_1 narrow_1).before args0 about1 = true := by decide +kernel
theorem w_applies : (headSpec (Jvm.Cond.code x code maxLocals ret :: tables_1) room_1).applies x e0.platform about1 = true :=
  (Spec.applies_iff w_frames).mpr ⟨w_running, w_runnable, w_alone, w_named, w_hears, w_ripe, w_room, w_tables⟩
theorem atStart : AtStart classFile x code maxLocals ret World_1 tables_1 room_1 Calls_1 rest_1 Pre_1 launch0 p0 e0 about1 theMethod args0 below0 :=
  ⟨lists_1, trivial, launch0.admits_env _ _ _, launch0.least_env, fairChoices_fair.cas, fairChoices_fair.clock, w_frames, w_args, w_heap, w_applies, trivial, trivial, w_case⟩
end start1
theorem witness_1 : WitnessClaimed_1 := ⟨start1.p0, start1.e0, start1.about1, start1.theMethod, start1.args0, start1.below0, start1.atStart⟩
end Jvm.Pilot.@@N@@
