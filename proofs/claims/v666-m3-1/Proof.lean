import JvmDerived
import JvmDerived.Pilot.@@N@@Statement
import JvmDerived.Pilot.@@N@@Code
set_option linter.unusedVariables false
set_option linter.unusedSimpArgs false
namespace Jvm.Pilot.@@N@@
open Jvm Jvm.ClassFile Sem Op Lib Jvm.Free Jvm.Stand Jvm.LawKit Jvm.RoadKit Bundle Jvm.Pilot.@@N@@.Jvm.D
section OwnKit
variable {p : Program} {l : Launch} {e : Env} {R : Room} {s : State} {m : MethodId} {args : Array Value} {below : List Frame} {meth : Method} {c : Code} {T : State} {locs : List Loc} {cells slots : Nat} {Z : State} {h h' : Heap} {a b : Addr} {ty : FieldType} {n : Nat} {f f' : Nat → Value} {sl : Nat} {v : Value} {ws : List Addr}
theorem own_dia {t : State} {B F : JFrame} (hh : Steps p.tables e below (T.setTop F) t → Steps p.tables e below (T.setTop B) t) (k : Steps p.tables e below (T.setTop F) t) : Steps p.tables e below (T.setTop B) t := hh k
/-- the place j lies in an array of n places -/
abbrev own_in (j : Int32) (n : Nat) : Prop := 0 ≤ j.toInt ∧ j.toInt < n
theorem own_in_nat {j : Int32} (hj : own_in j n) : j.toNatClampNeg < n := by simp only [Int32.toNatClampNeg]; omega
theorem own_in_arr {cl : Cell} {j : Int32} (hs : cl.slots.size = n) (hj : own_in j n) : ¬ (j < 0 ∨ cl.slots.size ≤ j.toNatClampNeg) := by
  have := own_in_nat hj
  have k0 : (0 : Int32).toInt = 0 := by decide
  rw [Int32.lt_iff_toInt_lt, hs, k0]; omega
/-- an array: its kind, its length, and what each place holds -/
def AF (Z : State) (h : Heap) (a : Addr) (ty : FieldType) (n : Nat) (f : Nat → Value) : Prop := ∃ c : Cell, Arr Z h a c ty ∧ c.slots.size = n ∧ n < 2147483648 ∧ ∀ j, j < n → c.slots[j]? = some (f j)
theorem AF.lt (F : AF Z h a ty n f) : a < h.size := by obtain ⟨c, A, -⟩ := F; exact A.lt
theorem AF.small (F : AF Z h a ty n f) : n < 2147483648 := by obtain ⟨c, -, -, q, -⟩ := F; exact q
theorem AF.ext (F : AF Z h a ty n f) (E : Ext h h') : AF Z h' a ty n f := by obtain ⟨c, A, r⟩ := F; exact ⟨c, A.ext E, r⟩
theorem AF.other (F : AF Z h b ty n f) (W : Wr h h' a sl v) (q : b ≠ a) : AF Z h' b ty n f := by obtain ⟨c, A, r⟩ := F; exact ⟨c, A.other W q, r⟩
theorem AF.keep (F : AF Z h a ty n f) (K : Keep h h' ws) (q : a ∉ ws) : AF Z h' a ty n f := by obtain ⟨c, A, r⟩ := F; exact ⟨c, ⟨K.2.1 a c A.1 q, A.2⟩, r⟩
theorem AF.cong (F : AF Z h a ty n f) (q : ∀ j, j < n → f j = f' j) : AF Z h a ty n f' := by obtain ⟨c, A, r1, r2, r3⟩ := F; exact ⟨c, A, r1, r2, fun j hj => by rw [← q j hj]; exact r3 j hj⟩
theorem AF.new {k : ClassId} {z : Int32} (A : Arr Z h a (newA k ty z) ty) (q : ¬ z < 0) : AF Z h a ty z.toNatClampNeg (fun _ => defaultValue ty) := ⟨_, A, sz_new _ _ _, (back32 q).2, fun j hj => by simp [newA, hj]⟩
theorem AF.set (F : AF Z h a ty n f) {k : Nat} (W : Wr h h' a k v) : AF Z h' a ty n (fun i => if i = k then v else f i) := by
  obtain ⟨c, A, r1, r2, r3⟩ := F
  refine ⟨_, Arr.same W A, by rw [sz_set]; exact r1, r2, fun j hj => ?_⟩
  obtain ⟨cell, h1, -, h3, -⟩ := W
  cases h1.symm.trans A.1
  by_cases q : j = k
  · subst q; simp [Cell.setSlot, h3]
  · have q' : ¬ k = j := fun z => q z.symm
    simp only [Cell.setSlot, Array.getElem?_setIfInBounds, if_neg q, if_neg q']; exact r3 j hj
theorem own_updI {g fN : Nat → Int32} {x : Int32} {J k : Nat} (hk : k = J) (hf : fN = fun i => if i = J then x else g i) : ∀ j, j < n → (if j = k then Value.int x else Value.int (g j)) = Value.int (fN j) := by
  subst hk hf; intro j _; by_cases q : j = k <;> simp [q]
theorem own_updJ {g fN : Nat → Int64} {x : Int64} {J k : Nat} (hk : k = J) (hf : fN = fun i => if i = J then x else g i) : ∀ j, j < n → (if j = k then Value.long x else Value.long (g j)) = Value.long (fN j) := by
  subst hk hf; intro j _; by_cases q : j = k <;> simp [q]
theorem AF.ldI (X : Stand p l e R s m args below meth c T locs cells slots) (hx : p.tables.exec = Jvm.exec) (hZ : Z.Warmed39 s.vm) (eT : T.heap = h) {f : Nat → Int32} (A : AF Z h a .int n (fun j => .int (f j))) {j : Int32} (hj : own_in j n) {g : JFrame} (hg : g.method = m) {rest : List Value} (hs : g.stack = .int j :: .ref a :: rest) (hd : decode c.code g.pc = .ok (.iaload, 1)) (target : State)
    (k : Steps p.tables e below (T.setTop { g with pc := g.pc + 1, stack := .int (f j.toNatClampNeg) :: rest }) target) : Steps p.tables e below (T.setTop g) target := by
  obtain ⟨cl, A, r1, r2, r3⟩ := A
  exact X.iaload hx (j := j) (v := .int (f j.toNatClampNeg)) (by rw [eT]; exact A.1) (State.isArrayOf_alike hZ.alike A.2.1) A.2.2 (own_in_arr r1 hj) (r3 _ (own_in_nat hj)) hg hs hd _ k
theorem AF.ldJ (X : Stand p l e R s m args below meth c T locs cells slots) (hx : p.tables.exec = Jvm.exec) (hZ : Z.Warmed39 s.vm) (eT : T.heap = h) {f : Nat → Int64} (A : AF Z h a .long n (fun j => .long (f j))) {j : Int32} (hj : own_in j n) {g : JFrame} (hg : g.method = m) {rest : List Value} (hs : g.stack = .int j :: .ref a :: rest) (hd : decode c.code g.pc = .ok (.laload, 1)) (target : State)
    (k : Steps p.tables e below (T.setTop { g with pc := g.pc + 1, stack := .long (f j.toNatClampNeg) :: rest }) target) : Steps p.tables e below (T.setTop g) target := by
  obtain ⟨cl, A, r1, r2, r3⟩ := A
  exact X.laload hx (j := j) (v := .long (f j.toNatClampNeg)) (by rw [eT]; exact A.1) (State.isArrayOf_alike hZ.alike A.2.1) A.2.2 (own_in_arr r1 hj) (r3 _ (own_in_nat hj)) hg hs hd _ k
theorem AF.ldB (X : Stand p l e R s m args below meth c T locs cells slots) (hx : p.tables.exec = Jvm.exec) (hZ : Z.Warmed39 s.vm) (eT : T.heap = h) {f : Nat → Int32} (A : AF Z h a .byte n (fun j => .int (f j))) {j : Int32} (hj : own_in j n) {g : JFrame} (hg : g.method = m) {rest : List Value} (hs : g.stack = .int j :: .ref a :: rest) (hd : decode c.code g.pc = .ok (.baload, 1)) (target : State)
    (k : Steps p.tables e below (T.setTop { g with pc := g.pc + 1, stack := .int (f j.toNatClampNeg) :: rest }) target) : Steps p.tables e below (T.setTop g) target := by
  obtain ⟨cl, A, r1, r2, r3⟩ := A
  exact X.baloadBytes hx (j := j) (v := .int (f j.toNatClampNeg)) (by rw [eT]; exact A.1) (State.isArrayOf_alike hZ.alike A.2.1) A.2.2 (own_in_arr r1 hj) (r3 _ (own_in_nat hj)) hg hs hd _ k
theorem AF.len (X : Stand p l e R s m args below meth c T locs cells slots) (hx : p.tables.exec = Jvm.exec) (hZ : Z.Warmed39 s.vm) (eT : T.heap = h) (A : AF Z h a ty n f) {g : JFrame} (hg : g.method = m) {rest : List Value} (hs : g.stack = .ref a :: rest) (hd : decode c.code g.pc = .ok (.arraylength, 1)) (target : State)
    (k : Steps p.tables e below (T.setTop { g with pc := g.pc + 1, stack := .int (Int32.ofNat n) :: rest }) target) : Steps p.tables e below (T.setTop g) target := by
  obtain ⟨cl, A, r1, r2, r3⟩ := A
  subst r1
  exact X.arraylength hx (by rw [eT]; exact A.1) (State.isArrayOf_alike hZ.alike A.2.1) hg hs hd _ k
theorem AF.stI (X : Stand p l e R s m args below meth c T locs cells slots) (hx : p.tables.exec = Jvm.exec) (hZ : Z.Warmed39 s.vm) (eT : T.heap = h) (A : AF Z h a .int n f) {j x : Int32} (hj : own_in j n) {g : JFrame} (hg : g.method = m) {rest : List Value} (hs : g.stack = .int x :: .int j :: .ref a :: rest) (hd : decode c.code g.pc = .ok (.iastore, 1)) :
    ∃ T' h', Stand p l e R s m args below meth c T' (locs ++ [⟨a, j.toNatClampNeg⟩]) cells slots ∧ T'.heap = h' ∧ Wr h h' a j.toNatClampNeg (.int x) ∧ AF Z h' a .int n (fun i => if i = j.toNatClampNeg then .int x else f i) ∧ ∀ target, Steps p.tables e below (T'.setTop { g with pc := g.pc + 1, stack := rest }) target → Steps p.tables e below (T.setTop g) target := by
  have A0 := A
  obtain ⟨cl, A, r1, r2, r3⟩ := A
  obtain ⟨T', h', X', e', W, st⟩ := Jvm.RoadKit.stI X hx hZ eT A (j := j) (own_in_arr r1 hj) hg hs hd
  exact ⟨T', h', X', e', W, A0.set W, st⟩
theorem AF.stJ (X : Stand p l e R s m args below meth c T locs cells slots) (hx : p.tables.exec = Jvm.exec) (hZ : Z.Warmed39 s.vm) (eT : T.heap = h) (A : AF Z h a .long n f) {j : Int32} {x : Int64} (hj : own_in j n) {g : JFrame} (hg : g.method = m) {rest : List Value} (hs : g.stack = .long x :: .int j :: .ref a :: rest) (hd : decode c.code g.pc = .ok (.lastore, 1)) :
    ∃ T' h', Stand p l e R s m args below meth c T' (locs ++ [⟨a, j.toNatClampNeg⟩]) cells slots ∧ T'.heap = h' ∧ Wr h h' a j.toNatClampNeg (.long x) ∧ AF Z h' a .long n (fun i => if i = j.toNatClampNeg then .long x else f i) ∧ ∀ target, Steps p.tables e below (T'.setTop { g with pc := g.pc + 1, stack := rest }) target → Steps p.tables e below (T.setTop g) target := by
  have A0 := A
  obtain ⟨cl, A, r1, r2, r3⟩ := A
  obtain ⟨T', h', X', e', W, st⟩ := Jvm.RoadKit.stJ X hx hZ eT A (j := j) (own_in_arr r1 hj) hg hs hd
  exact ⟨T', h', X', e', W, A0.set W, st⟩
theorem AF.stB (X : Stand p l e R s m args below meth c T locs cells slots) (hx : p.tables.exec = Jvm.exec) (hZ : Z.Warmed39 s.vm) (eT : T.heap = h) (A : AF Z h a .byte n f) {j x : Int32} (hj : own_in j n) {g : JFrame} (hg : g.method = m) {rest : List Value} (hs : g.stack = .int x :: .int j :: .ref a :: rest) (hd : decode c.code g.pc = .ok (.bastore, 1)) :
    ∃ T' h', Stand p l e R s m args below meth c T' (locs ++ [⟨a, j.toNatClampNeg⟩]) cells slots ∧ T'.heap = h' ∧ Wr h h' a j.toNatClampNeg (.int x.toInt8.toInt32) ∧ AF Z h' a .byte n (fun i => if i = j.toNatClampNeg then .int x.toInt8.toInt32 else f i) ∧ ∀ target, Steps p.tables e below (T'.setTop { g with pc := g.pc + 1, stack := rest }) target → Steps p.tables e below (T.setTop g) target := by
  have A0 := A
  obtain ⟨cl, A, r1, r2, r3⟩ := A
  obtain ⟨T', h', X', e', W, st⟩ := Jvm.RoadKit.stB X hx hZ eT A (j := j) (own_in_arr r1 hj) hg hs hd
  exact ⟨T', h', X', e', W, A0.set W, st⟩
theorem own_cpyI {f g fN : Nat → Int32} {k : Nat} (hf : fN = fun j => if j < k then f j else g j) : ∀ j, j < n → (if j < k then Value.int (f j) else Value.int (g j)) = Value.int (fN j) := by
  subst hf; intro j _; by_cases q : j < k <;> simp [q]
theorem own_cpyJ {f g fN : Nat → Int64} {k : Nat} (hf : fN = fun j => if j < k then f j else g j) : ∀ j, j < n → (if j < k then Value.long (f j) else Value.long (g j)) = Value.long (fN j) := by
  subst hf; intro j _; by_cases q : j < k <;> simp [q]
theorem own_acW {own : String} {index : Nat} (h1 : (Jvm.Cond.methodLink own index Jvm.Stand.acN).before args s = true) (h2 : (Jvm.Cond.native Jvm.Stand.acN).before args s = true) (h3 : (Jvm.Cond.static Jvm.Stand.acN).before args s = true) (h4 : (Jvm.Cond.initialized "java/lang/System").before args s = true) : ∀ w ∈ Jvm.Free.XT.acW own index, w.before args s = true := by
  intro w hw
  change w ∈ [Jvm.Cond.methodLink own index Jvm.Stand.acN, Jvm.Cond.native Jvm.Stand.acN, Jvm.Cond.static Jvm.Stand.acN, Jvm.Cond.initialized "java/lang/System"] at hw
  simp only [List.mem_cons, List.not_mem_nil, or_false] at hw
  rcases hw with rfl | rfl | rfl | rfl
  · exact h1
  · exact h2
  · exact h3
  · exact h4
theorem own_isArr {c c' : Cell} (q : Z.isArrayOf c ty) (h1 : c'.cls = c.cls) (h2 : c'.vm = c.vm) : Z.isArrayOf c' ty := by
  obtain ⟨q1, k, q2, q3⟩ := q
  exact ⟨by rw [h2]; exact q1, k, by rw [h1]; exact q2, q3⟩
theorem AF.copy (X : Stand p l e R s m args below meth c T locs cells slots) (hx : p.tables.exec = Jvm.exec) (hZ : Z.Warmed39 s.vm) {own : String} {index : Nat} (hown : s.vm.findClass own = some m.cls) (hw : ∀ w ∈ Jvm.Free.XT.acW own index, w.before args s = true)
    (eT : T.heap = h) {k : Nat} {f' : Nat → Value} (A : AF Z h a ty n f) (B : AF Z h b ty k f') (hp : ty.isReference = false) {cnt : Nat} (hfit : ∀ j, j < cnt → fits ty (f j) = true) (h1 : cnt ≤ n) (h2 : cnt ≤ k) {jn : Int32} (hn : jn = Int32.ofNat cnt)
    {g : JFrame} (hg : g.method = m) (hsize : g.locals.size = c.maxLocals) {rest : List Value} (hs : g.stack = .int jn :: .int 0 :: .ref b :: .int 0 :: .ref a :: rest) (hd : decode c.code g.pc = .ok (.invokestatic index, 3))
    {W : Nat} (hW : 2 * g.monitorRoom + (rest.map fun v => v.category).sum ≤ W) (hfr : 1 ≤ R.frames) (hlo : W + 40 ≤ R.locals) :
    ∃ (T' : State) (h' : Heap) (L' : List Loc), Stand p l e R s m args below meth c T' (locs ++ L') cells slots ∧ T'.heap = h' ∧ (∀ y ∈ L', y.base = b) ∧ Keep h h' [b] ∧ AF Z h' b ty k (fun j => if j < cnt then f j else f' j) ∧
      ∀ target, Steps p.tables e below (T'.setTop { g with pc := g.pc + 3, stack := rest }) target → Steps p.tables e below (T.setTop g) target := by
  obtain ⟨ca, A, a1, a2, a3⟩ := A
  obtain ⟨cb, B, b1, b2, b3⟩ := B
  have tA : Jvm.Free.XT.Arr ty a ca T := ⟨by rw [eT]; exact A.1, State.isArrayOf_alike X.warmed.alike (State.isArrayOf_alike hZ.alike A.2.1), A.2.2, by omega⟩
  have tB : Jvm.Free.XT.Arr ty b cb T := ⟨by rw [eT]; exact B.1, State.isArrayOf_alike X.warmed.alike (State.isArrayOf_alike hZ.alike B.2.1), B.2.2, by omega⟩
  have ga : ∀ j, j < n → ca.slots.getD j .null = f j := fun j hj => by
    have q := a3 j hj
    rw [Array.getD_eq_getD_getElem?, q]; rfl
  obtain ⟨T', B', X', P, q1, q2, q3, q4, st⟩ := X.acopy hx (o := 0) (q := 0) (n := cnt) (jo := 0) (jq := 0) hown hw tA tB (by simp) rfl rfl hn (by omega) (by omega)
    (fun i hi => ⟨by rw [Nat.zero_add, ga i (by omega)]; exact hfit i hi, fun z => by rw [hp] at z; cases z⟩) hg hsize hs hd hW hfr hlo
  refine ⟨T', _, _, X', rfl, fun y hy => ?_, ⟨by rw [P.2.2, eT]; exact Nat.le_refl _, fun x cx hx' hn' => ?_, fun x cx hx' => ?_⟩, ⟨B', ⟨P.1, own_isArr B.2.1 q1 q2, by rw [q2]; exact B.2.2⟩, q3.trans b1, b2, fun j hj => ?_⟩, st⟩
  · simp only [copyLocs, List.mem_map] at hy
    obtain ⟨i, -, rfl⟩ := hy
    rfl
  · rw [P.2.1 x (fun z => hn' (by simp [z])), eT]; exact hx'
  · by_cases z : x = b
    · subst z
      cases hx'.symm.trans B.1
      exact ⟨B', P.1, q1, q2, q3⟩
    · exact ⟨cx, by rw [P.2.1 x z, eT]; exact hx', rfl, rfl, rfl⟩
  · show _ = some (if j < cnt then f j else f' j)
    rw [q4 j]
    by_cases z : j < cnt
    · rw [if_pos (by omega), if_pos z]
      have : 0 + (j - 0) = j := by omega
      rw [this, ga j (by omega)]
    · rw [if_neg (by omega), if_neg z]; exact b3 j hj
theorem own_nb (x : Int32) : nar .boolean x = x &&& 1 := rfl
theorem own_nar1 : nar .boolean 1 = 1 := rfl
theorem own_nar0 : nar .boolean 0 = 0 := rfl
theorem own_nbyte (x : Int32) : nar .byte x = x.toInt8.toInt32 := rfl
theorem own_nar_ite (q : Prop) [Decidable q] (x y : Int32) : nar .boolean (if q then x else y) = if q then nar .boolean x else nar .boolean y := by split <;> rfl
theorem own_pos_ne {x : Int64} (q : 0 < x) : x ≠ 0 := fun z => by subst z; exact absurd q (by decide)
theorem own_cat {w : Value} (q : w.isRef = true) : w.category = 1 := by cases w <;> first | rfl | (simp [Value.isRef] at q)
theorem own_fits_ref {ty : FieldType} {w : Value} (q : w.isRef = true) (ht : ty.isReference = true := by rfl) : fits ty w = true := by
  cases w <;> cases ty <;> first | rfl | (exact absurd q (by decide)) | (exact absurd ht (by decide)) | (cases q) | (cases ht)
/-- a static field that holds v, in a heap that keeps all that was old at the start -/
def SO (Z : State) (n0 : Nat) (h : Heap) (C n d : String) (v : Value) : Prop := Sta Z Z.heap C n d v ∧ Old Z n0 h
theorem SO.ext {n0 : Nat} {C nm d : String} (F : SO Z n0 h C nm d v) (E : Ext h h') : SO Z n0 h' C nm d v := ⟨F.1, F.2.ext E⟩
theorem SO.wr {n0 : Nat} {C nm d : String} {w : Value} (F : SO Z n0 h C nm d v) (W : Wr h h' a sl w) (q : n0 ≤ a) : SO Z n0 h' C nm d v := ⟨F.1, F.2.wr W q⟩
theorem SO.keep {n0 : Nat} {C nm d : String} (F : SO Z n0 h C nm d v) (K : Keep h h' ws) (q : ∀ x ∈ ws, n0 ≤ x) : SO Z n0 h' C nm d v := ⟨F.1, F.2.keep K q⟩
theorem SO.sta {n0 : Nat} {C nm d : String} (F : SO Z n0 h C nm d v) : Sta Z h C nm d v := F.1.ext F.2.2
theorem own_selp {y : MethodName} {n : Nat} (wi : (Jvm.Cond.instantiable y.cls n).before args s = true) (hpriv : s.PrivateAt y) (hinst : (Jvm.Cond.instanceMethod y).before args s = true) (hy : y.cls ≠ "java/lang/invoke/MethodHandle" ∧ y.cls ≠ "java/lang/invoke/VarHandle") : (Jvm.Cond.selects y.cls y y).before args s = true := by
  obtain ⟨c, k, h1, h2, -, h4, -⟩ := Cond.instantiable_spec wi
  exact Jvm.Stand.selects_self_of_private h1 h2 (by simp only [Bool.or_eq_false_iff] at h4; exact h4.1) hpriv hinst hy
end OwnKit

theorem pn_0 : plainName "com/example/psilattice/psilattice/lang/WrittenGraphNodePinLaw" = true := by first | (simp [plainName, overriddenIn]; done) | decide +kernel
theorem d1_0 : decode prog_74_method_1_code 0 = .ok (.aload_n 0, 1) := by decide +kernel
theorem d1_1 : decode prog_74_method_1_code 1 = .ok (.invokespecial 1, 3) := by decide +kernel
theorem d1_4 : decode prog_74_method_1_code 4 = .ok (.aload_n 0, 1) := by decide +kernel
theorem d1_5 : decode prog_74_method_1_code 5 = .ok (.new 7, 3) := by decide +kernel
theorem d1_8 : decode prog_74_method_1_code 8 = .ok (.dup, 1) := by decide +kernel
theorem d1_9 : decode prog_74_method_1_code 9 = .ok (.invokespecial 9, 3) := by decide +kernel
theorem d1_12 : decode prog_74_method_1_code 12 = .ok (.putfield 10, 3) := by decide +kernel
theorem d1_15 : decode prog_74_method_1_code 15 = .ok (.aload_n 0, 1) := by decide +kernel
theorem d1_16 : decode prog_74_method_1_code 16 = .ok (.new 7, 3) := by decide +kernel
theorem d1_19 : decode prog_74_method_1_code 19 = .ok (.dup, 1) := by decide +kernel
theorem d1_20 : decode prog_74_method_1_code 20 = .ok (.invokespecial 9, 3) := by decide +kernel
theorem d1_23 : decode prog_74_method_1_code 23 = .ok (.putfield 16, 3) := by decide +kernel
theorem d1_26 : decode prog_74_method_1_code 26 = .ok (.aload_n 0, 1) := by decide +kernel
theorem d1_27 : decode prog_74_method_1_code 27 = .ok (.new 7, 3) := by decide +kernel
theorem d1_30 : decode prog_74_method_1_code 30 = .ok (.dup, 1) := by decide +kernel
theorem d1_31 : decode prog_74_method_1_code 31 = .ok (.invokespecial 9, 3) := by decide +kernel
theorem d1_34 : decode prog_74_method_1_code 34 = .ok (.putfield 19, 3) := by decide +kernel
theorem d1_37 : decode prog_74_method_1_code 37 = .ok (.return_, 1) := by decide +kernel
theorem pn_1 : plainName "com/example/psilattice/psilattice/lang/WrittenGraph" = true := by first | (simp [plainName, overriddenIn]; done) | decide +kernel
theorem d3_0 : decode jdk_38_method_2_code 0 = .ok (.aload_n 0, 1) := by decide +kernel
theorem d3_1 : decode jdk_38_method_2_code 1 = .ok (.invokespecial 1, 3) := by decide +kernel
theorem d3_4 : decode jdk_38_method_2_code 4 = .ok (.aload_n 0, 1) := by decide +kernel
theorem d3_5 : decode jdk_38_method_2_code 5 = .ok (.getstatic 39, 3) := by decide +kernel
theorem d3_8 : decode jdk_38_method_2_code 8 = .ok (.putfield 9, 3) := by decide +kernel
theorem d3_11 : decode jdk_38_method_2_code 11 = .ok (.return_, 1) := by decide +kernel
theorem pn_3 : plainName "java/util/ArrayList" = true := by first | (simp [plainName, overriddenIn]; done) | decide +kernel
theorem d4_0 : decode jdk_39_method_1_code 0 = .ok (.aload_n 0, 1) := by decide +kernel
theorem d4_1 : decode jdk_39_method_1_code 1 = .ok (.invokespecial 1, 3) := by decide +kernel
theorem d4_4 : decode jdk_39_method_1_code 4 = .ok (.aload_n 0, 1) := by decide +kernel
theorem d4_5 : decode jdk_39_method_1_code 5 = .ok (.iconst 0, 1) := by decide +kernel
theorem d4_6 : decode jdk_39_method_1_code 6 = .ok (.putfield 7, 3) := by decide +kernel
theorem d4_9 : decode jdk_39_method_1_code 9 = .ok (.return_, 1) := by decide +kernel
theorem pn_4 : plainName "java/util/AbstractList" = true := by first | (simp [plainName, overriddenIn]; done) | decide +kernel
theorem d5_0 : decode jdk_22_method_1_code 0 = .ok (.aload_n 0, 1) := by decide +kernel
theorem d5_1 : decode jdk_22_method_1_code 1 = .ok (.invokespecial 1, 3) := by decide +kernel
theorem d5_4 : decode jdk_22_method_1_code 4 = .ok (.return_, 1) := by decide +kernel
theorem pn_5 : plainName "java/util/AbstractCollection" = true := by first | (simp [plainName, overriddenIn]; done) | decide +kernel
theorem d6_0 : decode prog_74_method_3_code 0 = .ok (.aload_n 0, 1) := by decide +kernel
theorem d6_1 : decode prog_74_method_3_code 1 = .ok (.getfield 22, 3) := by decide +kernel
theorem d6_4 : decode prog_74_method_3_code 4 = .ok (.ireturn, 1) := by decide +kernel
theorem pn_6 : plainName "com/example/psilattice/psilattice/lang/WrittenGraph" = true := by first | (simp [plainName, overriddenIn]; done) | decide +kernel
theorem d7_0 : decode method_2_code 0 = .ok (.iload_n 1, 1) := by decide +kernel
theorem d7_1 : decode method_2_code 1 = .ok (.iload_n 2, 1) := by decide +kernel
theorem d7_2 : decode method_2_code 2 = .ok (.if_icmp .lt 5, 3) := by decide +kernel
theorem d7_5 : decode method_2_code 5 = .ok (.iconst 1, 1) := by decide +kernel
theorem d7_6 : decode method_2_code 6 = .ok (.ireturn, 1) := by decide +kernel
theorem d7_7 : decode method_2_code 7 = .ok (.aload_n 0, 1) := by decide +kernel
theorem d7_8 : decode method_2_code 8 = .ok (.invokevirtual 7, 3) := by decide +kernel
theorem d7_11 : decode method_2_code 11 = .ok (.istore_n 3, 1) := by decide +kernel
theorem d7_12 : decode method_2_code 12 = .ok (.iload_n 3, 1) := by decide +kernel
theorem d7_13 : decode method_2_code 13 = .ok (.iload_n 1, 1) := by decide +kernel
theorem d7_14 : decode method_2_code 14 = .ok (.if_icmp .ne 17, 3) := by decide +kernel
theorem d7_17 : decode method_2_code 17 = .ok (.aload_n 0, 1) := by decide +kernel
theorem d7_18 : decode method_2_code 18 = .ok (.invokevirtual 13, 3) := by decide +kernel
theorem d7_21 : decode method_2_code 21 = .ok (.iload_n 1, 1) := by decide +kernel
theorem d7_22 : decode method_2_code 22 = .ok (.iconst 1, 1) := by decide +kernel
theorem d7_23 : decode method_2_code 23 = .ok (.iadd, 1) := by decide +kernel
theorem d7_24 : decode method_2_code 24 = .ok (.if_icmp .ne 7, 3) := by decide +kernel
theorem d7_27 : decode method_2_code 27 = .ok (.iconst 1, 1) := by decide +kernel
theorem d7_28 : decode method_2_code 28 = .ok (.goto 4, 3) := by decide +kernel
theorem d7_31 : decode method_2_code 31 = .ok (.iconst 0, 1) := by decide +kernel
theorem d7_32 : decode method_2_code 32 = .ok (.ireturn, 1) := by decide +kernel
theorem pn_7 : plainName "com/example/psilattice/psilattice/lang/WrittenGraphNodePinLaw" = true := by first | (simp [plainName, overriddenIn]; done) | decide +kernel
theorem d8_0 : decode prog_74_method_7_code 0 = .ok (.aload_n 0, 1) := by decide +kernel
theorem d8_1 : decode prog_74_method_7_code 1 = .ok (.getfield 47, 3) := by decide +kernel
theorem d8_4 : decode prog_74_method_7_code 4 = .ok (.lreturn, 1) := by decide +kernel
theorem pn_8 : plainName "com/example/psilattice/psilattice/lang/WrittenGraph" = true := by first | (simp [plainName, overriddenIn]; done) | decide +kernel
theorem d9_0 : decode prog_74_method_8_code 0 = .ok (.aload_n 0, 1) := by decide +kernel
theorem d9_1 : decode prog_74_method_8_code 1 = .ok (.getfield 57, 3) := by decide +kernel
theorem d9_4 : decode prog_74_method_8_code 4 = .ok (.lreturn, 1) := by decide +kernel
theorem pn_9 : plainName "com/example/psilattice/psilattice/lang/WrittenGraph" = true := by first | (simp [plainName, overriddenIn]; done) | decide +kernel
theorem d10_0 : decode prog_74_method_2_code 0 = .ok (.aload_n 0, 1) := by decide +kernel
theorem d10_1 : decode prog_74_method_2_code 1 = .ok (.dup, 1) := by decide +kernel
theorem d10_2 : decode prog_74_method_2_code 2 = .ok (.getfield 22, 3) := by decide +kernel
theorem d10_5 : decode prog_74_method_2_code 5 = .ok (.dup_x1, 1) := by decide +kernel
theorem d10_6 : decode prog_74_method_2_code 6 = .ok (.iconst 1, 1) := by decide +kernel
theorem d10_7 : decode prog_74_method_2_code 7 = .ok (.iadd, 1) := by decide +kernel
theorem d10_8 : decode prog_74_method_2_code 8 = .ok (.putfield 22, 3) := by decide +kernel
theorem d10_11 : decode prog_74_method_2_code 11 = .ok (.ireturn, 1) := by decide +kernel
theorem pn_10 : plainName "com/example/psilattice/psilattice/lang/WrittenGraph" = true := by first | (simp [plainName, overriddenIn]; done) | decide +kernel
theorem pd_0 : parseMethodDescriptor "()V" = some ⟨[], none⟩ := by decide +kernel
theorem pd_1 : parseMethodDescriptor "()I" = some ⟨[], some .int⟩ := by decide +kernel
theorem pd_2 : parseMethodDescriptor "(Lcom/example/psilattice/psilattice/lang/WrittenGraph;II)Z" = some ⟨[(.object "com/example/psilattice/psilattice/lang/WrittenGraph"), .int, .int], some .boolean⟩ := by decide +kernel
theorem pd_3 : parseMethodDescriptor "()J" = some ⟨[], some .long⟩ := by decide +kernel

theorem own_mod5 (q v : Int32) (hv : v = ((q &&& (2147483647 : Int32)) % (5 : Int32))) : v = 0 ∨ v = 1 ∨ v = 2 ∨ v = 3 ∨ v = 4 := by
  have e1 : (q &&& (2147483647 : Int32)).toInt = q.toInt % (2 ^ 31 : Nat) := c_mask q _ 31 (by decide) (by decide)
  have e2 := (c_irem (q &&& (2147483647 : Int32)) 5 5 (by decide)).1 (by rw [e1]; omega)
  rw [← hv] at e2
  have k0 : (0 : Int32).toInt = 0 := by decide
  have k1 : (1 : Int32).toInt = 1 := by decide
  have k2 : (2 : Int32).toInt = 2 := by decide
  have k3 : (3 : Int32).toInt = 3 := by decide
  have k4 : (4 : Int32).toInt = 4 := by decide
  have : v.toInt = 0 ∨ v.toInt = 1 ∨ v.toInt = 2 ∨ v.toInt = 3 ∨ v.toInt = 4 := by omega
  rcases this with h | h | h | h | h
  · exact Or.inl (Int32.toInt_inj.mp (h.trans k0.symm))
  · exact Or.inr (Or.inl (Int32.toInt_inj.mp (h.trans k1.symm)))
  · exact Or.inr (Or.inr (Or.inl (Int32.toInt_inj.mp (h.trans k2.symm))))
  · exact Or.inr (Or.inr (Or.inr (Or.inl (Int32.toInt_inj.mp (h.trans k3.symm)))))
  · exact Or.inr (Or.inr (Or.inr (Or.inr (Int32.toInt_inj.mp (h.trans k4.symm)))))

theorem ef_5 (m : MethodId) (a0 : Addr) : entryFrame m #[(.ref a0)] 1 = mkF m 0 #[.val (.ref a0)] [] := by first | (simp [entryFrame, mkF, argsToLocals, Value.category]; done) | rfl
def Q5 (Z : State) (a0 : Addr) (h0 : Heap) (n0 : Nat) (v : Option Value) (h : Heap) (L : List Loc) : Prop := v = none ∧ Fr n0 L ∧ h = h0
set_option maxRecDepth 65536 in
set_option maxHeartbeats 40000000 in
theorem rm5 (l : Launch) (Z : State) (A0 : Array Value) (hw : ∀ d ∈ tables_1, d.before A0 Z = true) (ws : List Jvm.Cond) (a0 : Addr) (h0 : Heap) (n0 : Nat) (Z0 : n0 ≤ h0.size) :
    MetFree l (⟨"java/util/AbstractCollection", "<init>", "()V"⟩ : MethodName) (head1 (Jvm.Cond.code (⟨"java/util/AbstractCollection", "<init>", "()V"⟩ : MethodName) jdk_22_method_1_code 1 none :: ws) ({ frames := 1, cells := 0, slots := 0, locals := 12 } : Room)) (fun a U => a = #[(.ref a0)] ∧ Z.Warmed39 U.vm ∧ U.heap = h0) (fun _ _ _ _ _ => True) (fun _ U o U' => ∃ v L, o = .returned v ∧ Q5 Z a0 h0 n0 v U'.heap L ∧ FrameEnd U o U' L ({ frames := 1, cells := 0, slots := 0, locals := 12 } : Room).cells ({ frames := 1, cells := 0, slots := 0, locals := 12 } : Room).slots) := by
  refine MetFree.of_bodySF (plainFor_of_name pn_5) hisR ?_
  intro p e s m args below meth c s₁ Bd hml0 hP hK
  obtain ⟨rfl, hZ, hh⟩ := hP
  have hx := Bd.exec
  have hby := Bd.bytes
  have hml : c.maxLocals = 1 := hml0
  have hown : s.vm.findClass "java/util/AbstractCollection" = some m.cls := findClass_of_methodNamed Bd.named
  have hnm := (name_of_methodNamed Bd.named Bd.method).1
  have X0 : Stand p l e ({ frames := 1, cells := 0, slots := 0, locals := 12 } : Room) s m #[(.ref a0)] below meth c s₁ [] 0 0 := Stand.of_body Bd
  have e0 : s₁.heap = h0 := by rw [← hh, Bd.state]; rfl
  have N0 := Fr.nil n0
  have pre0 : ∀ t, Steps p.tables e below (s₁.setTop (mkF m 0 #[.val (.ref a0)] [])) t → Steps p.tables e below (s₁.setTop (entryFrame m #[(.ref a0)] 1)) t := fun t k => castTop (ef_5 m a0) k
  obtain ⟨T1, X1, e1, st1⟩ := initO X0 hx hZ hown (hw _ (List.mem_of_getElem? (i := 28) rfl)) (hw _ (List.mem_of_getElem? (i := 8) rfl)) (hw _ (List.mem_of_getElem? (i := 9) rfl)) e0 (g := (mkF m 1 #[.val (.ref a0)] [(.ref a0)])) rfl (by rw [hml]; rfl) rfl (hb hby d5_1) (by decide) (W := 0) (by show 2 * 0 + _ ≤ _; exact Nat.le_of_eq rfl) (by decide)
  obtain ⟨fs, hr, hrun, hended, hW, hsame⟩ := X1.leave (v := none) (fun _ => rfl)
  refine ⟨_, _, pre0 _ ?_, hrun, hended, _, _, rfl, ?_, ⟨_, rfl⟩, hW, hsame.mono (by decide) (by decide)⟩
  · show Steps p.tables e below (s₁.setTop (mkF m 0 #[.val (.ref a0)] [])) _
    refine XS.aloadN X0.here hx rfl (hb hby d5_0) rfl rfl ?_
    show Steps p.tables e below (s₁.setTop (mkF m 1 #[.val (.ref a0)] [(.ref a0)])) _
    refine st1 _ ?_
    show Steps p.tables e below (T1.setTop (mkF m 4 #[.val (.ref a0)] [])) _
    exact X1.returnOut hx Bd.returns (hb hby d5_4) hr
  · show Q5 Z a0 h0 n0 _ T1.heap _
    exact ⟨rfl, N0, e1⟩
theorem ef_4 (m : MethodId) (a0 : Addr) : entryFrame m #[(.ref a0)] 1 = mkF m 0 #[.val (.ref a0)] [] := by first | (simp [entryFrame, mkF, argsToLocals, Value.category]; done) | rfl
def Q4 (Z : State) (a0 : Addr) (w_modCount_a0 : Int32) (w_elementData_a0 : Value) (h0 : Heap) (n0 : Nat) (v : Option Value) (h : Heap) (L : List Loc) : Prop := v = none ∧ Fr n0 L ∧ Keep h0 h [a0] ∧ Exa Z h a0 "java/util/ArrayList" ∧ Fld Z h a0 "java/util/AbstractList" "modCount" "I" (.int (0 : Int32)) ∧ Fld Z h a0 "java/util/ArrayList" "elementData" "[Ljava/lang/Object;" w_elementData_a0
set_option maxRecDepth 65536 in
set_option maxHeartbeats 40000000 in
theorem rm4 (l : Launch) (Z : State) (A0 : Array Value) (hw : ∀ d ∈ tables_1, d.before A0 Z = true) (ws : List Jvm.Cond) (a0 : Addr) (w_modCount_a0 : Int32) (w_elementData_a0 : Value) (h0 : Heap) (n0 : Nat) (Z0 : n0 ≤ h0.size) (E_a0 : Exa Z h0 a0 "java/util/ArrayList") (F_modCount_a0 : Fld Z h0 a0 "java/util/AbstractList" "modCount" "I" (.int w_modCount_a0)) (F_elementData_a0 : Fld Z h0 a0 "java/util/ArrayList" "elementData" "[Ljava/lang/Object;" w_elementData_a0) (nw_a0 : n0 ≤ a0) :
    MetFree l (⟨"java/util/AbstractList", "<init>", "()V"⟩ : MethodName) (head1 (Jvm.Cond.code (⟨"java/util/AbstractList", "<init>", "()V"⟩ : MethodName) jdk_39_method_1_code 1 none :: ws) ({ frames := 2, cells := 0, slots := 0, locals := 24 } : Room)) (fun a U => a = #[(.ref a0)] ∧ Z.Warmed39 U.vm ∧ U.heap = h0) (fun _ _ _ _ _ => True) (fun _ U o U' => ∃ v L, o = .returned v ∧ Q4 Z a0 w_modCount_a0 w_elementData_a0 h0 n0 v U'.heap L ∧ FrameEnd U o U' L ({ frames := 2, cells := 0, slots := 0, locals := 24 } : Room).cells ({ frames := 2, cells := 0, slots := 0, locals := 24 } : Room).slots) := by
  refine MetFree.of_bodySF (plainFor_of_name pn_4) hisR ?_
  intro p e s m args below meth c s₁ Bd hml0 hP hK
  obtain ⟨rfl, hZ, hh⟩ := hP
  have hx := Bd.exec
  have hby := Bd.bytes
  have hml : c.maxLocals = 1 := hml0
  have hown : s.vm.findClass "java/util/AbstractList" = some m.cls := findClass_of_methodNamed Bd.named
  have hnm := (name_of_methodNamed Bd.named Bd.method).1
  have X0 : Stand p l e ({ frames := 2, cells := 0, slots := 0, locals := 24 } : Room) s m #[(.ref a0)] below meth c s₁ [] 0 0 := Stand.of_body Bd
  have e0 : s₁.heap = h0 := by rw [← hh, Bd.state]; rfl
  have N0 := Fr.nil n0
  have pre0 : ∀ t, Steps p.tables e below (s₁.setTop (mkF m 0 #[.val (.ref a0)] [])) t → Steps p.tables e below (s₁.setTop (entryFrame m #[(.ref a0)] 1)) t := fun t k => castTop (ef_4 m a0) k
  obtain ⟨_, _, ⟨T1, L1, k1, n1⟩, -, X1, ⟨Lc1, hQ1, l1, y1, z1⟩, st1⟩ := X0.specialBack hx (y := (⟨"java/util/AbstractCollection", "<init>", "()V"⟩ : MethodName)) rfl hown (mvT hZ (hw _ (List.mem_of_getElem? (i := 22) rfl))) (mvT hZ (hw _ (List.mem_of_getElem? (i := 23) rfl))) (mvT hZ (hw _ (List.mem_of_getElem? (i := 27) rfl))) (by decide) (backOf (W := 0) (rm5 l Z A0 hw [] a0 h0 n0 (Nat.le_trans Z0 (Keep.refl h0 [a0]).1) ) hZ (hw _ (List.mem_of_getElem? (i := 27) rfl)) (hw _ (List.mem_of_getElem? (i := 26) rfl)) (by decide) (by decide)) (g := (mkF m 1 #[.val (.ref a0)] [(.ref a0)])) rfl (by rw [hml]; rfl) (Steps.refl _) (a := a0) (argsL := []) (rest := []) (lenOf pd_0 rfl) rfl (by show 2 * 0 + _ ≤ _; exact Nat.le_of_eq rfl) (hb hby d4_1) (fun _ _ => ⟨rfl, e0, (by decide : 0 + 0 ≤ _), (by decide : 0 + 0 ≤ _)⟩)
  dsimp only [Pt.U, Pt.locs, Pt.cells, Pt.slots] at X1 l1 y1 z1 st1 hQ1
  subst l1 y1 z1
  obtain ⟨rfl, N1q, e1⟩ := hQ1
  have N1 := Fr.app N0 N1q
  obtain ⟨T2, h2, X2, e2, W2, st2⟩ := putF X1 hx hZ hown (host := "") (Or.inl (hw _ (List.mem_of_getElem? (i := 29) rfl))) Via.refl e1 F_modCount_a0 E_a0 (Or.inl (hw _ (List.mem_of_getElem? (i := 30) rfl))) (hw _ (List.mem_of_getElem? (i := 11) rfl)) (ty := .int) (by decide) rfl rfl (g := (mkF m 6 #[.val (.ref a0)] [(.int (0 : Int32)), (.ref a0)])) rfl rfl (hb hby d4_6)
  have K2 : Keep h0 h2 [a0] := (Keep.refl h0 [a0]).wr W2 (Or.inl (by simp))
  have Fw2 : Fld Z h2 a0 "java/util/AbstractList" "modCount" "I" (.int (0 : Int32)) := F_modCount_a0.same W2
  have N2 := Fr.snoc X2 N1 nw_a0
  obtain ⟨fs, hr, hrun, hended, hW, hsame⟩ := X2.leave (v := none) (fun _ => rfl)
  refine ⟨_, _, pre0 _ ?_, hrun, hended, _, _, rfl, ?_, ⟨_, rfl⟩, hW, hsame.mono (by decide) (by decide)⟩
  · show Steps p.tables e below (s₁.setTop (mkF m 0 #[.val (.ref a0)] [])) _
    refine XS.aloadN X0.here hx rfl (hb hby d4_0) rfl rfl ?_
    show Steps p.tables e below (s₁.setTop (mkF m 1 #[.val (.ref a0)] [(.ref a0)])) _
    refine st1.trans ?_
    show Steps p.tables e below (T1.setTop (mkF m 4 #[.val (.ref a0)] [])) _
    refine XS.aloadN X1.here hx rfl (hb hby d4_4) rfl rfl ?_
    show Steps p.tables e below (T1.setTop (mkF m 5 #[.val (.ref a0)] [(.ref a0)])) _
    refine XS.iconst X1.here hx rfl (hb hby d4_5) ?_
    show Steps p.tables e below (T1.setTop (mkF m 6 #[.val (.ref a0)] [(.int (0 : Int32)), (.ref a0)])) _
    refine st2 _ ?_
    show Steps p.tables e below (T2.setTop (mkF m 9 #[.val (.ref a0)] [])) _
    exact X2.returnOut hx Bd.returns (hb hby d4_9) hr
  have G3 : Exa Z h2 a0 "java/util/ArrayList" := (E_a0.wr W2)
  have G4 : Fld Z h2 a0 "java/util/ArrayList" "elementData" "[Ljava/lang/Object;" w_elementData_a0 := (F_elementData_a0.other W2 (Or.inr (slot_ne (Or.inl (hw _ (List.mem_of_getElem? (i := 33) rfl))) (Or.inl (hw _ (List.mem_of_getElem? (i := 30) rfl))) (by decide) (t := (.array (.object "java/lang/Object"))) (t' := .int) (by decide) (by decide))))
  · show Q4 Z a0 w_modCount_a0 w_elementData_a0 h0 n0 _ T2.heap _
    rw [e2]
    exact ⟨rfl, N2, K2, G3, Fw2, G4⟩
theorem ef_3 (m : MethodId) (a0 : Addr) : entryFrame m #[(.ref a0)] 1 = mkF m 0 #[.val (.ref a0)] [] := by first | (simp [entryFrame, mkF, argsToLocals, Value.category]; done) | rfl
def Q3 (Z : State) (a0 : Addr) (w_modCount_a0 : Int32) (w_elementData_a0 : Value) (s_DEFAULTCAPACITY_EMPTY_ELEMENTDATA : Value) (h0 : Heap) (n0 : Nat) (v : Option Value) (h : Heap) (L : List Loc) : Prop := v = none ∧ Fr n0 L ∧ Keep h0 h [a0] ∧ Exa Z h a0 "java/util/ArrayList" ∧ Fld Z h a0 "java/util/AbstractList" "modCount" "I" (.int (0 : Int32)) ∧ Fld Z h a0 "java/util/ArrayList" "elementData" "[Ljava/lang/Object;" s_DEFAULTCAPACITY_EMPTY_ELEMENTDATA
set_option maxRecDepth 65536 in
set_option maxHeartbeats 40000000 in
theorem rm3 (l : Launch) (Z : State) (A0 : Array Value) (hw : ∀ d ∈ tables_1, d.before A0 Z = true) (ws : List Jvm.Cond) (a0 : Addr) (w_modCount_a0 : Int32) (w_elementData_a0 : Value) (s_DEFAULTCAPACITY_EMPTY_ELEMENTDATA : Value) (h0 : Heap) (n0 : Nat) (Z0 : n0 ≤ h0.size) (E_a0 : Exa Z h0 a0 "java/util/ArrayList") (F_modCount_a0 : Fld Z h0 a0 "java/util/AbstractList" "modCount" "I" (.int w_modCount_a0)) (F_elementData_a0 : Fld Z h0 a0 "java/util/ArrayList" "elementData" "[Ljava/lang/Object;" w_elementData_a0) (nw_a0 : n0 ≤ a0) (S_DEFAULTCAPACITY_EMPTY_ELEMENTDATA : SO Z n0 h0 "java/util/ArrayList" "DEFAULTCAPACITY_EMPTY_ELEMENTDATA" "[Ljava/lang/Object;" s_DEFAULTCAPACITY_EMPTY_ELEMENTDATA) (rf_s_DEFAULTCAPACITY_EMPTY_ELEMENTDATA : s_DEFAULTCAPACITY_EMPTY_ELEMENTDATA.isRef = true) :
    MetFree l (⟨"java/util/ArrayList", "<init>", "()V"⟩ : MethodName) (head1 (Jvm.Cond.code (⟨"java/util/ArrayList", "<init>", "()V"⟩ : MethodName) jdk_38_method_2_code 1 none :: ws) ({ frames := 3, cells := 0, slots := 0, locals := 36 } : Room)) (fun a U => a = #[(.ref a0)] ∧ Z.Warmed39 U.vm ∧ U.heap = h0) (fun _ _ _ _ _ => True) (fun _ U o U' => ∃ v L, o = .returned v ∧ Q3 Z a0 w_modCount_a0 w_elementData_a0 s_DEFAULTCAPACITY_EMPTY_ELEMENTDATA h0 n0 v U'.heap L ∧ FrameEnd U o U' L ({ frames := 3, cells := 0, slots := 0, locals := 36 } : Room).cells ({ frames := 3, cells := 0, slots := 0, locals := 36 } : Room).slots) := by
  refine MetFree.of_bodySF (plainFor_of_name pn_3) hisR ?_
  intro p e s m args below meth c s₁ Bd hml0 hP hK
  obtain ⟨rfl, hZ, hh⟩ := hP
  have hx := Bd.exec
  have hby := Bd.bytes
  have hml : c.maxLocals = 1 := hml0
  have hown : s.vm.findClass "java/util/ArrayList" = some m.cls := findClass_of_methodNamed Bd.named
  have hnm := (name_of_methodNamed Bd.named Bd.method).1
  have X0 : Stand p l e ({ frames := 3, cells := 0, slots := 0, locals := 36 } : Room) s m #[(.ref a0)] below meth c s₁ [] 0 0 := Stand.of_body Bd
  have e0 : s₁.heap = h0 := by rw [← hh, Bd.state]; rfl
  have N0 := Fr.nil n0
  have pre0 : ∀ t, Steps p.tables e below (s₁.setTop (mkF m 0 #[.val (.ref a0)] [])) t → Steps p.tables e below (s₁.setTop (entryFrame m #[(.ref a0)] 1)) t := fun t k => castTop (ef_3 m a0) k
  obtain ⟨_, _, ⟨T1, L1, k1, n1⟩, -, X1, ⟨Lc1, hQ1, l1, y1, z1⟩, st1⟩ := X0.specialBack hx (y := (⟨"java/util/AbstractList", "<init>", "()V"⟩ : MethodName)) rfl hown (mvT hZ (hw _ (List.mem_of_getElem? (i := 16) rfl))) (mvT hZ (hw _ (List.mem_of_getElem? (i := 17) rfl))) (mvT hZ (hw _ (List.mem_of_getElem? (i := 21) rfl))) (by decide) (backOf (W := 0) (rm4 l Z A0 hw [] a0 w_modCount_a0 w_elementData_a0 h0 n0 (Nat.le_trans Z0 (Keep.refl h0 [a0]).1) E_a0 F_modCount_a0 F_elementData_a0 nw_a0) hZ (hw _ (List.mem_of_getElem? (i := 21) rfl)) (hw _ (List.mem_of_getElem? (i := 20) rfl)) (by decide) (by decide)) (g := (mkF m 1 #[.val (.ref a0)] [(.ref a0)])) rfl (by rw [hml]; rfl) (Steps.refl _) (a := a0) (argsL := []) (rest := []) (lenOf pd_0 rfl) rfl (by show 2 * 0 + _ ≤ _; exact Nat.le_of_eq rfl) (hb hby d3_1) (fun _ _ => ⟨rfl, e0, (by decide : 0 + 0 ≤ _), (by decide : 0 + 0 ≤ _)⟩)
  dsimp only [Pt.U, Pt.locs, Pt.cells, Pt.slots] at X1 l1 y1 z1 st1 hQ1
  subst l1 y1 z1
  obtain ⟨rfl, N1q, Kc1, P2, P3, P4⟩ := hQ1
  have K1 : Keep h0 T1.heap [a0] := (Keep.refl h0 [a0]).trans Kc1 (allS (Or.inl (by simp)) all0)
  have N1 := Fr.app N0 N1q
  have G5 : SO Z n0 T1.heap "java/util/ArrayList" "DEFAULTCAPACITY_EMPTY_ELEMENTDATA" "[Ljava/lang/Object;" s_DEFAULTCAPACITY_EMPTY_ELEMENTDATA := (S_DEFAULTCAPACITY_EMPTY_ELEMENTDATA.keep Kc1 (allS nw_a0 all0))
  obtain ⟨T6, X6, e6, st6⟩ := getS2 X1 hx hZ hown (host := "") (Or.inl (hw _ (List.mem_of_getElem? (i := 31) rfl))) Via.refl rfl G5.sta (g := (mkF m 5 #[.val (.ref a0)] [(.ref a0)])) rfl (hb hby d3_5)
  obtain ⟨T7, h7, X7, e7, W7, st7⟩ := putF X6 hx hZ hown (host := "") (Or.inl (hw _ (List.mem_of_getElem? (i := 32) rfl))) Via.refl e6 P4 P2 (Or.inl (hw _ (List.mem_of_getElem? (i := 33) rfl))) (hw _ (List.mem_of_getElem? (i := 11) rfl)) (ty := (.array (.object "java/lang/Object"))) (by decide) rfl (own_fits_ref rf_s_DEFAULTCAPACITY_EMPTY_ELEMENTDATA) (g := (mkF m 8 #[.val (.ref a0)] [s_DEFAULTCAPACITY_EMPTY_ELEMENTDATA, (.ref a0)])) rfl rfl (hb hby d3_8)
  have K7 : Keep h0 h7 [a0] := K1.wr W7 (Or.inl (by simp))
  have Fw7 : Fld Z h7 a0 "java/util/ArrayList" "elementData" "[Ljava/lang/Object;" s_DEFAULTCAPACITY_EMPTY_ELEMENTDATA := P4.same W7
  have N7 := Fr.snoc X7 N1 nw_a0
  obtain ⟨fs, hr, hrun, hended, hW, hsame⟩ := X7.leave (v := none) (fun _ => rfl)
  refine ⟨_, _, pre0 _ ?_, hrun, hended, _, _, rfl, ?_, ⟨_, rfl⟩, hW, hsame.mono (by decide) (by decide)⟩
  · show Steps p.tables e below (s₁.setTop (mkF m 0 #[.val (.ref a0)] [])) _
    refine XS.aloadN X0.here hx rfl (hb hby d3_0) rfl rfl ?_
    show Steps p.tables e below (s₁.setTop (mkF m 1 #[.val (.ref a0)] [(.ref a0)])) _
    refine st1.trans ?_
    show Steps p.tables e below (T1.setTop (mkF m 4 #[.val (.ref a0)] [])) _
    refine XS.aloadN X1.here hx rfl (hb hby d3_4) rfl rfl ?_
    show Steps p.tables e below (T1.setTop (mkF m 5 #[.val (.ref a0)] [(.ref a0)])) _
    refine st6 _ ?_
    show Steps p.tables e below (T6.setTop (mkF m 8 #[.val (.ref a0)] [s_DEFAULTCAPACITY_EMPTY_ELEMENTDATA, (.ref a0)])) _
    refine st7 _ ?_
    show Steps p.tables e below (T7.setTop (mkF m 11 #[.val (.ref a0)] [])) _
    exact X7.returnOut hx Bd.returns (hb hby d3_11) hr
  have G8 : Exa Z h7 a0 "java/util/ArrayList" := (P2.wr W7)
  have G9 : Fld Z h7 a0 "java/util/AbstractList" "modCount" "I" (.int (0 : Int32)) := (P3.other W7 (Or.inr (slot_ne (Or.inl (hw _ (List.mem_of_getElem? (i := 30) rfl))) (Or.inl (hw _ (List.mem_of_getElem? (i := 33) rfl))) (by decide) (t := .int) (t' := (.array (.object "java/lang/Object"))) (by decide) (by decide))))
  · show Q3 Z a0 w_modCount_a0 w_elementData_a0 s_DEFAULTCAPACITY_EMPTY_ELEMENTDATA h0 n0 _ T7.heap _
    rw [e7]
    exact ⟨rfl, N7, K7, G8, G9, Fw7⟩
theorem ef_1 (m : MethodId) (a0 : Addr) : entryFrame m #[(.ref a0)] 1 = mkF m 0 #[.val (.ref a0)] [] := by first | (simp [entryFrame, mkF, argsToLocals, Value.category]; done) | rfl
def Q1 (Z : State) (a0 : Addr) (w_sorts_a0 : Value) (w_edges_a0 : Value) (w_uses_a0 : Value) (w_nodes_a0 : Int32) (w_copiedNodes_a0 : Int64) (w_copies_a0 : Int64) (s_DEFAULTCAPACITY_EMPTY_ELEMENTDATA : Value) (h0 : Heap) (n0 : Nat) (v : Option Value) (h : Heap) (L : List Loc) : Prop := ∃ b2 : Addr, ∃ b12 : Addr, ∃ b24 : Addr, v = none ∧ Fr n0 L ∧ Keep h0 h [a0] ∧ h0.size ≤ b2 ∧ h0.size ≤ b12 ∧ h0.size ≤ b24 ∧ b2 ≠ b12 ∧ b2 ≠ b24 ∧ b12 ≠ b24 ∧ Exa Z h a0 "com/example/psilattice/psilattice/lang/WrittenGraph" ∧ Fld Z h a0 "com/example/psilattice/psilattice/lang/WrittenGraph" "sorts" "Ljava/util/List;" (.ref b2) ∧ Fld Z h a0 "com/example/psilattice/psilattice/lang/WrittenGraph" "edges" "Ljava/util/List;" (.ref b12) ∧ Fld Z h a0 "com/example/psilattice/psilattice/lang/WrittenGraph" "uses" "Ljava/util/List;" (.ref b24) ∧ Fld Z h a0 "com/example/psilattice/psilattice/lang/WrittenGraph" "nodes" "I" (.int w_nodes_a0) ∧ Fld Z h a0 "com/example/psilattice/psilattice/lang/WrittenGraph" "copiedNodes" "J" (.long w_copiedNodes_a0) ∧ Fld Z h a0 "com/example/psilattice/psilattice/lang/WrittenGraph" "copies" "J" (.long w_copies_a0)
set_option maxRecDepth 65536 in
set_option maxHeartbeats 40000000 in
theorem rm1 (l : Launch) (Z : State) (A0 : Array Value) (hw : ∀ d ∈ tables_1, d.before A0 Z = true) (ws : List Jvm.Cond) (a0 : Addr) (w_sorts_a0 : Value) (w_edges_a0 : Value) (w_uses_a0 : Value) (w_nodes_a0 : Int32) (w_copiedNodes_a0 : Int64) (w_copies_a0 : Int64) (s_DEFAULTCAPACITY_EMPTY_ELEMENTDATA : Value) (h0 : Heap) (n0 : Nat) (Z0 : n0 ≤ h0.size) (E_a0 : Exa Z h0 a0 "com/example/psilattice/psilattice/lang/WrittenGraph") (F_sorts_a0 : Fld Z h0 a0 "com/example/psilattice/psilattice/lang/WrittenGraph" "sorts" "Ljava/util/List;" w_sorts_a0) (F_edges_a0 : Fld Z h0 a0 "com/example/psilattice/psilattice/lang/WrittenGraph" "edges" "Ljava/util/List;" w_edges_a0) (F_uses_a0 : Fld Z h0 a0 "com/example/psilattice/psilattice/lang/WrittenGraph" "uses" "Ljava/util/List;" w_uses_a0) (F_nodes_a0 : Fld Z h0 a0 "com/example/psilattice/psilattice/lang/WrittenGraph" "nodes" "I" (.int w_nodes_a0)) (F_copiedNodes_a0 : Fld Z h0 a0 "com/example/psilattice/psilattice/lang/WrittenGraph" "copiedNodes" "J" (.long w_copiedNodes_a0)) (F_copies_a0 : Fld Z h0 a0 "com/example/psilattice/psilattice/lang/WrittenGraph" "copies" "J" (.long w_copies_a0)) (S_DEFAULTCAPACITY_EMPTY_ELEMENTDATA : SO Z n0 h0 "java/util/ArrayList" "DEFAULTCAPACITY_EMPTY_ELEMENTDATA" "[Ljava/lang/Object;" s_DEFAULTCAPACITY_EMPTY_ELEMENTDATA) (nw_a0 : n0 ≤ a0) (rf_s_DEFAULTCAPACITY_EMPTY_ELEMENTDATA : s_DEFAULTCAPACITY_EMPTY_ELEMENTDATA.isRef = true) :
    MetFree l (⟨"com/example/psilattice/psilattice/lang/WrittenGraph", "<init>", "()V"⟩ : MethodName) (head1 (Jvm.Cond.code (⟨"com/example/psilattice/psilattice/lang/WrittenGraph", "<init>", "()V"⟩ : MethodName) prog_74_method_1_code 1 none :: ws) ({ frames := 4, cells := 3, slots := 9, locals := 50 } : Room)) (fun a U => a = #[(.ref a0)] ∧ Z.Warmed39 U.vm ∧ U.heap = h0) (fun _ _ _ _ _ => True) (fun _ U o U' => ∃ v L, o = .returned v ∧ Q1 Z a0 w_sorts_a0 w_edges_a0 w_uses_a0 w_nodes_a0 w_copiedNodes_a0 w_copies_a0 s_DEFAULTCAPACITY_EMPTY_ELEMENTDATA h0 n0 v U'.heap L ∧ FrameEnd U o U' L ({ frames := 4, cells := 3, slots := 9, locals := 50 } : Room).cells ({ frames := 4, cells := 3, slots := 9, locals := 50 } : Room).slots) := by
  refine MetFree.of_bodySF (plainFor_of_name pn_1) hisR ?_
  intro p e s m args below meth c s₁ Bd hml0 hP hK
  obtain ⟨rfl, hZ, hh⟩ := hP
  have hx := Bd.exec
  have hby := Bd.bytes
  have hml : c.maxLocals = 1 := hml0
  have hown : s.vm.findClass "com/example/psilattice/psilattice/lang/WrittenGraph" = some m.cls := findClass_of_methodNamed Bd.named
  have hnm := (name_of_methodNamed Bd.named Bd.method).1
  have X0 : Stand p l e ({ frames := 4, cells := 3, slots := 9, locals := 50 } : Room) s m #[(.ref a0)] below meth c s₁ [] 0 0 := Stand.of_body Bd
  have e0 : s₁.heap = h0 := by rw [← hh, Bd.state]; rfl
  have N0 := Fr.nil n0
  have pre0 : ∀ t, Steps p.tables e below (s₁.setTop (mkF m 0 #[.val (.ref a0)] [])) t → Steps p.tables e below (s₁.setTop (entryFrame m #[(.ref a0)] 1)) t := fun t k => castTop (ef_1 m a0) k
  obtain ⟨T1, X1, e1, st1⟩ := initO X0 hx hZ hown (hw _ (List.mem_of_getElem? (i := 7) rfl)) (hw _ (List.mem_of_getElem? (i := 8) rfl)) (hw _ (List.mem_of_getElem? (i := 9) rfl)) e0 (g := (mkF m 1 #[.val (.ref a0)] [(.ref a0)])) rfl (by rw [hml]; rfl) rfl (hb hby d1_1) (by decide) (W := 0) (by show 2 * 0 + _ ≤ _; exact Nat.le_of_eq rfl) (by decide)
  obtain ⟨T2, h2, X2, e2, E2, A2, D2, -, st2⟩ := newO X1 hx hZ hown (hw _ (List.mem_of_getElem? (i := 10) rfl)) (hw _ (List.mem_of_getElem? (i := 11) rfl)) (hw _ (List.mem_of_getElem? (i := 12) rfl)) e1 (g := (mkF m 5 #[.val (.ref a0)] [(.ref a0)])) rfl (hb hby d1_5) (by decide) (by decide)
  obtain ⟨b2, g2⟩ : ∃ z, z = h0.size := ⟨_, rfl⟩
  rw [← g2] at A2 D2 st2
  have ne_a0_b2 : a0 ≠ b2 := Nat.ne_of_lt (Nat.lt_of_lt_of_le E_a0.lt (Nat.le_of_eq g2.symm))
  have nw_b2 : n0 ≤ b2 := Nat.le_trans (Nat.le_trans Z0 (Keep.refl h0 [a0]).1) (Nat.le_of_eq g2.symm)
  have sz_b2 : h0.size ≤ b2 := Nat.le_trans (Keep.refl h0 [a0]).1 (Nat.le_of_eq g2.symm)
  have K2 : Keep h0 h2 [a0] := (Keep.refl h0 [a0]).ext E2
  have F_modCount_b2 : Fld Z h2 b2 "java/util/AbstractList" "modCount" "I" (.int (0 : Int32)) := D2 (Or.inl (hw _ (List.mem_of_getElem? (i := 30) rfl))) (ty := .int) (by decide)
  have F_elementData_b2 : Fld Z h2 b2 "java/util/ArrayList" "elementData" "[Ljava/lang/Object;" .null := D2 (Or.inl (hw _ (List.mem_of_getElem? (i := 33) rfl))) (ty := (.array (.object "java/lang/Object"))) (by decide)
  have G3 : SO Z n0 h2 "java/util/ArrayList" "DEFAULTCAPACITY_EMPTY_ELEMENTDATA" "[Ljava/lang/Object;" s_DEFAULTCAPACITY_EMPTY_ELEMENTDATA := (S_DEFAULTCAPACITY_EMPTY_ELEMENTDATA.ext E2)
  have hp4 : s_DEFAULTCAPACITY_EMPTY_ELEMENTDATA.isRef = true := rf_s_DEFAULTCAPACITY_EMPTY_ELEMENTDATA
  obtain ⟨_, _, ⟨T5, L5, k5, n5⟩, -, X5, ⟨Lc5, hQ5, l5, y5, z5⟩, st5⟩ := X2.specialBack hx (y := (⟨"java/util/ArrayList", "<init>", "()V"⟩ : MethodName)) rfl hown (mvT hZ (hw _ (List.mem_of_getElem? (i := 13) rfl))) (mvT hZ (hw _ (List.mem_of_getElem? (i := 14) rfl))) (mvT hZ (hw _ (List.mem_of_getElem? (i := 15) rfl))) (by decide) (backOf (W := 2) (rm3 l Z A0 hw [] b2 (0 : Int32) .null s_DEFAULTCAPACITY_EMPTY_ELEMENTDATA h2 n0 (Nat.le_trans Z0 K2.1) A2 F_modCount_b2 F_elementData_b2 nw_b2 G3 hp4) hZ (hw _ (List.mem_of_getElem? (i := 15) rfl)) (hw _ (List.mem_of_getElem? (i := 12) rfl)) (by decide) (by decide)) (g := (mkF m 9 #[.val (.ref a0)] [(.ref b2), (.ref b2), (.ref a0)])) rfl (by rw [hml]; rfl) (Steps.refl _) (a := b2) (argsL := []) (rest := [(.ref b2), (.ref a0)]) (lenOf pd_0 rfl) rfl (by show 2 * 0 + _ ≤ _; exact Nat.le_of_eq rfl) (hb hby d1_9) (fun _ _ => ⟨rfl, e2, (by decide : 1 + 0 ≤ _), (by decide : 3 + 0 ≤ _)⟩)
  dsimp only [Pt.U, Pt.locs, Pt.cells, Pt.slots] at X5 l5 y5 z5 st5 hQ5
  subst l5 y5 z5
  obtain ⟨rfl, N5q, Kc5, P6, P7, P8⟩ := hQ5
  have K5 : Keep h0 T5.heap [a0] := K2.trans Kc5 (allS (Or.inr sz_b2) all0)
  have N5 := Fr.app N0 N5q
  have G9 : Exa Z T5.heap a0 "com/example/psilattice/psilattice/lang/WrittenGraph" := ((E_a0.ext E2).keep Kc5)
  have G10 : Fld Z T5.heap a0 "com/example/psilattice/psilattice/lang/WrittenGraph" "sorts" "Ljava/util/List;" w_sorts_a0 := ((F_sorts_a0.ext E2).keep Kc5 (ninS ne_a0_b2 nin0))
  obtain ⟨T11, h11, X11, e11, W11, st11⟩ := putF X5 hx hZ hown (host := "") (Or.inl (hw _ (List.mem_of_getElem? (i := 34) rfl))) Via.refl rfl G10 G9 (Or.inr ⟨(hw _ (List.mem_of_getElem? (i := 35) rfl)), rfl, hnm⟩) (hw _ (List.mem_of_getElem? (i := 2) rfl)) (ty := (.object "java/util/List")) (by decide) rfl rfl (g := (mkF m 12 #[.val (.ref a0)] [(.ref b2), (.ref a0)])) rfl rfl (hb hby d1_12)
  have K11 : Keep h0 h11 [a0] := K5.wr W11 (Or.inl (by simp))
  have Fw11 : Fld Z h11 a0 "com/example/psilattice/psilattice/lang/WrittenGraph" "sorts" "Ljava/util/List;" (.ref b2) := G10.same W11
  have N11 := Fr.snoc X11 N5 nw_a0
  obtain ⟨T12, h12, X12, e12, E12, A12, D12, -, st12⟩ := newO X11 hx hZ hown (hw _ (List.mem_of_getElem? (i := 10) rfl)) (hw _ (List.mem_of_getElem? (i := 11) rfl)) (hw _ (List.mem_of_getElem? (i := 12) rfl)) e11 (g := (mkF m 16 #[.val (.ref a0)] [(.ref a0)])) rfl (hb hby d1_16) (by decide) (by decide)
  obtain ⟨b12, g12⟩ : ∃ z, z = h11.size := ⟨_, rfl⟩
  rw [← g12] at A12 D12 st12
  have G13 : Exa Z h11 a0 "com/example/psilattice/psilattice/lang/WrittenGraph" := (G9.wr W11)
  have ne_a0_b12 : a0 ≠ b12 := Nat.ne_of_lt (Nat.lt_of_lt_of_le G13.lt (Nat.le_of_eq g12.symm))
  have G14 : Exa Z h11 b2 "java/util/ArrayList" := (P6.wr W11)
  have ne_b2_b12 : b2 ≠ b12 := Nat.ne_of_lt (Nat.lt_of_lt_of_le G14.lt (Nat.le_of_eq g12.symm))
  have nw_b12 : n0 ≤ b12 := Nat.le_trans (Nat.le_trans Z0 K11.1) (Nat.le_of_eq g12.symm)
  have sz_b12 : h0.size ≤ b12 := Nat.le_trans K11.1 (Nat.le_of_eq g12.symm)
  have K12 : Keep h0 h12 [a0] := K11.ext E12
  have F_modCount_b12 : Fld Z h12 b12 "java/util/AbstractList" "modCount" "I" (.int (0 : Int32)) := D12 (Or.inl (hw _ (List.mem_of_getElem? (i := 30) rfl))) (ty := .int) (by decide)
  have F_elementData_b12 : Fld Z h12 b12 "java/util/ArrayList" "elementData" "[Ljava/lang/Object;" .null := D12 (Or.inl (hw _ (List.mem_of_getElem? (i := 33) rfl))) (ty := (.array (.object "java/lang/Object"))) (by decide)
  have G15 : SO Z n0 h12 "java/util/ArrayList" "DEFAULTCAPACITY_EMPTY_ELEMENTDATA" "[Ljava/lang/Object;" s_DEFAULTCAPACITY_EMPTY_ELEMENTDATA := (((G3.keep Kc5 (allS nw_b2 all0)).wr W11 nw_a0).ext E12)
  have hp16 : s_DEFAULTCAPACITY_EMPTY_ELEMENTDATA.isRef = true := rf_s_DEFAULTCAPACITY_EMPTY_ELEMENTDATA
  obtain ⟨_, _, ⟨T17, L17, k17, n17⟩, -, X17, ⟨Lc17, hQ17, l17, y17, z17⟩, st17⟩ := X12.specialBack hx (y := (⟨"java/util/ArrayList", "<init>", "()V"⟩ : MethodName)) rfl hown (mvT hZ (hw _ (List.mem_of_getElem? (i := 13) rfl))) (mvT hZ (hw _ (List.mem_of_getElem? (i := 14) rfl))) (mvT hZ (hw _ (List.mem_of_getElem? (i := 15) rfl))) (by decide) (backOf (W := 2) (rm3 l Z A0 hw [] b12 (0 : Int32) .null s_DEFAULTCAPACITY_EMPTY_ELEMENTDATA h12 n0 (Nat.le_trans Z0 K12.1) A12 F_modCount_b12 F_elementData_b12 nw_b12 G15 hp16) hZ (hw _ (List.mem_of_getElem? (i := 15) rfl)) (hw _ (List.mem_of_getElem? (i := 12) rfl)) (by decide) (by decide)) (g := (mkF m 20 #[.val (.ref a0)] [(.ref b12), (.ref b12), (.ref a0)])) rfl (by rw [hml]; rfl) (Steps.refl _) (a := b12) (argsL := []) (rest := [(.ref b12), (.ref a0)]) (lenOf pd_0 rfl) rfl (by show 2 * 0 + _ ≤ _; exact Nat.le_of_eq rfl) (hb hby d1_20) (fun _ _ => ⟨rfl, e12, (by decide : 2 + 0 ≤ _), (by decide : 6 + 0 ≤ _)⟩)
  dsimp only [Pt.U, Pt.locs, Pt.cells, Pt.slots] at X17 l17 y17 z17 st17 hQ17
  subst l17 y17 z17
  obtain ⟨rfl, N17q, Kc17, P18, P19, P20⟩ := hQ17
  have K17 : Keep h0 T17.heap [a0] := K12.trans Kc17 (allS (Or.inr sz_b12) all0)
  have N17 := Fr.app N11 N17q
  have G21 : Exa Z T17.heap a0 "com/example/psilattice/psilattice/lang/WrittenGraph" := ((G13.ext E12).keep Kc17)
  have G22 : Fld Z T17.heap a0 "com/example/psilattice/psilattice/lang/WrittenGraph" "edges" "Ljava/util/List;" w_edges_a0 := (((((F_edges_a0.ext E2).keep Kc5 (ninS ne_a0_b2 nin0)).other W11 (Or.inr (slot_ne (Or.inr (hw _ (List.mem_of_getElem? (i := 37) rfl))) (Or.inr (hw _ (List.mem_of_getElem? (i := 35) rfl))) (by decide) (t := (.object "java/util/List")) (t' := (.object "java/util/List")) (by decide) (by decide)))).ext E12).keep Kc17 (ninS ne_a0_b12 nin0))
  obtain ⟨T23, h23, X23, e23, W23, st23⟩ := putF X17 hx hZ hown (host := "") (Or.inl (hw _ (List.mem_of_getElem? (i := 36) rfl))) Via.refl rfl G22 G21 (Or.inr ⟨(hw _ (List.mem_of_getElem? (i := 37) rfl)), rfl, hnm⟩) (hw _ (List.mem_of_getElem? (i := 2) rfl)) (ty := (.object "java/util/List")) (by decide) rfl rfl (g := (mkF m 23 #[.val (.ref a0)] [(.ref b12), (.ref a0)])) rfl rfl (hb hby d1_23)
  have K23 : Keep h0 h23 [a0] := K17.wr W23 (Or.inl (by simp))
  have Fw23 : Fld Z h23 a0 "com/example/psilattice/psilattice/lang/WrittenGraph" "edges" "Ljava/util/List;" (.ref b12) := G22.same W23
  have N23 := Fr.snoc X23 N17 nw_a0
  obtain ⟨T24, h24, X24, e24, E24, A24, D24, -, st24⟩ := newO X23 hx hZ hown (hw _ (List.mem_of_getElem? (i := 10) rfl)) (hw _ (List.mem_of_getElem? (i := 11) rfl)) (hw _ (List.mem_of_getElem? (i := 12) rfl)) e23 (g := (mkF m 27 #[.val (.ref a0)] [(.ref a0)])) rfl (hb hby d1_27) (by decide) (by decide)
  obtain ⟨b24, g24⟩ : ∃ z, z = h23.size := ⟨_, rfl⟩
  rw [← g24] at A24 D24 st24
  have G25 : Exa Z h23 a0 "com/example/psilattice/psilattice/lang/WrittenGraph" := (G21.wr W23)
  have ne_a0_b24 : a0 ≠ b24 := Nat.ne_of_lt (Nat.lt_of_lt_of_le G25.lt (Nat.le_of_eq g24.symm))
  have G26 : Exa Z h23 b2 "java/util/ArrayList" := (((G14.ext E12).keep Kc17).wr W23)
  have ne_b2_b24 : b2 ≠ b24 := Nat.ne_of_lt (Nat.lt_of_lt_of_le G26.lt (Nat.le_of_eq g24.symm))
  have G27 : Exa Z h23 b12 "java/util/ArrayList" := (P18.wr W23)
  have ne_b12_b24 : b12 ≠ b24 := Nat.ne_of_lt (Nat.lt_of_lt_of_le G27.lt (Nat.le_of_eq g24.symm))
  have nw_b24 : n0 ≤ b24 := Nat.le_trans (Nat.le_trans Z0 K23.1) (Nat.le_of_eq g24.symm)
  have sz_b24 : h0.size ≤ b24 := Nat.le_trans K23.1 (Nat.le_of_eq g24.symm)
  have K24 : Keep h0 h24 [a0] := K23.ext E24
  have F_modCount_b24 : Fld Z h24 b24 "java/util/AbstractList" "modCount" "I" (.int (0 : Int32)) := D24 (Or.inl (hw _ (List.mem_of_getElem? (i := 30) rfl))) (ty := .int) (by decide)
  have F_elementData_b24 : Fld Z h24 b24 "java/util/ArrayList" "elementData" "[Ljava/lang/Object;" .null := D24 (Or.inl (hw _ (List.mem_of_getElem? (i := 33) rfl))) (ty := (.array (.object "java/lang/Object"))) (by decide)
  have G28 : SO Z n0 h24 "java/util/ArrayList" "DEFAULTCAPACITY_EMPTY_ELEMENTDATA" "[Ljava/lang/Object;" s_DEFAULTCAPACITY_EMPTY_ELEMENTDATA := (((G15.keep Kc17 (allS nw_b12 all0)).wr W23 nw_a0).ext E24)
  have hp29 : s_DEFAULTCAPACITY_EMPTY_ELEMENTDATA.isRef = true := rf_s_DEFAULTCAPACITY_EMPTY_ELEMENTDATA
  obtain ⟨_, _, ⟨T30, L30, k30, n30⟩, -, X30, ⟨Lc30, hQ30, l30, y30, z30⟩, st30⟩ := X24.specialBack hx (y := (⟨"java/util/ArrayList", "<init>", "()V"⟩ : MethodName)) rfl hown (mvT hZ (hw _ (List.mem_of_getElem? (i := 13) rfl))) (mvT hZ (hw _ (List.mem_of_getElem? (i := 14) rfl))) (mvT hZ (hw _ (List.mem_of_getElem? (i := 15) rfl))) (by decide) (backOf (W := 2) (rm3 l Z A0 hw [] b24 (0 : Int32) .null s_DEFAULTCAPACITY_EMPTY_ELEMENTDATA h24 n0 (Nat.le_trans Z0 K24.1) A24 F_modCount_b24 F_elementData_b24 nw_b24 G28 hp29) hZ (hw _ (List.mem_of_getElem? (i := 15) rfl)) (hw _ (List.mem_of_getElem? (i := 12) rfl)) (by decide) (by decide)) (g := (mkF m 31 #[.val (.ref a0)] [(.ref b24), (.ref b24), (.ref a0)])) rfl (by rw [hml]; rfl) (Steps.refl _) (a := b24) (argsL := []) (rest := [(.ref b24), (.ref a0)]) (lenOf pd_0 rfl) rfl (by show 2 * 0 + _ ≤ _; exact Nat.le_of_eq rfl) (hb hby d1_31) (fun _ _ => ⟨rfl, e24, (by decide : 3 + 0 ≤ _), (by decide : 9 + 0 ≤ _)⟩)
  dsimp only [Pt.U, Pt.locs, Pt.cells, Pt.slots] at X30 l30 y30 z30 st30 hQ30
  subst l30 y30 z30
  obtain ⟨rfl, N30q, Kc30, P31, P32, P33⟩ := hQ30
  have K30 : Keep h0 T30.heap [a0] := K24.trans Kc30 (allS (Or.inr sz_b24) all0)
  have N30 := Fr.app N23 N30q
  have G34 : Exa Z T30.heap a0 "com/example/psilattice/psilattice/lang/WrittenGraph" := ((G25.ext E24).keep Kc30)
  have G35 : Fld Z T30.heap a0 "com/example/psilattice/psilattice/lang/WrittenGraph" "uses" "Ljava/util/List;" w_uses_a0 := ((((((((F_uses_a0.ext E2).keep Kc5 (ninS ne_a0_b2 nin0)).other W11 (Or.inr (slot_ne (Or.inr (hw _ (List.mem_of_getElem? (i := 39) rfl))) (Or.inr (hw _ (List.mem_of_getElem? (i := 35) rfl))) (by decide) (t := (.object "java/util/List")) (t' := (.object "java/util/List")) (by decide) (by decide)))).ext E12).keep Kc17 (ninS ne_a0_b12 nin0)).other W23 (Or.inr (slot_ne (Or.inr (hw _ (List.mem_of_getElem? (i := 39) rfl))) (Or.inr (hw _ (List.mem_of_getElem? (i := 37) rfl))) (by decide) (t := (.object "java/util/List")) (t' := (.object "java/util/List")) (by decide) (by decide)))).ext E24).keep Kc30 (ninS ne_a0_b24 nin0))
  obtain ⟨T36, h36, X36, e36, W36, st36⟩ := putF X30 hx hZ hown (host := "") (Or.inl (hw _ (List.mem_of_getElem? (i := 38) rfl))) Via.refl rfl G35 G34 (Or.inr ⟨(hw _ (List.mem_of_getElem? (i := 39) rfl)), rfl, hnm⟩) (hw _ (List.mem_of_getElem? (i := 2) rfl)) (ty := (.object "java/util/List")) (by decide) rfl rfl (g := (mkF m 34 #[.val (.ref a0)] [(.ref b24), (.ref a0)])) rfl rfl (hb hby d1_34)
  have K36 : Keep h0 h36 [a0] := K30.wr W36 (Or.inl (by simp))
  have Fw36 : Fld Z h36 a0 "com/example/psilattice/psilattice/lang/WrittenGraph" "uses" "Ljava/util/List;" (.ref b24) := G35.same W36
  have N36 := Fr.snoc X36 N30 nw_a0
  obtain ⟨fs, hr, hrun, hended, hW, hsame⟩ := X36.leave (v := none) (fun _ => rfl)
  refine ⟨_, _, pre0 _ ?_, hrun, hended, _, _, rfl, ?_, ⟨_, rfl⟩, hW, hsame.mono (by decide) (by decide)⟩
  · show Steps p.tables e below (s₁.setTop (mkF m 0 #[.val (.ref a0)] [])) _
    refine XS.aloadN X0.here hx rfl (hb hby d1_0) rfl rfl ?_
    show Steps p.tables e below (s₁.setTop (mkF m 1 #[.val (.ref a0)] [(.ref a0)])) _
    refine st1 _ ?_
    show Steps p.tables e below (T1.setTop (mkF m 4 #[.val (.ref a0)] [])) _
    refine XS.aloadN X1.here hx rfl (hb hby d1_4) rfl rfl ?_
    show Steps p.tables e below (T1.setTop (mkF m 5 #[.val (.ref a0)] [(.ref a0)])) _
    refine st2 _ ?_
    show Steps p.tables e below (T2.setTop (mkF m 8 #[.val (.ref a0)] [(.ref b2), (.ref a0)])) _
    refine XS.dup X2.here hx rfl (hb hby d1_8) rfl rfl ?_
    show Steps p.tables e below (T2.setTop (mkF m 9 #[.val (.ref a0)] [(.ref b2), (.ref b2), (.ref a0)])) _
    refine st5.trans ?_
    show Steps p.tables e below (T5.setTop (mkF m 12 #[.val (.ref a0)] [(.ref b2), (.ref a0)])) _
    refine st11 _ ?_
    show Steps p.tables e below (T11.setTop (mkF m 15 #[.val (.ref a0)] [])) _
    refine XS.aloadN X11.here hx rfl (hb hby d1_15) rfl rfl ?_
    show Steps p.tables e below (T11.setTop (mkF m 16 #[.val (.ref a0)] [(.ref a0)])) _
    refine st12 _ ?_
    show Steps p.tables e below (T12.setTop (mkF m 19 #[.val (.ref a0)] [(.ref b12), (.ref a0)])) _
    refine XS.dup X12.here hx rfl (hb hby d1_19) rfl rfl ?_
    show Steps p.tables e below (T12.setTop (mkF m 20 #[.val (.ref a0)] [(.ref b12), (.ref b12), (.ref a0)])) _
    refine st17.trans ?_
    show Steps p.tables e below (T17.setTop (mkF m 23 #[.val (.ref a0)] [(.ref b12), (.ref a0)])) _
    refine st23 _ ?_
    show Steps p.tables e below (T23.setTop (mkF m 26 #[.val (.ref a0)] [])) _
    refine XS.aloadN X23.here hx rfl (hb hby d1_26) rfl rfl ?_
    show Steps p.tables e below (T23.setTop (mkF m 27 #[.val (.ref a0)] [(.ref a0)])) _
    refine st24 _ ?_
    show Steps p.tables e below (T24.setTop (mkF m 30 #[.val (.ref a0)] [(.ref b24), (.ref a0)])) _
    refine XS.dup X24.here hx rfl (hb hby d1_30) rfl rfl ?_
    show Steps p.tables e below (T24.setTop (mkF m 31 #[.val (.ref a0)] [(.ref b24), (.ref b24), (.ref a0)])) _
    refine st30.trans ?_
    show Steps p.tables e below (T30.setTop (mkF m 34 #[.val (.ref a0)] [(.ref b24), (.ref a0)])) _
    refine st36 _ ?_
    show Steps p.tables e below (T36.setTop (mkF m 37 #[.val (.ref a0)] [])) _
    exact X36.returnOut hx Bd.returns (hb hby d1_37) hr
  have G37 : Exa Z h36 a0 "com/example/psilattice/psilattice/lang/WrittenGraph" := (G34.wr W36)
  have G38 : Fld Z h36 a0 "com/example/psilattice/psilattice/lang/WrittenGraph" "sorts" "Ljava/util/List;" (.ref b2) := ((((((Fw11.ext E12).keep Kc17 (ninS ne_a0_b12 nin0)).other W23 (Or.inr (slot_ne (Or.inr (hw _ (List.mem_of_getElem? (i := 35) rfl))) (Or.inr (hw _ (List.mem_of_getElem? (i := 37) rfl))) (by decide) (t := (.object "java/util/List")) (t' := (.object "java/util/List")) (by decide) (by decide)))).ext E24).keep Kc30 (ninS ne_a0_b24 nin0)).other W36 (Or.inr (slot_ne (Or.inr (hw _ (List.mem_of_getElem? (i := 35) rfl))) (Or.inr (hw _ (List.mem_of_getElem? (i := 39) rfl))) (by decide) (t := (.object "java/util/List")) (t' := (.object "java/util/List")) (by decide) (by decide))))
  have G39 : Fld Z h36 a0 "com/example/psilattice/psilattice/lang/WrittenGraph" "edges" "Ljava/util/List;" (.ref b12) := (((Fw23.ext E24).keep Kc30 (ninS ne_a0_b24 nin0)).other W36 (Or.inr (slot_ne (Or.inr (hw _ (List.mem_of_getElem? (i := 37) rfl))) (Or.inr (hw _ (List.mem_of_getElem? (i := 39) rfl))) (by decide) (t := (.object "java/util/List")) (t' := (.object "java/util/List")) (by decide) (by decide))))
  have G40 : Fld Z h36 a0 "com/example/psilattice/psilattice/lang/WrittenGraph" "nodes" "I" (.int w_nodes_a0) := (((((((((F_nodes_a0.ext E2).keep Kc5 (ninS ne_a0_b2 nin0)).other W11 (Or.inr (slot_ne (Or.inl (hw _ (List.mem_of_getElem? (i := 46) rfl))) (Or.inr (hw _ (List.mem_of_getElem? (i := 35) rfl))) (by decide) (t := .int) (t' := (.object "java/util/List")) (by decide) (by decide)))).ext E12).keep Kc17 (ninS ne_a0_b12 nin0)).other W23 (Or.inr (slot_ne (Or.inl (hw _ (List.mem_of_getElem? (i := 46) rfl))) (Or.inr (hw _ (List.mem_of_getElem? (i := 37) rfl))) (by decide) (t := .int) (t' := (.object "java/util/List")) (by decide) (by decide)))).ext E24).keep Kc30 (ninS ne_a0_b24 nin0)).other W36 (Or.inr (slot_ne (Or.inl (hw _ (List.mem_of_getElem? (i := 46) rfl))) (Or.inr (hw _ (List.mem_of_getElem? (i := 39) rfl))) (by decide) (t := .int) (t' := (.object "java/util/List")) (by decide) (by decide))))
  have G41 : Fld Z h36 a0 "com/example/psilattice/psilattice/lang/WrittenGraph" "copiedNodes" "J" (.long w_copiedNodes_a0) := (((((((((F_copiedNodes_a0.ext E2).keep Kc5 (ninS ne_a0_b2 nin0)).other W11 (Or.inr (slot_ne (Or.inl (hw _ (List.mem_of_getElem? (i := 57) rfl))) (Or.inr (hw _ (List.mem_of_getElem? (i := 35) rfl))) (by decide) (t := .long) (t' := (.object "java/util/List")) (by decide) (by decide)))).ext E12).keep Kc17 (ninS ne_a0_b12 nin0)).other W23 (Or.inr (slot_ne (Or.inl (hw _ (List.mem_of_getElem? (i := 57) rfl))) (Or.inr (hw _ (List.mem_of_getElem? (i := 37) rfl))) (by decide) (t := .long) (t' := (.object "java/util/List")) (by decide) (by decide)))).ext E24).keep Kc30 (ninS ne_a0_b24 nin0)).other W36 (Or.inr (slot_ne (Or.inl (hw _ (List.mem_of_getElem? (i := 57) rfl))) (Or.inr (hw _ (List.mem_of_getElem? (i := 39) rfl))) (by decide) (t := .long) (t' := (.object "java/util/List")) (by decide) (by decide))))
  have G42 : Fld Z h36 a0 "com/example/psilattice/psilattice/lang/WrittenGraph" "copies" "J" (.long w_copies_a0) := (((((((((F_copies_a0.ext E2).keep Kc5 (ninS ne_a0_b2 nin0)).other W11 (Or.inr (slot_ne (Or.inl (hw _ (List.mem_of_getElem? (i := 64) rfl))) (Or.inr (hw _ (List.mem_of_getElem? (i := 35) rfl))) (by decide) (t := .long) (t' := (.object "java/util/List")) (by decide) (by decide)))).ext E12).keep Kc17 (ninS ne_a0_b12 nin0)).other W23 (Or.inr (slot_ne (Or.inl (hw _ (List.mem_of_getElem? (i := 64) rfl))) (Or.inr (hw _ (List.mem_of_getElem? (i := 37) rfl))) (by decide) (t := .long) (t' := (.object "java/util/List")) (by decide) (by decide)))).ext E24).keep Kc30 (ninS ne_a0_b24 nin0)).other W36 (Or.inr (slot_ne (Or.inl (hw _ (List.mem_of_getElem? (i := 64) rfl))) (Or.inr (hw _ (List.mem_of_getElem? (i := 39) rfl))) (by decide) (t := .long) (t' := (.object "java/util/List")) (by decide) (by decide))))
  · show Q1 Z a0 w_sorts_a0 w_edges_a0 w_uses_a0 w_nodes_a0 w_copiedNodes_a0 w_copies_a0 s_DEFAULTCAPACITY_EMPTY_ELEMENTDATA h0 n0 _ T36.heap _
    rw [e36]
    exact ⟨b2, b12, b24, rfl, N36, K36, sz_b2, sz_b12, sz_b24, ne_b2_b12, ne_b2_b24, ne_b12_b24, G37, G38, G39, Fw36, G40, G41, G42⟩
theorem ef_6 (m : MethodId) (a0 : Addr) : entryFrame m #[(.ref a0)] 1 = mkF m 0 #[.val (.ref a0)] [] := by first | (simp [entryFrame, mkF, argsToLocals, Value.category]; done) | rfl
def Q6 (Z : State) (a0 : Addr) (w_sorts_a0 : Value) (w_edges_a0 : Value) (w_uses_a0 : Value) (w_nodes_a0 : Int32) (w_copiedNodes_a0 : Int64) (w_copies_a0 : Int64) (h0 : Heap) (n0 : Nat) (v : Option Value) (h : Heap) (L : List Loc) : Prop := v = some (.int w_nodes_a0) ∧ Fr n0 L ∧ h = h0
set_option maxRecDepth 65536 in
set_option maxHeartbeats 40000000 in
theorem rm6 (l : Launch) (Z : State) (A0 : Array Value) (hw : ∀ d ∈ tables_1, d.before A0 Z = true) (ws : List Jvm.Cond) (a0 : Addr) (w_sorts_a0 : Value) (w_edges_a0 : Value) (w_uses_a0 : Value) (w_nodes_a0 : Int32) (w_copiedNodes_a0 : Int64) (w_copies_a0 : Int64) (h0 : Heap) (n0 : Nat) (Z0 : n0 ≤ h0.size) (E_a0 : Exa Z h0 a0 "com/example/psilattice/psilattice/lang/WrittenGraph") (F_sorts_a0 : Fld Z h0 a0 "com/example/psilattice/psilattice/lang/WrittenGraph" "sorts" "Ljava/util/List;" w_sorts_a0) (F_edges_a0 : Fld Z h0 a0 "com/example/psilattice/psilattice/lang/WrittenGraph" "edges" "Ljava/util/List;" w_edges_a0) (F_uses_a0 : Fld Z h0 a0 "com/example/psilattice/psilattice/lang/WrittenGraph" "uses" "Ljava/util/List;" w_uses_a0) (F_nodes_a0 : Fld Z h0 a0 "com/example/psilattice/psilattice/lang/WrittenGraph" "nodes" "I" (.int w_nodes_a0)) (F_copiedNodes_a0 : Fld Z h0 a0 "com/example/psilattice/psilattice/lang/WrittenGraph" "copiedNodes" "J" (.long w_copiedNodes_a0)) (F_copies_a0 : Fld Z h0 a0 "com/example/psilattice/psilattice/lang/WrittenGraph" "copies" "J" (.long w_copies_a0)) :
    MetFree l (⟨"com/example/psilattice/psilattice/lang/WrittenGraph", "size", "()I"⟩ : MethodName) (head1 (Jvm.Cond.code (⟨"com/example/psilattice/psilattice/lang/WrittenGraph", "size", "()I"⟩ : MethodName) prog_74_method_3_code 1 (some .int) :: ws) ({ frames := 0, cells := 0, slots := 0, locals := 0 } : Room)) (fun a U => a = #[(.ref a0)] ∧ Z.Warmed39 U.vm ∧ U.heap = h0) (fun _ _ _ _ _ => True) (fun _ U o U' => ∃ v L, o = .returned v ∧ Q6 Z a0 w_sorts_a0 w_edges_a0 w_uses_a0 w_nodes_a0 w_copiedNodes_a0 w_copies_a0 h0 n0 v U'.heap L ∧ FrameEnd U o U' L ({ frames := 0, cells := 0, slots := 0, locals := 0 } : Room).cells ({ frames := 0, cells := 0, slots := 0, locals := 0 } : Room).slots) := by
  refine MetFree.of_bodySF (plainFor_of_name pn_6) hisR ?_
  intro p e s m args below meth c s₁ Bd hml0 hP hK
  obtain ⟨rfl, hZ, hh⟩ := hP
  have hx := Bd.exec
  have hby := Bd.bytes
  have hml : c.maxLocals = 1 := hml0
  have hown : s.vm.findClass "com/example/psilattice/psilattice/lang/WrittenGraph" = some m.cls := findClass_of_methodNamed Bd.named
  have hnm := (name_of_methodNamed Bd.named Bd.method).1
  have X0 : Stand p l e ({ frames := 0, cells := 0, slots := 0, locals := 0 } : Room) s m #[(.ref a0)] below meth c s₁ [] 0 0 := Stand.of_body Bd
  have e0 : s₁.heap = h0 := by rw [← hh, Bd.state]; rfl
  have N0 := Fr.nil n0
  have pre0 : ∀ t, Steps p.tables e below (s₁.setTop (mkF m 0 #[.val (.ref a0)] [])) t → Steps p.tables e below (s₁.setTop (entryFrame m #[(.ref a0)] 1)) t := fun t k => castTop (ef_6 m a0) k
  obtain ⟨T1, X1, e1, st1⟩ := getF X0 hx hZ hown (host := "") (Or.inl (hw _ (List.mem_of_getElem? (i := 45) rfl))) Via.refl e0 F_nodes_a0 (g := (mkF m 1 #[.val (.ref a0)] [(.ref a0)])) rfl rfl (hb hby d6_1)
  obtain ⟨fs, hr, hrun, hended, hW, hsame⟩ := X1.leave (v := some (.int w_nodes_a0)) (fun h => by rw [Bd.returns] at h; cases h)
  refine ⟨_, _, pre0 _ ?_, hrun, hended, _, _, rfl, ?_, ⟨_, rfl⟩, hW, hsame.mono (by decide) (by decide)⟩
  · show Steps p.tables e below (s₁.setTop (mkF m 0 #[.val (.ref a0)] [])) _
    refine XS.aloadN X0.here hx rfl (hb hby d6_0) rfl rfl ?_
    show Steps p.tables e below (s₁.setTop (mkF m 1 #[.val (.ref a0)] [(.ref a0)])) _
    refine st1 _ ?_
    show Steps p.tables e below (T1.setTop (mkF m 4 #[.val (.ref a0)] [(.int w_nodes_a0)])) _
    exact retOut X1 hx Bd.returns rfl (Or.inl ⟨rfl, Or.inl rfl, _, rfl⟩) (hb hby d6_4) hr
  · show Q6 Z a0 w_sorts_a0 w_edges_a0 w_uses_a0 w_nodes_a0 w_copiedNodes_a0 w_copies_a0 h0 n0 _ T1.heap _
    exact ⟨rfl, N0, e1⟩
theorem ef_8 (m : MethodId) (a0 : Addr) : entryFrame m #[(.ref a0)] 1 = mkF m 0 #[.val (.ref a0)] [] := by first | (simp [entryFrame, mkF, argsToLocals, Value.category]; done) | rfl
def Q8 (Z : State) (a0 : Addr) (w_sorts_a0 : Value) (w_edges_a0 : Value) (w_uses_a0 : Value) (w_nodes_a0 : Int32) (w_copiedNodes_a0 : Int64) (w_copies_a0 : Int64) (h0 : Heap) (n0 : Nat) (v : Option Value) (h : Heap) (L : List Loc) : Prop := v = some (.long w_copiedNodes_a0) ∧ Fr n0 L ∧ h = h0
set_option maxRecDepth 65536 in
set_option maxHeartbeats 40000000 in
theorem rm8 (l : Launch) (Z : State) (A0 : Array Value) (hw : ∀ d ∈ tables_1, d.before A0 Z = true) (ws : List Jvm.Cond) (a0 : Addr) (w_sorts_a0 : Value) (w_edges_a0 : Value) (w_uses_a0 : Value) (w_nodes_a0 : Int32) (w_copiedNodes_a0 : Int64) (w_copies_a0 : Int64) (h0 : Heap) (n0 : Nat) (Z0 : n0 ≤ h0.size) (E_a0 : Exa Z h0 a0 "com/example/psilattice/psilattice/lang/WrittenGraph") (F_sorts_a0 : Fld Z h0 a0 "com/example/psilattice/psilattice/lang/WrittenGraph" "sorts" "Ljava/util/List;" w_sorts_a0) (F_edges_a0 : Fld Z h0 a0 "com/example/psilattice/psilattice/lang/WrittenGraph" "edges" "Ljava/util/List;" w_edges_a0) (F_uses_a0 : Fld Z h0 a0 "com/example/psilattice/psilattice/lang/WrittenGraph" "uses" "Ljava/util/List;" w_uses_a0) (F_nodes_a0 : Fld Z h0 a0 "com/example/psilattice/psilattice/lang/WrittenGraph" "nodes" "I" (.int w_nodes_a0)) (F_copiedNodes_a0 : Fld Z h0 a0 "com/example/psilattice/psilattice/lang/WrittenGraph" "copiedNodes" "J" (.long w_copiedNodes_a0)) (F_copies_a0 : Fld Z h0 a0 "com/example/psilattice/psilattice/lang/WrittenGraph" "copies" "J" (.long w_copies_a0)) :
    MetFree l (⟨"com/example/psilattice/psilattice/lang/WrittenGraph", "copiedNodes", "()J"⟩ : MethodName) (head1 (Jvm.Cond.code (⟨"com/example/psilattice/psilattice/lang/WrittenGraph", "copiedNodes", "()J"⟩ : MethodName) prog_74_method_7_code 1 (some .long) :: ws) ({ frames := 0, cells := 0, slots := 0, locals := 0 } : Room)) (fun a U => a = #[(.ref a0)] ∧ Z.Warmed39 U.vm ∧ U.heap = h0) (fun _ _ _ _ _ => True) (fun _ U o U' => ∃ v L, o = .returned v ∧ Q8 Z a0 w_sorts_a0 w_edges_a0 w_uses_a0 w_nodes_a0 w_copiedNodes_a0 w_copies_a0 h0 n0 v U'.heap L ∧ FrameEnd U o U' L ({ frames := 0, cells := 0, slots := 0, locals := 0 } : Room).cells ({ frames := 0, cells := 0, slots := 0, locals := 0 } : Room).slots) := by
  refine MetFree.of_bodySF (plainFor_of_name pn_8) hisR ?_
  intro p e s m args below meth c s₁ Bd hml0 hP hK
  obtain ⟨rfl, hZ, hh⟩ := hP
  have hx := Bd.exec
  have hby := Bd.bytes
  have hml : c.maxLocals = 1 := hml0
  have hown : s.vm.findClass "com/example/psilattice/psilattice/lang/WrittenGraph" = some m.cls := findClass_of_methodNamed Bd.named
  have hnm := (name_of_methodNamed Bd.named Bd.method).1
  have X0 : Stand p l e ({ frames := 0, cells := 0, slots := 0, locals := 0 } : Room) s m #[(.ref a0)] below meth c s₁ [] 0 0 := Stand.of_body Bd
  have e0 : s₁.heap = h0 := by rw [← hh, Bd.state]; rfl
  have N0 := Fr.nil n0
  have pre0 : ∀ t, Steps p.tables e below (s₁.setTop (mkF m 0 #[.val (.ref a0)] [])) t → Steps p.tables e below (s₁.setTop (entryFrame m #[(.ref a0)] 1)) t := fun t k => castTop (ef_8 m a0) k
  obtain ⟨T1, X1, e1, st1⟩ := getF X0 hx hZ hown (host := "") (Or.inl (hw _ (List.mem_of_getElem? (i := 56) rfl))) Via.refl e0 F_copiedNodes_a0 (g := (mkF m 1 #[.val (.ref a0)] [(.ref a0)])) rfl rfl (hb hby d8_1)
  obtain ⟨fs, hr, hrun, hended, hW, hsame⟩ := X1.leave (v := some (.long w_copiedNodes_a0)) (fun h => by rw [Bd.returns] at h; cases h)
  refine ⟨_, _, pre0 _ ?_, hrun, hended, _, _, rfl, ?_, ⟨_, rfl⟩, hW, hsame.mono (by decide) (by decide)⟩
  · show Steps p.tables e below (s₁.setTop (mkF m 0 #[.val (.ref a0)] [])) _
    refine XS.aloadN X0.here hx rfl (hb hby d8_0) rfl rfl ?_
    show Steps p.tables e below (s₁.setTop (mkF m 1 #[.val (.ref a0)] [(.ref a0)])) _
    refine st1 _ ?_
    show Steps p.tables e below (T1.setTop (mkF m 4 #[.val (.ref a0)] [(.long w_copiedNodes_a0)])) _
    exact retOut X1 hx Bd.returns rfl (Or.inr (Or.inl ⟨rfl, rfl, _, rfl⟩)) (hb hby d8_4) hr
  · show Q8 Z a0 w_sorts_a0 w_edges_a0 w_uses_a0 w_nodes_a0 w_copiedNodes_a0 w_copies_a0 h0 n0 _ T1.heap _
    exact ⟨rfl, N0, e1⟩
theorem ef_9 (m : MethodId) (a0 : Addr) : entryFrame m #[(.ref a0)] 1 = mkF m 0 #[.val (.ref a0)] [] := by first | (simp [entryFrame, mkF, argsToLocals, Value.category]; done) | rfl
def Q9 (Z : State) (a0 : Addr) (w_sorts_a0 : Value) (w_edges_a0 : Value) (w_uses_a0 : Value) (w_nodes_a0 : Int32) (w_copiedNodes_a0 : Int64) (w_copies_a0 : Int64) (h0 : Heap) (n0 : Nat) (v : Option Value) (h : Heap) (L : List Loc) : Prop := v = some (.long w_copies_a0) ∧ Fr n0 L ∧ h = h0
set_option maxRecDepth 65536 in
set_option maxHeartbeats 40000000 in
theorem rm9 (l : Launch) (Z : State) (A0 : Array Value) (hw : ∀ d ∈ tables_1, d.before A0 Z = true) (ws : List Jvm.Cond) (a0 : Addr) (w_sorts_a0 : Value) (w_edges_a0 : Value) (w_uses_a0 : Value) (w_nodes_a0 : Int32) (w_copiedNodes_a0 : Int64) (w_copies_a0 : Int64) (h0 : Heap) (n0 : Nat) (Z0 : n0 ≤ h0.size) (E_a0 : Exa Z h0 a0 "com/example/psilattice/psilattice/lang/WrittenGraph") (F_sorts_a0 : Fld Z h0 a0 "com/example/psilattice/psilattice/lang/WrittenGraph" "sorts" "Ljava/util/List;" w_sorts_a0) (F_edges_a0 : Fld Z h0 a0 "com/example/psilattice/psilattice/lang/WrittenGraph" "edges" "Ljava/util/List;" w_edges_a0) (F_uses_a0 : Fld Z h0 a0 "com/example/psilattice/psilattice/lang/WrittenGraph" "uses" "Ljava/util/List;" w_uses_a0) (F_nodes_a0 : Fld Z h0 a0 "com/example/psilattice/psilattice/lang/WrittenGraph" "nodes" "I" (.int w_nodes_a0)) (F_copiedNodes_a0 : Fld Z h0 a0 "com/example/psilattice/psilattice/lang/WrittenGraph" "copiedNodes" "J" (.long w_copiedNodes_a0)) (F_copies_a0 : Fld Z h0 a0 "com/example/psilattice/psilattice/lang/WrittenGraph" "copies" "J" (.long w_copies_a0)) :
    MetFree l (⟨"com/example/psilattice/psilattice/lang/WrittenGraph", "copies", "()J"⟩ : MethodName) (head1 (Jvm.Cond.code (⟨"com/example/psilattice/psilattice/lang/WrittenGraph", "copies", "()J"⟩ : MethodName) prog_74_method_8_code 1 (some .long) :: ws) ({ frames := 0, cells := 0, slots := 0, locals := 0 } : Room)) (fun a U => a = #[(.ref a0)] ∧ Z.Warmed39 U.vm ∧ U.heap = h0) (fun _ _ _ _ _ => True) (fun _ U o U' => ∃ v L, o = .returned v ∧ Q9 Z a0 w_sorts_a0 w_edges_a0 w_uses_a0 w_nodes_a0 w_copiedNodes_a0 w_copies_a0 h0 n0 v U'.heap L ∧ FrameEnd U o U' L ({ frames := 0, cells := 0, slots := 0, locals := 0 } : Room).cells ({ frames := 0, cells := 0, slots := 0, locals := 0 } : Room).slots) := by
  refine MetFree.of_bodySF (plainFor_of_name pn_9) hisR ?_
  intro p e s m args below meth c s₁ Bd hml0 hP hK
  obtain ⟨rfl, hZ, hh⟩ := hP
  have hx := Bd.exec
  have hby := Bd.bytes
  have hml : c.maxLocals = 1 := hml0
  have hown : s.vm.findClass "com/example/psilattice/psilattice/lang/WrittenGraph" = some m.cls := findClass_of_methodNamed Bd.named
  have hnm := (name_of_methodNamed Bd.named Bd.method).1
  have X0 : Stand p l e ({ frames := 0, cells := 0, slots := 0, locals := 0 } : Room) s m #[(.ref a0)] below meth c s₁ [] 0 0 := Stand.of_body Bd
  have e0 : s₁.heap = h0 := by rw [← hh, Bd.state]; rfl
  have N0 := Fr.nil n0
  have pre0 : ∀ t, Steps p.tables e below (s₁.setTop (mkF m 0 #[.val (.ref a0)] [])) t → Steps p.tables e below (s₁.setTop (entryFrame m #[(.ref a0)] 1)) t := fun t k => castTop (ef_9 m a0) k
  obtain ⟨T1, X1, e1, st1⟩ := getF X0 hx hZ hown (host := "") (Or.inl (hw _ (List.mem_of_getElem? (i := 63) rfl))) Via.refl e0 F_copies_a0 (g := (mkF m 1 #[.val (.ref a0)] [(.ref a0)])) rfl rfl (hb hby d9_1)
  obtain ⟨fs, hr, hrun, hended, hW, hsame⟩ := X1.leave (v := some (.long w_copies_a0)) (fun h => by rw [Bd.returns] at h; cases h)
  refine ⟨_, _, pre0 _ ?_, hrun, hended, _, _, rfl, ?_, ⟨_, rfl⟩, hW, hsame.mono (by decide) (by decide)⟩
  · show Steps p.tables e below (s₁.setTop (mkF m 0 #[.val (.ref a0)] [])) _
    refine XS.aloadN X0.here hx rfl (hb hby d9_0) rfl rfl ?_
    show Steps p.tables e below (s₁.setTop (mkF m 1 #[.val (.ref a0)] [(.ref a0)])) _
    refine st1 _ ?_
    show Steps p.tables e below (T1.setTop (mkF m 4 #[.val (.ref a0)] [(.long w_copies_a0)])) _
    exact retOut X1 hx Bd.returns rfl (Or.inr (Or.inl ⟨rfl, rfl, _, rfl⟩)) (hb hby d9_4) hr
  · show Q9 Z a0 w_sorts_a0 w_edges_a0 w_uses_a0 w_nodes_a0 w_copiedNodes_a0 w_copies_a0 h0 n0 _ T1.heap _
    exact ⟨rfl, N0, e1⟩
theorem ef_10 (m : MethodId) (a0 : Addr) : entryFrame m #[(.ref a0)] 1 = mkF m 0 #[.val (.ref a0)] [] := by first | (simp [entryFrame, mkF, argsToLocals, Value.category]; done) | rfl
def Q10 (Z : State) (a0 : Addr) (w_sorts_a0 : Value) (w_edges_a0 : Value) (w_uses_a0 : Value) (w_nodes_a0 : Int32) (w_copiedNodes_a0 : Int64) (w_copies_a0 : Int64) (h0 : Heap) (n0 : Nat) (v : Option Value) (h : Heap) (L : List Loc) : Prop := v = some (.int w_nodes_a0) ∧ Fr n0 L ∧ Keep h0 h [a0] ∧ Exa Z h a0 "com/example/psilattice/psilattice/lang/WrittenGraph" ∧ Fld Z h a0 "com/example/psilattice/psilattice/lang/WrittenGraph" "sorts" "Ljava/util/List;" w_sorts_a0 ∧ Fld Z h a0 "com/example/psilattice/psilattice/lang/WrittenGraph" "edges" "Ljava/util/List;" w_edges_a0 ∧ Fld Z h a0 "com/example/psilattice/psilattice/lang/WrittenGraph" "uses" "Ljava/util/List;" w_uses_a0 ∧ Fld Z h a0 "com/example/psilattice/psilattice/lang/WrittenGraph" "nodes" "I" (.int (w_nodes_a0 + (1 : Int32))) ∧ Fld Z h a0 "com/example/psilattice/psilattice/lang/WrittenGraph" "copiedNodes" "J" (.long w_copiedNodes_a0) ∧ Fld Z h a0 "com/example/psilattice/psilattice/lang/WrittenGraph" "copies" "J" (.long w_copies_a0)
set_option maxRecDepth 65536 in
set_option maxHeartbeats 40000000 in
theorem rm10 (l : Launch) (Z : State) (A0 : Array Value) (hw : ∀ d ∈ tables_1, d.before A0 Z = true) (ws : List Jvm.Cond) (a0 : Addr) (w_sorts_a0 : Value) (w_edges_a0 : Value) (w_uses_a0 : Value) (w_nodes_a0 : Int32) (w_copiedNodes_a0 : Int64) (w_copies_a0 : Int64) (h0 : Heap) (n0 : Nat) (Z0 : n0 ≤ h0.size) (E_a0 : Exa Z h0 a0 "com/example/psilattice/psilattice/lang/WrittenGraph") (F_sorts_a0 : Fld Z h0 a0 "com/example/psilattice/psilattice/lang/WrittenGraph" "sorts" "Ljava/util/List;" w_sorts_a0) (F_edges_a0 : Fld Z h0 a0 "com/example/psilattice/psilattice/lang/WrittenGraph" "edges" "Ljava/util/List;" w_edges_a0) (F_uses_a0 : Fld Z h0 a0 "com/example/psilattice/psilattice/lang/WrittenGraph" "uses" "Ljava/util/List;" w_uses_a0) (F_nodes_a0 : Fld Z h0 a0 "com/example/psilattice/psilattice/lang/WrittenGraph" "nodes" "I" (.int w_nodes_a0)) (F_copiedNodes_a0 : Fld Z h0 a0 "com/example/psilattice/psilattice/lang/WrittenGraph" "copiedNodes" "J" (.long w_copiedNodes_a0)) (F_copies_a0 : Fld Z h0 a0 "com/example/psilattice/psilattice/lang/WrittenGraph" "copies" "J" (.long w_copies_a0)) (nw_a0 : n0 ≤ a0) :
    MetFree l (⟨"com/example/psilattice/psilattice/lang/WrittenGraph", "node", "()I"⟩ : MethodName) (head1 (Jvm.Cond.code (⟨"com/example/psilattice/psilattice/lang/WrittenGraph", "node", "()I"⟩ : MethodName) prog_74_method_2_code 1 (some .int) :: ws) ({ frames := 0, cells := 0, slots := 0, locals := 0 } : Room)) (fun a U => a = #[(.ref a0)] ∧ Z.Warmed39 U.vm ∧ U.heap = h0) (fun _ _ _ _ _ => True) (fun _ U o U' => ∃ v L, o = .returned v ∧ Q10 Z a0 w_sorts_a0 w_edges_a0 w_uses_a0 w_nodes_a0 w_copiedNodes_a0 w_copies_a0 h0 n0 v U'.heap L ∧ FrameEnd U o U' L ({ frames := 0, cells := 0, slots := 0, locals := 0 } : Room).cells ({ frames := 0, cells := 0, slots := 0, locals := 0 } : Room).slots) := by
  refine MetFree.of_bodySF (plainFor_of_name pn_10) hisR ?_
  intro p e s m args below meth c s₁ Bd hml0 hP hK
  obtain ⟨rfl, hZ, hh⟩ := hP
  have hx := Bd.exec
  have hby := Bd.bytes
  have hml : c.maxLocals = 1 := hml0
  have hown : s.vm.findClass "com/example/psilattice/psilattice/lang/WrittenGraph" = some m.cls := findClass_of_methodNamed Bd.named
  have hnm := (name_of_methodNamed Bd.named Bd.method).1
  have X0 : Stand p l e ({ frames := 0, cells := 0, slots := 0, locals := 0 } : Room) s m #[(.ref a0)] below meth c s₁ [] 0 0 := Stand.of_body Bd
  have e0 : s₁.heap = h0 := by rw [← hh, Bd.state]; rfl
  have N0 := Fr.nil n0
  have pre0 : ∀ t, Steps p.tables e below (s₁.setTop (mkF m 0 #[.val (.ref a0)] [])) t → Steps p.tables e below (s₁.setTop (entryFrame m #[(.ref a0)] 1)) t := fun t k => castTop (ef_10 m a0) k
  obtain ⟨T1, X1, e1, st1⟩ := getF X0 hx hZ hown (host := "") (Or.inl (hw _ (List.mem_of_getElem? (i := 45) rfl))) Via.refl e0 F_nodes_a0 (g := (mkF m 2 #[.val (.ref a0)] [(.ref a0), (.ref a0)])) rfl rfl (hb hby d10_2)
  obtain ⟨T2, h2, X2, e2, W2, st2⟩ := putF X1 hx hZ hown (host := "") (Or.inl (hw _ (List.mem_of_getElem? (i := 45) rfl))) Via.refl e1 F_nodes_a0 E_a0 (Or.inl (hw _ (List.mem_of_getElem? (i := 46) rfl))) (hw _ (List.mem_of_getElem? (i := 2) rfl)) (ty := .int) (by decide) rfl rfl (g := (mkF m 8 #[.val (.ref a0)] [(.int (w_nodes_a0 + (1 : Int32))), (.ref a0), (.int w_nodes_a0)])) rfl rfl (hb hby d10_8)
  have K2 : Keep h0 h2 [a0] := (Keep.refl h0 [a0]).wr W2 (Or.inl (by simp))
  have Fw2 : Fld Z h2 a0 "com/example/psilattice/psilattice/lang/WrittenGraph" "nodes" "I" (.int (w_nodes_a0 + (1 : Int32))) := F_nodes_a0.same W2
  have N2 := Fr.snoc X2 N0 nw_a0
  obtain ⟨fs, hr, hrun, hended, hW, hsame⟩ := X2.leave (v := some (.int w_nodes_a0)) (fun h => by rw [Bd.returns] at h; cases h)
  refine ⟨_, _, pre0 _ ?_, hrun, hended, _, _, rfl, ?_, ⟨_, rfl⟩, hW, hsame.mono (by decide) (by decide)⟩
  · show Steps p.tables e below (s₁.setTop (mkF m 0 #[.val (.ref a0)] [])) _
    refine XS.aloadN X0.here hx rfl (hb hby d10_0) rfl rfl ?_
    show Steps p.tables e below (s₁.setTop (mkF m 1 #[.val (.ref a0)] [(.ref a0)])) _
    refine XS.dup X0.here hx rfl (hb hby d10_1) rfl rfl ?_
    show Steps p.tables e below (s₁.setTop (mkF m 2 #[.val (.ref a0)] [(.ref a0), (.ref a0)])) _
    refine st1 _ ?_
    show Steps p.tables e below (T1.setTop (mkF m 5 #[.val (.ref a0)] [(.int w_nodes_a0), (.ref a0)])) _
    refine XS.dupX1 X1.here hx rfl (hb hby d10_5) rfl rfl rfl ?_
    show Steps p.tables e below (T1.setTop (mkF m 6 #[.val (.ref a0)] [(.int w_nodes_a0), (.ref a0), (.int w_nodes_a0)])) _
    refine XS.iconst X1.here hx rfl (hb hby d10_6) ?_
    show Steps p.tables e below (T1.setTop (mkF m 7 #[.val (.ref a0)] [(.int (1 : Int32)), (.int w_nodes_a0), (.ref a0), (.int w_nodes_a0)])) _
    refine XS.iadd X1.here hx rfl (hb hby d10_7) rfl ?_
    show Steps p.tables e below (T1.setTop (mkF m 8 #[.val (.ref a0)] [(.int (w_nodes_a0 + (1 : Int32))), (.ref a0), (.int w_nodes_a0)])) _
    refine st2 _ ?_
    show Steps p.tables e below (T2.setTop (mkF m 11 #[.val (.ref a0)] [(.int w_nodes_a0)])) _
    exact retOut X2 hx Bd.returns rfl (Or.inl ⟨rfl, Or.inl rfl, _, rfl⟩) (hb hby d10_11) hr
  have G3 : Exa Z h2 a0 "com/example/psilattice/psilattice/lang/WrittenGraph" := (E_a0.wr W2)
  have G4 : Fld Z h2 a0 "com/example/psilattice/psilattice/lang/WrittenGraph" "sorts" "Ljava/util/List;" w_sorts_a0 := (F_sorts_a0.other W2 (Or.inr (slot_ne (Or.inr (hw _ (List.mem_of_getElem? (i := 35) rfl))) (Or.inl (hw _ (List.mem_of_getElem? (i := 46) rfl))) (by decide) (t := (.object "java/util/List")) (t' := .int) (by decide) (by decide))))
  have G5 : Fld Z h2 a0 "com/example/psilattice/psilattice/lang/WrittenGraph" "edges" "Ljava/util/List;" w_edges_a0 := (F_edges_a0.other W2 (Or.inr (slot_ne (Or.inr (hw _ (List.mem_of_getElem? (i := 37) rfl))) (Or.inl (hw _ (List.mem_of_getElem? (i := 46) rfl))) (by decide) (t := (.object "java/util/List")) (t' := .int) (by decide) (by decide))))
  have G6 : Fld Z h2 a0 "com/example/psilattice/psilattice/lang/WrittenGraph" "uses" "Ljava/util/List;" w_uses_a0 := (F_uses_a0.other W2 (Or.inr (slot_ne (Or.inr (hw _ (List.mem_of_getElem? (i := 39) rfl))) (Or.inl (hw _ (List.mem_of_getElem? (i := 46) rfl))) (by decide) (t := (.object "java/util/List")) (t' := .int) (by decide) (by decide))))
  have G7 : Fld Z h2 a0 "com/example/psilattice/psilattice/lang/WrittenGraph" "copiedNodes" "J" (.long w_copiedNodes_a0) := (F_copiedNodes_a0.other W2 (Or.inr (slot_ne (Or.inl (hw _ (List.mem_of_getElem? (i := 57) rfl))) (Or.inl (hw _ (List.mem_of_getElem? (i := 46) rfl))) (by decide) (t := .long) (t' := .int) (by decide) (by decide))))
  have G8 : Fld Z h2 a0 "com/example/psilattice/psilattice/lang/WrittenGraph" "copies" "J" (.long w_copies_a0) := (F_copies_a0.other W2 (Or.inr (slot_ne (Or.inl (hw _ (List.mem_of_getElem? (i := 64) rfl))) (Or.inl (hw _ (List.mem_of_getElem? (i := 46) rfl))) (by decide) (t := .long) (t' := .int) (by decide) (by decide))))
  · show Q10 Z a0 w_sorts_a0 w_edges_a0 w_uses_a0 w_nodes_a0 w_copiedNodes_a0 w_copies_a0 h0 n0 _ T2.heap _
    rw [e2]
    exact ⟨rfl, N2, K2, G3, G4, G5, G6, Fw2, G7, G8⟩
theorem ef_7a (m : MethodId) (a0 : Addr) (p1 : Int32) (p2 : Int32) : entryFrame m #[(.ref a0), (.int p1), (.int p2)] 4 = mkF m 0 #[.val (.ref a0), .val (.int p1), .val (.int p2), .unset] [] := by first | (simp [entryFrame, mkF, argsToLocals, Value.category]; done) | rfl
def Q7a (Z : State) (a0 : Addr) (p1 : Int32) (p2 : Int32) (h0 : Heap) (n0 : Nat) (v : Option Value) (h : Heap) (L : List Loc) : Prop := v = some (.int (1 : Int32)) ∧ Fr n0 L ∧ h = h0
set_option maxRecDepth 65536 in
set_option maxHeartbeats 40000000 in
theorem rm7a (l : Launch) (Z : State) (A0 : Array Value) (hw : ∀ d ∈ tables_1, d.before A0 Z = true) (ws : List Jvm.Cond) (a0 : Addr) (p1 : Int32) (p2 : Int32) (h0 : Heap) (n0 : Nat) (Z0 : n0 ≤ h0.size) (hc2 : ¬ (p1 < p2)) :
    MetFree l (⟨"com/example/psilattice/psilattice/lang/WrittenGraphNodePinLaw", "step", "(Lcom/example/psilattice/psilattice/lang/WrittenGraph;II)Z"⟩ : MethodName) (head1 (Jvm.Cond.code (⟨"com/example/psilattice/psilattice/lang/WrittenGraphNodePinLaw", "step", "(Lcom/example/psilattice/psilattice/lang/WrittenGraph;II)Z"⟩ : MethodName) method_2_code 4 (some .boolean) :: ws) ({ frames := 0, cells := 0, slots := 0, locals := 0 } : Room)) (fun a U => a = #[(.ref a0), (.int p1), (.int p2)] ∧ Z.Warmed39 U.vm ∧ U.heap = h0) (fun _ _ _ _ _ => True) (fun _ U o U' => ∃ v L, o = .returned v ∧ Q7a Z a0 p1 p2 h0 n0 v U'.heap L ∧ FrameEnd U o U' L ({ frames := 0, cells := 0, slots := 0, locals := 0 } : Room).cells ({ frames := 0, cells := 0, slots := 0, locals := 0 } : Room).slots) := by
  refine MetFree.of_bodySF (plainFor_of_name pn_7) hisR ?_
  intro p e s m args below meth c s₁ Bd hml0 hP hK
  obtain ⟨rfl, hZ, hh⟩ := hP
  have hx := Bd.exec
  have hby := Bd.bytes
  have hml : c.maxLocals = 4 := hml0
  have hown : s.vm.findClass "com/example/psilattice/psilattice/lang/WrittenGraphNodePinLaw" = some m.cls := findClass_of_methodNamed Bd.named
  have hnm := (name_of_methodNamed Bd.named Bd.method).1
  have X0 : Stand p l e ({ frames := 0, cells := 0, slots := 0, locals := 0 } : Room) s m #[(.ref a0), (.int p1), (.int p2)] below meth c s₁ [] 0 0 := Stand.of_body Bd
  have e0 : s₁.heap = h0 := by rw [← hh, Bd.state]; rfl
  have N0 := Fr.nil n0
  have pre0 : ∀ t, Steps p.tables e below (s₁.setTop (mkF m 0 #[.val (.ref a0), .val (.int p1), .val (.int p2), .unset] [])) t → Steps p.tables e below (s₁.setTop (entryFrame m #[(.ref a0), (.int p1), (.int p2)] 4)) t := fun t k => castTop (ef_7a m a0 p1 p2) k
  obtain ⟨fs, hr, hrun, hended, hW, hsame⟩ := X0.leave (v := some (.int (1 : Int32))) (fun h => by rw [Bd.returns] at h; cases h)
  refine ⟨_, _, pre0 _ ?_, hrun, hended, _, _, rfl, ?_, ⟨_, rfl⟩, hW, hsame.mono (by decide) (by decide)⟩
  · show Steps p.tables e below (s₁.setTop (mkF m 0 #[.val (.ref a0), .val (.int p1), .val (.int p2), .unset] [])) _
    refine XS.iloadN X0.here hx rfl (hb hby d7_0) rfl ?_
    show Steps p.tables e below (s₁.setTop (mkF m 1 #[.val (.ref a0), .val (.int p1), .val (.int p2), .unset] [(.int p1)])) _
    refine XS.iloadN X0.here hx rfl (hb hby d7_1) rfl ?_
    show Steps p.tables e below (s₁.setTop (mkF m 2 #[.val (.ref a0), .val (.int p1), .val (.int p2), .unset] [(.int p2), (.int p1)])) _
    refine XS.icmpNo X0.here hx rfl (hb hby d7_2) rfl (flt hc2).1 ?_
    show Steps p.tables e below (s₁.setTop (mkF m 5 #[.val (.ref a0), .val (.int p1), .val (.int p2), .unset] [])) _
    refine XS.iconst X0.here hx rfl (hb hby d7_5) ?_
    show Steps p.tables e below (s₁.setTop (mkF m 6 #[.val (.ref a0), .val (.int p1), .val (.int p2), .unset] [(.int (1 : Int32))])) _
    exact retN X0 hx (t := .boolean) Bd.returns (by simp) (hb hby d7_6) hr
  · show Q7a Z a0 p1 p2 h0 n0 _ s₁.heap _
    exact ⟨rfl, N0, e0⟩
theorem ef_7b (m : MethodId) (a0 : Addr) (p1 : Int32) (p2 : Int32) : entryFrame m #[(.ref a0), (.int p1), (.int p2)] 4 = mkF m 0 #[.val (.ref a0), .val (.int p1), .val (.int p2), .unset] [] := by first | (simp [entryFrame, mkF, argsToLocals, Value.category]; done) | rfl
def Q7b (Z : State) (a0 : Addr) (p1 : Int32) (p2 : Int32) (w_sorts_a0 : Value) (w_edges_a0 : Value) (w_uses_a0 : Value) (w_nodes_a0 : Int32) (w_copiedNodes_a0 : Int64) (w_copies_a0 : Int64) (h0 : Heap) (n0 : Nat) (v : Option Value) (h : Heap) (L : List Loc) : Prop := v = some (.int (nar .boolean (if w_nodes_a0 = p1 then (if (w_nodes_a0 + (1 : Int32)) = (p1 + (1 : Int32)) then (1 : Int32) else (0 : Int32)) else (0 : Int32)))) ∧ Fr n0 L ∧ Keep h0 h [a0] ∧ Exa Z h a0 "com/example/psilattice/psilattice/lang/WrittenGraph" ∧ Fld Z h a0 "com/example/psilattice/psilattice/lang/WrittenGraph" "sorts" "Ljava/util/List;" w_sorts_a0 ∧ Fld Z h a0 "com/example/psilattice/psilattice/lang/WrittenGraph" "edges" "Ljava/util/List;" w_edges_a0 ∧ Fld Z h a0 "com/example/psilattice/psilattice/lang/WrittenGraph" "uses" "Ljava/util/List;" w_uses_a0 ∧ Fld Z h a0 "com/example/psilattice/psilattice/lang/WrittenGraph" "nodes" "I" (.int (w_nodes_a0 + (1 : Int32))) ∧ Fld Z h a0 "com/example/psilattice/psilattice/lang/WrittenGraph" "copiedNodes" "J" (.long w_copiedNodes_a0) ∧ Fld Z h a0 "com/example/psilattice/psilattice/lang/WrittenGraph" "copies" "J" (.long w_copies_a0)
set_option maxRecDepth 65536 in
set_option maxHeartbeats 40000000 in
theorem rm7b (l : Launch) (Z : State) (A0 : Array Value) (hw : ∀ d ∈ tables_1, d.before A0 Z = true) (ws : List Jvm.Cond) (a0 : Addr) (p1 : Int32) (p2 : Int32) (w_sorts_a0 : Value) (w_edges_a0 : Value) (w_uses_a0 : Value) (w_nodes_a0 : Int32) (w_copiedNodes_a0 : Int64) (w_copies_a0 : Int64) (h0 : Heap) (n0 : Nat) (Z0 : n0 ≤ h0.size) (E_a0 : Exa Z h0 a0 "com/example/psilattice/psilattice/lang/WrittenGraph") (F_sorts_a0 : Fld Z h0 a0 "com/example/psilattice/psilattice/lang/WrittenGraph" "sorts" "Ljava/util/List;" w_sorts_a0) (F_edges_a0 : Fld Z h0 a0 "com/example/psilattice/psilattice/lang/WrittenGraph" "edges" "Ljava/util/List;" w_edges_a0) (F_uses_a0 : Fld Z h0 a0 "com/example/psilattice/psilattice/lang/WrittenGraph" "uses" "Ljava/util/List;" w_uses_a0) (F_nodes_a0 : Fld Z h0 a0 "com/example/psilattice/psilattice/lang/WrittenGraph" "nodes" "I" (.int w_nodes_a0)) (F_copiedNodes_a0 : Fld Z h0 a0 "com/example/psilattice/psilattice/lang/WrittenGraph" "copiedNodes" "J" (.long w_copiedNodes_a0)) (F_copies_a0 : Fld Z h0 a0 "com/example/psilattice/psilattice/lang/WrittenGraph" "copies" "J" (.long w_copies_a0)) (nw_a0 : n0 ≤ a0) (hc2 : p1 < p2) :
    MetFree l (⟨"com/example/psilattice/psilattice/lang/WrittenGraphNodePinLaw", "step", "(Lcom/example/psilattice/psilattice/lang/WrittenGraph;II)Z"⟩ : MethodName) (head1 (Jvm.Cond.code (⟨"com/example/psilattice/psilattice/lang/WrittenGraphNodePinLaw", "step", "(Lcom/example/psilattice/psilattice/lang/WrittenGraph;II)Z"⟩ : MethodName) method_2_code 4 (some .boolean) :: ws) ({ frames := 1, cells := 0, slots := 0, locals := 12 } : Room)) (fun a U => a = #[(.ref a0), (.int p1), (.int p2)] ∧ Z.Warmed39 U.vm ∧ U.heap = h0) (fun _ _ _ _ _ => True) (fun _ U o U' => ∃ v L, o = .returned v ∧ Q7b Z a0 p1 p2 w_sorts_a0 w_edges_a0 w_uses_a0 w_nodes_a0 w_copiedNodes_a0 w_copies_a0 h0 n0 v U'.heap L ∧ FrameEnd U o U' L ({ frames := 1, cells := 0, slots := 0, locals := 12 } : Room).cells ({ frames := 1, cells := 0, slots := 0, locals := 12 } : Room).slots) := by
  refine MetFree.of_bodySF (plainFor_of_name pn_7) hisR ?_
  intro p e s m args below meth c s₁ Bd hml0 hP hK
  obtain ⟨rfl, hZ, hh⟩ := hP
  have hx := Bd.exec
  have hby := Bd.bytes
  have hml : c.maxLocals = 4 := hml0
  have hown : s.vm.findClass "com/example/psilattice/psilattice/lang/WrittenGraphNodePinLaw" = some m.cls := findClass_of_methodNamed Bd.named
  have hnm := (name_of_methodNamed Bd.named Bd.method).1
  have X0 : Stand p l e ({ frames := 1, cells := 0, slots := 0, locals := 12 } : Room) s m #[(.ref a0), (.int p1), (.int p2)] below meth c s₁ [] 0 0 := Stand.of_body Bd
  have e0 : s₁.heap = h0 := by rw [← hh, Bd.state]; rfl
  have N0 := Fr.nil n0
  have pre0 : ∀ t, Steps p.tables e below (s₁.setTop (mkF m 0 #[.val (.ref a0), .val (.int p1), .val (.int p2), .unset] [])) t → Steps p.tables e below (s₁.setTop (entryFrame m #[(.ref a0), (.int p1), (.int p2)] 4)) t := fun t k => castTop (ef_7b m a0 p1 p2) k
  obtain ⟨cq1, kq1, q1a, q1b, q1c⟩ := isOf hZ e0 E_a0
  obtain ⟨_, _, ⟨T1, L1, k1, n1⟩, -, X1, ⟨Lc1, hQ1, l1, y1, z1⟩, st1⟩ := X0.virtualBack hx (y := (⟨"com/example/psilattice/psilattice/lang/WrittenGraph", "node", "()I"⟩ : MethodName)) (z := (⟨"com/example/psilattice/psilattice/lang/WrittenGraph", "node", "()I"⟩ : MethodName)) hown (mvT hZ (hw _ (List.mem_of_getElem? (i := 65) rfl))) (mvT hZ (hw _ (List.mem_of_getElem? (i := 66) rfl))) (notFace_of_selects (args := #[]) (mvT hZ (hw _ (List.mem_of_getElem? (i := 68) rfl)))) (mvT hZ (hw _ (List.mem_of_getElem? (i := 68) rfl))) (mvT hZ (hw _ (List.mem_of_getElem? (i := 67) rfl))) (by decide) (backOf (W := 0) (rm10 l Z A0 hw [] a0 w_sorts_a0 w_edges_a0 w_uses_a0 w_nodes_a0 w_copiedNodes_a0 w_copies_a0 h0 n0 (Nat.le_trans Z0 (Keep.refl h0 [a0]).1) E_a0 F_sorts_a0 F_edges_a0 F_uses_a0 F_nodes_a0 F_copiedNodes_a0 F_copies_a0 nw_a0) hZ (hw _ (List.mem_of_getElem? (i := 69) rfl)) (hw _ (List.mem_of_getElem? (i := 3) rfl)) (by decide) (by decide)) q1a q1c (g := (mkF m 8 #[.val (.ref a0), .val (.int p1), .val (.int p2), .unset] [(.ref a0)])) rfl (by rw [hml]; rfl) (Steps.refl _) (argsL := []) (rest := []) (lenOf pd_1 rfl) rfl (by show 2 * 0 + _ ≤ _; exact Nat.le_of_eq rfl) (hb hby d7_8) (fun _ _ => ⟨rfl, e0, (by decide : 0 + 0 ≤ _), (by decide : 0 + 0 ≤ _)⟩)
  dsimp only [Pt.U, Pt.locs, Pt.cells, Pt.slots] at X1 l1 y1 z1 st1 hQ1
  subst l1 y1 z1
  obtain ⟨rfl, N1q, Kc1, P2, P3, P4, P5, P6, P7, P8⟩ := hQ1
  have K1 : Keep h0 T1.heap [a0] := (Keep.refl h0 [a0]).trans Kc1 (allS (Or.inl (by simp)) all0)
  have N1 := Fr.app N0 N1q
  obtain ⟨v14, hv14⟩ : ∃ z : Int32, z = if w_nodes_a0 = p1 then (if (w_nodes_a0 + (1 : Int32)) = (p1 + (1 : Int32)) then (1 : Int32) else (0 : Int32)) else (0 : Int32) := ⟨_, rfl⟩
  obtain ⟨T15, L15, X15, N15, e15, st15⟩ : ∃ (T' : State) (L' : List Loc), Stand p l e ({ frames := 1, cells := 0, slots := 0, locals := 12 } : Room) s m #[(.ref a0), (.int p1), (.int p2)] below meth c T' L' 0 0 ∧ Fr n0 L' ∧ T'.heap = T1.heap ∧ ∀ target, Steps p.tables e below (T'.setTop (mkF m 32 #[.val (.ref a0), .val (.int p1), .val (.int p2), .val (.int w_nodes_a0)] [(.int v14)])) target → Steps p.tables e below (T1.setTop (mkF m 14 #[.val (.ref a0), .val (.int p1), .val (.int p2), .val (.int w_nodes_a0)] [(.int p1), (.int w_nodes_a0)])) target := by
    by_cases hc10 : w_nodes_a0 = p1
    · obtain ⟨cq11, kq11, q11a, q11b, q11c⟩ := isOf hZ rfl P2
      obtain ⟨_, _, ⟨T11, L11, k11, n11⟩, -, X11, ⟨Lc11, hQ11, l11, y11, z11⟩, st11⟩ := X1.virtualBack hx (y := (⟨"com/example/psilattice/psilattice/lang/WrittenGraph", "size", "()I"⟩ : MethodName)) (z := (⟨"com/example/psilattice/psilattice/lang/WrittenGraph", "size", "()I"⟩ : MethodName)) hown (mvT hZ (hw _ (List.mem_of_getElem? (i := 40) rfl))) (mvT hZ (hw _ (List.mem_of_getElem? (i := 41) rfl))) (notFace_of_selects (args := #[]) (mvT hZ (hw _ (List.mem_of_getElem? (i := 43) rfl)))) (mvT hZ (hw _ (List.mem_of_getElem? (i := 43) rfl))) (mvT hZ (hw _ (List.mem_of_getElem? (i := 42) rfl))) (by decide) (backOf (W := 0) (rm6 l Z A0 hw [] a0 w_sorts_a0 w_edges_a0 w_uses_a0 (w_nodes_a0 + (1 : Int32)) w_copiedNodes_a0 w_copies_a0 T1.heap n0 (Nat.le_trans Z0 K1.1) P2 P3 P4 P5 P6 P7 P8) hZ (hw _ (List.mem_of_getElem? (i := 44) rfl)) (hw _ (List.mem_of_getElem? (i := 3) rfl)) (by decide) (by decide)) q11a q11c (g := (mkF m 18 #[.val (.ref a0), .val (.int p1), .val (.int p2), .val (.int w_nodes_a0)] [(.ref a0)])) rfl (by rw [hml]; rfl) (Steps.refl _) (argsL := []) (rest := []) (lenOf pd_1 rfl) rfl (by show 2 * 0 + _ ≤ _; exact Nat.le_of_eq rfl) (hb hby d7_18) (fun _ _ => ⟨rfl, rfl, (by decide : 0 + 0 ≤ _), (by decide : 0 + 0 ≤ _)⟩)
      dsimp only [Pt.U, Pt.locs, Pt.cells, Pt.slots] at X11 l11 y11 z11 st11 hQ11
      subst l11 y11 z11
      obtain ⟨rfl, N11q, e11⟩ := hQ11
      have N11 := Fr.app N1 N11q
      obtain ⟨v13, hv13⟩ : ∃ z : Int32, z = if (w_nodes_a0 + (1 : Int32)) = (p1 + (1 : Int32)) then (1 : Int32) else (0 : Int32) := ⟨_, rfl⟩
      refine ⟨T11, _, X11, N11, e11, fun target kt => ?_⟩
      show Steps p.tables e below (T1.setTop (mkF m 14 #[.val (.ref a0), .val (.int p1), .val (.int p2), .val (.int w_nodes_a0)] [(.int p1), (.int w_nodes_a0)])) _
      refine XS.icmpNo X1.here hx rfl (hb hby d7_14) rfl (teq hc10).2 ?_
      show Steps p.tables e below (T1.setTop (mkF m 17 #[.val (.ref a0), .val (.int p1), .val (.int p2), .val (.int w_nodes_a0)] [])) _
      refine XS.aloadN X1.here hx rfl (hb hby d7_17) rfl rfl ?_
      show Steps p.tables e below (T1.setTop (mkF m 18 #[.val (.ref a0), .val (.int p1), .val (.int p2), .val (.int w_nodes_a0)] [(.ref a0)])) _
      refine st11.trans ?_
      show Steps p.tables e below (T11.setTop (mkF m 21 #[.val (.ref a0), .val (.int p1), .val (.int p2), .val (.int w_nodes_a0)] [(.int (w_nodes_a0 + (1 : Int32)))])) _
      refine XS.iloadN X11.here hx rfl (hb hby d7_21) rfl ?_
      show Steps p.tables e below (T11.setTop (mkF m 22 #[.val (.ref a0), .val (.int p1), .val (.int p2), .val (.int w_nodes_a0)] [(.int p1), (.int (w_nodes_a0 + (1 : Int32)))])) _
      refine XS.iconst X11.here hx rfl (hb hby d7_22) ?_
      show Steps p.tables e below (T11.setTop (mkF m 23 #[.val (.ref a0), .val (.int p1), .val (.int p2), .val (.int w_nodes_a0)] [(.int (1 : Int32)), (.int p1), (.int (w_nodes_a0 + (1 : Int32)))])) _
      refine XS.iadd X11.here hx rfl (hb hby d7_23) rfl ?_
      show Steps p.tables e below (T11.setTop (mkF m 24 #[.val (.ref a0), .val (.int p1), .val (.int p2), .val (.int w_nodes_a0)] [(.int (p1 + (1 : Int32))), (.int (w_nodes_a0 + (1 : Int32)))])) _
      refine own_dia (F := (mkF m 32 #[.val (.ref a0), .val (.int p1), .val (.int p2), .val (.int w_nodes_a0)] [(.int v13)])) ?_ ?_
      · intro kt
        by_cases hc12 : (w_nodes_a0 + (1 : Int32)) = (p1 + (1 : Int32))
        · show Steps p.tables e below (T11.setTop (mkF m 24 #[.val (.ref a0), .val (.int p1), .val (.int p2), .val (.int w_nodes_a0)] [(.int (p1 + (1 : Int32))), (.int (w_nodes_a0 + (1 : Int32)))])) _
          refine XS.icmpNo X11.here hx rfl (hb hby d7_24) rfl (teq hc12).2 ?_
          show Steps p.tables e below (T11.setTop (mkF m 27 #[.val (.ref a0), .val (.int p1), .val (.int p2), .val (.int w_nodes_a0)] [])) _
          refine XS.iconst X11.here hx rfl (hb hby d7_27) ?_
          show Steps p.tables e below (T11.setTop (mkF m 28 #[.val (.ref a0), .val (.int p1), .val (.int p2), .val (.int w_nodes_a0)] [(.int (1 : Int32))])) _
          refine XS.goto X11.here hx rfl (pc0 := 28) (pc' := 32) rfl (hb hby d7_28) (by decide) (by decide) ?_
          exact castTop (by rw [hv13, if_pos hc12] <;> rfl) kt
        · show Steps p.tables e below (T11.setTop (mkF m 24 #[.val (.ref a0), .val (.int p1), .val (.int p2), .val (.int w_nodes_a0)] [(.int (p1 + (1 : Int32))), (.int (w_nodes_a0 + (1 : Int32)))])) _
          refine XS.icmpYes X11.here hx rfl (pc0 := 24) (pc' := 31) rfl (hb hby d7_24) rfl (feq hc12).2 (by decide) (by decide) ?_
          show Steps p.tables e below (T11.setTop (mkF m 31 #[.val (.ref a0), .val (.int p1), .val (.int p2), .val (.int w_nodes_a0)] [])) _
          refine XS.iconst X11.here hx rfl (hb hby d7_31) ?_
          exact castTop (by rw [hv13, if_neg hc12] <;> rfl) kt
      exact castTop (by subst hv13; rw [hv14, if_pos hc10] <;> rfl) kt
    · refine ⟨T1, _, X1, N1, rfl, fun target kt => ?_⟩
      show Steps p.tables e below (T1.setTop (mkF m 14 #[.val (.ref a0), .val (.int p1), .val (.int p2), .val (.int w_nodes_a0)] [(.int p1), (.int w_nodes_a0)])) _
      refine XS.icmpYes X1.here hx rfl (pc0 := 14) (pc' := 31) rfl (hb hby d7_14) rfl (feq hc10).2 (by decide) (by decide) ?_
      show Steps p.tables e below (T1.setTop (mkF m 31 #[.val (.ref a0), .val (.int p1), .val (.int p2), .val (.int w_nodes_a0)] [])) _
      refine XS.iconst X1.here hx rfl (hb hby d7_31) ?_
      exact castTop (by rw [hv14, if_neg hc10] <;> rfl) kt
  obtain ⟨fs, hr, hrun, hended, hW, hsame⟩ := X15.leave (v := some (.int (nar .boolean v14))) (fun h => by rw [Bd.returns] at h; cases h)
  refine ⟨_, _, pre0 _ ?_, hrun, hended, _, _, rfl, ?_, ⟨_, rfl⟩, hW, hsame.mono (by decide) (by decide)⟩
  · show Steps p.tables e below (s₁.setTop (mkF m 0 #[.val (.ref a0), .val (.int p1), .val (.int p2), .unset] [])) _
    refine XS.iloadN X0.here hx rfl (hb hby d7_0) rfl ?_
    show Steps p.tables e below (s₁.setTop (mkF m 1 #[.val (.ref a0), .val (.int p1), .val (.int p2), .unset] [(.int p1)])) _
    refine XS.iloadN X0.here hx rfl (hb hby d7_1) rfl ?_
    show Steps p.tables e below (s₁.setTop (mkF m 2 #[.val (.ref a0), .val (.int p1), .val (.int p2), .unset] [(.int p2), (.int p1)])) _
    refine XS.icmpYes X0.here hx rfl (pc0 := 2) (pc' := 7) rfl (hb hby d7_2) rfl (tlt hc2).1 (by decide) (by decide) ?_
    show Steps p.tables e below (s₁.setTop (mkF m 7 #[.val (.ref a0), .val (.int p1), .val (.int p2), .unset] [])) _
    refine XS.aloadN X0.here hx rfl (hb hby d7_7) rfl rfl ?_
    show Steps p.tables e below (s₁.setTop (mkF m 8 #[.val (.ref a0), .val (.int p1), .val (.int p2), .unset] [(.ref a0)])) _
    refine st1.trans ?_
    show Steps p.tables e below (T1.setTop (mkF m 11 #[.val (.ref a0), .val (.int p1), .val (.int p2), .unset] [(.int w_nodes_a0)])) _
    refine XS.istoreN X1.here hx rfl (hb hby d7_11) rfl (l' := #[.val (.ref a0), .val (.int p1), .val (.int p2), .val (.int w_nodes_a0)]) rfl ?_
    show Steps p.tables e below (T1.setTop (mkF m 12 #[.val (.ref a0), .val (.int p1), .val (.int p2), .val (.int w_nodes_a0)] [])) _
    refine XS.iloadN X1.here hx rfl (hb hby d7_12) rfl ?_
    show Steps p.tables e below (T1.setTop (mkF m 13 #[.val (.ref a0), .val (.int p1), .val (.int p2), .val (.int w_nodes_a0)] [(.int w_nodes_a0)])) _
    refine XS.iloadN X1.here hx rfl (hb hby d7_13) rfl ?_
    show Steps p.tables e below (T1.setTop (mkF m 14 #[.val (.ref a0), .val (.int p1), .val (.int p2), .val (.int w_nodes_a0)] [(.int p1), (.int w_nodes_a0)])) _
    refine st15 _ ?_
    show Steps p.tables e below (T15.setTop (mkF m 32 #[.val (.ref a0), .val (.int p1), .val (.int p2), .val (.int w_nodes_a0)] [(.int v14)])) _
    exact retN X15 hx (t := .boolean) Bd.returns (by simp) (hb hby d7_32) hr
  · show Q7b Z a0 p1 p2 w_sorts_a0 w_edges_a0 w_uses_a0 w_nodes_a0 w_copiedNodes_a0 w_copies_a0 h0 n0 _ T15.heap _
    rw [e15]
    subst hv14
    exact ⟨rfl, N15, K1, P2, P3, P4, P5, P6, P7, P8⟩
theorem own_law1  (v47 : Int32) (v61 : Int32) (hv47 : v47 = (nar .boolean (if (0 : Int32) = (0 : Int32) then (if ((0 : Int32) + (1 : Int32)) = ((0 : Int32) + (1 : Int32)) then (1 : Int32) else (0 : Int32)) else (0 : Int32)))) (hv61 : v61 = (if v47 = (0 : Int32) then (0 : Int32) else (if ((0 : Int32) + (1 : Int32)) = (1 : Int32) then (1 : Int32) else (0 : Int32)))) : (nar .boolean v61) = (1 : Int32) := by
  subst hv47 hv61
  simp +decide [own_nar_ite, own_nar0, own_nar1]
theorem own_law2  (v84 : Int32) (v94 : Int32) (v111 : Int32) (hv84 : v84 = (nar .boolean (if (0 : Int32) = (0 : Int32) then (if ((0 : Int32) + (1 : Int32)) = ((0 : Int32) + (1 : Int32)) then (1 : Int32) else (0 : Int32)) else (0 : Int32)))) (hv94 : v94 = (nar .boolean (if ((0 : Int32) + (1 : Int32)) = (1 : Int32) then (if (((0 : Int32) + (1 : Int32)) + (1 : Int32)) = ((1 : Int32) + (1 : Int32)) then (1 : Int32) else (0 : Int32)) else (0 : Int32)))) (hv111 : v111 = (if v84 = (0 : Int32) then (0 : Int32) else (if v94 = (0 : Int32) then (0 : Int32) else (if (((0 : Int32) + (1 : Int32)) + (1 : Int32)) = (2 : Int32) then (1 : Int32) else (0 : Int32))))) : (nar .boolean v111) = (1 : Int32) := by
  subst hv84 hv94 hv111
  simp +decide [own_nar_ite, own_nar0, own_nar1]
theorem own_law3  (v134 : Int32) (v144 : Int32) (v154 : Int32) (v175 : Int32) (hv134 : v134 = (nar .boolean (if (0 : Int32) = (0 : Int32) then (if ((0 : Int32) + (1 : Int32)) = ((0 : Int32) + (1 : Int32)) then (1 : Int32) else (0 : Int32)) else (0 : Int32)))) (hv144 : v144 = (nar .boolean (if ((0 : Int32) + (1 : Int32)) = (1 : Int32) then (if (((0 : Int32) + (1 : Int32)) + (1 : Int32)) = ((1 : Int32) + (1 : Int32)) then (1 : Int32) else (0 : Int32)) else (0 : Int32)))) (hv154 : v154 = (nar .boolean (if (((0 : Int32) + (1 : Int32)) + (1 : Int32)) = (2 : Int32) then (if ((((0 : Int32) + (1 : Int32)) + (1 : Int32)) + (1 : Int32)) = ((2 : Int32) + (1 : Int32)) then (1 : Int32) else (0 : Int32)) else (0 : Int32)))) (hv175 : v175 = (if v134 = (0 : Int32) then (0 : Int32) else (if v144 = (0 : Int32) then (0 : Int32) else (if v154 = (0 : Int32) then (0 : Int32) else (if ((((0 : Int32) + (1 : Int32)) + (1 : Int32)) + (1 : Int32)) = (3 : Int32) then (1 : Int32) else (0 : Int32)))))) : (nar .boolean v175) = (1 : Int32) := by
  subst hv134 hv144 hv154 hv175
  simp +decide [own_nar_ite, own_nar0, own_nar1]
theorem own_law4  (v198 : Int32) (v208 : Int32) (v218 : Int32) (v228 : Int32) (v254 : Int32) (hv198 : v198 = (nar .boolean (if (0 : Int32) = (0 : Int32) then (if ((0 : Int32) + (1 : Int32)) = ((0 : Int32) + (1 : Int32)) then (1 : Int32) else (0 : Int32)) else (0 : Int32)))) (hv208 : v208 = (nar .boolean (if ((0 : Int32) + (1 : Int32)) = (1 : Int32) then (if (((0 : Int32) + (1 : Int32)) + (1 : Int32)) = ((1 : Int32) + (1 : Int32)) then (1 : Int32) else (0 : Int32)) else (0 : Int32)))) (hv218 : v218 = (nar .boolean (if (((0 : Int32) + (1 : Int32)) + (1 : Int32)) = (2 : Int32) then (if ((((0 : Int32) + (1 : Int32)) + (1 : Int32)) + (1 : Int32)) = ((2 : Int32) + (1 : Int32)) then (1 : Int32) else (0 : Int32)) else (0 : Int32)))) (hv228 : v228 = (nar .boolean (if ((((0 : Int32) + (1 : Int32)) + (1 : Int32)) + (1 : Int32)) = (3 : Int32) then (if (((((0 : Int32) + (1 : Int32)) + (1 : Int32)) + (1 : Int32)) + (1 : Int32)) = ((3 : Int32) + (1 : Int32)) then (1 : Int32) else (0 : Int32)) else (0 : Int32)))) (hv254 : v254 = (if v198 = (0 : Int32) then (0 : Int32) else (if v208 = (0 : Int32) then (0 : Int32) else (if v218 = (0 : Int32) then (0 : Int32) else (if v228 = (0 : Int32) then (0 : Int32) else (if (((((0 : Int32) + (1 : Int32)) + (1 : Int32)) + (1 : Int32)) + (1 : Int32)) = (4 : Int32) then (1 : Int32) else (0 : Int32))))))) : (nar .boolean v254) = (1 : Int32) := by
  subst hv198 hv208 hv218 hv228 hv254
  simp +decide [own_nar_ite, own_nar0, own_nar1]
theorem ef_0 (m : MethodId) (p0 : Int32) : entryFrame m #[(.int p0)] maxLocals = mkF m 0 #[.val (.int p0), .unset, .unset, .unset, .unset, .unset, .unset, .unset, .unset] [] := by first | (simp [entryFrame, mkF, argsToLocals, Value.category, maxLocals]; done) | rfl
def Q0 (h0 : Heap) (n0 : Nat) (v : Option Value) (h : Heap) (L : List Loc) : Prop := v = some (.int 1) ∧ Fr n0 L
set_option maxRecDepth 65536 in
set_option maxHeartbeats 40000000 in
theorem rm0 (l : Launch) (Z : State) (A0 : Array Value) (hw : ∀ d ∈ tables_1, d.before A0 Z = true) (ws : List Jvm.Cond) (p0 : Int32) (s_DEFAULTCAPACITY_EMPTY_ELEMENTDATA : Value) (h0 : Heap) (n0 : Nat) (Z0 : n0 ≤ h0.size) (S_DEFAULTCAPACITY_EMPTY_ELEMENTDATA : SO Z n0 h0 "java/util/ArrayList" "DEFAULTCAPACITY_EMPTY_ELEMENTDATA" "[Ljava/lang/Object;" s_DEFAULTCAPACITY_EMPTY_ELEMENTDATA) (rf_s_DEFAULTCAPACITY_EMPTY_ELEMENTDATA : s_DEFAULTCAPACITY_EMPTY_ELEMENTDATA.isRef = true) :
    MetFree l x (head1 (Jvm.Cond.code x code maxLocals ret :: ws) room_1) (fun a U => a = #[(.int p0)] ∧ Z.Warmed39 U.vm ∧ U.heap = h0) (fun _ _ _ _ _ => True) (fun _ U o U' => ∃ v L, o = .returned v ∧ Q0 h0 n0 v U'.heap L ∧ FrameEnd U o U' L 4 15) := by
  refine MetFree.of_bodySF (plainFor_of_name pn_0) hisR ?_
  intro p e s m args below meth c s₁ Bd hml0 hP hK
  obtain ⟨rfl, hZ, hh⟩ := hP
  have hx := Bd.exec
  have hby := Bd.bytes
  have hml : c.maxLocals = 9 := hml0
  have hown : s.vm.findClass "com/example/psilattice/psilattice/lang/WrittenGraphNodePinLaw" = some m.cls := findClass_of_methodNamed Bd.named
  have hnm := (name_of_methodNamed Bd.named Bd.method).1
  have X0 : Stand p l e room_1 s m #[(.int p0)] below meth c s₁ [] 0 0 := Stand.of_body Bd
  have e0 : s₁.heap = h0 := by rw [← hh, Bd.state]; rfl
  have N0 := Fr.nil n0
  have pre0 : ∀ t, Steps p.tables e below (s₁.setTop (mkF m 0 #[.val (.int p0), .unset, .unset, .unset, .unset, .unset, .unset, .unset, .unset] [])) t → Steps p.tables e below (s₁.setTop (entryFrame m #[(.int p0)] maxLocals)) t := fun t k => castTop (ef_0 m p0) k
  obtain ⟨v1, hv1⟩ : ∃ z : Int32, z = ((p0 &&& (2147483647 : Int32)) % (5 : Int32)) := ⟨_, rfl⟩
  have ck2 : ∀ t, Steps p.tables e below (s₁.setTop (mkF m 7 #[.val (.int p0), .val (.int v1), .unset, .unset, .unset, .unset, .unset, .unset, .unset] [])) t → Steps p.tables e below (s₁.setTop (mkF m 0 #[.val (.int p0), .unset, .unset, .unset, .unset, .unset, .unset, .unset, .unset] [])) t := by
    intro t kt
    show Steps p.tables e below (s₁.setTop (mkF m 0 #[.val (.int p0), .unset, .unset, .unset, .unset, .unset, .unset, .unset, .unset] [])) _
    refine XS.iloadN X0.here hx rfl (hb hby at_0) rfl ?_
    show Steps p.tables e below (s₁.setTop (mkF m 1 #[.val (.int p0), .unset, .unset, .unset, .unset, .unset, .unset, .unset, .unset] [(.int p0)])) _
    refine X0.ldcInt hx hown (mvT hZ (hw _ (List.mem_of_getElem? (i := 0) rfl))) (g := (mkF m 1 #[.val (.int p0), .unset, .unset, .unset, .unset, .unset, .unset, .unset, .unset] [(.int p0)])) rfl (hb hby at_1) _ ?_
    show Steps p.tables e below (s₁.setTop (mkF m 3 #[.val (.int p0), .unset, .unset, .unset, .unset, .unset, .unset, .unset, .unset] [(.int (2147483647 : Int32)), (.int p0)])) _
    refine XS.iand X0.here hx rfl (hb hby at_3) rfl ?_
    show Steps p.tables e below (s₁.setTop (mkF m 4 #[.val (.int p0), .unset, .unset, .unset, .unset, .unset, .unset, .unset, .unset] [(.int (p0 &&& (2147483647 : Int32)))])) _
    refine XS.iconst X0.here hx rfl (hb hby at_4) ?_
    show Steps p.tables e below (s₁.setTop (mkF m 5 #[.val (.int p0), .unset, .unset, .unset, .unset, .unset, .unset, .unset, .unset] [(.int (5 : Int32)), (.int (p0 &&& (2147483647 : Int32)))])) _
    refine iremM X0 hx rfl (hb hby at_5) rfl (by decide) ?_
    show Steps p.tables e below (s₁.setTop (mkF m 6 #[.val (.int p0), .unset, .unset, .unset, .unset, .unset, .unset, .unset, .unset] [(.int ((p0 &&& (2147483647 : Int32)) % (5 : Int32)))])) _
    refine XS.istoreN X0.here hx rfl (hb hby at_6) rfl (l' := #[.val (.int p0), .val (.int ((p0 &&& (2147483647 : Int32)) % (5 : Int32))), .unset, .unset, .unset, .unset, .unset, .unset, .unset]) rfl ?_
    show Steps p.tables e below (s₁.setTop (mkF m 7 #[.val (.int p0), .val (.int ((p0 &&& (2147483647 : Int32)) % (5 : Int32))), .unset, .unset, .unset, .unset, .unset, .unset, .unset] [])) _
    refine castTop (g' := (mkF m 7 #[.val (.int p0), .val (.int v1), .unset, .unset, .unset, .unset, .unset, .unset, .unset] [])) (by rw [hv1] <;> rfl) ?_
    exact kt
  rcases own_mod5 _ _ hv1 with hk | hk | hk | hk | hk
  · subst hk
    obtain ⟨T3, h3, X3, e3, E3, A3, D3, -, st3⟩ := newO X0 hx hZ hown (hw _ (List.mem_of_getElem? (i := 1) rfl)) (hw _ (List.mem_of_getElem? (i := 2) rfl)) (hw _ (List.mem_of_getElem? (i := 3) rfl)) e0 (g := (mkF m 7 #[.val (.int p0), .val (.int (0 : Int32)), .unset, .unset, .unset, .unset, .unset, .unset, .unset] [])) rfl (hb hby at_7) (by decide) (by decide)
    obtain ⟨b3, g3⟩ : ∃ z, z = h0.size := ⟨_, rfl⟩
    rw [← g3] at A3 D3 st3
    have nw_b3 : n0 ≤ b3 := Nat.le_trans (Nat.le_trans Z0 (Keep.refl h0 []).1) (Nat.le_of_eq g3.symm)
    have sz_b3 : h0.size ≤ b3 := Nat.le_trans (Keep.refl h0 []).1 (Nat.le_of_eq g3.symm)
    have K3 : Keep h0 h3 [] := (Keep.refl h0 []).ext E3
    have F_sorts_b3 : Fld Z h3 b3 "com/example/psilattice/psilattice/lang/WrittenGraph" "sorts" "Ljava/util/List;" .null := D3 (Or.inr (hw _ (List.mem_of_getElem? (i := 35) rfl))) (ty := (.object "java/util/List")) (by decide)
    have F_edges_b3 : Fld Z h3 b3 "com/example/psilattice/psilattice/lang/WrittenGraph" "edges" "Ljava/util/List;" .null := D3 (Or.inr (hw _ (List.mem_of_getElem? (i := 37) rfl))) (ty := (.object "java/util/List")) (by decide)
    have F_uses_b3 : Fld Z h3 b3 "com/example/psilattice/psilattice/lang/WrittenGraph" "uses" "Ljava/util/List;" .null := D3 (Or.inr (hw _ (List.mem_of_getElem? (i := 39) rfl))) (ty := (.object "java/util/List")) (by decide)
    have F_nodes_b3 : Fld Z h3 b3 "com/example/psilattice/psilattice/lang/WrittenGraph" "nodes" "I" (.int (0 : Int32)) := D3 (Or.inl (hw _ (List.mem_of_getElem? (i := 46) rfl))) (ty := .int) (by decide)
    have F_copiedNodes_b3 : Fld Z h3 b3 "com/example/psilattice/psilattice/lang/WrittenGraph" "copiedNodes" "J" (.long (0 : Int64)) := D3 (Or.inl (hw _ (List.mem_of_getElem? (i := 57) rfl))) (ty := .long) (by decide)
    have F_copies_b3 : Fld Z h3 b3 "com/example/psilattice/psilattice/lang/WrittenGraph" "copies" "J" (.long (0 : Int64)) := D3 (Or.inl (hw _ (List.mem_of_getElem? (i := 64) rfl))) (ty := .long) (by decide)
    have G4 : SO Z n0 h3 "java/util/ArrayList" "DEFAULTCAPACITY_EMPTY_ELEMENTDATA" "[Ljava/lang/Object;" s_DEFAULTCAPACITY_EMPTY_ELEMENTDATA := (S_DEFAULTCAPACITY_EMPTY_ELEMENTDATA.ext E3)
    have hp5 : s_DEFAULTCAPACITY_EMPTY_ELEMENTDATA.isRef = true := rf_s_DEFAULTCAPACITY_EMPTY_ELEMENTDATA
    obtain ⟨_, _, ⟨T6, L6, k6, n6⟩, -, X6, ⟨Lc6, hQ6, l6, y6, z6⟩, st6⟩ := X3.specialBack hx (y := (⟨"com/example/psilattice/psilattice/lang/WrittenGraph", "<init>", "()V"⟩ : MethodName)) rfl hown (mvT hZ (hw _ (List.mem_of_getElem? (i := 4) rfl))) (mvT hZ (hw _ (List.mem_of_getElem? (i := 5) rfl))) (mvT hZ (hw _ (List.mem_of_getElem? (i := 6) rfl))) (by decide) (backOf (W := 1) (rm1 l Z A0 hw [] b3 .null .null .null (0 : Int32) (0 : Int64) (0 : Int64) s_DEFAULTCAPACITY_EMPTY_ELEMENTDATA h3 n0 (Nat.le_trans Z0 K3.1) A3 F_sorts_b3 F_edges_b3 F_uses_b3 F_nodes_b3 F_copiedNodes_b3 F_copies_b3 G4 nw_b3 hp5) hZ (hw _ (List.mem_of_getElem? (i := 6) rfl)) (hw _ (List.mem_of_getElem? (i := 3) rfl)) (by decide) (by decide)) (g := (mkF m 11 #[.val (.int p0), .val (.int (0 : Int32)), .unset, .unset, .unset, .unset, .unset, .unset, .unset] [(.ref b3), (.ref b3)])) rfl (by rw [hml]; rfl) (Steps.refl _) (a := b3) (argsL := []) (rest := [(.ref b3)]) (lenOf pd_0 rfl) rfl (by show 2 * 0 + _ ≤ _; exact Nat.le_of_eq rfl) (hb hby at_11) (fun _ _ => ⟨rfl, e3, (by decide : 1 + 3 ≤ _), (by decide : 6 + 9 ≤ _)⟩)
    dsimp only [Pt.U, Pt.locs, Pt.cells, Pt.slots] at X6 l6 y6 z6 st6 hQ6
    subst l6 y6 z6
    obtain ⟨b6_b2, b6_b12, b6_b24, rfl, N6q, Kc6, szb6_b2, szb6_b12, szb6_b24, ne_b6_b2_b6_b12, ne_b6_b2_b6_b24, ne_b6_b12_b6_b24, P7, P8, P9, P10, P11, P12, P13⟩ := hQ6
    have ne_b3_b6_b2 : b3 ≠ b6_b2 := Nat.ne_of_lt (Nat.lt_of_lt_of_le A3.lt szb6_b2)
    have ne_b3_b6_b12 : b3 ≠ b6_b12 := Nat.ne_of_lt (Nat.lt_of_lt_of_le A3.lt szb6_b12)
    have ne_b3_b6_b24 : b3 ≠ b6_b24 := Nat.ne_of_lt (Nat.lt_of_lt_of_le A3.lt szb6_b24)
    have nw_b6_b2 : n0 ≤ b6_b2 := Nat.le_trans (Nat.le_trans Z0 K3.1) szb6_b2
    have sq_b6_b2 : h0.size ≤ b6_b2 := Nat.le_trans K3.1 szb6_b2
    have nw_b6_b12 : n0 ≤ b6_b12 := Nat.le_trans (Nat.le_trans Z0 K3.1) szb6_b12
    have sq_b6_b12 : h0.size ≤ b6_b12 := Nat.le_trans K3.1 szb6_b12
    have nw_b6_b24 : n0 ≤ b6_b24 := Nat.le_trans (Nat.le_trans Z0 K3.1) szb6_b24
    have sq_b6_b24 : h0.size ≤ b6_b24 := Nat.le_trans K3.1 szb6_b24
    have K6 : Keep h0 T6.heap [] := K3.trans Kc6 (allS (Or.inr sz_b3) all0)
    have N6 := Fr.app N0 N6q
    obtain ⟨cq14, kq14, q14a, q14b, q14c⟩ := isOf hZ rfl P7
    obtain ⟨_, _, ⟨T14, L14, k14, n14⟩, -, X14, ⟨Lc14, hQ14, l14, y14, z14⟩, st14⟩ := X6.virtualBack hx (y := (⟨"com/example/psilattice/psilattice/lang/WrittenGraph", "size", "()I"⟩ : MethodName)) (z := (⟨"com/example/psilattice/psilattice/lang/WrittenGraph", "size", "()I"⟩ : MethodName)) hown (mvT hZ (hw _ (List.mem_of_getElem? (i := 40) rfl))) (mvT hZ (hw _ (List.mem_of_getElem? (i := 41) rfl))) (notFace_of_selects (args := #[]) (mvT hZ (hw _ (List.mem_of_getElem? (i := 43) rfl)))) (mvT hZ (hw _ (List.mem_of_getElem? (i := 43) rfl))) (mvT hZ (hw _ (List.mem_of_getElem? (i := 42) rfl))) (by decide) (backOf (W := 0) (rm6 l Z A0 hw [] b3 (.ref b6_b2) (.ref b6_b12) (.ref b6_b24) (0 : Int32) (0 : Int64) (0 : Int64) T6.heap n0 (Nat.le_trans Z0 K6.1) P7 P8 P9 P10 P11 P12 P13) hZ (hw _ (List.mem_of_getElem? (i := 44) rfl)) (hw _ (List.mem_of_getElem? (i := 3) rfl)) (by decide) (by decide)) q14a q14c (g := (mkF m 16 #[.val (.int p0), .val (.int (0 : Int32)), .val (.ref b3), .unset, .unset, .unset, .unset, .unset, .unset] [(.ref b3)])) rfl (by rw [hml]; rfl) (Steps.refl _) (argsL := []) (rest := []) (lenOf pd_1 rfl) rfl (by show 2 * 0 + _ ≤ _; exact Nat.le_of_eq rfl) (hb hby at_16) (fun _ _ => ⟨rfl, rfl, (by decide : 4 + 0 ≤ _), (by decide : 15 + 0 ≤ _)⟩)
    dsimp only [Pt.U, Pt.locs, Pt.cells, Pt.slots] at X14 l14 y14 z14 st14 hQ14
    subst l14 y14 z14
    obtain ⟨rfl, N14q, e14⟩ := hQ14
    have N14 := Fr.app N6 N14q
    have hp15 : ¬ ((0 : Int32) < (0 : Int32)) := (by decide)
    obtain ⟨_, _, ⟨T16, L16, k16, n16⟩, -, X16, ⟨Lc16, hQ16, l16, y16, z16⟩, st16⟩ := Jvm.LawKit.callS X14 hx (y := (⟨"com/example/psilattice/psilattice/lang/WrittenGraphNodePinLaw", "step", "(Lcom/example/psilattice/psilattice/lang/WrittenGraph;II)Z"⟩ : MethodName)) hown (mvT hZ (hw _ (List.mem_of_getElem? (i := 47) rfl))) (mvT hZ (hw _ (List.mem_of_getElem? (i := 48) rfl))) (mvT hZ (hw _ (List.mem_of_getElem? (i := 49) rfl))) (mvT hZ (hw _ (List.mem_of_getElem? (i := 50) rfl))) (by decide) (backOf (W := 0) (rm7a l Z A0 hw [] b3 (0 : Int32) (0 : Int32) T6.heap n0 (Nat.le_trans Z0 K6.1) hp15) hZ (hw _ (List.mem_of_getElem? (i := 50) rfl)) (hw _ (List.mem_of_getElem? (i := 49) rfl)) (by decide) (by decide)) (g := (mkF m 31 #[.val (.int p0), .val (.int (0 : Int32)), .val (.ref b3), .val (.int (1 : Int32)), .unset, .unset, .unset, .unset, .unset] [(.int (0 : Int32)), (.int (0 : Int32)), (.ref b3)])) rfl (by rw [hml]; rfl) (argsL := [(.ref b3), (.int (0 : Int32)), (.int (0 : Int32))]) (rest := []) (lenOf pd_2 rfl) rfl (by show 2 * 0 + _ ≤ _; exact Nat.le_of_eq rfl) (hb hby at_31) (fun _ _ => ⟨rfl, e14, (by decide : 4 + 0 ≤ _), (by decide : 15 + 0 ≤ _)⟩)
    dsimp only [Pt.U, Pt.locs, Pt.cells, Pt.slots] at X16 l16 y16 z16 st16 hQ16
    subst l16 y16 z16
    obtain ⟨rfl, N16q, e16⟩ := hQ16
    have N16 := Fr.app N14 N16q
    have hp17 : ¬ ((1 : Int32) < (0 : Int32)) := (by decide)
    obtain ⟨_, _, ⟨T18, L18, k18, n18⟩, -, X18, ⟨Lc18, hQ18, l18, y18, z18⟩, st18⟩ := Jvm.LawKit.callS X16 hx (y := (⟨"com/example/psilattice/psilattice/lang/WrittenGraphNodePinLaw", "step", "(Lcom/example/psilattice/psilattice/lang/WrittenGraph;II)Z"⟩ : MethodName)) hown (mvT hZ (hw _ (List.mem_of_getElem? (i := 47) rfl))) (mvT hZ (hw _ (List.mem_of_getElem? (i := 48) rfl))) (mvT hZ (hw _ (List.mem_of_getElem? (i := 49) rfl))) (mvT hZ (hw _ (List.mem_of_getElem? (i := 50) rfl))) (by decide) (backOf (W := 0) (rm7a l Z A0 hw [] b3 (1 : Int32) (0 : Int32) T6.heap n0 (Nat.le_trans Z0 K6.1) hp17) hZ (hw _ (List.mem_of_getElem? (i := 50) rfl)) (hw _ (List.mem_of_getElem? (i := 49) rfl)) (by decide) (by decide)) (g := (mkF m 39 #[.val (.int p0), .val (.int (0 : Int32)), .val (.ref b3), .val (.int (1 : Int32)), .val (.int (1 : Int32)), .unset, .unset, .unset, .unset] [(.int (0 : Int32)), (.int (1 : Int32)), (.ref b3)])) rfl (by rw [hml]; rfl) (argsL := [(.ref b3), (.int (1 : Int32)), (.int (0 : Int32))]) (rest := []) (lenOf pd_2 rfl) rfl (by show 2 * 0 + _ ≤ _; exact Nat.le_of_eq rfl) (hb hby at_39) (fun _ _ => ⟨rfl, e16, (by decide : 4 + 0 ≤ _), (by decide : 15 + 0 ≤ _)⟩)
    dsimp only [Pt.U, Pt.locs, Pt.cells, Pt.slots] at X18 l18 y18 z18 st18 hQ18
    subst l18 y18 z18
    obtain ⟨rfl, N18q, e18⟩ := hQ18
    have N18 := Fr.app N16 N18q
    have hp19 : ¬ ((2 : Int32) < (0 : Int32)) := (by decide)
    obtain ⟨_, _, ⟨T20, L20, k20, n20⟩, -, X20, ⟨Lc20, hQ20, l20, y20, z20⟩, st20⟩ := Jvm.LawKit.callS X18 hx (y := (⟨"com/example/psilattice/psilattice/lang/WrittenGraphNodePinLaw", "step", "(Lcom/example/psilattice/psilattice/lang/WrittenGraph;II)Z"⟩ : MethodName)) hown (mvT hZ (hw _ (List.mem_of_getElem? (i := 47) rfl))) (mvT hZ (hw _ (List.mem_of_getElem? (i := 48) rfl))) (mvT hZ (hw _ (List.mem_of_getElem? (i := 49) rfl))) (mvT hZ (hw _ (List.mem_of_getElem? (i := 50) rfl))) (by decide) (backOf (W := 0) (rm7a l Z A0 hw [] b3 (2 : Int32) (0 : Int32) T6.heap n0 (Nat.le_trans Z0 K6.1) hp19) hZ (hw _ (List.mem_of_getElem? (i := 50) rfl)) (hw _ (List.mem_of_getElem? (i := 49) rfl)) (by decide) (by decide)) (g := (mkF m 47 #[.val (.int p0), .val (.int (0 : Int32)), .val (.ref b3), .val (.int (1 : Int32)), .val (.int (1 : Int32)), .val (.int (1 : Int32)), .unset, .unset, .unset] [(.int (0 : Int32)), (.int (2 : Int32)), (.ref b3)])) rfl (by rw [hml]; rfl) (argsL := [(.ref b3), (.int (2 : Int32)), (.int (0 : Int32))]) (rest := []) (lenOf pd_2 rfl) rfl (by show 2 * 0 + _ ≤ _; exact Nat.le_of_eq rfl) (hb hby at_47) (fun _ _ => ⟨rfl, e18, (by decide : 4 + 0 ≤ _), (by decide : 15 + 0 ≤ _)⟩)
    dsimp only [Pt.U, Pt.locs, Pt.cells, Pt.slots] at X20 l20 y20 z20 st20 hQ20
    subst l20 y20 z20
    obtain ⟨rfl, N20q, e20⟩ := hQ20
    have N20 := Fr.app N18 N20q
    have hp21 : ¬ ((3 : Int32) < (0 : Int32)) := (by decide)
    obtain ⟨_, _, ⟨T22, L22, k22, n22⟩, -, X22, ⟨Lc22, hQ22, l22, y22, z22⟩, st22⟩ := Jvm.LawKit.callS X20 hx (y := (⟨"com/example/psilattice/psilattice/lang/WrittenGraphNodePinLaw", "step", "(Lcom/example/psilattice/psilattice/lang/WrittenGraph;II)Z"⟩ : MethodName)) hown (mvT hZ (hw _ (List.mem_of_getElem? (i := 47) rfl))) (mvT hZ (hw _ (List.mem_of_getElem? (i := 48) rfl))) (mvT hZ (hw _ (List.mem_of_getElem? (i := 49) rfl))) (mvT hZ (hw _ (List.mem_of_getElem? (i := 50) rfl))) (by decide) (backOf (W := 0) (rm7a l Z A0 hw [] b3 (3 : Int32) (0 : Int32) T6.heap n0 (Nat.le_trans Z0 K6.1) hp21) hZ (hw _ (List.mem_of_getElem? (i := 50) rfl)) (hw _ (List.mem_of_getElem? (i := 49) rfl)) (by decide) (by decide)) (g := (mkF m 55 #[.val (.int p0), .val (.int (0 : Int32)), .val (.ref b3), .val (.int (1 : Int32)), .val (.int (1 : Int32)), .val (.int (1 : Int32)), .val (.int (1 : Int32)), .unset, .unset] [(.int (0 : Int32)), (.int (3 : Int32)), (.ref b3)])) rfl (by rw [hml]; rfl) (argsL := [(.ref b3), (.int (3 : Int32)), (.int (0 : Int32))]) (rest := []) (lenOf pd_2 rfl) rfl (by show 2 * 0 + _ ≤ _; exact Nat.le_of_eq rfl) (hb hby at_55) (fun _ _ => ⟨rfl, e20, (by decide : 4 + 0 ≤ _), (by decide : 15 + 0 ≤ _)⟩)
    dsimp only [Pt.U, Pt.locs, Pt.cells, Pt.slots] at X22 l22 y22 z22 st22 hQ22
    subst l22 y22 z22
    obtain ⟨rfl, N22q, e22⟩ := hQ22
    have N22 := Fr.app N20 N22q
    obtain ⟨cq23, kq23, q23a, q23b, q23c⟩ := isOf hZ e22 P7
    obtain ⟨_, _, ⟨T23, L23, k23, n23⟩, -, X23, ⟨Lc23, hQ23, l23, y23, z23⟩, st23⟩ := X22.virtualBack hx (y := (⟨"com/example/psilattice/psilattice/lang/WrittenGraph", "copiedNodes", "()J"⟩ : MethodName)) (z := (⟨"com/example/psilattice/psilattice/lang/WrittenGraph", "copiedNodes", "()J"⟩ : MethodName)) hown (mvT hZ (hw _ (List.mem_of_getElem? (i := 51) rfl))) (mvT hZ (hw _ (List.mem_of_getElem? (i := 52) rfl))) (notFace_of_selects (args := #[]) (mvT hZ (hw _ (List.mem_of_getElem? (i := 54) rfl)))) (mvT hZ (hw _ (List.mem_of_getElem? (i := 54) rfl))) (mvT hZ (hw _ (List.mem_of_getElem? (i := 53) rfl))) (by decide) (backOf (W := 0) (rm8 l Z A0 hw [] b3 (.ref b6_b2) (.ref b6_b12) (.ref b6_b24) (0 : Int32) (0 : Int64) (0 : Int64) T6.heap n0 (Nat.le_trans Z0 K6.1) P7 P8 P9 P10 P11 P12 P13) hZ (hw _ (List.mem_of_getElem? (i := 55) rfl)) (hw _ (List.mem_of_getElem? (i := 3) rfl)) (by decide) (by decide)) q23a q23c (g := (mkF m 61 #[.val (.int p0), .val (.int (0 : Int32)), .val (.ref b3), .val (.int (1 : Int32)), .val (.int (1 : Int32)), .val (.int (1 : Int32)), .val (.int (1 : Int32)), .val (.int (1 : Int32)), .unset] [(.ref b3)])) rfl (by rw [hml]; rfl) (Steps.refl _) (argsL := []) (rest := []) (lenOf pd_3 rfl) rfl (by show 2 * 0 + _ ≤ _; exact Nat.le_of_eq rfl) (hb hby at_61) (fun _ _ => ⟨rfl, e22, (by decide : 4 + 0 ≤ _), (by decide : 15 + 0 ≤ _)⟩)
    dsimp only [Pt.U, Pt.locs, Pt.cells, Pt.slots] at X23 l23 y23 z23 st23 hQ23
    subst l23 y23 z23
    obtain ⟨rfl, N23q, e23⟩ := hQ23
    have N23 := Fr.app N22 N23q
    obtain ⟨cq24, kq24, q24a, q24b, q24c⟩ := isOf hZ e23 P7
    obtain ⟨_, _, ⟨T24, L24, k24, n24⟩, -, X24, ⟨Lc24, hQ24, l24, y24, z24⟩, st24⟩ := X23.virtualBack hx (y := (⟨"com/example/psilattice/psilattice/lang/WrittenGraph", "copies", "()J"⟩ : MethodName)) (z := (⟨"com/example/psilattice/psilattice/lang/WrittenGraph", "copies", "()J"⟩ : MethodName)) hown (mvT hZ (hw _ (List.mem_of_getElem? (i := 58) rfl))) (mvT hZ (hw _ (List.mem_of_getElem? (i := 59) rfl))) (notFace_of_selects (args := #[]) (mvT hZ (hw _ (List.mem_of_getElem? (i := 61) rfl)))) (mvT hZ (hw _ (List.mem_of_getElem? (i := 61) rfl))) (mvT hZ (hw _ (List.mem_of_getElem? (i := 60) rfl))) (by decide) (backOf (W := 0) (rm9 l Z A0 hw [] b3 (.ref b6_b2) (.ref b6_b12) (.ref b6_b24) (0 : Int32) (0 : Int64) (0 : Int64) T6.heap n0 (Nat.le_trans Z0 K6.1) P7 P8 P9 P10 P11 P12 P13) hZ (hw _ (List.mem_of_getElem? (i := 62) rfl)) (hw _ (List.mem_of_getElem? (i := 3) rfl)) (by decide) (by decide)) q24a q24c (g := (mkF m 70 #[.val (.int p0), .val (.int (0 : Int32)), .val (.ref b3), .val (.int (1 : Int32)), .val (.int (1 : Int32)), .val (.int (1 : Int32)), .val (.int (1 : Int32)), .val (.int (1 : Int32)), .unset] [(.ref b3)])) rfl (by rw [hml]; rfl) (Steps.refl _) (argsL := []) (rest := []) (lenOf pd_3 rfl) rfl (by show 2 * 0 + _ ≤ _; exact Nat.le_of_eq rfl) (hb hby at_70) (fun _ _ => ⟨rfl, e23, (by decide : 4 + 0 ≤ _), (by decide : 15 + 0 ≤ _)⟩)
    dsimp only [Pt.U, Pt.locs, Pt.cells, Pt.slots] at X24 l24 y24 z24 st24 hQ24
    subst l24 y24 z24
    obtain ⟨rfl, N24q, e24⟩ := hQ24
    have N24 := Fr.app N23 N24q
    obtain ⟨cq25, kq25, q25a, q25b, q25c⟩ := isOf hZ e24 P7
    obtain ⟨_, _, ⟨T25, L25, k25, n25⟩, -, X25, ⟨Lc25, hQ25, l25, y25, z25⟩, st25⟩ := X24.virtualBack hx (y := (⟨"com/example/psilattice/psilattice/lang/WrittenGraph", "size", "()I"⟩ : MethodName)) (z := (⟨"com/example/psilattice/psilattice/lang/WrittenGraph", "size", "()I"⟩ : MethodName)) hown (mvT hZ (hw _ (List.mem_of_getElem? (i := 40) rfl))) (mvT hZ (hw _ (List.mem_of_getElem? (i := 41) rfl))) (notFace_of_selects (args := #[]) (mvT hZ (hw _ (List.mem_of_getElem? (i := 43) rfl)))) (mvT hZ (hw _ (List.mem_of_getElem? (i := 43) rfl))) (mvT hZ (hw _ (List.mem_of_getElem? (i := 42) rfl))) (by decide) (backOf (W := 0) (rm6 l Z A0 hw [] b3 (.ref b6_b2) (.ref b6_b12) (.ref b6_b24) (0 : Int32) (0 : Int64) (0 : Int64) T6.heap n0 (Nat.le_trans Z0 K6.1) P7 P8 P9 P10 P11 P12 P13) hZ (hw _ (List.mem_of_getElem? (i := 44) rfl)) (hw _ (List.mem_of_getElem? (i := 3) rfl)) (by decide) (by decide)) q25a q25c (g := (mkF m 115 #[.val (.int p0), .val (.int (0 : Int32)), .val (.ref b3), .val (.int (1 : Int32)), .val (.int (1 : Int32)), .val (.int (1 : Int32)), .val (.int (1 : Int32)), .val (.int (1 : Int32)), .val (.int (1 : Int32))] [(.ref b3)])) rfl (by rw [hml]; rfl) (Steps.refl _) (argsL := []) (rest := []) (lenOf pd_1 rfl) rfl (by show 2 * 0 + _ ≤ _; exact Nat.le_of_eq rfl) (hb hby at_115) (fun _ _ => ⟨rfl, e24, (by decide : 4 + 0 ≤ _), (by decide : 15 + 0 ≤ _)⟩)
    dsimp only [Pt.U, Pt.locs, Pt.cells, Pt.slots] at X25 l25 y25 z25 st25 hQ25
    subst l25 y25 z25
    obtain ⟨rfl, N25q, e25⟩ := hQ25
    have N25 := Fr.app N24 N25q
    obtain ⟨fs, hr, hrun, hended, hW, hsame⟩ := X25.leave (v := some (.int (1 : Int32))) (fun h => by rw [Bd.returns] at h; cases h)
    refine ⟨_, _, pre0 _ (ck2 _ ?_), hrun, hended, _, _, rfl, ?_, ⟨_, rfl⟩, hW, hsame.mono (by decide) (by decide)⟩
    · show Steps p.tables e below (s₁.setTop (mkF m 7 #[.val (.int p0), .val (.int (0 : Int32)), .unset, .unset, .unset, .unset, .unset, .unset, .unset] [])) _
      refine st3 _ ?_
      show Steps p.tables e below (T3.setTop (mkF m 10 #[.val (.int p0), .val (.int (0 : Int32)), .unset, .unset, .unset, .unset, .unset, .unset, .unset] [(.ref b3)])) _
      refine XS.dup X3.here hx rfl (hb hby at_10) rfl rfl ?_
      show Steps p.tables e below (T3.setTop (mkF m 11 #[.val (.int p0), .val (.int (0 : Int32)), .unset, .unset, .unset, .unset, .unset, .unset, .unset] [(.ref b3), (.ref b3)])) _
      refine st6.trans ?_
      show Steps p.tables e below (T6.setTop (mkF m 14 #[.val (.int p0), .val (.int (0 : Int32)), .unset, .unset, .unset, .unset, .unset, .unset, .unset] [(.ref b3)])) _
      refine XS.astoreN X6.here hx rfl (hb hby at_14) rfl rfl (l' := #[.val (.int p0), .val (.int (0 : Int32)), .val (.ref b3), .unset, .unset, .unset, .unset, .unset, .unset]) rfl ?_
      show Steps p.tables e below (T6.setTop (mkF m 15 #[.val (.int p0), .val (.int (0 : Int32)), .val (.ref b3), .unset, .unset, .unset, .unset, .unset, .unset] [])) _
      refine XS.aloadN X6.here hx rfl (hb hby at_15) rfl rfl ?_
      show Steps p.tables e below (T6.setTop (mkF m 16 #[.val (.int p0), .val (.int (0 : Int32)), .val (.ref b3), .unset, .unset, .unset, .unset, .unset, .unset] [(.ref b3)])) _
      refine st14.trans ?_
      show Steps p.tables e below (T14.setTop (mkF m 19 #[.val (.int p0), .val (.int (0 : Int32)), .val (.ref b3), .unset, .unset, .unset, .unset, .unset, .unset] [(.int (0 : Int32))])) _
      refine XS.ifNo X14.here hx rfl (hb hby at_19) rfl ((if0 _ _).trans (teq (by decide)).2) ?_
      show Steps p.tables e below (T14.setTop (mkF m 22 #[.val (.int p0), .val (.int (0 : Int32)), .val (.ref b3), .unset, .unset, .unset, .unset, .unset, .unset] [])) _
      refine XS.iconst X14.here hx rfl (hb hby at_22) ?_
      show Steps p.tables e below (T14.setTop (mkF m 23 #[.val (.int p0), .val (.int (0 : Int32)), .val (.ref b3), .unset, .unset, .unset, .unset, .unset, .unset] [(.int (1 : Int32))])) _
      refine XS.goto X14.here hx rfl (pc0 := 23) (pc' := 27) rfl (hb hby at_23) (by decide) (by decide) ?_
      show Steps p.tables e below (T14.setTop (mkF m 27 #[.val (.int p0), .val (.int (0 : Int32)), .val (.ref b3), .unset, .unset, .unset, .unset, .unset, .unset] [(.int (1 : Int32))])) _
      refine XS.istoreN X14.here hx rfl (hb hby at_27) rfl (l' := #[.val (.int p0), .val (.int (0 : Int32)), .val (.ref b3), .val (.int (1 : Int32)), .unset, .unset, .unset, .unset, .unset]) rfl ?_
      show Steps p.tables e below (T14.setTop (mkF m 28 #[.val (.int p0), .val (.int (0 : Int32)), .val (.ref b3), .val (.int (1 : Int32)), .unset, .unset, .unset, .unset, .unset] [])) _
      refine XS.aloadN X14.here hx rfl (hb hby at_28) rfl rfl ?_
      show Steps p.tables e below (T14.setTop (mkF m 29 #[.val (.int p0), .val (.int (0 : Int32)), .val (.ref b3), .val (.int (1 : Int32)), .unset, .unset, .unset, .unset, .unset] [(.ref b3)])) _
      refine XS.iconst X14.here hx rfl (hb hby at_29) ?_
      show Steps p.tables e below (T14.setTop (mkF m 30 #[.val (.int p0), .val (.int (0 : Int32)), .val (.ref b3), .val (.int (1 : Int32)), .unset, .unset, .unset, .unset, .unset] [(.int (0 : Int32)), (.ref b3)])) _
      refine XS.iloadN X14.here hx rfl (hb hby at_30) rfl ?_
      show Steps p.tables e below (T14.setTop (mkF m 31 #[.val (.int p0), .val (.int (0 : Int32)), .val (.ref b3), .val (.int (1 : Int32)), .unset, .unset, .unset, .unset, .unset] [(.int (0 : Int32)), (.int (0 : Int32)), (.ref b3)])) _
      refine st16 _ ?_
      show Steps p.tables e below (T16.setTop (mkF m 34 #[.val (.int p0), .val (.int (0 : Int32)), .val (.ref b3), .val (.int (1 : Int32)), .unset, .unset, .unset, .unset, .unset] [(.int (1 : Int32))])) _
      refine XS.istore X16.here hx rfl (hb hby at_34) rfl (l' := #[.val (.int p0), .val (.int (0 : Int32)), .val (.ref b3), .val (.int (1 : Int32)), .val (.int (1 : Int32)), .unset, .unset, .unset, .unset]) rfl ?_
      show Steps p.tables e below (T16.setTop (mkF m 36 #[.val (.int p0), .val (.int (0 : Int32)), .val (.ref b3), .val (.int (1 : Int32)), .val (.int (1 : Int32)), .unset, .unset, .unset, .unset] [])) _
      refine XS.aloadN X16.here hx rfl (hb hby at_36) rfl rfl ?_
      show Steps p.tables e below (T16.setTop (mkF m 37 #[.val (.int p0), .val (.int (0 : Int32)), .val (.ref b3), .val (.int (1 : Int32)), .val (.int (1 : Int32)), .unset, .unset, .unset, .unset] [(.ref b3)])) _
      refine XS.iconst X16.here hx rfl (hb hby at_37) ?_
      show Steps p.tables e below (T16.setTop (mkF m 38 #[.val (.int p0), .val (.int (0 : Int32)), .val (.ref b3), .val (.int (1 : Int32)), .val (.int (1 : Int32)), .unset, .unset, .unset, .unset] [(.int (1 : Int32)), (.ref b3)])) _
      refine XS.iloadN X16.here hx rfl (hb hby at_38) rfl ?_
      show Steps p.tables e below (T16.setTop (mkF m 39 #[.val (.int p0), .val (.int (0 : Int32)), .val (.ref b3), .val (.int (1 : Int32)), .val (.int (1 : Int32)), .unset, .unset, .unset, .unset] [(.int (0 : Int32)), (.int (1 : Int32)), (.ref b3)])) _
      refine st18 _ ?_
      show Steps p.tables e below (T18.setTop (mkF m 42 #[.val (.int p0), .val (.int (0 : Int32)), .val (.ref b3), .val (.int (1 : Int32)), .val (.int (1 : Int32)), .unset, .unset, .unset, .unset] [(.int (1 : Int32))])) _
      refine XS.istore X18.here hx rfl (hb hby at_42) rfl (l' := #[.val (.int p0), .val (.int (0 : Int32)), .val (.ref b3), .val (.int (1 : Int32)), .val (.int (1 : Int32)), .val (.int (1 : Int32)), .unset, .unset, .unset]) rfl ?_
      show Steps p.tables e below (T18.setTop (mkF m 44 #[.val (.int p0), .val (.int (0 : Int32)), .val (.ref b3), .val (.int (1 : Int32)), .val (.int (1 : Int32)), .val (.int (1 : Int32)), .unset, .unset, .unset] [])) _
      refine XS.aloadN X18.here hx rfl (hb hby at_44) rfl rfl ?_
      show Steps p.tables e below (T18.setTop (mkF m 45 #[.val (.int p0), .val (.int (0 : Int32)), .val (.ref b3), .val (.int (1 : Int32)), .val (.int (1 : Int32)), .val (.int (1 : Int32)), .unset, .unset, .unset] [(.ref b3)])) _
      refine XS.iconst X18.here hx rfl (hb hby at_45) ?_
      show Steps p.tables e below (T18.setTop (mkF m 46 #[.val (.int p0), .val (.int (0 : Int32)), .val (.ref b3), .val (.int (1 : Int32)), .val (.int (1 : Int32)), .val (.int (1 : Int32)), .unset, .unset, .unset] [(.int (2 : Int32)), (.ref b3)])) _
      refine XS.iloadN X18.here hx rfl (hb hby at_46) rfl ?_
      show Steps p.tables e below (T18.setTop (mkF m 47 #[.val (.int p0), .val (.int (0 : Int32)), .val (.ref b3), .val (.int (1 : Int32)), .val (.int (1 : Int32)), .val (.int (1 : Int32)), .unset, .unset, .unset] [(.int (0 : Int32)), (.int (2 : Int32)), (.ref b3)])) _
      refine st20 _ ?_
      show Steps p.tables e below (T20.setTop (mkF m 50 #[.val (.int p0), .val (.int (0 : Int32)), .val (.ref b3), .val (.int (1 : Int32)), .val (.int (1 : Int32)), .val (.int (1 : Int32)), .unset, .unset, .unset] [(.int (1 : Int32))])) _
      refine XS.istore X20.here hx rfl (hb hby at_50) rfl (l' := #[.val (.int p0), .val (.int (0 : Int32)), .val (.ref b3), .val (.int (1 : Int32)), .val (.int (1 : Int32)), .val (.int (1 : Int32)), .val (.int (1 : Int32)), .unset, .unset]) rfl ?_
      show Steps p.tables e below (T20.setTop (mkF m 52 #[.val (.int p0), .val (.int (0 : Int32)), .val (.ref b3), .val (.int (1 : Int32)), .val (.int (1 : Int32)), .val (.int (1 : Int32)), .val (.int (1 : Int32)), .unset, .unset] [])) _
      refine XS.aloadN X20.here hx rfl (hb hby at_52) rfl rfl ?_
      show Steps p.tables e below (T20.setTop (mkF m 53 #[.val (.int p0), .val (.int (0 : Int32)), .val (.ref b3), .val (.int (1 : Int32)), .val (.int (1 : Int32)), .val (.int (1 : Int32)), .val (.int (1 : Int32)), .unset, .unset] [(.ref b3)])) _
      refine XS.iconst X20.here hx rfl (hb hby at_53) ?_
      show Steps p.tables e below (T20.setTop (mkF m 54 #[.val (.int p0), .val (.int (0 : Int32)), .val (.ref b3), .val (.int (1 : Int32)), .val (.int (1 : Int32)), .val (.int (1 : Int32)), .val (.int (1 : Int32)), .unset, .unset] [(.int (3 : Int32)), (.ref b3)])) _
      refine XS.iloadN X20.here hx rfl (hb hby at_54) rfl ?_
      show Steps p.tables e below (T20.setTop (mkF m 55 #[.val (.int p0), .val (.int (0 : Int32)), .val (.ref b3), .val (.int (1 : Int32)), .val (.int (1 : Int32)), .val (.int (1 : Int32)), .val (.int (1 : Int32)), .unset, .unset] [(.int (0 : Int32)), (.int (3 : Int32)), (.ref b3)])) _
      refine st22 _ ?_
      show Steps p.tables e below (T22.setTop (mkF m 58 #[.val (.int p0), .val (.int (0 : Int32)), .val (.ref b3), .val (.int (1 : Int32)), .val (.int (1 : Int32)), .val (.int (1 : Int32)), .val (.int (1 : Int32)), .unset, .unset] [(.int (1 : Int32))])) _
      refine XS.istore X22.here hx rfl (hb hby at_58) rfl (l' := #[.val (.int p0), .val (.int (0 : Int32)), .val (.ref b3), .val (.int (1 : Int32)), .val (.int (1 : Int32)), .val (.int (1 : Int32)), .val (.int (1 : Int32)), .val (.int (1 : Int32)), .unset]) rfl ?_
      show Steps p.tables e below (T22.setTop (mkF m 60 #[.val (.int p0), .val (.int (0 : Int32)), .val (.ref b3), .val (.int (1 : Int32)), .val (.int (1 : Int32)), .val (.int (1 : Int32)), .val (.int (1 : Int32)), .val (.int (1 : Int32)), .unset] [])) _
      refine XS.aloadN X22.here hx rfl (hb hby at_60) rfl rfl ?_
      show Steps p.tables e below (T22.setTop (mkF m 61 #[.val (.int p0), .val (.int (0 : Int32)), .val (.ref b3), .val (.int (1 : Int32)), .val (.int (1 : Int32)), .val (.int (1 : Int32)), .val (.int (1 : Int32)), .val (.int (1 : Int32)), .unset] [(.ref b3)])) _
      refine st23.trans ?_
      show Steps p.tables e below (T23.setTop (mkF m 64 #[.val (.int p0), .val (.int (0 : Int32)), .val (.ref b3), .val (.int (1 : Int32)), .val (.int (1 : Int32)), .val (.int (1 : Int32)), .val (.int (1 : Int32)), .val (.int (1 : Int32)), .unset] [(.long (0 : Int64))])) _
      refine XS.lconst X23.here hx rfl (hb hby at_64) ?_
      show Steps p.tables e below (T23.setTop (mkF m 65 #[.val (.int p0), .val (.int (0 : Int32)), .val (.ref b3), .val (.int (1 : Int32)), .val (.int (1 : Int32)), .val (.int (1 : Int32)), .val (.int (1 : Int32)), .val (.int (1 : Int32)), .unset] [(.long (0 : Int64)), (.long (0 : Int64))])) _
      refine XS.lcmp X23.here hx rfl (hb hby at_65) rfl ?_
      show Steps p.tables e below (T23.setTop (mkF m 66 #[.val (.int p0), .val (.int (0 : Int32)), .val (.ref b3), .val (.int (1 : Int32)), .val (.int (1 : Int32)), .val (.int (1 : Int32)), .val (.int (1 : Int32)), .val (.int (1 : Int32)), .unset] [(.int (lcmpW (0 : Int64) (0 : Int64)))])) _
      refine XS.ifNo X23.here hx rfl (hb hby at_66) rfl ((if0 _ _).trans (teq ((lw_eq (0 : Int64) (0 : Int64)).mpr (by decide))).2) ?_
      show Steps p.tables e below (T23.setTop (mkF m 69 #[.val (.int p0), .val (.int (0 : Int32)), .val (.ref b3), .val (.int (1 : Int32)), .val (.int (1 : Int32)), .val (.int (1 : Int32)), .val (.int (1 : Int32)), .val (.int (1 : Int32)), .unset] [])) _
      refine XS.aloadN X23.here hx rfl (hb hby at_69) rfl rfl ?_
      show Steps p.tables e below (T23.setTop (mkF m 70 #[.val (.int p0), .val (.int (0 : Int32)), .val (.ref b3), .val (.int (1 : Int32)), .val (.int (1 : Int32)), .val (.int (1 : Int32)), .val (.int (1 : Int32)), .val (.int (1 : Int32)), .unset] [(.ref b3)])) _
      refine st24.trans ?_
      show Steps p.tables e below (T24.setTop (mkF m 73 #[.val (.int p0), .val (.int (0 : Int32)), .val (.ref b3), .val (.int (1 : Int32)), .val (.int (1 : Int32)), .val (.int (1 : Int32)), .val (.int (1 : Int32)), .val (.int (1 : Int32)), .unset] [(.long (0 : Int64))])) _
      refine XS.lconst X24.here hx rfl (hb hby at_73) ?_
      show Steps p.tables e below (T24.setTop (mkF m 74 #[.val (.int p0), .val (.int (0 : Int32)), .val (.ref b3), .val (.int (1 : Int32)), .val (.int (1 : Int32)), .val (.int (1 : Int32)), .val (.int (1 : Int32)), .val (.int (1 : Int32)), .unset] [(.long (0 : Int64)), (.long (0 : Int64))])) _
      refine XS.lcmp X24.here hx rfl (hb hby at_74) rfl ?_
      show Steps p.tables e below (T24.setTop (mkF m 75 #[.val (.int p0), .val (.int (0 : Int32)), .val (.ref b3), .val (.int (1 : Int32)), .val (.int (1 : Int32)), .val (.int (1 : Int32)), .val (.int (1 : Int32)), .val (.int (1 : Int32)), .unset] [(.int (lcmpW (0 : Int64) (0 : Int64)))])) _
      refine XS.ifNo X24.here hx rfl (hb hby at_75) rfl ((if0 _ _).trans (teq ((lw_eq (0 : Int64) (0 : Int64)).mpr (by decide))).2) ?_
      show Steps p.tables e below (T24.setTop (mkF m 78 #[.val (.int p0), .val (.int (0 : Int32)), .val (.ref b3), .val (.int (1 : Int32)), .val (.int (1 : Int32)), .val (.int (1 : Int32)), .val (.int (1 : Int32)), .val (.int (1 : Int32)), .unset] [])) _
      refine XS.iconst X24.here hx rfl (hb hby at_78) ?_
      show Steps p.tables e below (T24.setTop (mkF m 79 #[.val (.int p0), .val (.int (0 : Int32)), .val (.ref b3), .val (.int (1 : Int32)), .val (.int (1 : Int32)), .val (.int (1 : Int32)), .val (.int (1 : Int32)), .val (.int (1 : Int32)), .unset] [(.int (1 : Int32))])) _
      refine XS.goto X24.here hx rfl (pc0 := 79) (pc' := 83) rfl (hb hby at_79) (by decide) (by decide) ?_
      show Steps p.tables e below (T24.setTop (mkF m 83 #[.val (.int p0), .val (.int (0 : Int32)), .val (.ref b3), .val (.int (1 : Int32)), .val (.int (1 : Int32)), .val (.int (1 : Int32)), .val (.int (1 : Int32)), .val (.int (1 : Int32)), .unset] [(.int (1 : Int32))])) _
      refine XS.istore X24.here hx rfl (hb hby at_83) rfl (l' := #[.val (.int p0), .val (.int (0 : Int32)), .val (.ref b3), .val (.int (1 : Int32)), .val (.int (1 : Int32)), .val (.int (1 : Int32)), .val (.int (1 : Int32)), .val (.int (1 : Int32)), .val (.int (1 : Int32))]) rfl ?_
      show Steps p.tables e below (T24.setTop (mkF m 85 #[.val (.int p0), .val (.int (0 : Int32)), .val (.ref b3), .val (.int (1 : Int32)), .val (.int (1 : Int32)), .val (.int (1 : Int32)), .val (.int (1 : Int32)), .val (.int (1 : Int32)), .val (.int (1 : Int32))] [])) _
      refine XS.iloadN X24.here hx rfl (hb hby at_85) rfl ?_
      show Steps p.tables e below (T24.setTop (mkF m 86 #[.val (.int p0), .val (.int (0 : Int32)), .val (.ref b3), .val (.int (1 : Int32)), .val (.int (1 : Int32)), .val (.int (1 : Int32)), .val (.int (1 : Int32)), .val (.int (1 : Int32)), .val (.int (1 : Int32))] [(.int (1 : Int32))])) _
      refine XS.ifNo X24.here hx rfl (hb hby at_86) rfl ((if0 _ _).trans (feq (by decide)).1) ?_
      show Steps p.tables e below (T24.setTop (mkF m 89 #[.val (.int p0), .val (.int (0 : Int32)), .val (.ref b3), .val (.int (1 : Int32)), .val (.int (1 : Int32)), .val (.int (1 : Int32)), .val (.int (1 : Int32)), .val (.int (1 : Int32)), .val (.int (1 : Int32))] [])) _
      refine XS.iload X24.here hx rfl (hb hby at_89) rfl ?_
      show Steps p.tables e below (T24.setTop (mkF m 91 #[.val (.int p0), .val (.int (0 : Int32)), .val (.ref b3), .val (.int (1 : Int32)), .val (.int (1 : Int32)), .val (.int (1 : Int32)), .val (.int (1 : Int32)), .val (.int (1 : Int32)), .val (.int (1 : Int32))] [(.int (1 : Int32))])) _
      refine XS.ifNo X24.here hx rfl (hb hby at_91) rfl ((if0 _ _).trans (feq (by decide)).1) ?_
      show Steps p.tables e below (T24.setTop (mkF m 94 #[.val (.int p0), .val (.int (0 : Int32)), .val (.ref b3), .val (.int (1 : Int32)), .val (.int (1 : Int32)), .val (.int (1 : Int32)), .val (.int (1 : Int32)), .val (.int (1 : Int32)), .val (.int (1 : Int32))] [])) _
      refine XS.iload X24.here hx rfl (hb hby at_94) rfl ?_
      show Steps p.tables e below (T24.setTop (mkF m 96 #[.val (.int p0), .val (.int (0 : Int32)), .val (.ref b3), .val (.int (1 : Int32)), .val (.int (1 : Int32)), .val (.int (1 : Int32)), .val (.int (1 : Int32)), .val (.int (1 : Int32)), .val (.int (1 : Int32))] [(.int (1 : Int32))])) _
      refine XS.ifNo X24.here hx rfl (hb hby at_96) rfl ((if0 _ _).trans (feq (by decide)).1) ?_
      show Steps p.tables e below (T24.setTop (mkF m 99 #[.val (.int p0), .val (.int (0 : Int32)), .val (.ref b3), .val (.int (1 : Int32)), .val (.int (1 : Int32)), .val (.int (1 : Int32)), .val (.int (1 : Int32)), .val (.int (1 : Int32)), .val (.int (1 : Int32))] [])) _
      refine XS.iload X24.here hx rfl (hb hby at_99) rfl ?_
      show Steps p.tables e below (T24.setTop (mkF m 101 #[.val (.int p0), .val (.int (0 : Int32)), .val (.ref b3), .val (.int (1 : Int32)), .val (.int (1 : Int32)), .val (.int (1 : Int32)), .val (.int (1 : Int32)), .val (.int (1 : Int32)), .val (.int (1 : Int32))] [(.int (1 : Int32))])) _
      refine XS.ifNo X24.here hx rfl (hb hby at_101) rfl ((if0 _ _).trans (feq (by decide)).1) ?_
      show Steps p.tables e below (T24.setTop (mkF m 104 #[.val (.int p0), .val (.int (0 : Int32)), .val (.ref b3), .val (.int (1 : Int32)), .val (.int (1 : Int32)), .val (.int (1 : Int32)), .val (.int (1 : Int32)), .val (.int (1 : Int32)), .val (.int (1 : Int32))] [])) _
      refine XS.iload X24.here hx rfl (hb hby at_104) rfl ?_
      show Steps p.tables e below (T24.setTop (mkF m 106 #[.val (.int p0), .val (.int (0 : Int32)), .val (.ref b3), .val (.int (1 : Int32)), .val (.int (1 : Int32)), .val (.int (1 : Int32)), .val (.int (1 : Int32)), .val (.int (1 : Int32)), .val (.int (1 : Int32))] [(.int (1 : Int32))])) _
      refine XS.ifNo X24.here hx rfl (hb hby at_106) rfl ((if0 _ _).trans (feq (by decide)).1) ?_
      show Steps p.tables e below (T24.setTop (mkF m 109 #[.val (.int p0), .val (.int (0 : Int32)), .val (.ref b3), .val (.int (1 : Int32)), .val (.int (1 : Int32)), .val (.int (1 : Int32)), .val (.int (1 : Int32)), .val (.int (1 : Int32)), .val (.int (1 : Int32))] [])) _
      refine XS.iload X24.here hx rfl (hb hby at_109) rfl ?_
      show Steps p.tables e below (T24.setTop (mkF m 111 #[.val (.int p0), .val (.int (0 : Int32)), .val (.ref b3), .val (.int (1 : Int32)), .val (.int (1 : Int32)), .val (.int (1 : Int32)), .val (.int (1 : Int32)), .val (.int (1 : Int32)), .val (.int (1 : Int32))] [(.int (1 : Int32))])) _
      refine XS.ifNo X24.here hx rfl (hb hby at_111) rfl ((if0 _ _).trans (feq (by decide)).1) ?_
      show Steps p.tables e below (T24.setTop (mkF m 114 #[.val (.int p0), .val (.int (0 : Int32)), .val (.ref b3), .val (.int (1 : Int32)), .val (.int (1 : Int32)), .val (.int (1 : Int32)), .val (.int (1 : Int32)), .val (.int (1 : Int32)), .val (.int (1 : Int32))] [])) _
      refine XS.aloadN X24.here hx rfl (hb hby at_114) rfl rfl ?_
      show Steps p.tables e below (T24.setTop (mkF m 115 #[.val (.int p0), .val (.int (0 : Int32)), .val (.ref b3), .val (.int (1 : Int32)), .val (.int (1 : Int32)), .val (.int (1 : Int32)), .val (.int (1 : Int32)), .val (.int (1 : Int32)), .val (.int (1 : Int32))] [(.ref b3)])) _
      refine st25.trans ?_
      show Steps p.tables e below (T25.setTop (mkF m 118 #[.val (.int p0), .val (.int (0 : Int32)), .val (.ref b3), .val (.int (1 : Int32)), .val (.int (1 : Int32)), .val (.int (1 : Int32)), .val (.int (1 : Int32)), .val (.int (1 : Int32)), .val (.int (1 : Int32))] [(.int (0 : Int32))])) _
      refine XS.iloadN X25.here hx rfl (hb hby at_118) rfl ?_
      show Steps p.tables e below (T25.setTop (mkF m 119 #[.val (.int p0), .val (.int (0 : Int32)), .val (.ref b3), .val (.int (1 : Int32)), .val (.int (1 : Int32)), .val (.int (1 : Int32)), .val (.int (1 : Int32)), .val (.int (1 : Int32)), .val (.int (1 : Int32))] [(.int (0 : Int32)), (.int (0 : Int32))])) _
      refine XS.icmpNo X25.here hx rfl (hb hby at_119) rfl (teq (by decide)).2 ?_
      show Steps p.tables e below (T25.setTop (mkF m 122 #[.val (.int p0), .val (.int (0 : Int32)), .val (.ref b3), .val (.int (1 : Int32)), .val (.int (1 : Int32)), .val (.int (1 : Int32)), .val (.int (1 : Int32)), .val (.int (1 : Int32)), .val (.int (1 : Int32))] [])) _
      refine XS.iconst X25.here hx rfl (hb hby at_122) ?_
      show Steps p.tables e below (T25.setTop (mkF m 123 #[.val (.int p0), .val (.int (0 : Int32)), .val (.ref b3), .val (.int (1 : Int32)), .val (.int (1 : Int32)), .val (.int (1 : Int32)), .val (.int (1 : Int32)), .val (.int (1 : Int32)), .val (.int (1 : Int32))] [(.int (1 : Int32))])) _
      refine XS.goto X25.here hx rfl (pc0 := 123) (pc' := 127) rfl (hb hby at_123) (by decide) (by decide) ?_
      show Steps p.tables e below (T25.setTop (mkF m 127 #[.val (.int p0), .val (.int (0 : Int32)), .val (.ref b3), .val (.int (1 : Int32)), .val (.int (1 : Int32)), .val (.int (1 : Int32)), .val (.int (1 : Int32)), .val (.int (1 : Int32)), .val (.int (1 : Int32))] [(.int (1 : Int32))])) _
      exact retN X25 hx (t := .boolean) Bd.returns (by simp) (hb hby at_127) hr
    · show Q0 h0 n0 _ T25.heap _
      exact ⟨rfl, N25⟩
  · subst hk
    obtain ⟨T26, h26, X26, e26, E26, A26, D26, -, st26⟩ := newO X0 hx hZ hown (hw _ (List.mem_of_getElem? (i := 1) rfl)) (hw _ (List.mem_of_getElem? (i := 2) rfl)) (hw _ (List.mem_of_getElem? (i := 3) rfl)) e0 (g := (mkF m 7 #[.val (.int p0), .val (.int (1 : Int32)), .unset, .unset, .unset, .unset, .unset, .unset, .unset] [])) rfl (hb hby at_7) (by decide) (by decide)
    obtain ⟨b26, g26⟩ : ∃ z, z = h0.size := ⟨_, rfl⟩
    rw [← g26] at A26 D26 st26
    have nw_b26 : n0 ≤ b26 := Nat.le_trans (Nat.le_trans Z0 (Keep.refl h0 []).1) (Nat.le_of_eq g26.symm)
    have sz_b26 : h0.size ≤ b26 := Nat.le_trans (Keep.refl h0 []).1 (Nat.le_of_eq g26.symm)
    have K26 : Keep h0 h26 [] := (Keep.refl h0 []).ext E26
    have F_sorts_b26 : Fld Z h26 b26 "com/example/psilattice/psilattice/lang/WrittenGraph" "sorts" "Ljava/util/List;" .null := D26 (Or.inr (hw _ (List.mem_of_getElem? (i := 35) rfl))) (ty := (.object "java/util/List")) (by decide)
    have F_edges_b26 : Fld Z h26 b26 "com/example/psilattice/psilattice/lang/WrittenGraph" "edges" "Ljava/util/List;" .null := D26 (Or.inr (hw _ (List.mem_of_getElem? (i := 37) rfl))) (ty := (.object "java/util/List")) (by decide)
    have F_uses_b26 : Fld Z h26 b26 "com/example/psilattice/psilattice/lang/WrittenGraph" "uses" "Ljava/util/List;" .null := D26 (Or.inr (hw _ (List.mem_of_getElem? (i := 39) rfl))) (ty := (.object "java/util/List")) (by decide)
    have F_nodes_b26 : Fld Z h26 b26 "com/example/psilattice/psilattice/lang/WrittenGraph" "nodes" "I" (.int (0 : Int32)) := D26 (Or.inl (hw _ (List.mem_of_getElem? (i := 46) rfl))) (ty := .int) (by decide)
    have F_copiedNodes_b26 : Fld Z h26 b26 "com/example/psilattice/psilattice/lang/WrittenGraph" "copiedNodes" "J" (.long (0 : Int64)) := D26 (Or.inl (hw _ (List.mem_of_getElem? (i := 57) rfl))) (ty := .long) (by decide)
    have F_copies_b26 : Fld Z h26 b26 "com/example/psilattice/psilattice/lang/WrittenGraph" "copies" "J" (.long (0 : Int64)) := D26 (Or.inl (hw _ (List.mem_of_getElem? (i := 64) rfl))) (ty := .long) (by decide)
    have G27 : SO Z n0 h26 "java/util/ArrayList" "DEFAULTCAPACITY_EMPTY_ELEMENTDATA" "[Ljava/lang/Object;" s_DEFAULTCAPACITY_EMPTY_ELEMENTDATA := (S_DEFAULTCAPACITY_EMPTY_ELEMENTDATA.ext E26)
    have hp28 : s_DEFAULTCAPACITY_EMPTY_ELEMENTDATA.isRef = true := rf_s_DEFAULTCAPACITY_EMPTY_ELEMENTDATA
    obtain ⟨_, _, ⟨T29, L29, k29, n29⟩, -, X29, ⟨Lc29, hQ29, l29, y29, z29⟩, st29⟩ := X26.specialBack hx (y := (⟨"com/example/psilattice/psilattice/lang/WrittenGraph", "<init>", "()V"⟩ : MethodName)) rfl hown (mvT hZ (hw _ (List.mem_of_getElem? (i := 4) rfl))) (mvT hZ (hw _ (List.mem_of_getElem? (i := 5) rfl))) (mvT hZ (hw _ (List.mem_of_getElem? (i := 6) rfl))) (by decide) (backOf (W := 1) (rm1 l Z A0 hw [] b26 .null .null .null (0 : Int32) (0 : Int64) (0 : Int64) s_DEFAULTCAPACITY_EMPTY_ELEMENTDATA h26 n0 (Nat.le_trans Z0 K26.1) A26 F_sorts_b26 F_edges_b26 F_uses_b26 F_nodes_b26 F_copiedNodes_b26 F_copies_b26 G27 nw_b26 hp28) hZ (hw _ (List.mem_of_getElem? (i := 6) rfl)) (hw _ (List.mem_of_getElem? (i := 3) rfl)) (by decide) (by decide)) (g := (mkF m 11 #[.val (.int p0), .val (.int (1 : Int32)), .unset, .unset, .unset, .unset, .unset, .unset, .unset] [(.ref b26), (.ref b26)])) rfl (by rw [hml]; rfl) (Steps.refl _) (a := b26) (argsL := []) (rest := [(.ref b26)]) (lenOf pd_0 rfl) rfl (by show 2 * 0 + _ ≤ _; exact Nat.le_of_eq rfl) (hb hby at_11) (fun _ _ => ⟨rfl, e26, (by decide : 1 + 3 ≤ _), (by decide : 6 + 9 ≤ _)⟩)
    dsimp only [Pt.U, Pt.locs, Pt.cells, Pt.slots] at X29 l29 y29 z29 st29 hQ29
    subst l29 y29 z29
    obtain ⟨b29_b2, b29_b12, b29_b24, rfl, N29q, Kc29, szb29_b2, szb29_b12, szb29_b24, ne_b29_b2_b29_b12, ne_b29_b2_b29_b24, ne_b29_b12_b29_b24, P30, P31, P32, P33, P34, P35, P36⟩ := hQ29
    have ne_b26_b29_b2 : b26 ≠ b29_b2 := Nat.ne_of_lt (Nat.lt_of_lt_of_le A26.lt szb29_b2)
    have ne_b26_b29_b12 : b26 ≠ b29_b12 := Nat.ne_of_lt (Nat.lt_of_lt_of_le A26.lt szb29_b12)
    have ne_b26_b29_b24 : b26 ≠ b29_b24 := Nat.ne_of_lt (Nat.lt_of_lt_of_le A26.lt szb29_b24)
    have nw_b29_b2 : n0 ≤ b29_b2 := Nat.le_trans (Nat.le_trans Z0 K26.1) szb29_b2
    have sq_b29_b2 : h0.size ≤ b29_b2 := Nat.le_trans K26.1 szb29_b2
    have nw_b29_b12 : n0 ≤ b29_b12 := Nat.le_trans (Nat.le_trans Z0 K26.1) szb29_b12
    have sq_b29_b12 : h0.size ≤ b29_b12 := Nat.le_trans K26.1 szb29_b12
    have nw_b29_b24 : n0 ≤ b29_b24 := Nat.le_trans (Nat.le_trans Z0 K26.1) szb29_b24
    have sq_b29_b24 : h0.size ≤ b29_b24 := Nat.le_trans K26.1 szb29_b24
    have K29 : Keep h0 T29.heap [] := K26.trans Kc29 (allS (Or.inr sz_b26) all0)
    have N29 := Fr.app N0 N29q
    obtain ⟨cq37, kq37, q37a, q37b, q37c⟩ := isOf hZ rfl P30
    obtain ⟨_, _, ⟨T37, L37, k37, n37⟩, -, X37, ⟨Lc37, hQ37, l37, y37, z37⟩, st37⟩ := X29.virtualBack hx (y := (⟨"com/example/psilattice/psilattice/lang/WrittenGraph", "size", "()I"⟩ : MethodName)) (z := (⟨"com/example/psilattice/psilattice/lang/WrittenGraph", "size", "()I"⟩ : MethodName)) hown (mvT hZ (hw _ (List.mem_of_getElem? (i := 40) rfl))) (mvT hZ (hw _ (List.mem_of_getElem? (i := 41) rfl))) (notFace_of_selects (args := #[]) (mvT hZ (hw _ (List.mem_of_getElem? (i := 43) rfl)))) (mvT hZ (hw _ (List.mem_of_getElem? (i := 43) rfl))) (mvT hZ (hw _ (List.mem_of_getElem? (i := 42) rfl))) (by decide) (backOf (W := 0) (rm6 l Z A0 hw [] b26 (.ref b29_b2) (.ref b29_b12) (.ref b29_b24) (0 : Int32) (0 : Int64) (0 : Int64) T29.heap n0 (Nat.le_trans Z0 K29.1) P30 P31 P32 P33 P34 P35 P36) hZ (hw _ (List.mem_of_getElem? (i := 44) rfl)) (hw _ (List.mem_of_getElem? (i := 3) rfl)) (by decide) (by decide)) q37a q37c (g := (mkF m 16 #[.val (.int p0), .val (.int (1 : Int32)), .val (.ref b26), .unset, .unset, .unset, .unset, .unset, .unset] [(.ref b26)])) rfl (by rw [hml]; rfl) (Steps.refl _) (argsL := []) (rest := []) (lenOf pd_1 rfl) rfl (by show 2 * 0 + _ ≤ _; exact Nat.le_of_eq rfl) (hb hby at_16) (fun _ _ => ⟨rfl, rfl, (by decide : 4 + 0 ≤ _), (by decide : 15 + 0 ≤ _)⟩)
    dsimp only [Pt.U, Pt.locs, Pt.cells, Pt.slots] at X37 l37 y37 z37 st37 hQ37
    subst l37 y37 z37
    obtain ⟨rfl, N37q, e37⟩ := hQ37
    have N37 := Fr.app N29 N37q
    have hp38 : (0 : Int32) < (1 : Int32) := (by decide)
    obtain ⟨_, _, ⟨T39, L39, k39, n39⟩, -, X39, ⟨Lc39, hQ39, l39, y39, z39⟩, st39⟩ := Jvm.LawKit.callS X37 hx (y := (⟨"com/example/psilattice/psilattice/lang/WrittenGraphNodePinLaw", "step", "(Lcom/example/psilattice/psilattice/lang/WrittenGraph;II)Z"⟩ : MethodName)) hown (mvT hZ (hw _ (List.mem_of_getElem? (i := 47) rfl))) (mvT hZ (hw _ (List.mem_of_getElem? (i := 48) rfl))) (mvT hZ (hw _ (List.mem_of_getElem? (i := 49) rfl))) (mvT hZ (hw _ (List.mem_of_getElem? (i := 50) rfl))) (by decide) (backOf (W := 0) (rm7b l Z A0 hw [] b26 (0 : Int32) (1 : Int32) (.ref b29_b2) (.ref b29_b12) (.ref b29_b24) (0 : Int32) (0 : Int64) (0 : Int64) T29.heap n0 (Nat.le_trans Z0 K29.1) P30 P31 P32 P33 P34 P35 P36 nw_b26 hp38) hZ (hw _ (List.mem_of_getElem? (i := 50) rfl)) (hw _ (List.mem_of_getElem? (i := 49) rfl)) (by decide) (by decide)) (g := (mkF m 31 #[.val (.int p0), .val (.int (1 : Int32)), .val (.ref b26), .val (.int (1 : Int32)), .unset, .unset, .unset, .unset, .unset] [(.int (1 : Int32)), (.int (0 : Int32)), (.ref b26)])) rfl (by rw [hml]; rfl) (argsL := [(.ref b26), (.int (0 : Int32)), (.int (1 : Int32))]) (rest := []) (lenOf pd_2 rfl) rfl (by show 2 * 0 + _ ≤ _; exact Nat.le_of_eq rfl) (hb hby at_31) (fun _ _ => ⟨rfl, e37, (by decide : 4 + 0 ≤ _), (by decide : 15 + 0 ≤ _)⟩)
    dsimp only [Pt.U, Pt.locs, Pt.cells, Pt.slots] at X39 l39 y39 z39 st39 hQ39
    subst l39 y39 z39
    obtain ⟨rfl, N39q, Kc39, P40, P41, P42, P43, P44, P45, P46⟩ := hQ39
    have K39 : Keep h0 T39.heap [] := K29.trans Kc39 (allS (Or.inr sz_b26) all0)
    have N39 := Fr.app N37 N39q
    obtain ⟨v47, hv47⟩ : ∃ z : Int32, z = (nar .boolean (if (0 : Int32) = (0 : Int32) then (if ((0 : Int32) + (1 : Int32)) = ((0 : Int32) + (1 : Int32)) then (1 : Int32) else (0 : Int32)) else (0 : Int32))) := ⟨_, rfl⟩
    have hp48 : ¬ ((1 : Int32) < (1 : Int32)) := (by decide)
    obtain ⟨_, _, ⟨T49, L49, k49, n49⟩, -, X49, ⟨Lc49, hQ49, l49, y49, z49⟩, st49⟩ := Jvm.LawKit.callS X39 hx (y := (⟨"com/example/psilattice/psilattice/lang/WrittenGraphNodePinLaw", "step", "(Lcom/example/psilattice/psilattice/lang/WrittenGraph;II)Z"⟩ : MethodName)) hown (mvT hZ (hw _ (List.mem_of_getElem? (i := 47) rfl))) (mvT hZ (hw _ (List.mem_of_getElem? (i := 48) rfl))) (mvT hZ (hw _ (List.mem_of_getElem? (i := 49) rfl))) (mvT hZ (hw _ (List.mem_of_getElem? (i := 50) rfl))) (by decide) (backOf (W := 0) (rm7a l Z A0 hw [] b26 (1 : Int32) (1 : Int32) T39.heap n0 (Nat.le_trans Z0 K39.1) hp48) hZ (hw _ (List.mem_of_getElem? (i := 50) rfl)) (hw _ (List.mem_of_getElem? (i := 49) rfl)) (by decide) (by decide)) (g := (mkF m 39 #[.val (.int p0), .val (.int (1 : Int32)), .val (.ref b26), .val (.int (1 : Int32)), .val (.int v47), .unset, .unset, .unset, .unset] [(.int (1 : Int32)), (.int (1 : Int32)), (.ref b26)])) rfl (by rw [hml]; rfl) (argsL := [(.ref b26), (.int (1 : Int32)), (.int (1 : Int32))]) (rest := []) (lenOf pd_2 rfl) rfl (by show 2 * 0 + _ ≤ _; exact Nat.le_of_eq rfl) (hb hby at_39) (fun _ _ => ⟨rfl, rfl, (by decide : 4 + 0 ≤ _), (by decide : 15 + 0 ≤ _)⟩)
    dsimp only [Pt.U, Pt.locs, Pt.cells, Pt.slots] at X49 l49 y49 z49 st49 hQ49
    subst l49 y49 z49
    obtain ⟨rfl, N49q, e49⟩ := hQ49
    have N49 := Fr.app N39 N49q
    have hp50 : ¬ ((2 : Int32) < (1 : Int32)) := (by decide)
    obtain ⟨_, _, ⟨T51, L51, k51, n51⟩, -, X51, ⟨Lc51, hQ51, l51, y51, z51⟩, st51⟩ := Jvm.LawKit.callS X49 hx (y := (⟨"com/example/psilattice/psilattice/lang/WrittenGraphNodePinLaw", "step", "(Lcom/example/psilattice/psilattice/lang/WrittenGraph;II)Z"⟩ : MethodName)) hown (mvT hZ (hw _ (List.mem_of_getElem? (i := 47) rfl))) (mvT hZ (hw _ (List.mem_of_getElem? (i := 48) rfl))) (mvT hZ (hw _ (List.mem_of_getElem? (i := 49) rfl))) (mvT hZ (hw _ (List.mem_of_getElem? (i := 50) rfl))) (by decide) (backOf (W := 0) (rm7a l Z A0 hw [] b26 (2 : Int32) (1 : Int32) T39.heap n0 (Nat.le_trans Z0 K39.1) hp50) hZ (hw _ (List.mem_of_getElem? (i := 50) rfl)) (hw _ (List.mem_of_getElem? (i := 49) rfl)) (by decide) (by decide)) (g := (mkF m 47 #[.val (.int p0), .val (.int (1 : Int32)), .val (.ref b26), .val (.int (1 : Int32)), .val (.int v47), .val (.int (1 : Int32)), .unset, .unset, .unset] [(.int (1 : Int32)), (.int (2 : Int32)), (.ref b26)])) rfl (by rw [hml]; rfl) (argsL := [(.ref b26), (.int (2 : Int32)), (.int (1 : Int32))]) (rest := []) (lenOf pd_2 rfl) rfl (by show 2 * 0 + _ ≤ _; exact Nat.le_of_eq rfl) (hb hby at_47) (fun _ _ => ⟨rfl, e49, (by decide : 4 + 0 ≤ _), (by decide : 15 + 0 ≤ _)⟩)
    dsimp only [Pt.U, Pt.locs, Pt.cells, Pt.slots] at X51 l51 y51 z51 st51 hQ51
    subst l51 y51 z51
    obtain ⟨rfl, N51q, e51⟩ := hQ51
    have N51 := Fr.app N49 N51q
    have hp52 : ¬ ((3 : Int32) < (1 : Int32)) := (by decide)
    obtain ⟨_, _, ⟨T53, L53, k53, n53⟩, -, X53, ⟨Lc53, hQ53, l53, y53, z53⟩, st53⟩ := Jvm.LawKit.callS X51 hx (y := (⟨"com/example/psilattice/psilattice/lang/WrittenGraphNodePinLaw", "step", "(Lcom/example/psilattice/psilattice/lang/WrittenGraph;II)Z"⟩ : MethodName)) hown (mvT hZ (hw _ (List.mem_of_getElem? (i := 47) rfl))) (mvT hZ (hw _ (List.mem_of_getElem? (i := 48) rfl))) (mvT hZ (hw _ (List.mem_of_getElem? (i := 49) rfl))) (mvT hZ (hw _ (List.mem_of_getElem? (i := 50) rfl))) (by decide) (backOf (W := 0) (rm7a l Z A0 hw [] b26 (3 : Int32) (1 : Int32) T39.heap n0 (Nat.le_trans Z0 K39.1) hp52) hZ (hw _ (List.mem_of_getElem? (i := 50) rfl)) (hw _ (List.mem_of_getElem? (i := 49) rfl)) (by decide) (by decide)) (g := (mkF m 55 #[.val (.int p0), .val (.int (1 : Int32)), .val (.ref b26), .val (.int (1 : Int32)), .val (.int v47), .val (.int (1 : Int32)), .val (.int (1 : Int32)), .unset, .unset] [(.int (1 : Int32)), (.int (3 : Int32)), (.ref b26)])) rfl (by rw [hml]; rfl) (argsL := [(.ref b26), (.int (3 : Int32)), (.int (1 : Int32))]) (rest := []) (lenOf pd_2 rfl) rfl (by show 2 * 0 + _ ≤ _; exact Nat.le_of_eq rfl) (hb hby at_55) (fun _ _ => ⟨rfl, e51, (by decide : 4 + 0 ≤ _), (by decide : 15 + 0 ≤ _)⟩)
    dsimp only [Pt.U, Pt.locs, Pt.cells, Pt.slots] at X53 l53 y53 z53 st53 hQ53
    subst l53 y53 z53
    obtain ⟨rfl, N53q, e53⟩ := hQ53
    have N53 := Fr.app N51 N53q
    obtain ⟨cq54, kq54, q54a, q54b, q54c⟩ := isOf hZ e53 P40
    obtain ⟨_, _, ⟨T54, L54, k54, n54⟩, -, X54, ⟨Lc54, hQ54, l54, y54, z54⟩, st54⟩ := X53.virtualBack hx (y := (⟨"com/example/psilattice/psilattice/lang/WrittenGraph", "copiedNodes", "()J"⟩ : MethodName)) (z := (⟨"com/example/psilattice/psilattice/lang/WrittenGraph", "copiedNodes", "()J"⟩ : MethodName)) hown (mvT hZ (hw _ (List.mem_of_getElem? (i := 51) rfl))) (mvT hZ (hw _ (List.mem_of_getElem? (i := 52) rfl))) (notFace_of_selects (args := #[]) (mvT hZ (hw _ (List.mem_of_getElem? (i := 54) rfl)))) (mvT hZ (hw _ (List.mem_of_getElem? (i := 54) rfl))) (mvT hZ (hw _ (List.mem_of_getElem? (i := 53) rfl))) (by decide) (backOf (W := 0) (rm8 l Z A0 hw [] b26 (.ref b29_b2) (.ref b29_b12) (.ref b29_b24) ((0 : Int32) + (1 : Int32)) (0 : Int64) (0 : Int64) T39.heap n0 (Nat.le_trans Z0 K39.1) P40 P41 P42 P43 P44 P45 P46) hZ (hw _ (List.mem_of_getElem? (i := 55) rfl)) (hw _ (List.mem_of_getElem? (i := 3) rfl)) (by decide) (by decide)) q54a q54c (g := (mkF m 61 #[.val (.int p0), .val (.int (1 : Int32)), .val (.ref b26), .val (.int (1 : Int32)), .val (.int v47), .val (.int (1 : Int32)), .val (.int (1 : Int32)), .val (.int (1 : Int32)), .unset] [(.ref b26)])) rfl (by rw [hml]; rfl) (Steps.refl _) (argsL := []) (rest := []) (lenOf pd_3 rfl) rfl (by show 2 * 0 + _ ≤ _; exact Nat.le_of_eq rfl) (hb hby at_61) (fun _ _ => ⟨rfl, e53, (by decide : 4 + 0 ≤ _), (by decide : 15 + 0 ≤ _)⟩)
    dsimp only [Pt.U, Pt.locs, Pt.cells, Pt.slots] at X54 l54 y54 z54 st54 hQ54
    subst l54 y54 z54
    obtain ⟨rfl, N54q, e54⟩ := hQ54
    have N54 := Fr.app N53 N54q
    obtain ⟨cq55, kq55, q55a, q55b, q55c⟩ := isOf hZ e54 P40
    obtain ⟨_, _, ⟨T55, L55, k55, n55⟩, -, X55, ⟨Lc55, hQ55, l55, y55, z55⟩, st55⟩ := X54.virtualBack hx (y := (⟨"com/example/psilattice/psilattice/lang/WrittenGraph", "copies", "()J"⟩ : MethodName)) (z := (⟨"com/example/psilattice/psilattice/lang/WrittenGraph", "copies", "()J"⟩ : MethodName)) hown (mvT hZ (hw _ (List.mem_of_getElem? (i := 58) rfl))) (mvT hZ (hw _ (List.mem_of_getElem? (i := 59) rfl))) (notFace_of_selects (args := #[]) (mvT hZ (hw _ (List.mem_of_getElem? (i := 61) rfl)))) (mvT hZ (hw _ (List.mem_of_getElem? (i := 61) rfl))) (mvT hZ (hw _ (List.mem_of_getElem? (i := 60) rfl))) (by decide) (backOf (W := 0) (rm9 l Z A0 hw [] b26 (.ref b29_b2) (.ref b29_b12) (.ref b29_b24) ((0 : Int32) + (1 : Int32)) (0 : Int64) (0 : Int64) T39.heap n0 (Nat.le_trans Z0 K39.1) P40 P41 P42 P43 P44 P45 P46) hZ (hw _ (List.mem_of_getElem? (i := 62) rfl)) (hw _ (List.mem_of_getElem? (i := 3) rfl)) (by decide) (by decide)) q55a q55c (g := (mkF m 70 #[.val (.int p0), .val (.int (1 : Int32)), .val (.ref b26), .val (.int (1 : Int32)), .val (.int v47), .val (.int (1 : Int32)), .val (.int (1 : Int32)), .val (.int (1 : Int32)), .unset] [(.ref b26)])) rfl (by rw [hml]; rfl) (Steps.refl _) (argsL := []) (rest := []) (lenOf pd_3 rfl) rfl (by show 2 * 0 + _ ≤ _; exact Nat.le_of_eq rfl) (hb hby at_70) (fun _ _ => ⟨rfl, e54, (by decide : 4 + 0 ≤ _), (by decide : 15 + 0 ≤ _)⟩)
    dsimp only [Pt.U, Pt.locs, Pt.cells, Pt.slots] at X55 l55 y55 z55 st55 hQ55
    subst l55 y55 z55
    obtain ⟨rfl, N55q, e55⟩ := hQ55
    have N55 := Fr.app N54 N55q
    obtain ⟨v61, hv61⟩ : ∃ z : Int32, z = if v47 = (0 : Int32) then (0 : Int32) else (if ((0 : Int32) + (1 : Int32)) = (1 : Int32) then (1 : Int32) else (0 : Int32)) := ⟨_, rfl⟩
    obtain ⟨T62, L62, X62, N62, e62, st62⟩ : ∃ (T' : State) (L' : List Loc), Stand p l e room_1 s m #[(.int p0)] below meth c T' L' 4 15 ∧ Fr n0 L' ∧ T'.heap = T39.heap ∧ ∀ target, Steps p.tables e below (T'.setTop (mkF m 127 #[.val (.int p0), .val (.int (1 : Int32)), .val (.ref b26), .val (.int (1 : Int32)), .val (.int v47), .val (.int (1 : Int32)), .val (.int (1 : Int32)), .val (.int (1 : Int32)), .val (.int (1 : Int32))] [(.int v61)])) target → Steps p.tables e below (T55.setTop (mkF m 91 #[.val (.int p0), .val (.int (1 : Int32)), .val (.ref b26), .val (.int (1 : Int32)), .val (.int v47), .val (.int (1 : Int32)), .val (.int (1 : Int32)), .val (.int (1 : Int32)), .val (.int (1 : Int32))] [(.int v47)])) target := by
      by_cases hc57 : v47 = (0 : Int32)
      · refine ⟨T55, _, X55, N55, e55, fun target kt => ?_⟩
        show Steps p.tables e below (T55.setTop (mkF m 91 #[.val (.int p0), .val (.int (1 : Int32)), .val (.ref b26), .val (.int (1 : Int32)), .val (.int v47), .val (.int (1 : Int32)), .val (.int (1 : Int32)), .val (.int (1 : Int32)), .val (.int (1 : Int32))] [(.int v47)])) _
        refine XS.ifYes X55.here hx rfl (pc0 := 91) (pc' := 126) rfl (hb hby at_91) rfl ((if0 _ _).trans (teq hc57).1) (by decide) (by decide) ?_
        show Steps p.tables e below (T55.setTop (mkF m 126 #[.val (.int p0), .val (.int (1 : Int32)), .val (.ref b26), .val (.int (1 : Int32)), .val (.int v47), .val (.int (1 : Int32)), .val (.int (1 : Int32)), .val (.int (1 : Int32)), .val (.int (1 : Int32))] [])) _
        refine XS.iconst X55.here hx rfl (hb hby at_126) ?_
        exact castTop (by rw [hv61, if_pos hc57] <;> rfl) kt
      · obtain ⟨cq58, kq58, q58a, q58b, q58c⟩ := isOf hZ e55 P40
        obtain ⟨_, _, ⟨T58, L58, k58, n58⟩, -, X58, ⟨Lc58, hQ58, l58, y58, z58⟩, st58⟩ := X55.virtualBack hx (y := (⟨"com/example/psilattice/psilattice/lang/WrittenGraph", "size", "()I"⟩ : MethodName)) (z := (⟨"com/example/psilattice/psilattice/lang/WrittenGraph", "size", "()I"⟩ : MethodName)) hown (mvT hZ (hw _ (List.mem_of_getElem? (i := 40) rfl))) (mvT hZ (hw _ (List.mem_of_getElem? (i := 41) rfl))) (notFace_of_selects (args := #[]) (mvT hZ (hw _ (List.mem_of_getElem? (i := 43) rfl)))) (mvT hZ (hw _ (List.mem_of_getElem? (i := 43) rfl))) (mvT hZ (hw _ (List.mem_of_getElem? (i := 42) rfl))) (by decide) (backOf (W := 0) (rm6 l Z A0 hw [] b26 (.ref b29_b2) (.ref b29_b12) (.ref b29_b24) ((0 : Int32) + (1 : Int32)) (0 : Int64) (0 : Int64) T39.heap n0 (Nat.le_trans Z0 K39.1) P40 P41 P42 P43 P44 P45 P46) hZ (hw _ (List.mem_of_getElem? (i := 44) rfl)) (hw _ (List.mem_of_getElem? (i := 3) rfl)) (by decide) (by decide)) q58a q58c (g := (mkF m 115 #[.val (.int p0), .val (.int (1 : Int32)), .val (.ref b26), .val (.int (1 : Int32)), .val (.int v47), .val (.int (1 : Int32)), .val (.int (1 : Int32)), .val (.int (1 : Int32)), .val (.int (1 : Int32))] [(.ref b26)])) rfl (by rw [hml]; rfl) (Steps.refl _) (argsL := []) (rest := []) (lenOf pd_1 rfl) rfl (by show 2 * 0 + _ ≤ _; exact Nat.le_of_eq rfl) (hb hby at_115) (fun _ _ => ⟨rfl, e55, (by decide : 4 + 0 ≤ _), (by decide : 15 + 0 ≤ _)⟩)
        dsimp only [Pt.U, Pt.locs, Pt.cells, Pt.slots] at X58 l58 y58 z58 st58 hQ58
        subst l58 y58 z58
        obtain ⟨rfl, N58q, e58⟩ := hQ58
        have N58 := Fr.app N55 N58q
        obtain ⟨v60, hv60⟩ : ∃ z : Int32, z = if ((0 : Int32) + (1 : Int32)) = (1 : Int32) then (1 : Int32) else (0 : Int32) := ⟨_, rfl⟩
        refine ⟨T58, _, X58, N58, e58, fun target kt => ?_⟩
        show Steps p.tables e below (T55.setTop (mkF m 91 #[.val (.int p0), .val (.int (1 : Int32)), .val (.ref b26), .val (.int (1 : Int32)), .val (.int v47), .val (.int (1 : Int32)), .val (.int (1 : Int32)), .val (.int (1 : Int32)), .val (.int (1 : Int32))] [(.int v47)])) _
        refine XS.ifNo X55.here hx rfl (hb hby at_91) rfl ((if0 _ _).trans (feq hc57).1) ?_
        show Steps p.tables e below (T55.setTop (mkF m 94 #[.val (.int p0), .val (.int (1 : Int32)), .val (.ref b26), .val (.int (1 : Int32)), .val (.int v47), .val (.int (1 : Int32)), .val (.int (1 : Int32)), .val (.int (1 : Int32)), .val (.int (1 : Int32))] [])) _
        refine XS.iload X55.here hx rfl (hb hby at_94) rfl ?_
        show Steps p.tables e below (T55.setTop (mkF m 96 #[.val (.int p0), .val (.int (1 : Int32)), .val (.ref b26), .val (.int (1 : Int32)), .val (.int v47), .val (.int (1 : Int32)), .val (.int (1 : Int32)), .val (.int (1 : Int32)), .val (.int (1 : Int32))] [(.int (1 : Int32))])) _
        refine XS.ifNo X55.here hx rfl (hb hby at_96) rfl ((if0 _ _).trans (feq (by decide)).1) ?_
        show Steps p.tables e below (T55.setTop (mkF m 99 #[.val (.int p0), .val (.int (1 : Int32)), .val (.ref b26), .val (.int (1 : Int32)), .val (.int v47), .val (.int (1 : Int32)), .val (.int (1 : Int32)), .val (.int (1 : Int32)), .val (.int (1 : Int32))] [])) _
        refine XS.iload X55.here hx rfl (hb hby at_99) rfl ?_
        show Steps p.tables e below (T55.setTop (mkF m 101 #[.val (.int p0), .val (.int (1 : Int32)), .val (.ref b26), .val (.int (1 : Int32)), .val (.int v47), .val (.int (1 : Int32)), .val (.int (1 : Int32)), .val (.int (1 : Int32)), .val (.int (1 : Int32))] [(.int (1 : Int32))])) _
        refine XS.ifNo X55.here hx rfl (hb hby at_101) rfl ((if0 _ _).trans (feq (by decide)).1) ?_
        show Steps p.tables e below (T55.setTop (mkF m 104 #[.val (.int p0), .val (.int (1 : Int32)), .val (.ref b26), .val (.int (1 : Int32)), .val (.int v47), .val (.int (1 : Int32)), .val (.int (1 : Int32)), .val (.int (1 : Int32)), .val (.int (1 : Int32))] [])) _
        refine XS.iload X55.here hx rfl (hb hby at_104) rfl ?_
        show Steps p.tables e below (T55.setTop (mkF m 106 #[.val (.int p0), .val (.int (1 : Int32)), .val (.ref b26), .val (.int (1 : Int32)), .val (.int v47), .val (.int (1 : Int32)), .val (.int (1 : Int32)), .val (.int (1 : Int32)), .val (.int (1 : Int32))] [(.int (1 : Int32))])) _
        refine XS.ifNo X55.here hx rfl (hb hby at_106) rfl ((if0 _ _).trans (feq (by decide)).1) ?_
        show Steps p.tables e below (T55.setTop (mkF m 109 #[.val (.int p0), .val (.int (1 : Int32)), .val (.ref b26), .val (.int (1 : Int32)), .val (.int v47), .val (.int (1 : Int32)), .val (.int (1 : Int32)), .val (.int (1 : Int32)), .val (.int (1 : Int32))] [])) _
        refine XS.iload X55.here hx rfl (hb hby at_109) rfl ?_
        show Steps p.tables e below (T55.setTop (mkF m 111 #[.val (.int p0), .val (.int (1 : Int32)), .val (.ref b26), .val (.int (1 : Int32)), .val (.int v47), .val (.int (1 : Int32)), .val (.int (1 : Int32)), .val (.int (1 : Int32)), .val (.int (1 : Int32))] [(.int (1 : Int32))])) _
        refine XS.ifNo X55.here hx rfl (hb hby at_111) rfl ((if0 _ _).trans (feq (by decide)).1) ?_
        show Steps p.tables e below (T55.setTop (mkF m 114 #[.val (.int p0), .val (.int (1 : Int32)), .val (.ref b26), .val (.int (1 : Int32)), .val (.int v47), .val (.int (1 : Int32)), .val (.int (1 : Int32)), .val (.int (1 : Int32)), .val (.int (1 : Int32))] [])) _
        refine XS.aloadN X55.here hx rfl (hb hby at_114) rfl rfl ?_
        show Steps p.tables e below (T55.setTop (mkF m 115 #[.val (.int p0), .val (.int (1 : Int32)), .val (.ref b26), .val (.int (1 : Int32)), .val (.int v47), .val (.int (1 : Int32)), .val (.int (1 : Int32)), .val (.int (1 : Int32)), .val (.int (1 : Int32))] [(.ref b26)])) _
        refine st58.trans ?_
        show Steps p.tables e below (T58.setTop (mkF m 118 #[.val (.int p0), .val (.int (1 : Int32)), .val (.ref b26), .val (.int (1 : Int32)), .val (.int v47), .val (.int (1 : Int32)), .val (.int (1 : Int32)), .val (.int (1 : Int32)), .val (.int (1 : Int32))] [(.int ((0 : Int32) + (1 : Int32)))])) _
        refine XS.iloadN X58.here hx rfl (hb hby at_118) rfl ?_
        show Steps p.tables e below (T58.setTop (mkF m 119 #[.val (.int p0), .val (.int (1 : Int32)), .val (.ref b26), .val (.int (1 : Int32)), .val (.int v47), .val (.int (1 : Int32)), .val (.int (1 : Int32)), .val (.int (1 : Int32)), .val (.int (1 : Int32))] [(.int (1 : Int32)), (.int ((0 : Int32) + (1 : Int32)))])) _
        refine own_dia (F := (mkF m 127 #[.val (.int p0), .val (.int (1 : Int32)), .val (.ref b26), .val (.int (1 : Int32)), .val (.int v47), .val (.int (1 : Int32)), .val (.int (1 : Int32)), .val (.int (1 : Int32)), .val (.int (1 : Int32))] [(.int v60)])) ?_ ?_
        · intro kt
          by_cases hc59 : ((0 : Int32) + (1 : Int32)) = (1 : Int32)
          · show Steps p.tables e below (T58.setTop (mkF m 119 #[.val (.int p0), .val (.int (1 : Int32)), .val (.ref b26), .val (.int (1 : Int32)), .val (.int v47), .val (.int (1 : Int32)), .val (.int (1 : Int32)), .val (.int (1 : Int32)), .val (.int (1 : Int32))] [(.int (1 : Int32)), (.int ((0 : Int32) + (1 : Int32)))])) _
            refine XS.icmpNo X58.here hx rfl (hb hby at_119) rfl (teq hc59).2 ?_
            show Steps p.tables e below (T58.setTop (mkF m 122 #[.val (.int p0), .val (.int (1 : Int32)), .val (.ref b26), .val (.int (1 : Int32)), .val (.int v47), .val (.int (1 : Int32)), .val (.int (1 : Int32)), .val (.int (1 : Int32)), .val (.int (1 : Int32))] [])) _
            refine XS.iconst X58.here hx rfl (hb hby at_122) ?_
            show Steps p.tables e below (T58.setTop (mkF m 123 #[.val (.int p0), .val (.int (1 : Int32)), .val (.ref b26), .val (.int (1 : Int32)), .val (.int v47), .val (.int (1 : Int32)), .val (.int (1 : Int32)), .val (.int (1 : Int32)), .val (.int (1 : Int32))] [(.int (1 : Int32))])) _
            refine XS.goto X58.here hx rfl (pc0 := 123) (pc' := 127) rfl (hb hby at_123) (by decide) (by decide) ?_
            exact castTop (by rw [hv60, if_pos hc59] <;> rfl) kt
          · show Steps p.tables e below (T58.setTop (mkF m 119 #[.val (.int p0), .val (.int (1 : Int32)), .val (.ref b26), .val (.int (1 : Int32)), .val (.int v47), .val (.int (1 : Int32)), .val (.int (1 : Int32)), .val (.int (1 : Int32)), .val (.int (1 : Int32))] [(.int (1 : Int32)), (.int ((0 : Int32) + (1 : Int32)))])) _
            refine XS.icmpYes X58.here hx rfl (pc0 := 119) (pc' := 126) rfl (hb hby at_119) rfl (feq hc59).2 (by decide) (by decide) ?_
            show Steps p.tables e below (T58.setTop (mkF m 126 #[.val (.int p0), .val (.int (1 : Int32)), .val (.ref b26), .val (.int (1 : Int32)), .val (.int v47), .val (.int (1 : Int32)), .val (.int (1 : Int32)), .val (.int (1 : Int32)), .val (.int (1 : Int32))] [])) _
            refine XS.iconst X58.here hx rfl (hb hby at_126) ?_
            exact castTop (by rw [hv60, if_neg hc59] <;> rfl) kt
        exact castTop (by subst hv60; rw [hv61, if_neg hc57] <;> rfl) kt
    obtain ⟨fs, hr, hrun, hended, hW, hsame⟩ := X62.leave (v := some (.int (nar .boolean v61))) (fun h => by rw [Bd.returns] at h; cases h)
    refine ⟨_, _, pre0 _ (ck2 _ ?_), hrun, hended, _, _, rfl, ?_, ⟨_, rfl⟩, hW, hsame.mono (by decide) (by decide)⟩
    · show Steps p.tables e below (s₁.setTop (mkF m 7 #[.val (.int p0), .val (.int (1 : Int32)), .unset, .unset, .unset, .unset, .unset, .unset, .unset] [])) _
      refine st26 _ ?_
      show Steps p.tables e below (T26.setTop (mkF m 10 #[.val (.int p0), .val (.int (1 : Int32)), .unset, .unset, .unset, .unset, .unset, .unset, .unset] [(.ref b26)])) _
      refine XS.dup X26.here hx rfl (hb hby at_10) rfl rfl ?_
      show Steps p.tables e below (T26.setTop (mkF m 11 #[.val (.int p0), .val (.int (1 : Int32)), .unset, .unset, .unset, .unset, .unset, .unset, .unset] [(.ref b26), (.ref b26)])) _
      refine st29.trans ?_
      show Steps p.tables e below (T29.setTop (mkF m 14 #[.val (.int p0), .val (.int (1 : Int32)), .unset, .unset, .unset, .unset, .unset, .unset, .unset] [(.ref b26)])) _
      refine XS.astoreN X29.here hx rfl (hb hby at_14) rfl rfl (l' := #[.val (.int p0), .val (.int (1 : Int32)), .val (.ref b26), .unset, .unset, .unset, .unset, .unset, .unset]) rfl ?_
      show Steps p.tables e below (T29.setTop (mkF m 15 #[.val (.int p0), .val (.int (1 : Int32)), .val (.ref b26), .unset, .unset, .unset, .unset, .unset, .unset] [])) _
      refine XS.aloadN X29.here hx rfl (hb hby at_15) rfl rfl ?_
      show Steps p.tables e below (T29.setTop (mkF m 16 #[.val (.int p0), .val (.int (1 : Int32)), .val (.ref b26), .unset, .unset, .unset, .unset, .unset, .unset] [(.ref b26)])) _
      refine st37.trans ?_
      show Steps p.tables e below (T37.setTop (mkF m 19 #[.val (.int p0), .val (.int (1 : Int32)), .val (.ref b26), .unset, .unset, .unset, .unset, .unset, .unset] [(.int (0 : Int32))])) _
      refine XS.ifNo X37.here hx rfl (hb hby at_19) rfl ((if0 _ _).trans (teq (by decide)).2) ?_
      show Steps p.tables e below (T37.setTop (mkF m 22 #[.val (.int p0), .val (.int (1 : Int32)), .val (.ref b26), .unset, .unset, .unset, .unset, .unset, .unset] [])) _
      refine XS.iconst X37.here hx rfl (hb hby at_22) ?_
      show Steps p.tables e below (T37.setTop (mkF m 23 #[.val (.int p0), .val (.int (1 : Int32)), .val (.ref b26), .unset, .unset, .unset, .unset, .unset, .unset] [(.int (1 : Int32))])) _
      refine XS.goto X37.here hx rfl (pc0 := 23) (pc' := 27) rfl (hb hby at_23) (by decide) (by decide) ?_
      show Steps p.tables e below (T37.setTop (mkF m 27 #[.val (.int p0), .val (.int (1 : Int32)), .val (.ref b26), .unset, .unset, .unset, .unset, .unset, .unset] [(.int (1 : Int32))])) _
      refine XS.istoreN X37.here hx rfl (hb hby at_27) rfl (l' := #[.val (.int p0), .val (.int (1 : Int32)), .val (.ref b26), .val (.int (1 : Int32)), .unset, .unset, .unset, .unset, .unset]) rfl ?_
      show Steps p.tables e below (T37.setTop (mkF m 28 #[.val (.int p0), .val (.int (1 : Int32)), .val (.ref b26), .val (.int (1 : Int32)), .unset, .unset, .unset, .unset, .unset] [])) _
      refine XS.aloadN X37.here hx rfl (hb hby at_28) rfl rfl ?_
      show Steps p.tables e below (T37.setTop (mkF m 29 #[.val (.int p0), .val (.int (1 : Int32)), .val (.ref b26), .val (.int (1 : Int32)), .unset, .unset, .unset, .unset, .unset] [(.ref b26)])) _
      refine XS.iconst X37.here hx rfl (hb hby at_29) ?_
      show Steps p.tables e below (T37.setTop (mkF m 30 #[.val (.int p0), .val (.int (1 : Int32)), .val (.ref b26), .val (.int (1 : Int32)), .unset, .unset, .unset, .unset, .unset] [(.int (0 : Int32)), (.ref b26)])) _
      refine XS.iloadN X37.here hx rfl (hb hby at_30) rfl ?_
      show Steps p.tables e below (T37.setTop (mkF m 31 #[.val (.int p0), .val (.int (1 : Int32)), .val (.ref b26), .val (.int (1 : Int32)), .unset, .unset, .unset, .unset, .unset] [(.int (1 : Int32)), (.int (0 : Int32)), (.ref b26)])) _
      refine st39 _ ?_
      show Steps p.tables e below (T39.setTop (mkF m 34 #[.val (.int p0), .val (.int (1 : Int32)), .val (.ref b26), .val (.int (1 : Int32)), .unset, .unset, .unset, .unset, .unset] [(.int (nar .boolean (if (0 : Int32) = (0 : Int32) then (if ((0 : Int32) + (1 : Int32)) = ((0 : Int32) + (1 : Int32)) then (1 : Int32) else (0 : Int32)) else (0 : Int32))))])) _
      refine castTop (g' := (mkF m 34 #[.val (.int p0), .val (.int (1 : Int32)), .val (.ref b26), .val (.int (1 : Int32)), .unset, .unset, .unset, .unset, .unset] [(.int v47)])) (by rw [hv47] <;> rfl) ?_
      show Steps p.tables e below (T39.setTop (mkF m 34 #[.val (.int p0), .val (.int (1 : Int32)), .val (.ref b26), .val (.int (1 : Int32)), .unset, .unset, .unset, .unset, .unset] [(.int v47)])) _
      refine XS.istore X39.here hx rfl (hb hby at_34) rfl (l' := #[.val (.int p0), .val (.int (1 : Int32)), .val (.ref b26), .val (.int (1 : Int32)), .val (.int v47), .unset, .unset, .unset, .unset]) rfl ?_
      show Steps p.tables e below (T39.setTop (mkF m 36 #[.val (.int p0), .val (.int (1 : Int32)), .val (.ref b26), .val (.int (1 : Int32)), .val (.int v47), .unset, .unset, .unset, .unset] [])) _
      refine XS.aloadN X39.here hx rfl (hb hby at_36) rfl rfl ?_
      show Steps p.tables e below (T39.setTop (mkF m 37 #[.val (.int p0), .val (.int (1 : Int32)), .val (.ref b26), .val (.int (1 : Int32)), .val (.int v47), .unset, .unset, .unset, .unset] [(.ref b26)])) _
      refine XS.iconst X39.here hx rfl (hb hby at_37) ?_
      show Steps p.tables e below (T39.setTop (mkF m 38 #[.val (.int p0), .val (.int (1 : Int32)), .val (.ref b26), .val (.int (1 : Int32)), .val (.int v47), .unset, .unset, .unset, .unset] [(.int (1 : Int32)), (.ref b26)])) _
      refine XS.iloadN X39.here hx rfl (hb hby at_38) rfl ?_
      show Steps p.tables e below (T39.setTop (mkF m 39 #[.val (.int p0), .val (.int (1 : Int32)), .val (.ref b26), .val (.int (1 : Int32)), .val (.int v47), .unset, .unset, .unset, .unset] [(.int (1 : Int32)), (.int (1 : Int32)), (.ref b26)])) _
      refine st49 _ ?_
      show Steps p.tables e below (T49.setTop (mkF m 42 #[.val (.int p0), .val (.int (1 : Int32)), .val (.ref b26), .val (.int (1 : Int32)), .val (.int v47), .unset, .unset, .unset, .unset] [(.int (1 : Int32))])) _
      refine XS.istore X49.here hx rfl (hb hby at_42) rfl (l' := #[.val (.int p0), .val (.int (1 : Int32)), .val (.ref b26), .val (.int (1 : Int32)), .val (.int v47), .val (.int (1 : Int32)), .unset, .unset, .unset]) rfl ?_
      show Steps p.tables e below (T49.setTop (mkF m 44 #[.val (.int p0), .val (.int (1 : Int32)), .val (.ref b26), .val (.int (1 : Int32)), .val (.int v47), .val (.int (1 : Int32)), .unset, .unset, .unset] [])) _
      refine XS.aloadN X49.here hx rfl (hb hby at_44) rfl rfl ?_
      show Steps p.tables e below (T49.setTop (mkF m 45 #[.val (.int p0), .val (.int (1 : Int32)), .val (.ref b26), .val (.int (1 : Int32)), .val (.int v47), .val (.int (1 : Int32)), .unset, .unset, .unset] [(.ref b26)])) _
      refine XS.iconst X49.here hx rfl (hb hby at_45) ?_
      show Steps p.tables e below (T49.setTop (mkF m 46 #[.val (.int p0), .val (.int (1 : Int32)), .val (.ref b26), .val (.int (1 : Int32)), .val (.int v47), .val (.int (1 : Int32)), .unset, .unset, .unset] [(.int (2 : Int32)), (.ref b26)])) _
      refine XS.iloadN X49.here hx rfl (hb hby at_46) rfl ?_
      show Steps p.tables e below (T49.setTop (mkF m 47 #[.val (.int p0), .val (.int (1 : Int32)), .val (.ref b26), .val (.int (1 : Int32)), .val (.int v47), .val (.int (1 : Int32)), .unset, .unset, .unset] [(.int (1 : Int32)), (.int (2 : Int32)), (.ref b26)])) _
      refine st51 _ ?_
      show Steps p.tables e below (T51.setTop (mkF m 50 #[.val (.int p0), .val (.int (1 : Int32)), .val (.ref b26), .val (.int (1 : Int32)), .val (.int v47), .val (.int (1 : Int32)), .unset, .unset, .unset] [(.int (1 : Int32))])) _
      refine XS.istore X51.here hx rfl (hb hby at_50) rfl (l' := #[.val (.int p0), .val (.int (1 : Int32)), .val (.ref b26), .val (.int (1 : Int32)), .val (.int v47), .val (.int (1 : Int32)), .val (.int (1 : Int32)), .unset, .unset]) rfl ?_
      show Steps p.tables e below (T51.setTop (mkF m 52 #[.val (.int p0), .val (.int (1 : Int32)), .val (.ref b26), .val (.int (1 : Int32)), .val (.int v47), .val (.int (1 : Int32)), .val (.int (1 : Int32)), .unset, .unset] [])) _
      refine XS.aloadN X51.here hx rfl (hb hby at_52) rfl rfl ?_
      show Steps p.tables e below (T51.setTop (mkF m 53 #[.val (.int p0), .val (.int (1 : Int32)), .val (.ref b26), .val (.int (1 : Int32)), .val (.int v47), .val (.int (1 : Int32)), .val (.int (1 : Int32)), .unset, .unset] [(.ref b26)])) _
      refine XS.iconst X51.here hx rfl (hb hby at_53) ?_
      show Steps p.tables e below (T51.setTop (mkF m 54 #[.val (.int p0), .val (.int (1 : Int32)), .val (.ref b26), .val (.int (1 : Int32)), .val (.int v47), .val (.int (1 : Int32)), .val (.int (1 : Int32)), .unset, .unset] [(.int (3 : Int32)), (.ref b26)])) _
      refine XS.iloadN X51.here hx rfl (hb hby at_54) rfl ?_
      show Steps p.tables e below (T51.setTop (mkF m 55 #[.val (.int p0), .val (.int (1 : Int32)), .val (.ref b26), .val (.int (1 : Int32)), .val (.int v47), .val (.int (1 : Int32)), .val (.int (1 : Int32)), .unset, .unset] [(.int (1 : Int32)), (.int (3 : Int32)), (.ref b26)])) _
      refine st53 _ ?_
      show Steps p.tables e below (T53.setTop (mkF m 58 #[.val (.int p0), .val (.int (1 : Int32)), .val (.ref b26), .val (.int (1 : Int32)), .val (.int v47), .val (.int (1 : Int32)), .val (.int (1 : Int32)), .unset, .unset] [(.int (1 : Int32))])) _
      refine XS.istore X53.here hx rfl (hb hby at_58) rfl (l' := #[.val (.int p0), .val (.int (1 : Int32)), .val (.ref b26), .val (.int (1 : Int32)), .val (.int v47), .val (.int (1 : Int32)), .val (.int (1 : Int32)), .val (.int (1 : Int32)), .unset]) rfl ?_
      show Steps p.tables e below (T53.setTop (mkF m 60 #[.val (.int p0), .val (.int (1 : Int32)), .val (.ref b26), .val (.int (1 : Int32)), .val (.int v47), .val (.int (1 : Int32)), .val (.int (1 : Int32)), .val (.int (1 : Int32)), .unset] [])) _
      refine XS.aloadN X53.here hx rfl (hb hby at_60) rfl rfl ?_
      show Steps p.tables e below (T53.setTop (mkF m 61 #[.val (.int p0), .val (.int (1 : Int32)), .val (.ref b26), .val (.int (1 : Int32)), .val (.int v47), .val (.int (1 : Int32)), .val (.int (1 : Int32)), .val (.int (1 : Int32)), .unset] [(.ref b26)])) _
      refine st54.trans ?_
      show Steps p.tables e below (T54.setTop (mkF m 64 #[.val (.int p0), .val (.int (1 : Int32)), .val (.ref b26), .val (.int (1 : Int32)), .val (.int v47), .val (.int (1 : Int32)), .val (.int (1 : Int32)), .val (.int (1 : Int32)), .unset] [(.long (0 : Int64))])) _
      refine XS.lconst X54.here hx rfl (hb hby at_64) ?_
      show Steps p.tables e below (T54.setTop (mkF m 65 #[.val (.int p0), .val (.int (1 : Int32)), .val (.ref b26), .val (.int (1 : Int32)), .val (.int v47), .val (.int (1 : Int32)), .val (.int (1 : Int32)), .val (.int (1 : Int32)), .unset] [(.long (0 : Int64)), (.long (0 : Int64))])) _
      refine XS.lcmp X54.here hx rfl (hb hby at_65) rfl ?_
      show Steps p.tables e below (T54.setTop (mkF m 66 #[.val (.int p0), .val (.int (1 : Int32)), .val (.ref b26), .val (.int (1 : Int32)), .val (.int v47), .val (.int (1 : Int32)), .val (.int (1 : Int32)), .val (.int (1 : Int32)), .unset] [(.int (lcmpW (0 : Int64) (0 : Int64)))])) _
      refine XS.ifNo X54.here hx rfl (hb hby at_66) rfl ((if0 _ _).trans (teq ((lw_eq (0 : Int64) (0 : Int64)).mpr (by decide))).2) ?_
      show Steps p.tables e below (T54.setTop (mkF m 69 #[.val (.int p0), .val (.int (1 : Int32)), .val (.ref b26), .val (.int (1 : Int32)), .val (.int v47), .val (.int (1 : Int32)), .val (.int (1 : Int32)), .val (.int (1 : Int32)), .unset] [])) _
      refine XS.aloadN X54.here hx rfl (hb hby at_69) rfl rfl ?_
      show Steps p.tables e below (T54.setTop (mkF m 70 #[.val (.int p0), .val (.int (1 : Int32)), .val (.ref b26), .val (.int (1 : Int32)), .val (.int v47), .val (.int (1 : Int32)), .val (.int (1 : Int32)), .val (.int (1 : Int32)), .unset] [(.ref b26)])) _
      refine st55.trans ?_
      show Steps p.tables e below (T55.setTop (mkF m 73 #[.val (.int p0), .val (.int (1 : Int32)), .val (.ref b26), .val (.int (1 : Int32)), .val (.int v47), .val (.int (1 : Int32)), .val (.int (1 : Int32)), .val (.int (1 : Int32)), .unset] [(.long (0 : Int64))])) _
      refine XS.lconst X55.here hx rfl (hb hby at_73) ?_
      show Steps p.tables e below (T55.setTop (mkF m 74 #[.val (.int p0), .val (.int (1 : Int32)), .val (.ref b26), .val (.int (1 : Int32)), .val (.int v47), .val (.int (1 : Int32)), .val (.int (1 : Int32)), .val (.int (1 : Int32)), .unset] [(.long (0 : Int64)), (.long (0 : Int64))])) _
      refine XS.lcmp X55.here hx rfl (hb hby at_74) rfl ?_
      show Steps p.tables e below (T55.setTop (mkF m 75 #[.val (.int p0), .val (.int (1 : Int32)), .val (.ref b26), .val (.int (1 : Int32)), .val (.int v47), .val (.int (1 : Int32)), .val (.int (1 : Int32)), .val (.int (1 : Int32)), .unset] [(.int (lcmpW (0 : Int64) (0 : Int64)))])) _
      refine XS.ifNo X55.here hx rfl (hb hby at_75) rfl ((if0 _ _).trans (teq ((lw_eq (0 : Int64) (0 : Int64)).mpr (by decide))).2) ?_
      show Steps p.tables e below (T55.setTop (mkF m 78 #[.val (.int p0), .val (.int (1 : Int32)), .val (.ref b26), .val (.int (1 : Int32)), .val (.int v47), .val (.int (1 : Int32)), .val (.int (1 : Int32)), .val (.int (1 : Int32)), .unset] [])) _
      refine XS.iconst X55.here hx rfl (hb hby at_78) ?_
      show Steps p.tables e below (T55.setTop (mkF m 79 #[.val (.int p0), .val (.int (1 : Int32)), .val (.ref b26), .val (.int (1 : Int32)), .val (.int v47), .val (.int (1 : Int32)), .val (.int (1 : Int32)), .val (.int (1 : Int32)), .unset] [(.int (1 : Int32))])) _
      refine XS.goto X55.here hx rfl (pc0 := 79) (pc' := 83) rfl (hb hby at_79) (by decide) (by decide) ?_
      show Steps p.tables e below (T55.setTop (mkF m 83 #[.val (.int p0), .val (.int (1 : Int32)), .val (.ref b26), .val (.int (1 : Int32)), .val (.int v47), .val (.int (1 : Int32)), .val (.int (1 : Int32)), .val (.int (1 : Int32)), .unset] [(.int (1 : Int32))])) _
      refine XS.istore X55.here hx rfl (hb hby at_83) rfl (l' := #[.val (.int p0), .val (.int (1 : Int32)), .val (.ref b26), .val (.int (1 : Int32)), .val (.int v47), .val (.int (1 : Int32)), .val (.int (1 : Int32)), .val (.int (1 : Int32)), .val (.int (1 : Int32))]) rfl ?_
      show Steps p.tables e below (T55.setTop (mkF m 85 #[.val (.int p0), .val (.int (1 : Int32)), .val (.ref b26), .val (.int (1 : Int32)), .val (.int v47), .val (.int (1 : Int32)), .val (.int (1 : Int32)), .val (.int (1 : Int32)), .val (.int (1 : Int32))] [])) _
      refine XS.iloadN X55.here hx rfl (hb hby at_85) rfl ?_
      show Steps p.tables e below (T55.setTop (mkF m 86 #[.val (.int p0), .val (.int (1 : Int32)), .val (.ref b26), .val (.int (1 : Int32)), .val (.int v47), .val (.int (1 : Int32)), .val (.int (1 : Int32)), .val (.int (1 : Int32)), .val (.int (1 : Int32))] [(.int (1 : Int32))])) _
      refine XS.ifNo X55.here hx rfl (hb hby at_86) rfl ((if0 _ _).trans (feq (by decide)).1) ?_
      show Steps p.tables e below (T55.setTop (mkF m 89 #[.val (.int p0), .val (.int (1 : Int32)), .val (.ref b26), .val (.int (1 : Int32)), .val (.int v47), .val (.int (1 : Int32)), .val (.int (1 : Int32)), .val (.int (1 : Int32)), .val (.int (1 : Int32))] [])) _
      refine XS.iload X55.here hx rfl (hb hby at_89) rfl ?_
      show Steps p.tables e below (T55.setTop (mkF m 91 #[.val (.int p0), .val (.int (1 : Int32)), .val (.ref b26), .val (.int (1 : Int32)), .val (.int v47), .val (.int (1 : Int32)), .val (.int (1 : Int32)), .val (.int (1 : Int32)), .val (.int (1 : Int32))] [(.int v47)])) _
      refine st62 _ ?_
      show Steps p.tables e below (T62.setTop (mkF m 127 #[.val (.int p0), .val (.int (1 : Int32)), .val (.ref b26), .val (.int (1 : Int32)), .val (.int v47), .val (.int (1 : Int32)), .val (.int (1 : Int32)), .val (.int (1 : Int32)), .val (.int (1 : Int32))] [(.int v61)])) _
      exact retN X62 hx (t := .boolean) Bd.returns (by simp) (hb hby at_127) hr
    · show Q0 h0 n0 _ T62.heap _
      refine ⟨?_, N62⟩
      have hfin : (nar .boolean v61) = (1 : Int32) := by
        exact (own_law1 v47 v61 hv47 hv61)
      rw [hfin]
  · subst hk
    obtain ⟨T63, h63, X63, e63, E63, A63, D63, -, st63⟩ := newO X0 hx hZ hown (hw _ (List.mem_of_getElem? (i := 1) rfl)) (hw _ (List.mem_of_getElem? (i := 2) rfl)) (hw _ (List.mem_of_getElem? (i := 3) rfl)) e0 (g := (mkF m 7 #[.val (.int p0), .val (.int (2 : Int32)), .unset, .unset, .unset, .unset, .unset, .unset, .unset] [])) rfl (hb hby at_7) (by decide) (by decide)
    obtain ⟨b63, g63⟩ : ∃ z, z = h0.size := ⟨_, rfl⟩
    rw [← g63] at A63 D63 st63
    have nw_b63 : n0 ≤ b63 := Nat.le_trans (Nat.le_trans Z0 (Keep.refl h0 []).1) (Nat.le_of_eq g63.symm)
    have sz_b63 : h0.size ≤ b63 := Nat.le_trans (Keep.refl h0 []).1 (Nat.le_of_eq g63.symm)
    have K63 : Keep h0 h63 [] := (Keep.refl h0 []).ext E63
    have F_sorts_b63 : Fld Z h63 b63 "com/example/psilattice/psilattice/lang/WrittenGraph" "sorts" "Ljava/util/List;" .null := D63 (Or.inr (hw _ (List.mem_of_getElem? (i := 35) rfl))) (ty := (.object "java/util/List")) (by decide)
    have F_edges_b63 : Fld Z h63 b63 "com/example/psilattice/psilattice/lang/WrittenGraph" "edges" "Ljava/util/List;" .null := D63 (Or.inr (hw _ (List.mem_of_getElem? (i := 37) rfl))) (ty := (.object "java/util/List")) (by decide)
    have F_uses_b63 : Fld Z h63 b63 "com/example/psilattice/psilattice/lang/WrittenGraph" "uses" "Ljava/util/List;" .null := D63 (Or.inr (hw _ (List.mem_of_getElem? (i := 39) rfl))) (ty := (.object "java/util/List")) (by decide)
    have F_nodes_b63 : Fld Z h63 b63 "com/example/psilattice/psilattice/lang/WrittenGraph" "nodes" "I" (.int (0 : Int32)) := D63 (Or.inl (hw _ (List.mem_of_getElem? (i := 46) rfl))) (ty := .int) (by decide)
    have F_copiedNodes_b63 : Fld Z h63 b63 "com/example/psilattice/psilattice/lang/WrittenGraph" "copiedNodes" "J" (.long (0 : Int64)) := D63 (Or.inl (hw _ (List.mem_of_getElem? (i := 57) rfl))) (ty := .long) (by decide)
    have F_copies_b63 : Fld Z h63 b63 "com/example/psilattice/psilattice/lang/WrittenGraph" "copies" "J" (.long (0 : Int64)) := D63 (Or.inl (hw _ (List.mem_of_getElem? (i := 64) rfl))) (ty := .long) (by decide)
    have G64 : SO Z n0 h63 "java/util/ArrayList" "DEFAULTCAPACITY_EMPTY_ELEMENTDATA" "[Ljava/lang/Object;" s_DEFAULTCAPACITY_EMPTY_ELEMENTDATA := (S_DEFAULTCAPACITY_EMPTY_ELEMENTDATA.ext E63)
    have hp65 : s_DEFAULTCAPACITY_EMPTY_ELEMENTDATA.isRef = true := rf_s_DEFAULTCAPACITY_EMPTY_ELEMENTDATA
    obtain ⟨_, _, ⟨T66, L66, k66, n66⟩, -, X66, ⟨Lc66, hQ66, l66, y66, z66⟩, st66⟩ := X63.specialBack hx (y := (⟨"com/example/psilattice/psilattice/lang/WrittenGraph", "<init>", "()V"⟩ : MethodName)) rfl hown (mvT hZ (hw _ (List.mem_of_getElem? (i := 4) rfl))) (mvT hZ (hw _ (List.mem_of_getElem? (i := 5) rfl))) (mvT hZ (hw _ (List.mem_of_getElem? (i := 6) rfl))) (by decide) (backOf (W := 1) (rm1 l Z A0 hw [] b63 .null .null .null (0 : Int32) (0 : Int64) (0 : Int64) s_DEFAULTCAPACITY_EMPTY_ELEMENTDATA h63 n0 (Nat.le_trans Z0 K63.1) A63 F_sorts_b63 F_edges_b63 F_uses_b63 F_nodes_b63 F_copiedNodes_b63 F_copies_b63 G64 nw_b63 hp65) hZ (hw _ (List.mem_of_getElem? (i := 6) rfl)) (hw _ (List.mem_of_getElem? (i := 3) rfl)) (by decide) (by decide)) (g := (mkF m 11 #[.val (.int p0), .val (.int (2 : Int32)), .unset, .unset, .unset, .unset, .unset, .unset, .unset] [(.ref b63), (.ref b63)])) rfl (by rw [hml]; rfl) (Steps.refl _) (a := b63) (argsL := []) (rest := [(.ref b63)]) (lenOf pd_0 rfl) rfl (by show 2 * 0 + _ ≤ _; exact Nat.le_of_eq rfl) (hb hby at_11) (fun _ _ => ⟨rfl, e63, (by decide : 1 + 3 ≤ _), (by decide : 6 + 9 ≤ _)⟩)
    dsimp only [Pt.U, Pt.locs, Pt.cells, Pt.slots] at X66 l66 y66 z66 st66 hQ66
    subst l66 y66 z66
    obtain ⟨b66_b2, b66_b12, b66_b24, rfl, N66q, Kc66, szb66_b2, szb66_b12, szb66_b24, ne_b66_b2_b66_b12, ne_b66_b2_b66_b24, ne_b66_b12_b66_b24, P67, P68, P69, P70, P71, P72, P73⟩ := hQ66
    have ne_b63_b66_b2 : b63 ≠ b66_b2 := Nat.ne_of_lt (Nat.lt_of_lt_of_le A63.lt szb66_b2)
    have ne_b63_b66_b12 : b63 ≠ b66_b12 := Nat.ne_of_lt (Nat.lt_of_lt_of_le A63.lt szb66_b12)
    have ne_b63_b66_b24 : b63 ≠ b66_b24 := Nat.ne_of_lt (Nat.lt_of_lt_of_le A63.lt szb66_b24)
    have nw_b66_b2 : n0 ≤ b66_b2 := Nat.le_trans (Nat.le_trans Z0 K63.1) szb66_b2
    have sq_b66_b2 : h0.size ≤ b66_b2 := Nat.le_trans K63.1 szb66_b2
    have nw_b66_b12 : n0 ≤ b66_b12 := Nat.le_trans (Nat.le_trans Z0 K63.1) szb66_b12
    have sq_b66_b12 : h0.size ≤ b66_b12 := Nat.le_trans K63.1 szb66_b12
    have nw_b66_b24 : n0 ≤ b66_b24 := Nat.le_trans (Nat.le_trans Z0 K63.1) szb66_b24
    have sq_b66_b24 : h0.size ≤ b66_b24 := Nat.le_trans K63.1 szb66_b24
    have K66 : Keep h0 T66.heap [] := K63.trans Kc66 (allS (Or.inr sz_b63) all0)
    have N66 := Fr.app N0 N66q
    obtain ⟨cq74, kq74, q74a, q74b, q74c⟩ := isOf hZ rfl P67
    obtain ⟨_, _, ⟨T74, L74, k74, n74⟩, -, X74, ⟨Lc74, hQ74, l74, y74, z74⟩, st74⟩ := X66.virtualBack hx (y := (⟨"com/example/psilattice/psilattice/lang/WrittenGraph", "size", "()I"⟩ : MethodName)) (z := (⟨"com/example/psilattice/psilattice/lang/WrittenGraph", "size", "()I"⟩ : MethodName)) hown (mvT hZ (hw _ (List.mem_of_getElem? (i := 40) rfl))) (mvT hZ (hw _ (List.mem_of_getElem? (i := 41) rfl))) (notFace_of_selects (args := #[]) (mvT hZ (hw _ (List.mem_of_getElem? (i := 43) rfl)))) (mvT hZ (hw _ (List.mem_of_getElem? (i := 43) rfl))) (mvT hZ (hw _ (List.mem_of_getElem? (i := 42) rfl))) (by decide) (backOf (W := 0) (rm6 l Z A0 hw [] b63 (.ref b66_b2) (.ref b66_b12) (.ref b66_b24) (0 : Int32) (0 : Int64) (0 : Int64) T66.heap n0 (Nat.le_trans Z0 K66.1) P67 P68 P69 P70 P71 P72 P73) hZ (hw _ (List.mem_of_getElem? (i := 44) rfl)) (hw _ (List.mem_of_getElem? (i := 3) rfl)) (by decide) (by decide)) q74a q74c (g := (mkF m 16 #[.val (.int p0), .val (.int (2 : Int32)), .val (.ref b63), .unset, .unset, .unset, .unset, .unset, .unset] [(.ref b63)])) rfl (by rw [hml]; rfl) (Steps.refl _) (argsL := []) (rest := []) (lenOf pd_1 rfl) rfl (by show 2 * 0 + _ ≤ _; exact Nat.le_of_eq rfl) (hb hby at_16) (fun _ _ => ⟨rfl, rfl, (by decide : 4 + 0 ≤ _), (by decide : 15 + 0 ≤ _)⟩)
    dsimp only [Pt.U, Pt.locs, Pt.cells, Pt.slots] at X74 l74 y74 z74 st74 hQ74
    subst l74 y74 z74
    obtain ⟨rfl, N74q, e74⟩ := hQ74
    have N74 := Fr.app N66 N74q
    have hp75 : (0 : Int32) < (2 : Int32) := (by decide)
    obtain ⟨_, _, ⟨T76, L76, k76, n76⟩, -, X76, ⟨Lc76, hQ76, l76, y76, z76⟩, st76⟩ := Jvm.LawKit.callS X74 hx (y := (⟨"com/example/psilattice/psilattice/lang/WrittenGraphNodePinLaw", "step", "(Lcom/example/psilattice/psilattice/lang/WrittenGraph;II)Z"⟩ : MethodName)) hown (mvT hZ (hw _ (List.mem_of_getElem? (i := 47) rfl))) (mvT hZ (hw _ (List.mem_of_getElem? (i := 48) rfl))) (mvT hZ (hw _ (List.mem_of_getElem? (i := 49) rfl))) (mvT hZ (hw _ (List.mem_of_getElem? (i := 50) rfl))) (by decide) (backOf (W := 0) (rm7b l Z A0 hw [] b63 (0 : Int32) (2 : Int32) (.ref b66_b2) (.ref b66_b12) (.ref b66_b24) (0 : Int32) (0 : Int64) (0 : Int64) T66.heap n0 (Nat.le_trans Z0 K66.1) P67 P68 P69 P70 P71 P72 P73 nw_b63 hp75) hZ (hw _ (List.mem_of_getElem? (i := 50) rfl)) (hw _ (List.mem_of_getElem? (i := 49) rfl)) (by decide) (by decide)) (g := (mkF m 31 #[.val (.int p0), .val (.int (2 : Int32)), .val (.ref b63), .val (.int (1 : Int32)), .unset, .unset, .unset, .unset, .unset] [(.int (2 : Int32)), (.int (0 : Int32)), (.ref b63)])) rfl (by rw [hml]; rfl) (argsL := [(.ref b63), (.int (0 : Int32)), (.int (2 : Int32))]) (rest := []) (lenOf pd_2 rfl) rfl (by show 2 * 0 + _ ≤ _; exact Nat.le_of_eq rfl) (hb hby at_31) (fun _ _ => ⟨rfl, e74, (by decide : 4 + 0 ≤ _), (by decide : 15 + 0 ≤ _)⟩)
    dsimp only [Pt.U, Pt.locs, Pt.cells, Pt.slots] at X76 l76 y76 z76 st76 hQ76
    subst l76 y76 z76
    obtain ⟨rfl, N76q, Kc76, P77, P78, P79, P80, P81, P82, P83⟩ := hQ76
    have K76 : Keep h0 T76.heap [] := K66.trans Kc76 (allS (Or.inr sz_b63) all0)
    have N76 := Fr.app N74 N76q
    obtain ⟨v84, hv84⟩ : ∃ z : Int32, z = (nar .boolean (if (0 : Int32) = (0 : Int32) then (if ((0 : Int32) + (1 : Int32)) = ((0 : Int32) + (1 : Int32)) then (1 : Int32) else (0 : Int32)) else (0 : Int32))) := ⟨_, rfl⟩
    have hp85 : (1 : Int32) < (2 : Int32) := (by decide)
    obtain ⟨_, _, ⟨T86, L86, k86, n86⟩, -, X86, ⟨Lc86, hQ86, l86, y86, z86⟩, st86⟩ := Jvm.LawKit.callS X76 hx (y := (⟨"com/example/psilattice/psilattice/lang/WrittenGraphNodePinLaw", "step", "(Lcom/example/psilattice/psilattice/lang/WrittenGraph;II)Z"⟩ : MethodName)) hown (mvT hZ (hw _ (List.mem_of_getElem? (i := 47) rfl))) (mvT hZ (hw _ (List.mem_of_getElem? (i := 48) rfl))) (mvT hZ (hw _ (List.mem_of_getElem? (i := 49) rfl))) (mvT hZ (hw _ (List.mem_of_getElem? (i := 50) rfl))) (by decide) (backOf (W := 0) (rm7b l Z A0 hw [] b63 (1 : Int32) (2 : Int32) (.ref b66_b2) (.ref b66_b12) (.ref b66_b24) ((0 : Int32) + (1 : Int32)) (0 : Int64) (0 : Int64) T76.heap n0 (Nat.le_trans Z0 K76.1) P77 P78 P79 P80 P81 P82 P83 nw_b63 hp85) hZ (hw _ (List.mem_of_getElem? (i := 50) rfl)) (hw _ (List.mem_of_getElem? (i := 49) rfl)) (by decide) (by decide)) (g := (mkF m 39 #[.val (.int p0), .val (.int (2 : Int32)), .val (.ref b63), .val (.int (1 : Int32)), .val (.int v84), .unset, .unset, .unset, .unset] [(.int (2 : Int32)), (.int (1 : Int32)), (.ref b63)])) rfl (by rw [hml]; rfl) (argsL := [(.ref b63), (.int (1 : Int32)), (.int (2 : Int32))]) (rest := []) (lenOf pd_2 rfl) rfl (by show 2 * 0 + _ ≤ _; exact Nat.le_of_eq rfl) (hb hby at_39) (fun _ _ => ⟨rfl, rfl, (by decide : 4 + 0 ≤ _), (by decide : 15 + 0 ≤ _)⟩)
    dsimp only [Pt.U, Pt.locs, Pt.cells, Pt.slots] at X86 l86 y86 z86 st86 hQ86
    subst l86 y86 z86
    obtain ⟨rfl, N86q, Kc86, P87, P88, P89, P90, P91, P92, P93⟩ := hQ86
    have K86 : Keep h0 T86.heap [] := K76.trans Kc86 (allS (Or.inr sz_b63) all0)
    have N86 := Fr.app N76 N86q
    obtain ⟨v94, hv94⟩ : ∃ z : Int32, z = (nar .boolean (if ((0 : Int32) + (1 : Int32)) = (1 : Int32) then (if (((0 : Int32) + (1 : Int32)) + (1 : Int32)) = ((1 : Int32) + (1 : Int32)) then (1 : Int32) else (0 : Int32)) else (0 : Int32))) := ⟨_, rfl⟩
    have hp95 : ¬ ((2 : Int32) < (2 : Int32)) := (by decide)
    obtain ⟨_, _, ⟨T96, L96, k96, n96⟩, -, X96, ⟨Lc96, hQ96, l96, y96, z96⟩, st96⟩ := Jvm.LawKit.callS X86 hx (y := (⟨"com/example/psilattice/psilattice/lang/WrittenGraphNodePinLaw", "step", "(Lcom/example/psilattice/psilattice/lang/WrittenGraph;II)Z"⟩ : MethodName)) hown (mvT hZ (hw _ (List.mem_of_getElem? (i := 47) rfl))) (mvT hZ (hw _ (List.mem_of_getElem? (i := 48) rfl))) (mvT hZ (hw _ (List.mem_of_getElem? (i := 49) rfl))) (mvT hZ (hw _ (List.mem_of_getElem? (i := 50) rfl))) (by decide) (backOf (W := 0) (rm7a l Z A0 hw [] b63 (2 : Int32) (2 : Int32) T86.heap n0 (Nat.le_trans Z0 K86.1) hp95) hZ (hw _ (List.mem_of_getElem? (i := 50) rfl)) (hw _ (List.mem_of_getElem? (i := 49) rfl)) (by decide) (by decide)) (g := (mkF m 47 #[.val (.int p0), .val (.int (2 : Int32)), .val (.ref b63), .val (.int (1 : Int32)), .val (.int v84), .val (.int v94), .unset, .unset, .unset] [(.int (2 : Int32)), (.int (2 : Int32)), (.ref b63)])) rfl (by rw [hml]; rfl) (argsL := [(.ref b63), (.int (2 : Int32)), (.int (2 : Int32))]) (rest := []) (lenOf pd_2 rfl) rfl (by show 2 * 0 + _ ≤ _; exact Nat.le_of_eq rfl) (hb hby at_47) (fun _ _ => ⟨rfl, rfl, (by decide : 4 + 0 ≤ _), (by decide : 15 + 0 ≤ _)⟩)
    dsimp only [Pt.U, Pt.locs, Pt.cells, Pt.slots] at X96 l96 y96 z96 st96 hQ96
    subst l96 y96 z96
    obtain ⟨rfl, N96q, e96⟩ := hQ96
    have N96 := Fr.app N86 N96q
    have hp97 : ¬ ((3 : Int32) < (2 : Int32)) := (by decide)
    obtain ⟨_, _, ⟨T98, L98, k98, n98⟩, -, X98, ⟨Lc98, hQ98, l98, y98, z98⟩, st98⟩ := Jvm.LawKit.callS X96 hx (y := (⟨"com/example/psilattice/psilattice/lang/WrittenGraphNodePinLaw", "step", "(Lcom/example/psilattice/psilattice/lang/WrittenGraph;II)Z"⟩ : MethodName)) hown (mvT hZ (hw _ (List.mem_of_getElem? (i := 47) rfl))) (mvT hZ (hw _ (List.mem_of_getElem? (i := 48) rfl))) (mvT hZ (hw _ (List.mem_of_getElem? (i := 49) rfl))) (mvT hZ (hw _ (List.mem_of_getElem? (i := 50) rfl))) (by decide) (backOf (W := 0) (rm7a l Z A0 hw [] b63 (3 : Int32) (2 : Int32) T86.heap n0 (Nat.le_trans Z0 K86.1) hp97) hZ (hw _ (List.mem_of_getElem? (i := 50) rfl)) (hw _ (List.mem_of_getElem? (i := 49) rfl)) (by decide) (by decide)) (g := (mkF m 55 #[.val (.int p0), .val (.int (2 : Int32)), .val (.ref b63), .val (.int (1 : Int32)), .val (.int v84), .val (.int v94), .val (.int (1 : Int32)), .unset, .unset] [(.int (2 : Int32)), (.int (3 : Int32)), (.ref b63)])) rfl (by rw [hml]; rfl) (argsL := [(.ref b63), (.int (3 : Int32)), (.int (2 : Int32))]) (rest := []) (lenOf pd_2 rfl) rfl (by show 2 * 0 + _ ≤ _; exact Nat.le_of_eq rfl) (hb hby at_55) (fun _ _ => ⟨rfl, e96, (by decide : 4 + 0 ≤ _), (by decide : 15 + 0 ≤ _)⟩)
    dsimp only [Pt.U, Pt.locs, Pt.cells, Pt.slots] at X98 l98 y98 z98 st98 hQ98
    subst l98 y98 z98
    obtain ⟨rfl, N98q, e98⟩ := hQ98
    have N98 := Fr.app N96 N98q
    obtain ⟨cq99, kq99, q99a, q99b, q99c⟩ := isOf hZ e98 P87
    obtain ⟨_, _, ⟨T99, L99, k99, n99⟩, -, X99, ⟨Lc99, hQ99, l99, y99, z99⟩, st99⟩ := X98.virtualBack hx (y := (⟨"com/example/psilattice/psilattice/lang/WrittenGraph", "copiedNodes", "()J"⟩ : MethodName)) (z := (⟨"com/example/psilattice/psilattice/lang/WrittenGraph", "copiedNodes", "()J"⟩ : MethodName)) hown (mvT hZ (hw _ (List.mem_of_getElem? (i := 51) rfl))) (mvT hZ (hw _ (List.mem_of_getElem? (i := 52) rfl))) (notFace_of_selects (args := #[]) (mvT hZ (hw _ (List.mem_of_getElem? (i := 54) rfl)))) (mvT hZ (hw _ (List.mem_of_getElem? (i := 54) rfl))) (mvT hZ (hw _ (List.mem_of_getElem? (i := 53) rfl))) (by decide) (backOf (W := 0) (rm8 l Z A0 hw [] b63 (.ref b66_b2) (.ref b66_b12) (.ref b66_b24) (((0 : Int32) + (1 : Int32)) + (1 : Int32)) (0 : Int64) (0 : Int64) T86.heap n0 (Nat.le_trans Z0 K86.1) P87 P88 P89 P90 P91 P92 P93) hZ (hw _ (List.mem_of_getElem? (i := 55) rfl)) (hw _ (List.mem_of_getElem? (i := 3) rfl)) (by decide) (by decide)) q99a q99c (g := (mkF m 61 #[.val (.int p0), .val (.int (2 : Int32)), .val (.ref b63), .val (.int (1 : Int32)), .val (.int v84), .val (.int v94), .val (.int (1 : Int32)), .val (.int (1 : Int32)), .unset] [(.ref b63)])) rfl (by rw [hml]; rfl) (Steps.refl _) (argsL := []) (rest := []) (lenOf pd_3 rfl) rfl (by show 2 * 0 + _ ≤ _; exact Nat.le_of_eq rfl) (hb hby at_61) (fun _ _ => ⟨rfl, e98, (by decide : 4 + 0 ≤ _), (by decide : 15 + 0 ≤ _)⟩)
    dsimp only [Pt.U, Pt.locs, Pt.cells, Pt.slots] at X99 l99 y99 z99 st99 hQ99
    subst l99 y99 z99
    obtain ⟨rfl, N99q, e99⟩ := hQ99
    have N99 := Fr.app N98 N99q
    obtain ⟨cq100, kq100, q100a, q100b, q100c⟩ := isOf hZ e99 P87
    obtain ⟨_, _, ⟨T100, L100, k100, n100⟩, -, X100, ⟨Lc100, hQ100, l100, y100, z100⟩, st100⟩ := X99.virtualBack hx (y := (⟨"com/example/psilattice/psilattice/lang/WrittenGraph", "copies", "()J"⟩ : MethodName)) (z := (⟨"com/example/psilattice/psilattice/lang/WrittenGraph", "copies", "()J"⟩ : MethodName)) hown (mvT hZ (hw _ (List.mem_of_getElem? (i := 58) rfl))) (mvT hZ (hw _ (List.mem_of_getElem? (i := 59) rfl))) (notFace_of_selects (args := #[]) (mvT hZ (hw _ (List.mem_of_getElem? (i := 61) rfl)))) (mvT hZ (hw _ (List.mem_of_getElem? (i := 61) rfl))) (mvT hZ (hw _ (List.mem_of_getElem? (i := 60) rfl))) (by decide) (backOf (W := 0) (rm9 l Z A0 hw [] b63 (.ref b66_b2) (.ref b66_b12) (.ref b66_b24) (((0 : Int32) + (1 : Int32)) + (1 : Int32)) (0 : Int64) (0 : Int64) T86.heap n0 (Nat.le_trans Z0 K86.1) P87 P88 P89 P90 P91 P92 P93) hZ (hw _ (List.mem_of_getElem? (i := 62) rfl)) (hw _ (List.mem_of_getElem? (i := 3) rfl)) (by decide) (by decide)) q100a q100c (g := (mkF m 70 #[.val (.int p0), .val (.int (2 : Int32)), .val (.ref b63), .val (.int (1 : Int32)), .val (.int v84), .val (.int v94), .val (.int (1 : Int32)), .val (.int (1 : Int32)), .unset] [(.ref b63)])) rfl (by rw [hml]; rfl) (Steps.refl _) (argsL := []) (rest := []) (lenOf pd_3 rfl) rfl (by show 2 * 0 + _ ≤ _; exact Nat.le_of_eq rfl) (hb hby at_70) (fun _ _ => ⟨rfl, e99, (by decide : 4 + 0 ≤ _), (by decide : 15 + 0 ≤ _)⟩)
    dsimp only [Pt.U, Pt.locs, Pt.cells, Pt.slots] at X100 l100 y100 z100 st100 hQ100
    subst l100 y100 z100
    obtain ⟨rfl, N100q, e100⟩ := hQ100
    have N100 := Fr.app N99 N100q
    obtain ⟨v111, hv111⟩ : ∃ z : Int32, z = if v84 = (0 : Int32) then (0 : Int32) else (if v94 = (0 : Int32) then (0 : Int32) else (if (((0 : Int32) + (1 : Int32)) + (1 : Int32)) = (2 : Int32) then (1 : Int32) else (0 : Int32))) := ⟨_, rfl⟩
    obtain ⟨T112, L112, X112, N112, e112, st112⟩ : ∃ (T' : State) (L' : List Loc), Stand p l e room_1 s m #[(.int p0)] below meth c T' L' 4 15 ∧ Fr n0 L' ∧ T'.heap = T86.heap ∧ ∀ target, Steps p.tables e below (T'.setTop (mkF m 127 #[.val (.int p0), .val (.int (2 : Int32)), .val (.ref b63), .val (.int (1 : Int32)), .val (.int v84), .val (.int v94), .val (.int (1 : Int32)), .val (.int (1 : Int32)), .val (.int (1 : Int32))] [(.int v111)])) target → Steps p.tables e below (T100.setTop (mkF m 91 #[.val (.int p0), .val (.int (2 : Int32)), .val (.ref b63), .val (.int (1 : Int32)), .val (.int v84), .val (.int v94), .val (.int (1 : Int32)), .val (.int (1 : Int32)), .val (.int (1 : Int32))] [(.int v84)])) target := by
      by_cases hc103 : v84 = (0 : Int32)
      · refine ⟨T100, _, X100, N100, e100, fun target kt => ?_⟩
        show Steps p.tables e below (T100.setTop (mkF m 91 #[.val (.int p0), .val (.int (2 : Int32)), .val (.ref b63), .val (.int (1 : Int32)), .val (.int v84), .val (.int v94), .val (.int (1 : Int32)), .val (.int (1 : Int32)), .val (.int (1 : Int32))] [(.int v84)])) _
        refine XS.ifYes X100.here hx rfl (pc0 := 91) (pc' := 126) rfl (hb hby at_91) rfl ((if0 _ _).trans (teq hc103).1) (by decide) (by decide) ?_
        show Steps p.tables e below (T100.setTop (mkF m 126 #[.val (.int p0), .val (.int (2 : Int32)), .val (.ref b63), .val (.int (1 : Int32)), .val (.int v84), .val (.int v94), .val (.int (1 : Int32)), .val (.int (1 : Int32)), .val (.int (1 : Int32))] [])) _
        refine XS.iconst X100.here hx rfl (hb hby at_126) ?_
        exact castTop (by rw [hv111, if_pos hc103] <;> rfl) kt
      · obtain ⟨v109, hv109⟩ : ∃ z : Int32, z = if v94 = (0 : Int32) then (0 : Int32) else (if (((0 : Int32) + (1 : Int32)) + (1 : Int32)) = (2 : Int32) then (1 : Int32) else (0 : Int32)) := ⟨_, rfl⟩
        obtain ⟨T110, L110, X110, N110, e110, st110⟩ : ∃ (T' : State) (L' : List Loc), Stand p l e room_1 s m #[(.int p0)] below meth c T' L' 4 15 ∧ Fr n0 L' ∧ T'.heap = T86.heap ∧ ∀ target, Steps p.tables e below (T'.setTop (mkF m 127 #[.val (.int p0), .val (.int (2 : Int32)), .val (.ref b63), .val (.int (1 : Int32)), .val (.int v84), .val (.int v94), .val (.int (1 : Int32)), .val (.int (1 : Int32)), .val (.int (1 : Int32))] [(.int v109)])) target → Steps p.tables e below (T100.setTop (mkF m 96 #[.val (.int p0), .val (.int (2 : Int32)), .val (.ref b63), .val (.int (1 : Int32)), .val (.int v84), .val (.int v94), .val (.int (1 : Int32)), .val (.int (1 : Int32)), .val (.int (1 : Int32))] [(.int v94)])) target := by
          by_cases hc105 : v94 = (0 : Int32)
          · refine ⟨T100, _, X100, N100, e100, fun target kt => ?_⟩
            show Steps p.tables e below (T100.setTop (mkF m 96 #[.val (.int p0), .val (.int (2 : Int32)), .val (.ref b63), .val (.int (1 : Int32)), .val (.int v84), .val (.int v94), .val (.int (1 : Int32)), .val (.int (1 : Int32)), .val (.int (1 : Int32))] [(.int v94)])) _
            refine XS.ifYes X100.here hx rfl (pc0 := 96) (pc' := 126) rfl (hb hby at_96) rfl ((if0 _ _).trans (teq hc105).1) (by decide) (by decide) ?_
            show Steps p.tables e below (T100.setTop (mkF m 126 #[.val (.int p0), .val (.int (2 : Int32)), .val (.ref b63), .val (.int (1 : Int32)), .val (.int v84), .val (.int v94), .val (.int (1 : Int32)), .val (.int (1 : Int32)), .val (.int (1 : Int32))] [])) _
            refine XS.iconst X100.here hx rfl (hb hby at_126) ?_
            exact castTop (by rw [hv109, if_pos hc105] <;> rfl) kt
          · obtain ⟨cq106, kq106, q106a, q106b, q106c⟩ := isOf hZ e100 P87
            obtain ⟨_, _, ⟨T106, L106, k106, n106⟩, -, X106, ⟨Lc106, hQ106, l106, y106, z106⟩, st106⟩ := X100.virtualBack hx (y := (⟨"com/example/psilattice/psilattice/lang/WrittenGraph", "size", "()I"⟩ : MethodName)) (z := (⟨"com/example/psilattice/psilattice/lang/WrittenGraph", "size", "()I"⟩ : MethodName)) hown (mvT hZ (hw _ (List.mem_of_getElem? (i := 40) rfl))) (mvT hZ (hw _ (List.mem_of_getElem? (i := 41) rfl))) (notFace_of_selects (args := #[]) (mvT hZ (hw _ (List.mem_of_getElem? (i := 43) rfl)))) (mvT hZ (hw _ (List.mem_of_getElem? (i := 43) rfl))) (mvT hZ (hw _ (List.mem_of_getElem? (i := 42) rfl))) (by decide) (backOf (W := 0) (rm6 l Z A0 hw [] b63 (.ref b66_b2) (.ref b66_b12) (.ref b66_b24) (((0 : Int32) + (1 : Int32)) + (1 : Int32)) (0 : Int64) (0 : Int64) T86.heap n0 (Nat.le_trans Z0 K86.1) P87 P88 P89 P90 P91 P92 P93) hZ (hw _ (List.mem_of_getElem? (i := 44) rfl)) (hw _ (List.mem_of_getElem? (i := 3) rfl)) (by decide) (by decide)) q106a q106c (g := (mkF m 115 #[.val (.int p0), .val (.int (2 : Int32)), .val (.ref b63), .val (.int (1 : Int32)), .val (.int v84), .val (.int v94), .val (.int (1 : Int32)), .val (.int (1 : Int32)), .val (.int (1 : Int32))] [(.ref b63)])) rfl (by rw [hml]; rfl) (Steps.refl _) (argsL := []) (rest := []) (lenOf pd_1 rfl) rfl (by show 2 * 0 + _ ≤ _; exact Nat.le_of_eq rfl) (hb hby at_115) (fun _ _ => ⟨rfl, e100, (by decide : 4 + 0 ≤ _), (by decide : 15 + 0 ≤ _)⟩)
            dsimp only [Pt.U, Pt.locs, Pt.cells, Pt.slots] at X106 l106 y106 z106 st106 hQ106
            subst l106 y106 z106
            obtain ⟨rfl, N106q, e106⟩ := hQ106
            have N106 := Fr.app N100 N106q
            obtain ⟨v108, hv108⟩ : ∃ z : Int32, z = if (((0 : Int32) + (1 : Int32)) + (1 : Int32)) = (2 : Int32) then (1 : Int32) else (0 : Int32) := ⟨_, rfl⟩
            refine ⟨T106, _, X106, N106, e106, fun target kt => ?_⟩
            show Steps p.tables e below (T100.setTop (mkF m 96 #[.val (.int p0), .val (.int (2 : Int32)), .val (.ref b63), .val (.int (1 : Int32)), .val (.int v84), .val (.int v94), .val (.int (1 : Int32)), .val (.int (1 : Int32)), .val (.int (1 : Int32))] [(.int v94)])) _
            refine XS.ifNo X100.here hx rfl (hb hby at_96) rfl ((if0 _ _).trans (feq hc105).1) ?_
            show Steps p.tables e below (T100.setTop (mkF m 99 #[.val (.int p0), .val (.int (2 : Int32)), .val (.ref b63), .val (.int (1 : Int32)), .val (.int v84), .val (.int v94), .val (.int (1 : Int32)), .val (.int (1 : Int32)), .val (.int (1 : Int32))] [])) _
            refine XS.iload X100.here hx rfl (hb hby at_99) rfl ?_
            show Steps p.tables e below (T100.setTop (mkF m 101 #[.val (.int p0), .val (.int (2 : Int32)), .val (.ref b63), .val (.int (1 : Int32)), .val (.int v84), .val (.int v94), .val (.int (1 : Int32)), .val (.int (1 : Int32)), .val (.int (1 : Int32))] [(.int (1 : Int32))])) _
            refine XS.ifNo X100.here hx rfl (hb hby at_101) rfl ((if0 _ _).trans (feq (by decide)).1) ?_
            show Steps p.tables e below (T100.setTop (mkF m 104 #[.val (.int p0), .val (.int (2 : Int32)), .val (.ref b63), .val (.int (1 : Int32)), .val (.int v84), .val (.int v94), .val (.int (1 : Int32)), .val (.int (1 : Int32)), .val (.int (1 : Int32))] [])) _
            refine XS.iload X100.here hx rfl (hb hby at_104) rfl ?_
            show Steps p.tables e below (T100.setTop (mkF m 106 #[.val (.int p0), .val (.int (2 : Int32)), .val (.ref b63), .val (.int (1 : Int32)), .val (.int v84), .val (.int v94), .val (.int (1 : Int32)), .val (.int (1 : Int32)), .val (.int (1 : Int32))] [(.int (1 : Int32))])) _
            refine XS.ifNo X100.here hx rfl (hb hby at_106) rfl ((if0 _ _).trans (feq (by decide)).1) ?_
            show Steps p.tables e below (T100.setTop (mkF m 109 #[.val (.int p0), .val (.int (2 : Int32)), .val (.ref b63), .val (.int (1 : Int32)), .val (.int v84), .val (.int v94), .val (.int (1 : Int32)), .val (.int (1 : Int32)), .val (.int (1 : Int32))] [])) _
            refine XS.iload X100.here hx rfl (hb hby at_109) rfl ?_
            show Steps p.tables e below (T100.setTop (mkF m 111 #[.val (.int p0), .val (.int (2 : Int32)), .val (.ref b63), .val (.int (1 : Int32)), .val (.int v84), .val (.int v94), .val (.int (1 : Int32)), .val (.int (1 : Int32)), .val (.int (1 : Int32))] [(.int (1 : Int32))])) _
            refine XS.ifNo X100.here hx rfl (hb hby at_111) rfl ((if0 _ _).trans (feq (by decide)).1) ?_
            show Steps p.tables e below (T100.setTop (mkF m 114 #[.val (.int p0), .val (.int (2 : Int32)), .val (.ref b63), .val (.int (1 : Int32)), .val (.int v84), .val (.int v94), .val (.int (1 : Int32)), .val (.int (1 : Int32)), .val (.int (1 : Int32))] [])) _
            refine XS.aloadN X100.here hx rfl (hb hby at_114) rfl rfl ?_
            show Steps p.tables e below (T100.setTop (mkF m 115 #[.val (.int p0), .val (.int (2 : Int32)), .val (.ref b63), .val (.int (1 : Int32)), .val (.int v84), .val (.int v94), .val (.int (1 : Int32)), .val (.int (1 : Int32)), .val (.int (1 : Int32))] [(.ref b63)])) _
            refine st106.trans ?_
            show Steps p.tables e below (T106.setTop (mkF m 118 #[.val (.int p0), .val (.int (2 : Int32)), .val (.ref b63), .val (.int (1 : Int32)), .val (.int v84), .val (.int v94), .val (.int (1 : Int32)), .val (.int (1 : Int32)), .val (.int (1 : Int32))] [(.int (((0 : Int32) + (1 : Int32)) + (1 : Int32)))])) _
            refine XS.iloadN X106.here hx rfl (hb hby at_118) rfl ?_
            show Steps p.tables e below (T106.setTop (mkF m 119 #[.val (.int p0), .val (.int (2 : Int32)), .val (.ref b63), .val (.int (1 : Int32)), .val (.int v84), .val (.int v94), .val (.int (1 : Int32)), .val (.int (1 : Int32)), .val (.int (1 : Int32))] [(.int (2 : Int32)), (.int (((0 : Int32) + (1 : Int32)) + (1 : Int32)))])) _
            refine own_dia (F := (mkF m 127 #[.val (.int p0), .val (.int (2 : Int32)), .val (.ref b63), .val (.int (1 : Int32)), .val (.int v84), .val (.int v94), .val (.int (1 : Int32)), .val (.int (1 : Int32)), .val (.int (1 : Int32))] [(.int v108)])) ?_ ?_
            · intro kt
              by_cases hc107 : (((0 : Int32) + (1 : Int32)) + (1 : Int32)) = (2 : Int32)
              · show Steps p.tables e below (T106.setTop (mkF m 119 #[.val (.int p0), .val (.int (2 : Int32)), .val (.ref b63), .val (.int (1 : Int32)), .val (.int v84), .val (.int v94), .val (.int (1 : Int32)), .val (.int (1 : Int32)), .val (.int (1 : Int32))] [(.int (2 : Int32)), (.int (((0 : Int32) + (1 : Int32)) + (1 : Int32)))])) _
                refine XS.icmpNo X106.here hx rfl (hb hby at_119) rfl (teq hc107).2 ?_
                show Steps p.tables e below (T106.setTop (mkF m 122 #[.val (.int p0), .val (.int (2 : Int32)), .val (.ref b63), .val (.int (1 : Int32)), .val (.int v84), .val (.int v94), .val (.int (1 : Int32)), .val (.int (1 : Int32)), .val (.int (1 : Int32))] [])) _
                refine XS.iconst X106.here hx rfl (hb hby at_122) ?_
                show Steps p.tables e below (T106.setTop (mkF m 123 #[.val (.int p0), .val (.int (2 : Int32)), .val (.ref b63), .val (.int (1 : Int32)), .val (.int v84), .val (.int v94), .val (.int (1 : Int32)), .val (.int (1 : Int32)), .val (.int (1 : Int32))] [(.int (1 : Int32))])) _
                refine XS.goto X106.here hx rfl (pc0 := 123) (pc' := 127) rfl (hb hby at_123) (by decide) (by decide) ?_
                exact castTop (by rw [hv108, if_pos hc107] <;> rfl) kt
              · show Steps p.tables e below (T106.setTop (mkF m 119 #[.val (.int p0), .val (.int (2 : Int32)), .val (.ref b63), .val (.int (1 : Int32)), .val (.int v84), .val (.int v94), .val (.int (1 : Int32)), .val (.int (1 : Int32)), .val (.int (1 : Int32))] [(.int (2 : Int32)), (.int (((0 : Int32) + (1 : Int32)) + (1 : Int32)))])) _
                refine XS.icmpYes X106.here hx rfl (pc0 := 119) (pc' := 126) rfl (hb hby at_119) rfl (feq hc107).2 (by decide) (by decide) ?_
                show Steps p.tables e below (T106.setTop (mkF m 126 #[.val (.int p0), .val (.int (2 : Int32)), .val (.ref b63), .val (.int (1 : Int32)), .val (.int v84), .val (.int v94), .val (.int (1 : Int32)), .val (.int (1 : Int32)), .val (.int (1 : Int32))] [])) _
                refine XS.iconst X106.here hx rfl (hb hby at_126) ?_
                exact castTop (by rw [hv108, if_neg hc107] <;> rfl) kt
            exact castTop (by subst hv108; rw [hv109, if_neg hc105] <;> rfl) kt
        refine ⟨T110, _, X110, N110, e110, fun target kt => ?_⟩
        show Steps p.tables e below (T100.setTop (mkF m 91 #[.val (.int p0), .val (.int (2 : Int32)), .val (.ref b63), .val (.int (1 : Int32)), .val (.int v84), .val (.int v94), .val (.int (1 : Int32)), .val (.int (1 : Int32)), .val (.int (1 : Int32))] [(.int v84)])) _
        refine XS.ifNo X100.here hx rfl (hb hby at_91) rfl ((if0 _ _).trans (feq hc103).1) ?_
        show Steps p.tables e below (T100.setTop (mkF m 94 #[.val (.int p0), .val (.int (2 : Int32)), .val (.ref b63), .val (.int (1 : Int32)), .val (.int v84), .val (.int v94), .val (.int (1 : Int32)), .val (.int (1 : Int32)), .val (.int (1 : Int32))] [])) _
        refine XS.iload X100.here hx rfl (hb hby at_94) rfl ?_
        show Steps p.tables e below (T100.setTop (mkF m 96 #[.val (.int p0), .val (.int (2 : Int32)), .val (.ref b63), .val (.int (1 : Int32)), .val (.int v84), .val (.int v94), .val (.int (1 : Int32)), .val (.int (1 : Int32)), .val (.int (1 : Int32))] [(.int v94)])) _
        refine st110 _ ?_
        exact castTop (by subst hv109; rw [hv111, if_neg hc103] <;> rfl) kt
    obtain ⟨fs, hr, hrun, hended, hW, hsame⟩ := X112.leave (v := some (.int (nar .boolean v111))) (fun h => by rw [Bd.returns] at h; cases h)
    refine ⟨_, _, pre0 _ (ck2 _ ?_), hrun, hended, _, _, rfl, ?_, ⟨_, rfl⟩, hW, hsame.mono (by decide) (by decide)⟩
    · show Steps p.tables e below (s₁.setTop (mkF m 7 #[.val (.int p0), .val (.int (2 : Int32)), .unset, .unset, .unset, .unset, .unset, .unset, .unset] [])) _
      refine st63 _ ?_
      show Steps p.tables e below (T63.setTop (mkF m 10 #[.val (.int p0), .val (.int (2 : Int32)), .unset, .unset, .unset, .unset, .unset, .unset, .unset] [(.ref b63)])) _
      refine XS.dup X63.here hx rfl (hb hby at_10) rfl rfl ?_
      show Steps p.tables e below (T63.setTop (mkF m 11 #[.val (.int p0), .val (.int (2 : Int32)), .unset, .unset, .unset, .unset, .unset, .unset, .unset] [(.ref b63), (.ref b63)])) _
      refine st66.trans ?_
      show Steps p.tables e below (T66.setTop (mkF m 14 #[.val (.int p0), .val (.int (2 : Int32)), .unset, .unset, .unset, .unset, .unset, .unset, .unset] [(.ref b63)])) _
      refine XS.astoreN X66.here hx rfl (hb hby at_14) rfl rfl (l' := #[.val (.int p0), .val (.int (2 : Int32)), .val (.ref b63), .unset, .unset, .unset, .unset, .unset, .unset]) rfl ?_
      show Steps p.tables e below (T66.setTop (mkF m 15 #[.val (.int p0), .val (.int (2 : Int32)), .val (.ref b63), .unset, .unset, .unset, .unset, .unset, .unset] [])) _
      refine XS.aloadN X66.here hx rfl (hb hby at_15) rfl rfl ?_
      show Steps p.tables e below (T66.setTop (mkF m 16 #[.val (.int p0), .val (.int (2 : Int32)), .val (.ref b63), .unset, .unset, .unset, .unset, .unset, .unset] [(.ref b63)])) _
      refine st74.trans ?_
      show Steps p.tables e below (T74.setTop (mkF m 19 #[.val (.int p0), .val (.int (2 : Int32)), .val (.ref b63), .unset, .unset, .unset, .unset, .unset, .unset] [(.int (0 : Int32))])) _
      refine XS.ifNo X74.here hx rfl (hb hby at_19) rfl ((if0 _ _).trans (teq (by decide)).2) ?_
      show Steps p.tables e below (T74.setTop (mkF m 22 #[.val (.int p0), .val (.int (2 : Int32)), .val (.ref b63), .unset, .unset, .unset, .unset, .unset, .unset] [])) _
      refine XS.iconst X74.here hx rfl (hb hby at_22) ?_
      show Steps p.tables e below (T74.setTop (mkF m 23 #[.val (.int p0), .val (.int (2 : Int32)), .val (.ref b63), .unset, .unset, .unset, .unset, .unset, .unset] [(.int (1 : Int32))])) _
      refine XS.goto X74.here hx rfl (pc0 := 23) (pc' := 27) rfl (hb hby at_23) (by decide) (by decide) ?_
      show Steps p.tables e below (T74.setTop (mkF m 27 #[.val (.int p0), .val (.int (2 : Int32)), .val (.ref b63), .unset, .unset, .unset, .unset, .unset, .unset] [(.int (1 : Int32))])) _
      refine XS.istoreN X74.here hx rfl (hb hby at_27) rfl (l' := #[.val (.int p0), .val (.int (2 : Int32)), .val (.ref b63), .val (.int (1 : Int32)), .unset, .unset, .unset, .unset, .unset]) rfl ?_
      show Steps p.tables e below (T74.setTop (mkF m 28 #[.val (.int p0), .val (.int (2 : Int32)), .val (.ref b63), .val (.int (1 : Int32)), .unset, .unset, .unset, .unset, .unset] [])) _
      refine XS.aloadN X74.here hx rfl (hb hby at_28) rfl rfl ?_
      show Steps p.tables e below (T74.setTop (mkF m 29 #[.val (.int p0), .val (.int (2 : Int32)), .val (.ref b63), .val (.int (1 : Int32)), .unset, .unset, .unset, .unset, .unset] [(.ref b63)])) _
      refine XS.iconst X74.here hx rfl (hb hby at_29) ?_
      show Steps p.tables e below (T74.setTop (mkF m 30 #[.val (.int p0), .val (.int (2 : Int32)), .val (.ref b63), .val (.int (1 : Int32)), .unset, .unset, .unset, .unset, .unset] [(.int (0 : Int32)), (.ref b63)])) _
      refine XS.iloadN X74.here hx rfl (hb hby at_30) rfl ?_
      show Steps p.tables e below (T74.setTop (mkF m 31 #[.val (.int p0), .val (.int (2 : Int32)), .val (.ref b63), .val (.int (1 : Int32)), .unset, .unset, .unset, .unset, .unset] [(.int (2 : Int32)), (.int (0 : Int32)), (.ref b63)])) _
      refine st76 _ ?_
      show Steps p.tables e below (T76.setTop (mkF m 34 #[.val (.int p0), .val (.int (2 : Int32)), .val (.ref b63), .val (.int (1 : Int32)), .unset, .unset, .unset, .unset, .unset] [(.int (nar .boolean (if (0 : Int32) = (0 : Int32) then (if ((0 : Int32) + (1 : Int32)) = ((0 : Int32) + (1 : Int32)) then (1 : Int32) else (0 : Int32)) else (0 : Int32))))])) _
      refine castTop (g' := (mkF m 34 #[.val (.int p0), .val (.int (2 : Int32)), .val (.ref b63), .val (.int (1 : Int32)), .unset, .unset, .unset, .unset, .unset] [(.int v84)])) (by rw [hv84] <;> rfl) ?_
      show Steps p.tables e below (T76.setTop (mkF m 34 #[.val (.int p0), .val (.int (2 : Int32)), .val (.ref b63), .val (.int (1 : Int32)), .unset, .unset, .unset, .unset, .unset] [(.int v84)])) _
      refine XS.istore X76.here hx rfl (hb hby at_34) rfl (l' := #[.val (.int p0), .val (.int (2 : Int32)), .val (.ref b63), .val (.int (1 : Int32)), .val (.int v84), .unset, .unset, .unset, .unset]) rfl ?_
      show Steps p.tables e below (T76.setTop (mkF m 36 #[.val (.int p0), .val (.int (2 : Int32)), .val (.ref b63), .val (.int (1 : Int32)), .val (.int v84), .unset, .unset, .unset, .unset] [])) _
      refine XS.aloadN X76.here hx rfl (hb hby at_36) rfl rfl ?_
      show Steps p.tables e below (T76.setTop (mkF m 37 #[.val (.int p0), .val (.int (2 : Int32)), .val (.ref b63), .val (.int (1 : Int32)), .val (.int v84), .unset, .unset, .unset, .unset] [(.ref b63)])) _
      refine XS.iconst X76.here hx rfl (hb hby at_37) ?_
      show Steps p.tables e below (T76.setTop (mkF m 38 #[.val (.int p0), .val (.int (2 : Int32)), .val (.ref b63), .val (.int (1 : Int32)), .val (.int v84), .unset, .unset, .unset, .unset] [(.int (1 : Int32)), (.ref b63)])) _
      refine XS.iloadN X76.here hx rfl (hb hby at_38) rfl ?_
      show Steps p.tables e below (T76.setTop (mkF m 39 #[.val (.int p0), .val (.int (2 : Int32)), .val (.ref b63), .val (.int (1 : Int32)), .val (.int v84), .unset, .unset, .unset, .unset] [(.int (2 : Int32)), (.int (1 : Int32)), (.ref b63)])) _
      refine st86 _ ?_
      show Steps p.tables e below (T86.setTop (mkF m 42 #[.val (.int p0), .val (.int (2 : Int32)), .val (.ref b63), .val (.int (1 : Int32)), .val (.int v84), .unset, .unset, .unset, .unset] [(.int (nar .boolean (if ((0 : Int32) + (1 : Int32)) = (1 : Int32) then (if (((0 : Int32) + (1 : Int32)) + (1 : Int32)) = ((1 : Int32) + (1 : Int32)) then (1 : Int32) else (0 : Int32)) else (0 : Int32))))])) _
      refine castTop (g' := (mkF m 42 #[.val (.int p0), .val (.int (2 : Int32)), .val (.ref b63), .val (.int (1 : Int32)), .val (.int v84), .unset, .unset, .unset, .unset] [(.int v94)])) (by rw [hv94] <;> rfl) ?_
      show Steps p.tables e below (T86.setTop (mkF m 42 #[.val (.int p0), .val (.int (2 : Int32)), .val (.ref b63), .val (.int (1 : Int32)), .val (.int v84), .unset, .unset, .unset, .unset] [(.int v94)])) _
      refine XS.istore X86.here hx rfl (hb hby at_42) rfl (l' := #[.val (.int p0), .val (.int (2 : Int32)), .val (.ref b63), .val (.int (1 : Int32)), .val (.int v84), .val (.int v94), .unset, .unset, .unset]) rfl ?_
      show Steps p.tables e below (T86.setTop (mkF m 44 #[.val (.int p0), .val (.int (2 : Int32)), .val (.ref b63), .val (.int (1 : Int32)), .val (.int v84), .val (.int v94), .unset, .unset, .unset] [])) _
      refine XS.aloadN X86.here hx rfl (hb hby at_44) rfl rfl ?_
      show Steps p.tables e below (T86.setTop (mkF m 45 #[.val (.int p0), .val (.int (2 : Int32)), .val (.ref b63), .val (.int (1 : Int32)), .val (.int v84), .val (.int v94), .unset, .unset, .unset] [(.ref b63)])) _
      refine XS.iconst X86.here hx rfl (hb hby at_45) ?_
      show Steps p.tables e below (T86.setTop (mkF m 46 #[.val (.int p0), .val (.int (2 : Int32)), .val (.ref b63), .val (.int (1 : Int32)), .val (.int v84), .val (.int v94), .unset, .unset, .unset] [(.int (2 : Int32)), (.ref b63)])) _
      refine XS.iloadN X86.here hx rfl (hb hby at_46) rfl ?_
      show Steps p.tables e below (T86.setTop (mkF m 47 #[.val (.int p0), .val (.int (2 : Int32)), .val (.ref b63), .val (.int (1 : Int32)), .val (.int v84), .val (.int v94), .unset, .unset, .unset] [(.int (2 : Int32)), (.int (2 : Int32)), (.ref b63)])) _
      refine st96 _ ?_
      show Steps p.tables e below (T96.setTop (mkF m 50 #[.val (.int p0), .val (.int (2 : Int32)), .val (.ref b63), .val (.int (1 : Int32)), .val (.int v84), .val (.int v94), .unset, .unset, .unset] [(.int (1 : Int32))])) _
      refine XS.istore X96.here hx rfl (hb hby at_50) rfl (l' := #[.val (.int p0), .val (.int (2 : Int32)), .val (.ref b63), .val (.int (1 : Int32)), .val (.int v84), .val (.int v94), .val (.int (1 : Int32)), .unset, .unset]) rfl ?_
      show Steps p.tables e below (T96.setTop (mkF m 52 #[.val (.int p0), .val (.int (2 : Int32)), .val (.ref b63), .val (.int (1 : Int32)), .val (.int v84), .val (.int v94), .val (.int (1 : Int32)), .unset, .unset] [])) _
      refine XS.aloadN X96.here hx rfl (hb hby at_52) rfl rfl ?_
      show Steps p.tables e below (T96.setTop (mkF m 53 #[.val (.int p0), .val (.int (2 : Int32)), .val (.ref b63), .val (.int (1 : Int32)), .val (.int v84), .val (.int v94), .val (.int (1 : Int32)), .unset, .unset] [(.ref b63)])) _
      refine XS.iconst X96.here hx rfl (hb hby at_53) ?_
      show Steps p.tables e below (T96.setTop (mkF m 54 #[.val (.int p0), .val (.int (2 : Int32)), .val (.ref b63), .val (.int (1 : Int32)), .val (.int v84), .val (.int v94), .val (.int (1 : Int32)), .unset, .unset] [(.int (3 : Int32)), (.ref b63)])) _
      refine XS.iloadN X96.here hx rfl (hb hby at_54) rfl ?_
      show Steps p.tables e below (T96.setTop (mkF m 55 #[.val (.int p0), .val (.int (2 : Int32)), .val (.ref b63), .val (.int (1 : Int32)), .val (.int v84), .val (.int v94), .val (.int (1 : Int32)), .unset, .unset] [(.int (2 : Int32)), (.int (3 : Int32)), (.ref b63)])) _
      refine st98 _ ?_
      show Steps p.tables e below (T98.setTop (mkF m 58 #[.val (.int p0), .val (.int (2 : Int32)), .val (.ref b63), .val (.int (1 : Int32)), .val (.int v84), .val (.int v94), .val (.int (1 : Int32)), .unset, .unset] [(.int (1 : Int32))])) _
      refine XS.istore X98.here hx rfl (hb hby at_58) rfl (l' := #[.val (.int p0), .val (.int (2 : Int32)), .val (.ref b63), .val (.int (1 : Int32)), .val (.int v84), .val (.int v94), .val (.int (1 : Int32)), .val (.int (1 : Int32)), .unset]) rfl ?_
      show Steps p.tables e below (T98.setTop (mkF m 60 #[.val (.int p0), .val (.int (2 : Int32)), .val (.ref b63), .val (.int (1 : Int32)), .val (.int v84), .val (.int v94), .val (.int (1 : Int32)), .val (.int (1 : Int32)), .unset] [])) _
      refine XS.aloadN X98.here hx rfl (hb hby at_60) rfl rfl ?_
      show Steps p.tables e below (T98.setTop (mkF m 61 #[.val (.int p0), .val (.int (2 : Int32)), .val (.ref b63), .val (.int (1 : Int32)), .val (.int v84), .val (.int v94), .val (.int (1 : Int32)), .val (.int (1 : Int32)), .unset] [(.ref b63)])) _
      refine st99.trans ?_
      show Steps p.tables e below (T99.setTop (mkF m 64 #[.val (.int p0), .val (.int (2 : Int32)), .val (.ref b63), .val (.int (1 : Int32)), .val (.int v84), .val (.int v94), .val (.int (1 : Int32)), .val (.int (1 : Int32)), .unset] [(.long (0 : Int64))])) _
      refine XS.lconst X99.here hx rfl (hb hby at_64) ?_
      show Steps p.tables e below (T99.setTop (mkF m 65 #[.val (.int p0), .val (.int (2 : Int32)), .val (.ref b63), .val (.int (1 : Int32)), .val (.int v84), .val (.int v94), .val (.int (1 : Int32)), .val (.int (1 : Int32)), .unset] [(.long (0 : Int64)), (.long (0 : Int64))])) _
      refine XS.lcmp X99.here hx rfl (hb hby at_65) rfl ?_
      show Steps p.tables e below (T99.setTop (mkF m 66 #[.val (.int p0), .val (.int (2 : Int32)), .val (.ref b63), .val (.int (1 : Int32)), .val (.int v84), .val (.int v94), .val (.int (1 : Int32)), .val (.int (1 : Int32)), .unset] [(.int (lcmpW (0 : Int64) (0 : Int64)))])) _
      refine XS.ifNo X99.here hx rfl (hb hby at_66) rfl ((if0 _ _).trans (teq ((lw_eq (0 : Int64) (0 : Int64)).mpr (by decide))).2) ?_
      show Steps p.tables e below (T99.setTop (mkF m 69 #[.val (.int p0), .val (.int (2 : Int32)), .val (.ref b63), .val (.int (1 : Int32)), .val (.int v84), .val (.int v94), .val (.int (1 : Int32)), .val (.int (1 : Int32)), .unset] [])) _
      refine XS.aloadN X99.here hx rfl (hb hby at_69) rfl rfl ?_
      show Steps p.tables e below (T99.setTop (mkF m 70 #[.val (.int p0), .val (.int (2 : Int32)), .val (.ref b63), .val (.int (1 : Int32)), .val (.int v84), .val (.int v94), .val (.int (1 : Int32)), .val (.int (1 : Int32)), .unset] [(.ref b63)])) _
      refine st100.trans ?_
      show Steps p.tables e below (T100.setTop (mkF m 73 #[.val (.int p0), .val (.int (2 : Int32)), .val (.ref b63), .val (.int (1 : Int32)), .val (.int v84), .val (.int v94), .val (.int (1 : Int32)), .val (.int (1 : Int32)), .unset] [(.long (0 : Int64))])) _
      refine XS.lconst X100.here hx rfl (hb hby at_73) ?_
      show Steps p.tables e below (T100.setTop (mkF m 74 #[.val (.int p0), .val (.int (2 : Int32)), .val (.ref b63), .val (.int (1 : Int32)), .val (.int v84), .val (.int v94), .val (.int (1 : Int32)), .val (.int (1 : Int32)), .unset] [(.long (0 : Int64)), (.long (0 : Int64))])) _
      refine XS.lcmp X100.here hx rfl (hb hby at_74) rfl ?_
      show Steps p.tables e below (T100.setTop (mkF m 75 #[.val (.int p0), .val (.int (2 : Int32)), .val (.ref b63), .val (.int (1 : Int32)), .val (.int v84), .val (.int v94), .val (.int (1 : Int32)), .val (.int (1 : Int32)), .unset] [(.int (lcmpW (0 : Int64) (0 : Int64)))])) _
      refine XS.ifNo X100.here hx rfl (hb hby at_75) rfl ((if0 _ _).trans (teq ((lw_eq (0 : Int64) (0 : Int64)).mpr (by decide))).2) ?_
      show Steps p.tables e below (T100.setTop (mkF m 78 #[.val (.int p0), .val (.int (2 : Int32)), .val (.ref b63), .val (.int (1 : Int32)), .val (.int v84), .val (.int v94), .val (.int (1 : Int32)), .val (.int (1 : Int32)), .unset] [])) _
      refine XS.iconst X100.here hx rfl (hb hby at_78) ?_
      show Steps p.tables e below (T100.setTop (mkF m 79 #[.val (.int p0), .val (.int (2 : Int32)), .val (.ref b63), .val (.int (1 : Int32)), .val (.int v84), .val (.int v94), .val (.int (1 : Int32)), .val (.int (1 : Int32)), .unset] [(.int (1 : Int32))])) _
      refine XS.goto X100.here hx rfl (pc0 := 79) (pc' := 83) rfl (hb hby at_79) (by decide) (by decide) ?_
      show Steps p.tables e below (T100.setTop (mkF m 83 #[.val (.int p0), .val (.int (2 : Int32)), .val (.ref b63), .val (.int (1 : Int32)), .val (.int v84), .val (.int v94), .val (.int (1 : Int32)), .val (.int (1 : Int32)), .unset] [(.int (1 : Int32))])) _
      refine XS.istore X100.here hx rfl (hb hby at_83) rfl (l' := #[.val (.int p0), .val (.int (2 : Int32)), .val (.ref b63), .val (.int (1 : Int32)), .val (.int v84), .val (.int v94), .val (.int (1 : Int32)), .val (.int (1 : Int32)), .val (.int (1 : Int32))]) rfl ?_
      show Steps p.tables e below (T100.setTop (mkF m 85 #[.val (.int p0), .val (.int (2 : Int32)), .val (.ref b63), .val (.int (1 : Int32)), .val (.int v84), .val (.int v94), .val (.int (1 : Int32)), .val (.int (1 : Int32)), .val (.int (1 : Int32))] [])) _
      refine XS.iloadN X100.here hx rfl (hb hby at_85) rfl ?_
      show Steps p.tables e below (T100.setTop (mkF m 86 #[.val (.int p0), .val (.int (2 : Int32)), .val (.ref b63), .val (.int (1 : Int32)), .val (.int v84), .val (.int v94), .val (.int (1 : Int32)), .val (.int (1 : Int32)), .val (.int (1 : Int32))] [(.int (1 : Int32))])) _
      refine XS.ifNo X100.here hx rfl (hb hby at_86) rfl ((if0 _ _).trans (feq (by decide)).1) ?_
      show Steps p.tables e below (T100.setTop (mkF m 89 #[.val (.int p0), .val (.int (2 : Int32)), .val (.ref b63), .val (.int (1 : Int32)), .val (.int v84), .val (.int v94), .val (.int (1 : Int32)), .val (.int (1 : Int32)), .val (.int (1 : Int32))] [])) _
      refine XS.iload X100.here hx rfl (hb hby at_89) rfl ?_
      show Steps p.tables e below (T100.setTop (mkF m 91 #[.val (.int p0), .val (.int (2 : Int32)), .val (.ref b63), .val (.int (1 : Int32)), .val (.int v84), .val (.int v94), .val (.int (1 : Int32)), .val (.int (1 : Int32)), .val (.int (1 : Int32))] [(.int v84)])) _
      refine st112 _ ?_
      show Steps p.tables e below (T112.setTop (mkF m 127 #[.val (.int p0), .val (.int (2 : Int32)), .val (.ref b63), .val (.int (1 : Int32)), .val (.int v84), .val (.int v94), .val (.int (1 : Int32)), .val (.int (1 : Int32)), .val (.int (1 : Int32))] [(.int v111)])) _
      exact retN X112 hx (t := .boolean) Bd.returns (by simp) (hb hby at_127) hr
    · show Q0 h0 n0 _ T112.heap _
      refine ⟨?_, N112⟩
      have hfin : (nar .boolean v111) = (1 : Int32) := by
        exact (own_law2 v84 v94 v111 hv84 hv94 hv111)
      rw [hfin]
  · subst hk
    obtain ⟨T113, h113, X113, e113, E113, A113, D113, -, st113⟩ := newO X0 hx hZ hown (hw _ (List.mem_of_getElem? (i := 1) rfl)) (hw _ (List.mem_of_getElem? (i := 2) rfl)) (hw _ (List.mem_of_getElem? (i := 3) rfl)) e0 (g := (mkF m 7 #[.val (.int p0), .val (.int (3 : Int32)), .unset, .unset, .unset, .unset, .unset, .unset, .unset] [])) rfl (hb hby at_7) (by decide) (by decide)
    obtain ⟨b113, g113⟩ : ∃ z, z = h0.size := ⟨_, rfl⟩
    rw [← g113] at A113 D113 st113
    have nw_b113 : n0 ≤ b113 := Nat.le_trans (Nat.le_trans Z0 (Keep.refl h0 []).1) (Nat.le_of_eq g113.symm)
    have sz_b113 : h0.size ≤ b113 := Nat.le_trans (Keep.refl h0 []).1 (Nat.le_of_eq g113.symm)
    have K113 : Keep h0 h113 [] := (Keep.refl h0 []).ext E113
    have F_sorts_b113 : Fld Z h113 b113 "com/example/psilattice/psilattice/lang/WrittenGraph" "sorts" "Ljava/util/List;" .null := D113 (Or.inr (hw _ (List.mem_of_getElem? (i := 35) rfl))) (ty := (.object "java/util/List")) (by decide)
    have F_edges_b113 : Fld Z h113 b113 "com/example/psilattice/psilattice/lang/WrittenGraph" "edges" "Ljava/util/List;" .null := D113 (Or.inr (hw _ (List.mem_of_getElem? (i := 37) rfl))) (ty := (.object "java/util/List")) (by decide)
    have F_uses_b113 : Fld Z h113 b113 "com/example/psilattice/psilattice/lang/WrittenGraph" "uses" "Ljava/util/List;" .null := D113 (Or.inr (hw _ (List.mem_of_getElem? (i := 39) rfl))) (ty := (.object "java/util/List")) (by decide)
    have F_nodes_b113 : Fld Z h113 b113 "com/example/psilattice/psilattice/lang/WrittenGraph" "nodes" "I" (.int (0 : Int32)) := D113 (Or.inl (hw _ (List.mem_of_getElem? (i := 46) rfl))) (ty := .int) (by decide)
    have F_copiedNodes_b113 : Fld Z h113 b113 "com/example/psilattice/psilattice/lang/WrittenGraph" "copiedNodes" "J" (.long (0 : Int64)) := D113 (Or.inl (hw _ (List.mem_of_getElem? (i := 57) rfl))) (ty := .long) (by decide)
    have F_copies_b113 : Fld Z h113 b113 "com/example/psilattice/psilattice/lang/WrittenGraph" "copies" "J" (.long (0 : Int64)) := D113 (Or.inl (hw _ (List.mem_of_getElem? (i := 64) rfl))) (ty := .long) (by decide)
    have G114 : SO Z n0 h113 "java/util/ArrayList" "DEFAULTCAPACITY_EMPTY_ELEMENTDATA" "[Ljava/lang/Object;" s_DEFAULTCAPACITY_EMPTY_ELEMENTDATA := (S_DEFAULTCAPACITY_EMPTY_ELEMENTDATA.ext E113)
    have hp115 : s_DEFAULTCAPACITY_EMPTY_ELEMENTDATA.isRef = true := rf_s_DEFAULTCAPACITY_EMPTY_ELEMENTDATA
    obtain ⟨_, _, ⟨T116, L116, k116, n116⟩, -, X116, ⟨Lc116, hQ116, l116, y116, z116⟩, st116⟩ := X113.specialBack hx (y := (⟨"com/example/psilattice/psilattice/lang/WrittenGraph", "<init>", "()V"⟩ : MethodName)) rfl hown (mvT hZ (hw _ (List.mem_of_getElem? (i := 4) rfl))) (mvT hZ (hw _ (List.mem_of_getElem? (i := 5) rfl))) (mvT hZ (hw _ (List.mem_of_getElem? (i := 6) rfl))) (by decide) (backOf (W := 1) (rm1 l Z A0 hw [] b113 .null .null .null (0 : Int32) (0 : Int64) (0 : Int64) s_DEFAULTCAPACITY_EMPTY_ELEMENTDATA h113 n0 (Nat.le_trans Z0 K113.1) A113 F_sorts_b113 F_edges_b113 F_uses_b113 F_nodes_b113 F_copiedNodes_b113 F_copies_b113 G114 nw_b113 hp115) hZ (hw _ (List.mem_of_getElem? (i := 6) rfl)) (hw _ (List.mem_of_getElem? (i := 3) rfl)) (by decide) (by decide)) (g := (mkF m 11 #[.val (.int p0), .val (.int (3 : Int32)), .unset, .unset, .unset, .unset, .unset, .unset, .unset] [(.ref b113), (.ref b113)])) rfl (by rw [hml]; rfl) (Steps.refl _) (a := b113) (argsL := []) (rest := [(.ref b113)]) (lenOf pd_0 rfl) rfl (by show 2 * 0 + _ ≤ _; exact Nat.le_of_eq rfl) (hb hby at_11) (fun _ _ => ⟨rfl, e113, (by decide : 1 + 3 ≤ _), (by decide : 6 + 9 ≤ _)⟩)
    dsimp only [Pt.U, Pt.locs, Pt.cells, Pt.slots] at X116 l116 y116 z116 st116 hQ116
    subst l116 y116 z116
    obtain ⟨b116_b2, b116_b12, b116_b24, rfl, N116q, Kc116, szb116_b2, szb116_b12, szb116_b24, ne_b116_b2_b116_b12, ne_b116_b2_b116_b24, ne_b116_b12_b116_b24, P117, P118, P119, P120, P121, P122, P123⟩ := hQ116
    have ne_b113_b116_b2 : b113 ≠ b116_b2 := Nat.ne_of_lt (Nat.lt_of_lt_of_le A113.lt szb116_b2)
    have ne_b113_b116_b12 : b113 ≠ b116_b12 := Nat.ne_of_lt (Nat.lt_of_lt_of_le A113.lt szb116_b12)
    have ne_b113_b116_b24 : b113 ≠ b116_b24 := Nat.ne_of_lt (Nat.lt_of_lt_of_le A113.lt szb116_b24)
    have nw_b116_b2 : n0 ≤ b116_b2 := Nat.le_trans (Nat.le_trans Z0 K113.1) szb116_b2
    have sq_b116_b2 : h0.size ≤ b116_b2 := Nat.le_trans K113.1 szb116_b2
    have nw_b116_b12 : n0 ≤ b116_b12 := Nat.le_trans (Nat.le_trans Z0 K113.1) szb116_b12
    have sq_b116_b12 : h0.size ≤ b116_b12 := Nat.le_trans K113.1 szb116_b12
    have nw_b116_b24 : n0 ≤ b116_b24 := Nat.le_trans (Nat.le_trans Z0 K113.1) szb116_b24
    have sq_b116_b24 : h0.size ≤ b116_b24 := Nat.le_trans K113.1 szb116_b24
    have K116 : Keep h0 T116.heap [] := K113.trans Kc116 (allS (Or.inr sz_b113) all0)
    have N116 := Fr.app N0 N116q
    obtain ⟨cq124, kq124, q124a, q124b, q124c⟩ := isOf hZ rfl P117
    obtain ⟨_, _, ⟨T124, L124, k124, n124⟩, -, X124, ⟨Lc124, hQ124, l124, y124, z124⟩, st124⟩ := X116.virtualBack hx (y := (⟨"com/example/psilattice/psilattice/lang/WrittenGraph", "size", "()I"⟩ : MethodName)) (z := (⟨"com/example/psilattice/psilattice/lang/WrittenGraph", "size", "()I"⟩ : MethodName)) hown (mvT hZ (hw _ (List.mem_of_getElem? (i := 40) rfl))) (mvT hZ (hw _ (List.mem_of_getElem? (i := 41) rfl))) (notFace_of_selects (args := #[]) (mvT hZ (hw _ (List.mem_of_getElem? (i := 43) rfl)))) (mvT hZ (hw _ (List.mem_of_getElem? (i := 43) rfl))) (mvT hZ (hw _ (List.mem_of_getElem? (i := 42) rfl))) (by decide) (backOf (W := 0) (rm6 l Z A0 hw [] b113 (.ref b116_b2) (.ref b116_b12) (.ref b116_b24) (0 : Int32) (0 : Int64) (0 : Int64) T116.heap n0 (Nat.le_trans Z0 K116.1) P117 P118 P119 P120 P121 P122 P123) hZ (hw _ (List.mem_of_getElem? (i := 44) rfl)) (hw _ (List.mem_of_getElem? (i := 3) rfl)) (by decide) (by decide)) q124a q124c (g := (mkF m 16 #[.val (.int p0), .val (.int (3 : Int32)), .val (.ref b113), .unset, .unset, .unset, .unset, .unset, .unset] [(.ref b113)])) rfl (by rw [hml]; rfl) (Steps.refl _) (argsL := []) (rest := []) (lenOf pd_1 rfl) rfl (by show 2 * 0 + _ ≤ _; exact Nat.le_of_eq rfl) (hb hby at_16) (fun _ _ => ⟨rfl, rfl, (by decide : 4 + 0 ≤ _), (by decide : 15 + 0 ≤ _)⟩)
    dsimp only [Pt.U, Pt.locs, Pt.cells, Pt.slots] at X124 l124 y124 z124 st124 hQ124
    subst l124 y124 z124
    obtain ⟨rfl, N124q, e124⟩ := hQ124
    have N124 := Fr.app N116 N124q
    have hp125 : (0 : Int32) < (3 : Int32) := (by decide)
    obtain ⟨_, _, ⟨T126, L126, k126, n126⟩, -, X126, ⟨Lc126, hQ126, l126, y126, z126⟩, st126⟩ := Jvm.LawKit.callS X124 hx (y := (⟨"com/example/psilattice/psilattice/lang/WrittenGraphNodePinLaw", "step", "(Lcom/example/psilattice/psilattice/lang/WrittenGraph;II)Z"⟩ : MethodName)) hown (mvT hZ (hw _ (List.mem_of_getElem? (i := 47) rfl))) (mvT hZ (hw _ (List.mem_of_getElem? (i := 48) rfl))) (mvT hZ (hw _ (List.mem_of_getElem? (i := 49) rfl))) (mvT hZ (hw _ (List.mem_of_getElem? (i := 50) rfl))) (by decide) (backOf (W := 0) (rm7b l Z A0 hw [] b113 (0 : Int32) (3 : Int32) (.ref b116_b2) (.ref b116_b12) (.ref b116_b24) (0 : Int32) (0 : Int64) (0 : Int64) T116.heap n0 (Nat.le_trans Z0 K116.1) P117 P118 P119 P120 P121 P122 P123 nw_b113 hp125) hZ (hw _ (List.mem_of_getElem? (i := 50) rfl)) (hw _ (List.mem_of_getElem? (i := 49) rfl)) (by decide) (by decide)) (g := (mkF m 31 #[.val (.int p0), .val (.int (3 : Int32)), .val (.ref b113), .val (.int (1 : Int32)), .unset, .unset, .unset, .unset, .unset] [(.int (3 : Int32)), (.int (0 : Int32)), (.ref b113)])) rfl (by rw [hml]; rfl) (argsL := [(.ref b113), (.int (0 : Int32)), (.int (3 : Int32))]) (rest := []) (lenOf pd_2 rfl) rfl (by show 2 * 0 + _ ≤ _; exact Nat.le_of_eq rfl) (hb hby at_31) (fun _ _ => ⟨rfl, e124, (by decide : 4 + 0 ≤ _), (by decide : 15 + 0 ≤ _)⟩)
    dsimp only [Pt.U, Pt.locs, Pt.cells, Pt.slots] at X126 l126 y126 z126 st126 hQ126
    subst l126 y126 z126
    obtain ⟨rfl, N126q, Kc126, P127, P128, P129, P130, P131, P132, P133⟩ := hQ126
    have K126 : Keep h0 T126.heap [] := K116.trans Kc126 (allS (Or.inr sz_b113) all0)
    have N126 := Fr.app N124 N126q
    obtain ⟨v134, hv134⟩ : ∃ z : Int32, z = (nar .boolean (if (0 : Int32) = (0 : Int32) then (if ((0 : Int32) + (1 : Int32)) = ((0 : Int32) + (1 : Int32)) then (1 : Int32) else (0 : Int32)) else (0 : Int32))) := ⟨_, rfl⟩
    have hp135 : (1 : Int32) < (3 : Int32) := (by decide)
    obtain ⟨_, _, ⟨T136, L136, k136, n136⟩, -, X136, ⟨Lc136, hQ136, l136, y136, z136⟩, st136⟩ := Jvm.LawKit.callS X126 hx (y := (⟨"com/example/psilattice/psilattice/lang/WrittenGraphNodePinLaw", "step", "(Lcom/example/psilattice/psilattice/lang/WrittenGraph;II)Z"⟩ : MethodName)) hown (mvT hZ (hw _ (List.mem_of_getElem? (i := 47) rfl))) (mvT hZ (hw _ (List.mem_of_getElem? (i := 48) rfl))) (mvT hZ (hw _ (List.mem_of_getElem? (i := 49) rfl))) (mvT hZ (hw _ (List.mem_of_getElem? (i := 50) rfl))) (by decide) (backOf (W := 0) (rm7b l Z A0 hw [] b113 (1 : Int32) (3 : Int32) (.ref b116_b2) (.ref b116_b12) (.ref b116_b24) ((0 : Int32) + (1 : Int32)) (0 : Int64) (0 : Int64) T126.heap n0 (Nat.le_trans Z0 K126.1) P127 P128 P129 P130 P131 P132 P133 nw_b113 hp135) hZ (hw _ (List.mem_of_getElem? (i := 50) rfl)) (hw _ (List.mem_of_getElem? (i := 49) rfl)) (by decide) (by decide)) (g := (mkF m 39 #[.val (.int p0), .val (.int (3 : Int32)), .val (.ref b113), .val (.int (1 : Int32)), .val (.int v134), .unset, .unset, .unset, .unset] [(.int (3 : Int32)), (.int (1 : Int32)), (.ref b113)])) rfl (by rw [hml]; rfl) (argsL := [(.ref b113), (.int (1 : Int32)), (.int (3 : Int32))]) (rest := []) (lenOf pd_2 rfl) rfl (by show 2 * 0 + _ ≤ _; exact Nat.le_of_eq rfl) (hb hby at_39) (fun _ _ => ⟨rfl, rfl, (by decide : 4 + 0 ≤ _), (by decide : 15 + 0 ≤ _)⟩)
    dsimp only [Pt.U, Pt.locs, Pt.cells, Pt.slots] at X136 l136 y136 z136 st136 hQ136
    subst l136 y136 z136
    obtain ⟨rfl, N136q, Kc136, P137, P138, P139, P140, P141, P142, P143⟩ := hQ136
    have K136 : Keep h0 T136.heap [] := K126.trans Kc136 (allS (Or.inr sz_b113) all0)
    have N136 := Fr.app N126 N136q
    obtain ⟨v144, hv144⟩ : ∃ z : Int32, z = (nar .boolean (if ((0 : Int32) + (1 : Int32)) = (1 : Int32) then (if (((0 : Int32) + (1 : Int32)) + (1 : Int32)) = ((1 : Int32) + (1 : Int32)) then (1 : Int32) else (0 : Int32)) else (0 : Int32))) := ⟨_, rfl⟩
    have hp145 : (2 : Int32) < (3 : Int32) := (by decide)
    obtain ⟨_, _, ⟨T146, L146, k146, n146⟩, -, X146, ⟨Lc146, hQ146, l146, y146, z146⟩, st146⟩ := Jvm.LawKit.callS X136 hx (y := (⟨"com/example/psilattice/psilattice/lang/WrittenGraphNodePinLaw", "step", "(Lcom/example/psilattice/psilattice/lang/WrittenGraph;II)Z"⟩ : MethodName)) hown (mvT hZ (hw _ (List.mem_of_getElem? (i := 47) rfl))) (mvT hZ (hw _ (List.mem_of_getElem? (i := 48) rfl))) (mvT hZ (hw _ (List.mem_of_getElem? (i := 49) rfl))) (mvT hZ (hw _ (List.mem_of_getElem? (i := 50) rfl))) (by decide) (backOf (W := 0) (rm7b l Z A0 hw [] b113 (2 : Int32) (3 : Int32) (.ref b116_b2) (.ref b116_b12) (.ref b116_b24) (((0 : Int32) + (1 : Int32)) + (1 : Int32)) (0 : Int64) (0 : Int64) T136.heap n0 (Nat.le_trans Z0 K136.1) P137 P138 P139 P140 P141 P142 P143 nw_b113 hp145) hZ (hw _ (List.mem_of_getElem? (i := 50) rfl)) (hw _ (List.mem_of_getElem? (i := 49) rfl)) (by decide) (by decide)) (g := (mkF m 47 #[.val (.int p0), .val (.int (3 : Int32)), .val (.ref b113), .val (.int (1 : Int32)), .val (.int v134), .val (.int v144), .unset, .unset, .unset] [(.int (3 : Int32)), (.int (2 : Int32)), (.ref b113)])) rfl (by rw [hml]; rfl) (argsL := [(.ref b113), (.int (2 : Int32)), (.int (3 : Int32))]) (rest := []) (lenOf pd_2 rfl) rfl (by show 2 * 0 + _ ≤ _; exact Nat.le_of_eq rfl) (hb hby at_47) (fun _ _ => ⟨rfl, rfl, (by decide : 4 + 0 ≤ _), (by decide : 15 + 0 ≤ _)⟩)
    dsimp only [Pt.U, Pt.locs, Pt.cells, Pt.slots] at X146 l146 y146 z146 st146 hQ146
    subst l146 y146 z146
    obtain ⟨rfl, N146q, Kc146, P147, P148, P149, P150, P151, P152, P153⟩ := hQ146
    have K146 : Keep h0 T146.heap [] := K136.trans Kc146 (allS (Or.inr sz_b113) all0)
    have N146 := Fr.app N136 N146q
    obtain ⟨v154, hv154⟩ : ∃ z : Int32, z = (nar .boolean (if (((0 : Int32) + (1 : Int32)) + (1 : Int32)) = (2 : Int32) then (if ((((0 : Int32) + (1 : Int32)) + (1 : Int32)) + (1 : Int32)) = ((2 : Int32) + (1 : Int32)) then (1 : Int32) else (0 : Int32)) else (0 : Int32))) := ⟨_, rfl⟩
    have hp155 : ¬ ((3 : Int32) < (3 : Int32)) := (by decide)
    obtain ⟨_, _, ⟨T156, L156, k156, n156⟩, -, X156, ⟨Lc156, hQ156, l156, y156, z156⟩, st156⟩ := Jvm.LawKit.callS X146 hx (y := (⟨"com/example/psilattice/psilattice/lang/WrittenGraphNodePinLaw", "step", "(Lcom/example/psilattice/psilattice/lang/WrittenGraph;II)Z"⟩ : MethodName)) hown (mvT hZ (hw _ (List.mem_of_getElem? (i := 47) rfl))) (mvT hZ (hw _ (List.mem_of_getElem? (i := 48) rfl))) (mvT hZ (hw _ (List.mem_of_getElem? (i := 49) rfl))) (mvT hZ (hw _ (List.mem_of_getElem? (i := 50) rfl))) (by decide) (backOf (W := 0) (rm7a l Z A0 hw [] b113 (3 : Int32) (3 : Int32) T146.heap n0 (Nat.le_trans Z0 K146.1) hp155) hZ (hw _ (List.mem_of_getElem? (i := 50) rfl)) (hw _ (List.mem_of_getElem? (i := 49) rfl)) (by decide) (by decide)) (g := (mkF m 55 #[.val (.int p0), .val (.int (3 : Int32)), .val (.ref b113), .val (.int (1 : Int32)), .val (.int v134), .val (.int v144), .val (.int v154), .unset, .unset] [(.int (3 : Int32)), (.int (3 : Int32)), (.ref b113)])) rfl (by rw [hml]; rfl) (argsL := [(.ref b113), (.int (3 : Int32)), (.int (3 : Int32))]) (rest := []) (lenOf pd_2 rfl) rfl (by show 2 * 0 + _ ≤ _; exact Nat.le_of_eq rfl) (hb hby at_55) (fun _ _ => ⟨rfl, rfl, (by decide : 4 + 0 ≤ _), (by decide : 15 + 0 ≤ _)⟩)
    dsimp only [Pt.U, Pt.locs, Pt.cells, Pt.slots] at X156 l156 y156 z156 st156 hQ156
    subst l156 y156 z156
    obtain ⟨rfl, N156q, e156⟩ := hQ156
    have N156 := Fr.app N146 N156q
    obtain ⟨cq157, kq157, q157a, q157b, q157c⟩ := isOf hZ e156 P147
    obtain ⟨_, _, ⟨T157, L157, k157, n157⟩, -, X157, ⟨Lc157, hQ157, l157, y157, z157⟩, st157⟩ := X156.virtualBack hx (y := (⟨"com/example/psilattice/psilattice/lang/WrittenGraph", "copiedNodes", "()J"⟩ : MethodName)) (z := (⟨"com/example/psilattice/psilattice/lang/WrittenGraph", "copiedNodes", "()J"⟩ : MethodName)) hown (mvT hZ (hw _ (List.mem_of_getElem? (i := 51) rfl))) (mvT hZ (hw _ (List.mem_of_getElem? (i := 52) rfl))) (notFace_of_selects (args := #[]) (mvT hZ (hw _ (List.mem_of_getElem? (i := 54) rfl)))) (mvT hZ (hw _ (List.mem_of_getElem? (i := 54) rfl))) (mvT hZ (hw _ (List.mem_of_getElem? (i := 53) rfl))) (by decide) (backOf (W := 0) (rm8 l Z A0 hw [] b113 (.ref b116_b2) (.ref b116_b12) (.ref b116_b24) ((((0 : Int32) + (1 : Int32)) + (1 : Int32)) + (1 : Int32)) (0 : Int64) (0 : Int64) T146.heap n0 (Nat.le_trans Z0 K146.1) P147 P148 P149 P150 P151 P152 P153) hZ (hw _ (List.mem_of_getElem? (i := 55) rfl)) (hw _ (List.mem_of_getElem? (i := 3) rfl)) (by decide) (by decide)) q157a q157c (g := (mkF m 61 #[.val (.int p0), .val (.int (3 : Int32)), .val (.ref b113), .val (.int (1 : Int32)), .val (.int v134), .val (.int v144), .val (.int v154), .val (.int (1 : Int32)), .unset] [(.ref b113)])) rfl (by rw [hml]; rfl) (Steps.refl _) (argsL := []) (rest := []) (lenOf pd_3 rfl) rfl (by show 2 * 0 + _ ≤ _; exact Nat.le_of_eq rfl) (hb hby at_61) (fun _ _ => ⟨rfl, e156, (by decide : 4 + 0 ≤ _), (by decide : 15 + 0 ≤ _)⟩)
    dsimp only [Pt.U, Pt.locs, Pt.cells, Pt.slots] at X157 l157 y157 z157 st157 hQ157
    subst l157 y157 z157
    obtain ⟨rfl, N157q, e157⟩ := hQ157
    have N157 := Fr.app N156 N157q
    obtain ⟨cq158, kq158, q158a, q158b, q158c⟩ := isOf hZ e157 P147
    obtain ⟨_, _, ⟨T158, L158, k158, n158⟩, -, X158, ⟨Lc158, hQ158, l158, y158, z158⟩, st158⟩ := X157.virtualBack hx (y := (⟨"com/example/psilattice/psilattice/lang/WrittenGraph", "copies", "()J"⟩ : MethodName)) (z := (⟨"com/example/psilattice/psilattice/lang/WrittenGraph", "copies", "()J"⟩ : MethodName)) hown (mvT hZ (hw _ (List.mem_of_getElem? (i := 58) rfl))) (mvT hZ (hw _ (List.mem_of_getElem? (i := 59) rfl))) (notFace_of_selects (args := #[]) (mvT hZ (hw _ (List.mem_of_getElem? (i := 61) rfl)))) (mvT hZ (hw _ (List.mem_of_getElem? (i := 61) rfl))) (mvT hZ (hw _ (List.mem_of_getElem? (i := 60) rfl))) (by decide) (backOf (W := 0) (rm9 l Z A0 hw [] b113 (.ref b116_b2) (.ref b116_b12) (.ref b116_b24) ((((0 : Int32) + (1 : Int32)) + (1 : Int32)) + (1 : Int32)) (0 : Int64) (0 : Int64) T146.heap n0 (Nat.le_trans Z0 K146.1) P147 P148 P149 P150 P151 P152 P153) hZ (hw _ (List.mem_of_getElem? (i := 62) rfl)) (hw _ (List.mem_of_getElem? (i := 3) rfl)) (by decide) (by decide)) q158a q158c (g := (mkF m 70 #[.val (.int p0), .val (.int (3 : Int32)), .val (.ref b113), .val (.int (1 : Int32)), .val (.int v134), .val (.int v144), .val (.int v154), .val (.int (1 : Int32)), .unset] [(.ref b113)])) rfl (by rw [hml]; rfl) (Steps.refl _) (argsL := []) (rest := []) (lenOf pd_3 rfl) rfl (by show 2 * 0 + _ ≤ _; exact Nat.le_of_eq rfl) (hb hby at_70) (fun _ _ => ⟨rfl, e157, (by decide : 4 + 0 ≤ _), (by decide : 15 + 0 ≤ _)⟩)
    dsimp only [Pt.U, Pt.locs, Pt.cells, Pt.slots] at X158 l158 y158 z158 st158 hQ158
    subst l158 y158 z158
    obtain ⟨rfl, N158q, e158⟩ := hQ158
    have N158 := Fr.app N157 N158q
    obtain ⟨v175, hv175⟩ : ∃ z : Int32, z = if v134 = (0 : Int32) then (0 : Int32) else (if v144 = (0 : Int32) then (0 : Int32) else (if v154 = (0 : Int32) then (0 : Int32) else (if ((((0 : Int32) + (1 : Int32)) + (1 : Int32)) + (1 : Int32)) = (3 : Int32) then (1 : Int32) else (0 : Int32)))) := ⟨_, rfl⟩
    obtain ⟨T176, L176, X176, N176, e176, st176⟩ : ∃ (T' : State) (L' : List Loc), Stand p l e room_1 s m #[(.int p0)] below meth c T' L' 4 15 ∧ Fr n0 L' ∧ T'.heap = T146.heap ∧ ∀ target, Steps p.tables e below (T'.setTop (mkF m 127 #[.val (.int p0), .val (.int (3 : Int32)), .val (.ref b113), .val (.int (1 : Int32)), .val (.int v134), .val (.int v144), .val (.int v154), .val (.int (1 : Int32)), .val (.int (1 : Int32))] [(.int v175)])) target → Steps p.tables e below (T158.setTop (mkF m 91 #[.val (.int p0), .val (.int (3 : Int32)), .val (.ref b113), .val (.int (1 : Int32)), .val (.int v134), .val (.int v144), .val (.int v154), .val (.int (1 : Int32)), .val (.int (1 : Int32))] [(.int v134)])) target := by
      by_cases hc162 : v134 = (0 : Int32)
      · refine ⟨T158, _, X158, N158, e158, fun target kt => ?_⟩
        show Steps p.tables e below (T158.setTop (mkF m 91 #[.val (.int p0), .val (.int (3 : Int32)), .val (.ref b113), .val (.int (1 : Int32)), .val (.int v134), .val (.int v144), .val (.int v154), .val (.int (1 : Int32)), .val (.int (1 : Int32))] [(.int v134)])) _
        refine XS.ifYes X158.here hx rfl (pc0 := 91) (pc' := 126) rfl (hb hby at_91) rfl ((if0 _ _).trans (teq hc162).1) (by decide) (by decide) ?_
        show Steps p.tables e below (T158.setTop (mkF m 126 #[.val (.int p0), .val (.int (3 : Int32)), .val (.ref b113), .val (.int (1 : Int32)), .val (.int v134), .val (.int v144), .val (.int v154), .val (.int (1 : Int32)), .val (.int (1 : Int32))] [])) _
        refine XS.iconst X158.here hx rfl (hb hby at_126) ?_
        exact castTop (by rw [hv175, if_pos hc162] <;> rfl) kt
      · obtain ⟨v173, hv173⟩ : ∃ z : Int32, z = if v144 = (0 : Int32) then (0 : Int32) else (if v154 = (0 : Int32) then (0 : Int32) else (if ((((0 : Int32) + (1 : Int32)) + (1 : Int32)) + (1 : Int32)) = (3 : Int32) then (1 : Int32) else (0 : Int32))) := ⟨_, rfl⟩
        obtain ⟨T174, L174, X174, N174, e174, st174⟩ : ∃ (T' : State) (L' : List Loc), Stand p l e room_1 s m #[(.int p0)] below meth c T' L' 4 15 ∧ Fr n0 L' ∧ T'.heap = T146.heap ∧ ∀ target, Steps p.tables e below (T'.setTop (mkF m 127 #[.val (.int p0), .val (.int (3 : Int32)), .val (.ref b113), .val (.int (1 : Int32)), .val (.int v134), .val (.int v144), .val (.int v154), .val (.int (1 : Int32)), .val (.int (1 : Int32))] [(.int v173)])) target → Steps p.tables e below (T158.setTop (mkF m 96 #[.val (.int p0), .val (.int (3 : Int32)), .val (.ref b113), .val (.int (1 : Int32)), .val (.int v134), .val (.int v144), .val (.int v154), .val (.int (1 : Int32)), .val (.int (1 : Int32))] [(.int v144)])) target := by
          by_cases hc165 : v144 = (0 : Int32)
          · refine ⟨T158, _, X158, N158, e158, fun target kt => ?_⟩
            show Steps p.tables e below (T158.setTop (mkF m 96 #[.val (.int p0), .val (.int (3 : Int32)), .val (.ref b113), .val (.int (1 : Int32)), .val (.int v134), .val (.int v144), .val (.int v154), .val (.int (1 : Int32)), .val (.int (1 : Int32))] [(.int v144)])) _
            refine XS.ifYes X158.here hx rfl (pc0 := 96) (pc' := 126) rfl (hb hby at_96) rfl ((if0 _ _).trans (teq hc165).1) (by decide) (by decide) ?_
            show Steps p.tables e below (T158.setTop (mkF m 126 #[.val (.int p0), .val (.int (3 : Int32)), .val (.ref b113), .val (.int (1 : Int32)), .val (.int v134), .val (.int v144), .val (.int v154), .val (.int (1 : Int32)), .val (.int (1 : Int32))] [])) _
            refine XS.iconst X158.here hx rfl (hb hby at_126) ?_
            exact castTop (by rw [hv173, if_pos hc165] <;> rfl) kt
          · obtain ⟨v171, hv171⟩ : ∃ z : Int32, z = if v154 = (0 : Int32) then (0 : Int32) else (if ((((0 : Int32) + (1 : Int32)) + (1 : Int32)) + (1 : Int32)) = (3 : Int32) then (1 : Int32) else (0 : Int32)) := ⟨_, rfl⟩
            obtain ⟨T172, L172, X172, N172, e172, st172⟩ : ∃ (T' : State) (L' : List Loc), Stand p l e room_1 s m #[(.int p0)] below meth c T' L' 4 15 ∧ Fr n0 L' ∧ T'.heap = T146.heap ∧ ∀ target, Steps p.tables e below (T'.setTop (mkF m 127 #[.val (.int p0), .val (.int (3 : Int32)), .val (.ref b113), .val (.int (1 : Int32)), .val (.int v134), .val (.int v144), .val (.int v154), .val (.int (1 : Int32)), .val (.int (1 : Int32))] [(.int v171)])) target → Steps p.tables e below (T158.setTop (mkF m 101 #[.val (.int p0), .val (.int (3 : Int32)), .val (.ref b113), .val (.int (1 : Int32)), .val (.int v134), .val (.int v144), .val (.int v154), .val (.int (1 : Int32)), .val (.int (1 : Int32))] [(.int v154)])) target := by
              by_cases hc167 : v154 = (0 : Int32)
              · refine ⟨T158, _, X158, N158, e158, fun target kt => ?_⟩
                show Steps p.tables e below (T158.setTop (mkF m 101 #[.val (.int p0), .val (.int (3 : Int32)), .val (.ref b113), .val (.int (1 : Int32)), .val (.int v134), .val (.int v144), .val (.int v154), .val (.int (1 : Int32)), .val (.int (1 : Int32))] [(.int v154)])) _
                refine XS.ifYes X158.here hx rfl (pc0 := 101) (pc' := 126) rfl (hb hby at_101) rfl ((if0 _ _).trans (teq hc167).1) (by decide) (by decide) ?_
                show Steps p.tables e below (T158.setTop (mkF m 126 #[.val (.int p0), .val (.int (3 : Int32)), .val (.ref b113), .val (.int (1 : Int32)), .val (.int v134), .val (.int v144), .val (.int v154), .val (.int (1 : Int32)), .val (.int (1 : Int32))] [])) _
                refine XS.iconst X158.here hx rfl (hb hby at_126) ?_
                exact castTop (by rw [hv171, if_pos hc167] <;> rfl) kt
              · obtain ⟨cq168, kq168, q168a, q168b, q168c⟩ := isOf hZ e158 P147
                obtain ⟨_, _, ⟨T168, L168, k168, n168⟩, -, X168, ⟨Lc168, hQ168, l168, y168, z168⟩, st168⟩ := X158.virtualBack hx (y := (⟨"com/example/psilattice/psilattice/lang/WrittenGraph", "size", "()I"⟩ : MethodName)) (z := (⟨"com/example/psilattice/psilattice/lang/WrittenGraph", "size", "()I"⟩ : MethodName)) hown (mvT hZ (hw _ (List.mem_of_getElem? (i := 40) rfl))) (mvT hZ (hw _ (List.mem_of_getElem? (i := 41) rfl))) (notFace_of_selects (args := #[]) (mvT hZ (hw _ (List.mem_of_getElem? (i := 43) rfl)))) (mvT hZ (hw _ (List.mem_of_getElem? (i := 43) rfl))) (mvT hZ (hw _ (List.mem_of_getElem? (i := 42) rfl))) (by decide) (backOf (W := 0) (rm6 l Z A0 hw [] b113 (.ref b116_b2) (.ref b116_b12) (.ref b116_b24) ((((0 : Int32) + (1 : Int32)) + (1 : Int32)) + (1 : Int32)) (0 : Int64) (0 : Int64) T146.heap n0 (Nat.le_trans Z0 K146.1) P147 P148 P149 P150 P151 P152 P153) hZ (hw _ (List.mem_of_getElem? (i := 44) rfl)) (hw _ (List.mem_of_getElem? (i := 3) rfl)) (by decide) (by decide)) q168a q168c (g := (mkF m 115 #[.val (.int p0), .val (.int (3 : Int32)), .val (.ref b113), .val (.int (1 : Int32)), .val (.int v134), .val (.int v144), .val (.int v154), .val (.int (1 : Int32)), .val (.int (1 : Int32))] [(.ref b113)])) rfl (by rw [hml]; rfl) (Steps.refl _) (argsL := []) (rest := []) (lenOf pd_1 rfl) rfl (by show 2 * 0 + _ ≤ _; exact Nat.le_of_eq rfl) (hb hby at_115) (fun _ _ => ⟨rfl, e158, (by decide : 4 + 0 ≤ _), (by decide : 15 + 0 ≤ _)⟩)
                dsimp only [Pt.U, Pt.locs, Pt.cells, Pt.slots] at X168 l168 y168 z168 st168 hQ168
                subst l168 y168 z168
                obtain ⟨rfl, N168q, e168⟩ := hQ168
                have N168 := Fr.app N158 N168q
                obtain ⟨v170, hv170⟩ : ∃ z : Int32, z = if ((((0 : Int32) + (1 : Int32)) + (1 : Int32)) + (1 : Int32)) = (3 : Int32) then (1 : Int32) else (0 : Int32) := ⟨_, rfl⟩
                refine ⟨T168, _, X168, N168, e168, fun target kt => ?_⟩
                show Steps p.tables e below (T158.setTop (mkF m 101 #[.val (.int p0), .val (.int (3 : Int32)), .val (.ref b113), .val (.int (1 : Int32)), .val (.int v134), .val (.int v144), .val (.int v154), .val (.int (1 : Int32)), .val (.int (1 : Int32))] [(.int v154)])) _
                refine XS.ifNo X158.here hx rfl (hb hby at_101) rfl ((if0 _ _).trans (feq hc167).1) ?_
                show Steps p.tables e below (T158.setTop (mkF m 104 #[.val (.int p0), .val (.int (3 : Int32)), .val (.ref b113), .val (.int (1 : Int32)), .val (.int v134), .val (.int v144), .val (.int v154), .val (.int (1 : Int32)), .val (.int (1 : Int32))] [])) _
                refine XS.iload X158.here hx rfl (hb hby at_104) rfl ?_
                show Steps p.tables e below (T158.setTop (mkF m 106 #[.val (.int p0), .val (.int (3 : Int32)), .val (.ref b113), .val (.int (1 : Int32)), .val (.int v134), .val (.int v144), .val (.int v154), .val (.int (1 : Int32)), .val (.int (1 : Int32))] [(.int (1 : Int32))])) _
                refine XS.ifNo X158.here hx rfl (hb hby at_106) rfl ((if0 _ _).trans (feq (by decide)).1) ?_
                show Steps p.tables e below (T158.setTop (mkF m 109 #[.val (.int p0), .val (.int (3 : Int32)), .val (.ref b113), .val (.int (1 : Int32)), .val (.int v134), .val (.int v144), .val (.int v154), .val (.int (1 : Int32)), .val (.int (1 : Int32))] [])) _
                refine XS.iload X158.here hx rfl (hb hby at_109) rfl ?_
                show Steps p.tables e below (T158.setTop (mkF m 111 #[.val (.int p0), .val (.int (3 : Int32)), .val (.ref b113), .val (.int (1 : Int32)), .val (.int v134), .val (.int v144), .val (.int v154), .val (.int (1 : Int32)), .val (.int (1 : Int32))] [(.int (1 : Int32))])) _
                refine XS.ifNo X158.here hx rfl (hb hby at_111) rfl ((if0 _ _).trans (feq (by decide)).1) ?_
                show Steps p.tables e below (T158.setTop (mkF m 114 #[.val (.int p0), .val (.int (3 : Int32)), .val (.ref b113), .val (.int (1 : Int32)), .val (.int v134), .val (.int v144), .val (.int v154), .val (.int (1 : Int32)), .val (.int (1 : Int32))] [])) _
                refine XS.aloadN X158.here hx rfl (hb hby at_114) rfl rfl ?_
                show Steps p.tables e below (T158.setTop (mkF m 115 #[.val (.int p0), .val (.int (3 : Int32)), .val (.ref b113), .val (.int (1 : Int32)), .val (.int v134), .val (.int v144), .val (.int v154), .val (.int (1 : Int32)), .val (.int (1 : Int32))] [(.ref b113)])) _
                refine st168.trans ?_
                show Steps p.tables e below (T168.setTop (mkF m 118 #[.val (.int p0), .val (.int (3 : Int32)), .val (.ref b113), .val (.int (1 : Int32)), .val (.int v134), .val (.int v144), .val (.int v154), .val (.int (1 : Int32)), .val (.int (1 : Int32))] [(.int ((((0 : Int32) + (1 : Int32)) + (1 : Int32)) + (1 : Int32)))])) _
                refine XS.iloadN X168.here hx rfl (hb hby at_118) rfl ?_
                show Steps p.tables e below (T168.setTop (mkF m 119 #[.val (.int p0), .val (.int (3 : Int32)), .val (.ref b113), .val (.int (1 : Int32)), .val (.int v134), .val (.int v144), .val (.int v154), .val (.int (1 : Int32)), .val (.int (1 : Int32))] [(.int (3 : Int32)), (.int ((((0 : Int32) + (1 : Int32)) + (1 : Int32)) + (1 : Int32)))])) _
                refine own_dia (F := (mkF m 127 #[.val (.int p0), .val (.int (3 : Int32)), .val (.ref b113), .val (.int (1 : Int32)), .val (.int v134), .val (.int v144), .val (.int v154), .val (.int (1 : Int32)), .val (.int (1 : Int32))] [(.int v170)])) ?_ ?_
                · intro kt
                  by_cases hc169 : ((((0 : Int32) + (1 : Int32)) + (1 : Int32)) + (1 : Int32)) = (3 : Int32)
                  · show Steps p.tables e below (T168.setTop (mkF m 119 #[.val (.int p0), .val (.int (3 : Int32)), .val (.ref b113), .val (.int (1 : Int32)), .val (.int v134), .val (.int v144), .val (.int v154), .val (.int (1 : Int32)), .val (.int (1 : Int32))] [(.int (3 : Int32)), (.int ((((0 : Int32) + (1 : Int32)) + (1 : Int32)) + (1 : Int32)))])) _
                    refine XS.icmpNo X168.here hx rfl (hb hby at_119) rfl (teq hc169).2 ?_
                    show Steps p.tables e below (T168.setTop (mkF m 122 #[.val (.int p0), .val (.int (3 : Int32)), .val (.ref b113), .val (.int (1 : Int32)), .val (.int v134), .val (.int v144), .val (.int v154), .val (.int (1 : Int32)), .val (.int (1 : Int32))] [])) _
                    refine XS.iconst X168.here hx rfl (hb hby at_122) ?_
                    show Steps p.tables e below (T168.setTop (mkF m 123 #[.val (.int p0), .val (.int (3 : Int32)), .val (.ref b113), .val (.int (1 : Int32)), .val (.int v134), .val (.int v144), .val (.int v154), .val (.int (1 : Int32)), .val (.int (1 : Int32))] [(.int (1 : Int32))])) _
                    refine XS.goto X168.here hx rfl (pc0 := 123) (pc' := 127) rfl (hb hby at_123) (by decide) (by decide) ?_
                    exact castTop (by rw [hv170, if_pos hc169] <;> rfl) kt
                  · show Steps p.tables e below (T168.setTop (mkF m 119 #[.val (.int p0), .val (.int (3 : Int32)), .val (.ref b113), .val (.int (1 : Int32)), .val (.int v134), .val (.int v144), .val (.int v154), .val (.int (1 : Int32)), .val (.int (1 : Int32))] [(.int (3 : Int32)), (.int ((((0 : Int32) + (1 : Int32)) + (1 : Int32)) + (1 : Int32)))])) _
                    refine XS.icmpYes X168.here hx rfl (pc0 := 119) (pc' := 126) rfl (hb hby at_119) rfl (feq hc169).2 (by decide) (by decide) ?_
                    show Steps p.tables e below (T168.setTop (mkF m 126 #[.val (.int p0), .val (.int (3 : Int32)), .val (.ref b113), .val (.int (1 : Int32)), .val (.int v134), .val (.int v144), .val (.int v154), .val (.int (1 : Int32)), .val (.int (1 : Int32))] [])) _
                    refine XS.iconst X168.here hx rfl (hb hby at_126) ?_
                    exact castTop (by rw [hv170, if_neg hc169] <;> rfl) kt
                exact castTop (by subst hv170; rw [hv171, if_neg hc167] <;> rfl) kt
            refine ⟨T172, _, X172, N172, e172, fun target kt => ?_⟩
            show Steps p.tables e below (T158.setTop (mkF m 96 #[.val (.int p0), .val (.int (3 : Int32)), .val (.ref b113), .val (.int (1 : Int32)), .val (.int v134), .val (.int v144), .val (.int v154), .val (.int (1 : Int32)), .val (.int (1 : Int32))] [(.int v144)])) _
            refine XS.ifNo X158.here hx rfl (hb hby at_96) rfl ((if0 _ _).trans (feq hc165).1) ?_
            show Steps p.tables e below (T158.setTop (mkF m 99 #[.val (.int p0), .val (.int (3 : Int32)), .val (.ref b113), .val (.int (1 : Int32)), .val (.int v134), .val (.int v144), .val (.int v154), .val (.int (1 : Int32)), .val (.int (1 : Int32))] [])) _
            refine XS.iload X158.here hx rfl (hb hby at_99) rfl ?_
            show Steps p.tables e below (T158.setTop (mkF m 101 #[.val (.int p0), .val (.int (3 : Int32)), .val (.ref b113), .val (.int (1 : Int32)), .val (.int v134), .val (.int v144), .val (.int v154), .val (.int (1 : Int32)), .val (.int (1 : Int32))] [(.int v154)])) _
            refine st172 _ ?_
            exact castTop (by subst hv171; rw [hv173, if_neg hc165] <;> rfl) kt
        refine ⟨T174, _, X174, N174, e174, fun target kt => ?_⟩
        show Steps p.tables e below (T158.setTop (mkF m 91 #[.val (.int p0), .val (.int (3 : Int32)), .val (.ref b113), .val (.int (1 : Int32)), .val (.int v134), .val (.int v144), .val (.int v154), .val (.int (1 : Int32)), .val (.int (1 : Int32))] [(.int v134)])) _
        refine XS.ifNo X158.here hx rfl (hb hby at_91) rfl ((if0 _ _).trans (feq hc162).1) ?_
        show Steps p.tables e below (T158.setTop (mkF m 94 #[.val (.int p0), .val (.int (3 : Int32)), .val (.ref b113), .val (.int (1 : Int32)), .val (.int v134), .val (.int v144), .val (.int v154), .val (.int (1 : Int32)), .val (.int (1 : Int32))] [])) _
        refine XS.iload X158.here hx rfl (hb hby at_94) rfl ?_
        show Steps p.tables e below (T158.setTop (mkF m 96 #[.val (.int p0), .val (.int (3 : Int32)), .val (.ref b113), .val (.int (1 : Int32)), .val (.int v134), .val (.int v144), .val (.int v154), .val (.int (1 : Int32)), .val (.int (1 : Int32))] [(.int v144)])) _
        refine st174 _ ?_
        exact castTop (by subst hv173; rw [hv175, if_neg hc162] <;> rfl) kt
    obtain ⟨fs, hr, hrun, hended, hW, hsame⟩ := X176.leave (v := some (.int (nar .boolean v175))) (fun h => by rw [Bd.returns] at h; cases h)
    refine ⟨_, _, pre0 _ (ck2 _ ?_), hrun, hended, _, _, rfl, ?_, ⟨_, rfl⟩, hW, hsame.mono (by decide) (by decide)⟩
    · show Steps p.tables e below (s₁.setTop (mkF m 7 #[.val (.int p0), .val (.int (3 : Int32)), .unset, .unset, .unset, .unset, .unset, .unset, .unset] [])) _
      refine st113 _ ?_
      show Steps p.tables e below (T113.setTop (mkF m 10 #[.val (.int p0), .val (.int (3 : Int32)), .unset, .unset, .unset, .unset, .unset, .unset, .unset] [(.ref b113)])) _
      refine XS.dup X113.here hx rfl (hb hby at_10) rfl rfl ?_
      show Steps p.tables e below (T113.setTop (mkF m 11 #[.val (.int p0), .val (.int (3 : Int32)), .unset, .unset, .unset, .unset, .unset, .unset, .unset] [(.ref b113), (.ref b113)])) _
      refine st116.trans ?_
      show Steps p.tables e below (T116.setTop (mkF m 14 #[.val (.int p0), .val (.int (3 : Int32)), .unset, .unset, .unset, .unset, .unset, .unset, .unset] [(.ref b113)])) _
      refine XS.astoreN X116.here hx rfl (hb hby at_14) rfl rfl (l' := #[.val (.int p0), .val (.int (3 : Int32)), .val (.ref b113), .unset, .unset, .unset, .unset, .unset, .unset]) rfl ?_
      show Steps p.tables e below (T116.setTop (mkF m 15 #[.val (.int p0), .val (.int (3 : Int32)), .val (.ref b113), .unset, .unset, .unset, .unset, .unset, .unset] [])) _
      refine XS.aloadN X116.here hx rfl (hb hby at_15) rfl rfl ?_
      show Steps p.tables e below (T116.setTop (mkF m 16 #[.val (.int p0), .val (.int (3 : Int32)), .val (.ref b113), .unset, .unset, .unset, .unset, .unset, .unset] [(.ref b113)])) _
      refine st124.trans ?_
      show Steps p.tables e below (T124.setTop (mkF m 19 #[.val (.int p0), .val (.int (3 : Int32)), .val (.ref b113), .unset, .unset, .unset, .unset, .unset, .unset] [(.int (0 : Int32))])) _
      refine XS.ifNo X124.here hx rfl (hb hby at_19) rfl ((if0 _ _).trans (teq (by decide)).2) ?_
      show Steps p.tables e below (T124.setTop (mkF m 22 #[.val (.int p0), .val (.int (3 : Int32)), .val (.ref b113), .unset, .unset, .unset, .unset, .unset, .unset] [])) _
      refine XS.iconst X124.here hx rfl (hb hby at_22) ?_
      show Steps p.tables e below (T124.setTop (mkF m 23 #[.val (.int p0), .val (.int (3 : Int32)), .val (.ref b113), .unset, .unset, .unset, .unset, .unset, .unset] [(.int (1 : Int32))])) _
      refine XS.goto X124.here hx rfl (pc0 := 23) (pc' := 27) rfl (hb hby at_23) (by decide) (by decide) ?_
      show Steps p.tables e below (T124.setTop (mkF m 27 #[.val (.int p0), .val (.int (3 : Int32)), .val (.ref b113), .unset, .unset, .unset, .unset, .unset, .unset] [(.int (1 : Int32))])) _
      refine XS.istoreN X124.here hx rfl (hb hby at_27) rfl (l' := #[.val (.int p0), .val (.int (3 : Int32)), .val (.ref b113), .val (.int (1 : Int32)), .unset, .unset, .unset, .unset, .unset]) rfl ?_
      show Steps p.tables e below (T124.setTop (mkF m 28 #[.val (.int p0), .val (.int (3 : Int32)), .val (.ref b113), .val (.int (1 : Int32)), .unset, .unset, .unset, .unset, .unset] [])) _
      refine XS.aloadN X124.here hx rfl (hb hby at_28) rfl rfl ?_
      show Steps p.tables e below (T124.setTop (mkF m 29 #[.val (.int p0), .val (.int (3 : Int32)), .val (.ref b113), .val (.int (1 : Int32)), .unset, .unset, .unset, .unset, .unset] [(.ref b113)])) _
      refine XS.iconst X124.here hx rfl (hb hby at_29) ?_
      show Steps p.tables e below (T124.setTop (mkF m 30 #[.val (.int p0), .val (.int (3 : Int32)), .val (.ref b113), .val (.int (1 : Int32)), .unset, .unset, .unset, .unset, .unset] [(.int (0 : Int32)), (.ref b113)])) _
      refine XS.iloadN X124.here hx rfl (hb hby at_30) rfl ?_
      show Steps p.tables e below (T124.setTop (mkF m 31 #[.val (.int p0), .val (.int (3 : Int32)), .val (.ref b113), .val (.int (1 : Int32)), .unset, .unset, .unset, .unset, .unset] [(.int (3 : Int32)), (.int (0 : Int32)), (.ref b113)])) _
      refine st126 _ ?_
      show Steps p.tables e below (T126.setTop (mkF m 34 #[.val (.int p0), .val (.int (3 : Int32)), .val (.ref b113), .val (.int (1 : Int32)), .unset, .unset, .unset, .unset, .unset] [(.int (nar .boolean (if (0 : Int32) = (0 : Int32) then (if ((0 : Int32) + (1 : Int32)) = ((0 : Int32) + (1 : Int32)) then (1 : Int32) else (0 : Int32)) else (0 : Int32))))])) _
      refine castTop (g' := (mkF m 34 #[.val (.int p0), .val (.int (3 : Int32)), .val (.ref b113), .val (.int (1 : Int32)), .unset, .unset, .unset, .unset, .unset] [(.int v134)])) (by rw [hv134] <;> rfl) ?_
      show Steps p.tables e below (T126.setTop (mkF m 34 #[.val (.int p0), .val (.int (3 : Int32)), .val (.ref b113), .val (.int (1 : Int32)), .unset, .unset, .unset, .unset, .unset] [(.int v134)])) _
      refine XS.istore X126.here hx rfl (hb hby at_34) rfl (l' := #[.val (.int p0), .val (.int (3 : Int32)), .val (.ref b113), .val (.int (1 : Int32)), .val (.int v134), .unset, .unset, .unset, .unset]) rfl ?_
      show Steps p.tables e below (T126.setTop (mkF m 36 #[.val (.int p0), .val (.int (3 : Int32)), .val (.ref b113), .val (.int (1 : Int32)), .val (.int v134), .unset, .unset, .unset, .unset] [])) _
      refine XS.aloadN X126.here hx rfl (hb hby at_36) rfl rfl ?_
      show Steps p.tables e below (T126.setTop (mkF m 37 #[.val (.int p0), .val (.int (3 : Int32)), .val (.ref b113), .val (.int (1 : Int32)), .val (.int v134), .unset, .unset, .unset, .unset] [(.ref b113)])) _
      refine XS.iconst X126.here hx rfl (hb hby at_37) ?_
      show Steps p.tables e below (T126.setTop (mkF m 38 #[.val (.int p0), .val (.int (3 : Int32)), .val (.ref b113), .val (.int (1 : Int32)), .val (.int v134), .unset, .unset, .unset, .unset] [(.int (1 : Int32)), (.ref b113)])) _
      refine XS.iloadN X126.here hx rfl (hb hby at_38) rfl ?_
      show Steps p.tables e below (T126.setTop (mkF m 39 #[.val (.int p0), .val (.int (3 : Int32)), .val (.ref b113), .val (.int (1 : Int32)), .val (.int v134), .unset, .unset, .unset, .unset] [(.int (3 : Int32)), (.int (1 : Int32)), (.ref b113)])) _
      refine st136 _ ?_
      show Steps p.tables e below (T136.setTop (mkF m 42 #[.val (.int p0), .val (.int (3 : Int32)), .val (.ref b113), .val (.int (1 : Int32)), .val (.int v134), .unset, .unset, .unset, .unset] [(.int (nar .boolean (if ((0 : Int32) + (1 : Int32)) = (1 : Int32) then (if (((0 : Int32) + (1 : Int32)) + (1 : Int32)) = ((1 : Int32) + (1 : Int32)) then (1 : Int32) else (0 : Int32)) else (0 : Int32))))])) _
      refine castTop (g' := (mkF m 42 #[.val (.int p0), .val (.int (3 : Int32)), .val (.ref b113), .val (.int (1 : Int32)), .val (.int v134), .unset, .unset, .unset, .unset] [(.int v144)])) (by rw [hv144] <;> rfl) ?_
      show Steps p.tables e below (T136.setTop (mkF m 42 #[.val (.int p0), .val (.int (3 : Int32)), .val (.ref b113), .val (.int (1 : Int32)), .val (.int v134), .unset, .unset, .unset, .unset] [(.int v144)])) _
      refine XS.istore X136.here hx rfl (hb hby at_42) rfl (l' := #[.val (.int p0), .val (.int (3 : Int32)), .val (.ref b113), .val (.int (1 : Int32)), .val (.int v134), .val (.int v144), .unset, .unset, .unset]) rfl ?_
      show Steps p.tables e below (T136.setTop (mkF m 44 #[.val (.int p0), .val (.int (3 : Int32)), .val (.ref b113), .val (.int (1 : Int32)), .val (.int v134), .val (.int v144), .unset, .unset, .unset] [])) _
      refine XS.aloadN X136.here hx rfl (hb hby at_44) rfl rfl ?_
      show Steps p.tables e below (T136.setTop (mkF m 45 #[.val (.int p0), .val (.int (3 : Int32)), .val (.ref b113), .val (.int (1 : Int32)), .val (.int v134), .val (.int v144), .unset, .unset, .unset] [(.ref b113)])) _
      refine XS.iconst X136.here hx rfl (hb hby at_45) ?_
      show Steps p.tables e below (T136.setTop (mkF m 46 #[.val (.int p0), .val (.int (3 : Int32)), .val (.ref b113), .val (.int (1 : Int32)), .val (.int v134), .val (.int v144), .unset, .unset, .unset] [(.int (2 : Int32)), (.ref b113)])) _
      refine XS.iloadN X136.here hx rfl (hb hby at_46) rfl ?_
      show Steps p.tables e below (T136.setTop (mkF m 47 #[.val (.int p0), .val (.int (3 : Int32)), .val (.ref b113), .val (.int (1 : Int32)), .val (.int v134), .val (.int v144), .unset, .unset, .unset] [(.int (3 : Int32)), (.int (2 : Int32)), (.ref b113)])) _
      refine st146 _ ?_
      show Steps p.tables e below (T146.setTop (mkF m 50 #[.val (.int p0), .val (.int (3 : Int32)), .val (.ref b113), .val (.int (1 : Int32)), .val (.int v134), .val (.int v144), .unset, .unset, .unset] [(.int (nar .boolean (if (((0 : Int32) + (1 : Int32)) + (1 : Int32)) = (2 : Int32) then (if ((((0 : Int32) + (1 : Int32)) + (1 : Int32)) + (1 : Int32)) = ((2 : Int32) + (1 : Int32)) then (1 : Int32) else (0 : Int32)) else (0 : Int32))))])) _
      refine castTop (g' := (mkF m 50 #[.val (.int p0), .val (.int (3 : Int32)), .val (.ref b113), .val (.int (1 : Int32)), .val (.int v134), .val (.int v144), .unset, .unset, .unset] [(.int v154)])) (by rw [hv154] <;> rfl) ?_
      show Steps p.tables e below (T146.setTop (mkF m 50 #[.val (.int p0), .val (.int (3 : Int32)), .val (.ref b113), .val (.int (1 : Int32)), .val (.int v134), .val (.int v144), .unset, .unset, .unset] [(.int v154)])) _
      refine XS.istore X146.here hx rfl (hb hby at_50) rfl (l' := #[.val (.int p0), .val (.int (3 : Int32)), .val (.ref b113), .val (.int (1 : Int32)), .val (.int v134), .val (.int v144), .val (.int v154), .unset, .unset]) rfl ?_
      show Steps p.tables e below (T146.setTop (mkF m 52 #[.val (.int p0), .val (.int (3 : Int32)), .val (.ref b113), .val (.int (1 : Int32)), .val (.int v134), .val (.int v144), .val (.int v154), .unset, .unset] [])) _
      refine XS.aloadN X146.here hx rfl (hb hby at_52) rfl rfl ?_
      show Steps p.tables e below (T146.setTop (mkF m 53 #[.val (.int p0), .val (.int (3 : Int32)), .val (.ref b113), .val (.int (1 : Int32)), .val (.int v134), .val (.int v144), .val (.int v154), .unset, .unset] [(.ref b113)])) _
      refine XS.iconst X146.here hx rfl (hb hby at_53) ?_
      show Steps p.tables e below (T146.setTop (mkF m 54 #[.val (.int p0), .val (.int (3 : Int32)), .val (.ref b113), .val (.int (1 : Int32)), .val (.int v134), .val (.int v144), .val (.int v154), .unset, .unset] [(.int (3 : Int32)), (.ref b113)])) _
      refine XS.iloadN X146.here hx rfl (hb hby at_54) rfl ?_
      show Steps p.tables e below (T146.setTop (mkF m 55 #[.val (.int p0), .val (.int (3 : Int32)), .val (.ref b113), .val (.int (1 : Int32)), .val (.int v134), .val (.int v144), .val (.int v154), .unset, .unset] [(.int (3 : Int32)), (.int (3 : Int32)), (.ref b113)])) _
      refine st156 _ ?_
      show Steps p.tables e below (T156.setTop (mkF m 58 #[.val (.int p0), .val (.int (3 : Int32)), .val (.ref b113), .val (.int (1 : Int32)), .val (.int v134), .val (.int v144), .val (.int v154), .unset, .unset] [(.int (1 : Int32))])) _
      refine XS.istore X156.here hx rfl (hb hby at_58) rfl (l' := #[.val (.int p0), .val (.int (3 : Int32)), .val (.ref b113), .val (.int (1 : Int32)), .val (.int v134), .val (.int v144), .val (.int v154), .val (.int (1 : Int32)), .unset]) rfl ?_
      show Steps p.tables e below (T156.setTop (mkF m 60 #[.val (.int p0), .val (.int (3 : Int32)), .val (.ref b113), .val (.int (1 : Int32)), .val (.int v134), .val (.int v144), .val (.int v154), .val (.int (1 : Int32)), .unset] [])) _
      refine XS.aloadN X156.here hx rfl (hb hby at_60) rfl rfl ?_
      show Steps p.tables e below (T156.setTop (mkF m 61 #[.val (.int p0), .val (.int (3 : Int32)), .val (.ref b113), .val (.int (1 : Int32)), .val (.int v134), .val (.int v144), .val (.int v154), .val (.int (1 : Int32)), .unset] [(.ref b113)])) _
      refine st157.trans ?_
      show Steps p.tables e below (T157.setTop (mkF m 64 #[.val (.int p0), .val (.int (3 : Int32)), .val (.ref b113), .val (.int (1 : Int32)), .val (.int v134), .val (.int v144), .val (.int v154), .val (.int (1 : Int32)), .unset] [(.long (0 : Int64))])) _
      refine XS.lconst X157.here hx rfl (hb hby at_64) ?_
      show Steps p.tables e below (T157.setTop (mkF m 65 #[.val (.int p0), .val (.int (3 : Int32)), .val (.ref b113), .val (.int (1 : Int32)), .val (.int v134), .val (.int v144), .val (.int v154), .val (.int (1 : Int32)), .unset] [(.long (0 : Int64)), (.long (0 : Int64))])) _
      refine XS.lcmp X157.here hx rfl (hb hby at_65) rfl ?_
      show Steps p.tables e below (T157.setTop (mkF m 66 #[.val (.int p0), .val (.int (3 : Int32)), .val (.ref b113), .val (.int (1 : Int32)), .val (.int v134), .val (.int v144), .val (.int v154), .val (.int (1 : Int32)), .unset] [(.int (lcmpW (0 : Int64) (0 : Int64)))])) _
      refine XS.ifNo X157.here hx rfl (hb hby at_66) rfl ((if0 _ _).trans (teq ((lw_eq (0 : Int64) (0 : Int64)).mpr (by decide))).2) ?_
      show Steps p.tables e below (T157.setTop (mkF m 69 #[.val (.int p0), .val (.int (3 : Int32)), .val (.ref b113), .val (.int (1 : Int32)), .val (.int v134), .val (.int v144), .val (.int v154), .val (.int (1 : Int32)), .unset] [])) _
      refine XS.aloadN X157.here hx rfl (hb hby at_69) rfl rfl ?_
      show Steps p.tables e below (T157.setTop (mkF m 70 #[.val (.int p0), .val (.int (3 : Int32)), .val (.ref b113), .val (.int (1 : Int32)), .val (.int v134), .val (.int v144), .val (.int v154), .val (.int (1 : Int32)), .unset] [(.ref b113)])) _
      refine st158.trans ?_
      show Steps p.tables e below (T158.setTop (mkF m 73 #[.val (.int p0), .val (.int (3 : Int32)), .val (.ref b113), .val (.int (1 : Int32)), .val (.int v134), .val (.int v144), .val (.int v154), .val (.int (1 : Int32)), .unset] [(.long (0 : Int64))])) _
      refine XS.lconst X158.here hx rfl (hb hby at_73) ?_
      show Steps p.tables e below (T158.setTop (mkF m 74 #[.val (.int p0), .val (.int (3 : Int32)), .val (.ref b113), .val (.int (1 : Int32)), .val (.int v134), .val (.int v144), .val (.int v154), .val (.int (1 : Int32)), .unset] [(.long (0 : Int64)), (.long (0 : Int64))])) _
      refine XS.lcmp X158.here hx rfl (hb hby at_74) rfl ?_
      show Steps p.tables e below (T158.setTop (mkF m 75 #[.val (.int p0), .val (.int (3 : Int32)), .val (.ref b113), .val (.int (1 : Int32)), .val (.int v134), .val (.int v144), .val (.int v154), .val (.int (1 : Int32)), .unset] [(.int (lcmpW (0 : Int64) (0 : Int64)))])) _
      refine XS.ifNo X158.here hx rfl (hb hby at_75) rfl ((if0 _ _).trans (teq ((lw_eq (0 : Int64) (0 : Int64)).mpr (by decide))).2) ?_
      show Steps p.tables e below (T158.setTop (mkF m 78 #[.val (.int p0), .val (.int (3 : Int32)), .val (.ref b113), .val (.int (1 : Int32)), .val (.int v134), .val (.int v144), .val (.int v154), .val (.int (1 : Int32)), .unset] [])) _
      refine XS.iconst X158.here hx rfl (hb hby at_78) ?_
      show Steps p.tables e below (T158.setTop (mkF m 79 #[.val (.int p0), .val (.int (3 : Int32)), .val (.ref b113), .val (.int (1 : Int32)), .val (.int v134), .val (.int v144), .val (.int v154), .val (.int (1 : Int32)), .unset] [(.int (1 : Int32))])) _
      refine XS.goto X158.here hx rfl (pc0 := 79) (pc' := 83) rfl (hb hby at_79) (by decide) (by decide) ?_
      show Steps p.tables e below (T158.setTop (mkF m 83 #[.val (.int p0), .val (.int (3 : Int32)), .val (.ref b113), .val (.int (1 : Int32)), .val (.int v134), .val (.int v144), .val (.int v154), .val (.int (1 : Int32)), .unset] [(.int (1 : Int32))])) _
      refine XS.istore X158.here hx rfl (hb hby at_83) rfl (l' := #[.val (.int p0), .val (.int (3 : Int32)), .val (.ref b113), .val (.int (1 : Int32)), .val (.int v134), .val (.int v144), .val (.int v154), .val (.int (1 : Int32)), .val (.int (1 : Int32))]) rfl ?_
      show Steps p.tables e below (T158.setTop (mkF m 85 #[.val (.int p0), .val (.int (3 : Int32)), .val (.ref b113), .val (.int (1 : Int32)), .val (.int v134), .val (.int v144), .val (.int v154), .val (.int (1 : Int32)), .val (.int (1 : Int32))] [])) _
      refine XS.iloadN X158.here hx rfl (hb hby at_85) rfl ?_
      show Steps p.tables e below (T158.setTop (mkF m 86 #[.val (.int p0), .val (.int (3 : Int32)), .val (.ref b113), .val (.int (1 : Int32)), .val (.int v134), .val (.int v144), .val (.int v154), .val (.int (1 : Int32)), .val (.int (1 : Int32))] [(.int (1 : Int32))])) _
      refine XS.ifNo X158.here hx rfl (hb hby at_86) rfl ((if0 _ _).trans (feq (by decide)).1) ?_
      show Steps p.tables e below (T158.setTop (mkF m 89 #[.val (.int p0), .val (.int (3 : Int32)), .val (.ref b113), .val (.int (1 : Int32)), .val (.int v134), .val (.int v144), .val (.int v154), .val (.int (1 : Int32)), .val (.int (1 : Int32))] [])) _
      refine XS.iload X158.here hx rfl (hb hby at_89) rfl ?_
      show Steps p.tables e below (T158.setTop (mkF m 91 #[.val (.int p0), .val (.int (3 : Int32)), .val (.ref b113), .val (.int (1 : Int32)), .val (.int v134), .val (.int v144), .val (.int v154), .val (.int (1 : Int32)), .val (.int (1 : Int32))] [(.int v134)])) _
      refine st176 _ ?_
      show Steps p.tables e below (T176.setTop (mkF m 127 #[.val (.int p0), .val (.int (3 : Int32)), .val (.ref b113), .val (.int (1 : Int32)), .val (.int v134), .val (.int v144), .val (.int v154), .val (.int (1 : Int32)), .val (.int (1 : Int32))] [(.int v175)])) _
      exact retN X176 hx (t := .boolean) Bd.returns (by simp) (hb hby at_127) hr
    · show Q0 h0 n0 _ T176.heap _
      refine ⟨?_, N176⟩
      have hfin : (nar .boolean v175) = (1 : Int32) := by
        exact (own_law3 v134 v144 v154 v175 hv134 hv144 hv154 hv175)
      rw [hfin]
  · subst hk
    obtain ⟨T177, h177, X177, e177, E177, A177, D177, -, st177⟩ := newO X0 hx hZ hown (hw _ (List.mem_of_getElem? (i := 1) rfl)) (hw _ (List.mem_of_getElem? (i := 2) rfl)) (hw _ (List.mem_of_getElem? (i := 3) rfl)) e0 (g := (mkF m 7 #[.val (.int p0), .val (.int (4 : Int32)), .unset, .unset, .unset, .unset, .unset, .unset, .unset] [])) rfl (hb hby at_7) (by decide) (by decide)
    obtain ⟨b177, g177⟩ : ∃ z, z = h0.size := ⟨_, rfl⟩
    rw [← g177] at A177 D177 st177
    have nw_b177 : n0 ≤ b177 := Nat.le_trans (Nat.le_trans Z0 (Keep.refl h0 []).1) (Nat.le_of_eq g177.symm)
    have sz_b177 : h0.size ≤ b177 := Nat.le_trans (Keep.refl h0 []).1 (Nat.le_of_eq g177.symm)
    have K177 : Keep h0 h177 [] := (Keep.refl h0 []).ext E177
    have F_sorts_b177 : Fld Z h177 b177 "com/example/psilattice/psilattice/lang/WrittenGraph" "sorts" "Ljava/util/List;" .null := D177 (Or.inr (hw _ (List.mem_of_getElem? (i := 35) rfl))) (ty := (.object "java/util/List")) (by decide)
    have F_edges_b177 : Fld Z h177 b177 "com/example/psilattice/psilattice/lang/WrittenGraph" "edges" "Ljava/util/List;" .null := D177 (Or.inr (hw _ (List.mem_of_getElem? (i := 37) rfl))) (ty := (.object "java/util/List")) (by decide)
    have F_uses_b177 : Fld Z h177 b177 "com/example/psilattice/psilattice/lang/WrittenGraph" "uses" "Ljava/util/List;" .null := D177 (Or.inr (hw _ (List.mem_of_getElem? (i := 39) rfl))) (ty := (.object "java/util/List")) (by decide)
    have F_nodes_b177 : Fld Z h177 b177 "com/example/psilattice/psilattice/lang/WrittenGraph" "nodes" "I" (.int (0 : Int32)) := D177 (Or.inl (hw _ (List.mem_of_getElem? (i := 46) rfl))) (ty := .int) (by decide)
    have F_copiedNodes_b177 : Fld Z h177 b177 "com/example/psilattice/psilattice/lang/WrittenGraph" "copiedNodes" "J" (.long (0 : Int64)) := D177 (Or.inl (hw _ (List.mem_of_getElem? (i := 57) rfl))) (ty := .long) (by decide)
    have F_copies_b177 : Fld Z h177 b177 "com/example/psilattice/psilattice/lang/WrittenGraph" "copies" "J" (.long (0 : Int64)) := D177 (Or.inl (hw _ (List.mem_of_getElem? (i := 64) rfl))) (ty := .long) (by decide)
    have G178 : SO Z n0 h177 "java/util/ArrayList" "DEFAULTCAPACITY_EMPTY_ELEMENTDATA" "[Ljava/lang/Object;" s_DEFAULTCAPACITY_EMPTY_ELEMENTDATA := (S_DEFAULTCAPACITY_EMPTY_ELEMENTDATA.ext E177)
    have hp179 : s_DEFAULTCAPACITY_EMPTY_ELEMENTDATA.isRef = true := rf_s_DEFAULTCAPACITY_EMPTY_ELEMENTDATA
    obtain ⟨_, _, ⟨T180, L180, k180, n180⟩, -, X180, ⟨Lc180, hQ180, l180, y180, z180⟩, st180⟩ := X177.specialBack hx (y := (⟨"com/example/psilattice/psilattice/lang/WrittenGraph", "<init>", "()V"⟩ : MethodName)) rfl hown (mvT hZ (hw _ (List.mem_of_getElem? (i := 4) rfl))) (mvT hZ (hw _ (List.mem_of_getElem? (i := 5) rfl))) (mvT hZ (hw _ (List.mem_of_getElem? (i := 6) rfl))) (by decide) (backOf (W := 1) (rm1 l Z A0 hw [] b177 .null .null .null (0 : Int32) (0 : Int64) (0 : Int64) s_DEFAULTCAPACITY_EMPTY_ELEMENTDATA h177 n0 (Nat.le_trans Z0 K177.1) A177 F_sorts_b177 F_edges_b177 F_uses_b177 F_nodes_b177 F_copiedNodes_b177 F_copies_b177 G178 nw_b177 hp179) hZ (hw _ (List.mem_of_getElem? (i := 6) rfl)) (hw _ (List.mem_of_getElem? (i := 3) rfl)) (by decide) (by decide)) (g := (mkF m 11 #[.val (.int p0), .val (.int (4 : Int32)), .unset, .unset, .unset, .unset, .unset, .unset, .unset] [(.ref b177), (.ref b177)])) rfl (by rw [hml]; rfl) (Steps.refl _) (a := b177) (argsL := []) (rest := [(.ref b177)]) (lenOf pd_0 rfl) rfl (by show 2 * 0 + _ ≤ _; exact Nat.le_of_eq rfl) (hb hby at_11) (fun _ _ => ⟨rfl, e177, (by decide : 1 + 3 ≤ _), (by decide : 6 + 9 ≤ _)⟩)
    dsimp only [Pt.U, Pt.locs, Pt.cells, Pt.slots] at X180 l180 y180 z180 st180 hQ180
    subst l180 y180 z180
    obtain ⟨b180_b2, b180_b12, b180_b24, rfl, N180q, Kc180, szb180_b2, szb180_b12, szb180_b24, ne_b180_b2_b180_b12, ne_b180_b2_b180_b24, ne_b180_b12_b180_b24, P181, P182, P183, P184, P185, P186, P187⟩ := hQ180
    have ne_b177_b180_b2 : b177 ≠ b180_b2 := Nat.ne_of_lt (Nat.lt_of_lt_of_le A177.lt szb180_b2)
    have ne_b177_b180_b12 : b177 ≠ b180_b12 := Nat.ne_of_lt (Nat.lt_of_lt_of_le A177.lt szb180_b12)
    have ne_b177_b180_b24 : b177 ≠ b180_b24 := Nat.ne_of_lt (Nat.lt_of_lt_of_le A177.lt szb180_b24)
    have nw_b180_b2 : n0 ≤ b180_b2 := Nat.le_trans (Nat.le_trans Z0 K177.1) szb180_b2
    have sq_b180_b2 : h0.size ≤ b180_b2 := Nat.le_trans K177.1 szb180_b2
    have nw_b180_b12 : n0 ≤ b180_b12 := Nat.le_trans (Nat.le_trans Z0 K177.1) szb180_b12
    have sq_b180_b12 : h0.size ≤ b180_b12 := Nat.le_trans K177.1 szb180_b12
    have nw_b180_b24 : n0 ≤ b180_b24 := Nat.le_trans (Nat.le_trans Z0 K177.1) szb180_b24
    have sq_b180_b24 : h0.size ≤ b180_b24 := Nat.le_trans K177.1 szb180_b24
    have K180 : Keep h0 T180.heap [] := K177.trans Kc180 (allS (Or.inr sz_b177) all0)
    have N180 := Fr.app N0 N180q
    obtain ⟨cq188, kq188, q188a, q188b, q188c⟩ := isOf hZ rfl P181
    obtain ⟨_, _, ⟨T188, L188, k188, n188⟩, -, X188, ⟨Lc188, hQ188, l188, y188, z188⟩, st188⟩ := X180.virtualBack hx (y := (⟨"com/example/psilattice/psilattice/lang/WrittenGraph", "size", "()I"⟩ : MethodName)) (z := (⟨"com/example/psilattice/psilattice/lang/WrittenGraph", "size", "()I"⟩ : MethodName)) hown (mvT hZ (hw _ (List.mem_of_getElem? (i := 40) rfl))) (mvT hZ (hw _ (List.mem_of_getElem? (i := 41) rfl))) (notFace_of_selects (args := #[]) (mvT hZ (hw _ (List.mem_of_getElem? (i := 43) rfl)))) (mvT hZ (hw _ (List.mem_of_getElem? (i := 43) rfl))) (mvT hZ (hw _ (List.mem_of_getElem? (i := 42) rfl))) (by decide) (backOf (W := 0) (rm6 l Z A0 hw [] b177 (.ref b180_b2) (.ref b180_b12) (.ref b180_b24) (0 : Int32) (0 : Int64) (0 : Int64) T180.heap n0 (Nat.le_trans Z0 K180.1) P181 P182 P183 P184 P185 P186 P187) hZ (hw _ (List.mem_of_getElem? (i := 44) rfl)) (hw _ (List.mem_of_getElem? (i := 3) rfl)) (by decide) (by decide)) q188a q188c (g := (mkF m 16 #[.val (.int p0), .val (.int (4 : Int32)), .val (.ref b177), .unset, .unset, .unset, .unset, .unset, .unset] [(.ref b177)])) rfl (by rw [hml]; rfl) (Steps.refl _) (argsL := []) (rest := []) (lenOf pd_1 rfl) rfl (by show 2 * 0 + _ ≤ _; exact Nat.le_of_eq rfl) (hb hby at_16) (fun _ _ => ⟨rfl, rfl, (by decide : 4 + 0 ≤ _), (by decide : 15 + 0 ≤ _)⟩)
    dsimp only [Pt.U, Pt.locs, Pt.cells, Pt.slots] at X188 l188 y188 z188 st188 hQ188
    subst l188 y188 z188
    obtain ⟨rfl, N188q, e188⟩ := hQ188
    have N188 := Fr.app N180 N188q
    have hp189 : (0 : Int32) < (4 : Int32) := (by decide)
    obtain ⟨_, _, ⟨T190, L190, k190, n190⟩, -, X190, ⟨Lc190, hQ190, l190, y190, z190⟩, st190⟩ := Jvm.LawKit.callS X188 hx (y := (⟨"com/example/psilattice/psilattice/lang/WrittenGraphNodePinLaw", "step", "(Lcom/example/psilattice/psilattice/lang/WrittenGraph;II)Z"⟩ : MethodName)) hown (mvT hZ (hw _ (List.mem_of_getElem? (i := 47) rfl))) (mvT hZ (hw _ (List.mem_of_getElem? (i := 48) rfl))) (mvT hZ (hw _ (List.mem_of_getElem? (i := 49) rfl))) (mvT hZ (hw _ (List.mem_of_getElem? (i := 50) rfl))) (by decide) (backOf (W := 0) (rm7b l Z A0 hw [] b177 (0 : Int32) (4 : Int32) (.ref b180_b2) (.ref b180_b12) (.ref b180_b24) (0 : Int32) (0 : Int64) (0 : Int64) T180.heap n0 (Nat.le_trans Z0 K180.1) P181 P182 P183 P184 P185 P186 P187 nw_b177 hp189) hZ (hw _ (List.mem_of_getElem? (i := 50) rfl)) (hw _ (List.mem_of_getElem? (i := 49) rfl)) (by decide) (by decide)) (g := (mkF m 31 #[.val (.int p0), .val (.int (4 : Int32)), .val (.ref b177), .val (.int (1 : Int32)), .unset, .unset, .unset, .unset, .unset] [(.int (4 : Int32)), (.int (0 : Int32)), (.ref b177)])) rfl (by rw [hml]; rfl) (argsL := [(.ref b177), (.int (0 : Int32)), (.int (4 : Int32))]) (rest := []) (lenOf pd_2 rfl) rfl (by show 2 * 0 + _ ≤ _; exact Nat.le_of_eq rfl) (hb hby at_31) (fun _ _ => ⟨rfl, e188, (by decide : 4 + 0 ≤ _), (by decide : 15 + 0 ≤ _)⟩)
    dsimp only [Pt.U, Pt.locs, Pt.cells, Pt.slots] at X190 l190 y190 z190 st190 hQ190
    subst l190 y190 z190
    obtain ⟨rfl, N190q, Kc190, P191, P192, P193, P194, P195, P196, P197⟩ := hQ190
    have K190 : Keep h0 T190.heap [] := K180.trans Kc190 (allS (Or.inr sz_b177) all0)
    have N190 := Fr.app N188 N190q
    obtain ⟨v198, hv198⟩ : ∃ z : Int32, z = (nar .boolean (if (0 : Int32) = (0 : Int32) then (if ((0 : Int32) + (1 : Int32)) = ((0 : Int32) + (1 : Int32)) then (1 : Int32) else (0 : Int32)) else (0 : Int32))) := ⟨_, rfl⟩
    have hp199 : (1 : Int32) < (4 : Int32) := (by decide)
    obtain ⟨_, _, ⟨T200, L200, k200, n200⟩, -, X200, ⟨Lc200, hQ200, l200, y200, z200⟩, st200⟩ := Jvm.LawKit.callS X190 hx (y := (⟨"com/example/psilattice/psilattice/lang/WrittenGraphNodePinLaw", "step", "(Lcom/example/psilattice/psilattice/lang/WrittenGraph;II)Z"⟩ : MethodName)) hown (mvT hZ (hw _ (List.mem_of_getElem? (i := 47) rfl))) (mvT hZ (hw _ (List.mem_of_getElem? (i := 48) rfl))) (mvT hZ (hw _ (List.mem_of_getElem? (i := 49) rfl))) (mvT hZ (hw _ (List.mem_of_getElem? (i := 50) rfl))) (by decide) (backOf (W := 0) (rm7b l Z A0 hw [] b177 (1 : Int32) (4 : Int32) (.ref b180_b2) (.ref b180_b12) (.ref b180_b24) ((0 : Int32) + (1 : Int32)) (0 : Int64) (0 : Int64) T190.heap n0 (Nat.le_trans Z0 K190.1) P191 P192 P193 P194 P195 P196 P197 nw_b177 hp199) hZ (hw _ (List.mem_of_getElem? (i := 50) rfl)) (hw _ (List.mem_of_getElem? (i := 49) rfl)) (by decide) (by decide)) (g := (mkF m 39 #[.val (.int p0), .val (.int (4 : Int32)), .val (.ref b177), .val (.int (1 : Int32)), .val (.int v198), .unset, .unset, .unset, .unset] [(.int (4 : Int32)), (.int (1 : Int32)), (.ref b177)])) rfl (by rw [hml]; rfl) (argsL := [(.ref b177), (.int (1 : Int32)), (.int (4 : Int32))]) (rest := []) (lenOf pd_2 rfl) rfl (by show 2 * 0 + _ ≤ _; exact Nat.le_of_eq rfl) (hb hby at_39) (fun _ _ => ⟨rfl, rfl, (by decide : 4 + 0 ≤ _), (by decide : 15 + 0 ≤ _)⟩)
    dsimp only [Pt.U, Pt.locs, Pt.cells, Pt.slots] at X200 l200 y200 z200 st200 hQ200
    subst l200 y200 z200
    obtain ⟨rfl, N200q, Kc200, P201, P202, P203, P204, P205, P206, P207⟩ := hQ200
    have K200 : Keep h0 T200.heap [] := K190.trans Kc200 (allS (Or.inr sz_b177) all0)
    have N200 := Fr.app N190 N200q
    obtain ⟨v208, hv208⟩ : ∃ z : Int32, z = (nar .boolean (if ((0 : Int32) + (1 : Int32)) = (1 : Int32) then (if (((0 : Int32) + (1 : Int32)) + (1 : Int32)) = ((1 : Int32) + (1 : Int32)) then (1 : Int32) else (0 : Int32)) else (0 : Int32))) := ⟨_, rfl⟩
    have hp209 : (2 : Int32) < (4 : Int32) := (by decide)
    obtain ⟨_, _, ⟨T210, L210, k210, n210⟩, -, X210, ⟨Lc210, hQ210, l210, y210, z210⟩, st210⟩ := Jvm.LawKit.callS X200 hx (y := (⟨"com/example/psilattice/psilattice/lang/WrittenGraphNodePinLaw", "step", "(Lcom/example/psilattice/psilattice/lang/WrittenGraph;II)Z"⟩ : MethodName)) hown (mvT hZ (hw _ (List.mem_of_getElem? (i := 47) rfl))) (mvT hZ (hw _ (List.mem_of_getElem? (i := 48) rfl))) (mvT hZ (hw _ (List.mem_of_getElem? (i := 49) rfl))) (mvT hZ (hw _ (List.mem_of_getElem? (i := 50) rfl))) (by decide) (backOf (W := 0) (rm7b l Z A0 hw [] b177 (2 : Int32) (4 : Int32) (.ref b180_b2) (.ref b180_b12) (.ref b180_b24) (((0 : Int32) + (1 : Int32)) + (1 : Int32)) (0 : Int64) (0 : Int64) T200.heap n0 (Nat.le_trans Z0 K200.1) P201 P202 P203 P204 P205 P206 P207 nw_b177 hp209) hZ (hw _ (List.mem_of_getElem? (i := 50) rfl)) (hw _ (List.mem_of_getElem? (i := 49) rfl)) (by decide) (by decide)) (g := (mkF m 47 #[.val (.int p0), .val (.int (4 : Int32)), .val (.ref b177), .val (.int (1 : Int32)), .val (.int v198), .val (.int v208), .unset, .unset, .unset] [(.int (4 : Int32)), (.int (2 : Int32)), (.ref b177)])) rfl (by rw [hml]; rfl) (argsL := [(.ref b177), (.int (2 : Int32)), (.int (4 : Int32))]) (rest := []) (lenOf pd_2 rfl) rfl (by show 2 * 0 + _ ≤ _; exact Nat.le_of_eq rfl) (hb hby at_47) (fun _ _ => ⟨rfl, rfl, (by decide : 4 + 0 ≤ _), (by decide : 15 + 0 ≤ _)⟩)
    dsimp only [Pt.U, Pt.locs, Pt.cells, Pt.slots] at X210 l210 y210 z210 st210 hQ210
    subst l210 y210 z210
    obtain ⟨rfl, N210q, Kc210, P211, P212, P213, P214, P215, P216, P217⟩ := hQ210
    have K210 : Keep h0 T210.heap [] := K200.trans Kc210 (allS (Or.inr sz_b177) all0)
    have N210 := Fr.app N200 N210q
    obtain ⟨v218, hv218⟩ : ∃ z : Int32, z = (nar .boolean (if (((0 : Int32) + (1 : Int32)) + (1 : Int32)) = (2 : Int32) then (if ((((0 : Int32) + (1 : Int32)) + (1 : Int32)) + (1 : Int32)) = ((2 : Int32) + (1 : Int32)) then (1 : Int32) else (0 : Int32)) else (0 : Int32))) := ⟨_, rfl⟩
    have hp219 : (3 : Int32) < (4 : Int32) := (by decide)
    obtain ⟨_, _, ⟨T220, L220, k220, n220⟩, -, X220, ⟨Lc220, hQ220, l220, y220, z220⟩, st220⟩ := Jvm.LawKit.callS X210 hx (y := (⟨"com/example/psilattice/psilattice/lang/WrittenGraphNodePinLaw", "step", "(Lcom/example/psilattice/psilattice/lang/WrittenGraph;II)Z"⟩ : MethodName)) hown (mvT hZ (hw _ (List.mem_of_getElem? (i := 47) rfl))) (mvT hZ (hw _ (List.mem_of_getElem? (i := 48) rfl))) (mvT hZ (hw _ (List.mem_of_getElem? (i := 49) rfl))) (mvT hZ (hw _ (List.mem_of_getElem? (i := 50) rfl))) (by decide) (backOf (W := 0) (rm7b l Z A0 hw [] b177 (3 : Int32) (4 : Int32) (.ref b180_b2) (.ref b180_b12) (.ref b180_b24) ((((0 : Int32) + (1 : Int32)) + (1 : Int32)) + (1 : Int32)) (0 : Int64) (0 : Int64) T210.heap n0 (Nat.le_trans Z0 K210.1) P211 P212 P213 P214 P215 P216 P217 nw_b177 hp219) hZ (hw _ (List.mem_of_getElem? (i := 50) rfl)) (hw _ (List.mem_of_getElem? (i := 49) rfl)) (by decide) (by decide)) (g := (mkF m 55 #[.val (.int p0), .val (.int (4 : Int32)), .val (.ref b177), .val (.int (1 : Int32)), .val (.int v198), .val (.int v208), .val (.int v218), .unset, .unset] [(.int (4 : Int32)), (.int (3 : Int32)), (.ref b177)])) rfl (by rw [hml]; rfl) (argsL := [(.ref b177), (.int (3 : Int32)), (.int (4 : Int32))]) (rest := []) (lenOf pd_2 rfl) rfl (by show 2 * 0 + _ ≤ _; exact Nat.le_of_eq rfl) (hb hby at_55) (fun _ _ => ⟨rfl, rfl, (by decide : 4 + 0 ≤ _), (by decide : 15 + 0 ≤ _)⟩)
    dsimp only [Pt.U, Pt.locs, Pt.cells, Pt.slots] at X220 l220 y220 z220 st220 hQ220
    subst l220 y220 z220
    obtain ⟨rfl, N220q, Kc220, P221, P222, P223, P224, P225, P226, P227⟩ := hQ220
    have K220 : Keep h0 T220.heap [] := K210.trans Kc220 (allS (Or.inr sz_b177) all0)
    have N220 := Fr.app N210 N220q
    obtain ⟨v228, hv228⟩ : ∃ z : Int32, z = (nar .boolean (if ((((0 : Int32) + (1 : Int32)) + (1 : Int32)) + (1 : Int32)) = (3 : Int32) then (if (((((0 : Int32) + (1 : Int32)) + (1 : Int32)) + (1 : Int32)) + (1 : Int32)) = ((3 : Int32) + (1 : Int32)) then (1 : Int32) else (0 : Int32)) else (0 : Int32))) := ⟨_, rfl⟩
    obtain ⟨cq229, kq229, q229a, q229b, q229c⟩ := isOf hZ rfl P221
    obtain ⟨_, _, ⟨T229, L229, k229, n229⟩, -, X229, ⟨Lc229, hQ229, l229, y229, z229⟩, st229⟩ := X220.virtualBack hx (y := (⟨"com/example/psilattice/psilattice/lang/WrittenGraph", "copiedNodes", "()J"⟩ : MethodName)) (z := (⟨"com/example/psilattice/psilattice/lang/WrittenGraph", "copiedNodes", "()J"⟩ : MethodName)) hown (mvT hZ (hw _ (List.mem_of_getElem? (i := 51) rfl))) (mvT hZ (hw _ (List.mem_of_getElem? (i := 52) rfl))) (notFace_of_selects (args := #[]) (mvT hZ (hw _ (List.mem_of_getElem? (i := 54) rfl)))) (mvT hZ (hw _ (List.mem_of_getElem? (i := 54) rfl))) (mvT hZ (hw _ (List.mem_of_getElem? (i := 53) rfl))) (by decide) (backOf (W := 0) (rm8 l Z A0 hw [] b177 (.ref b180_b2) (.ref b180_b12) (.ref b180_b24) (((((0 : Int32) + (1 : Int32)) + (1 : Int32)) + (1 : Int32)) + (1 : Int32)) (0 : Int64) (0 : Int64) T220.heap n0 (Nat.le_trans Z0 K220.1) P221 P222 P223 P224 P225 P226 P227) hZ (hw _ (List.mem_of_getElem? (i := 55) rfl)) (hw _ (List.mem_of_getElem? (i := 3) rfl)) (by decide) (by decide)) q229a q229c (g := (mkF m 61 #[.val (.int p0), .val (.int (4 : Int32)), .val (.ref b177), .val (.int (1 : Int32)), .val (.int v198), .val (.int v208), .val (.int v218), .val (.int v228), .unset] [(.ref b177)])) rfl (by rw [hml]; rfl) (Steps.refl _) (argsL := []) (rest := []) (lenOf pd_3 rfl) rfl (by show 2 * 0 + _ ≤ _; exact Nat.le_of_eq rfl) (hb hby at_61) (fun _ _ => ⟨rfl, rfl, (by decide : 4 + 0 ≤ _), (by decide : 15 + 0 ≤ _)⟩)
    dsimp only [Pt.U, Pt.locs, Pt.cells, Pt.slots] at X229 l229 y229 z229 st229 hQ229
    subst l229 y229 z229
    obtain ⟨rfl, N229q, e229⟩ := hQ229
    have N229 := Fr.app N220 N229q
    obtain ⟨cq230, kq230, q230a, q230b, q230c⟩ := isOf hZ e229 P221
    obtain ⟨_, _, ⟨T230, L230, k230, n230⟩, -, X230, ⟨Lc230, hQ230, l230, y230, z230⟩, st230⟩ := X229.virtualBack hx (y := (⟨"com/example/psilattice/psilattice/lang/WrittenGraph", "copies", "()J"⟩ : MethodName)) (z := (⟨"com/example/psilattice/psilattice/lang/WrittenGraph", "copies", "()J"⟩ : MethodName)) hown (mvT hZ (hw _ (List.mem_of_getElem? (i := 58) rfl))) (mvT hZ (hw _ (List.mem_of_getElem? (i := 59) rfl))) (notFace_of_selects (args := #[]) (mvT hZ (hw _ (List.mem_of_getElem? (i := 61) rfl)))) (mvT hZ (hw _ (List.mem_of_getElem? (i := 61) rfl))) (mvT hZ (hw _ (List.mem_of_getElem? (i := 60) rfl))) (by decide) (backOf (W := 0) (rm9 l Z A0 hw [] b177 (.ref b180_b2) (.ref b180_b12) (.ref b180_b24) (((((0 : Int32) + (1 : Int32)) + (1 : Int32)) + (1 : Int32)) + (1 : Int32)) (0 : Int64) (0 : Int64) T220.heap n0 (Nat.le_trans Z0 K220.1) P221 P222 P223 P224 P225 P226 P227) hZ (hw _ (List.mem_of_getElem? (i := 62) rfl)) (hw _ (List.mem_of_getElem? (i := 3) rfl)) (by decide) (by decide)) q230a q230c (g := (mkF m 70 #[.val (.int p0), .val (.int (4 : Int32)), .val (.ref b177), .val (.int (1 : Int32)), .val (.int v198), .val (.int v208), .val (.int v218), .val (.int v228), .unset] [(.ref b177)])) rfl (by rw [hml]; rfl) (Steps.refl _) (argsL := []) (rest := []) (lenOf pd_3 rfl) rfl (by show 2 * 0 + _ ≤ _; exact Nat.le_of_eq rfl) (hb hby at_70) (fun _ _ => ⟨rfl, e229, (by decide : 4 + 0 ≤ _), (by decide : 15 + 0 ≤ _)⟩)
    dsimp only [Pt.U, Pt.locs, Pt.cells, Pt.slots] at X230 l230 y230 z230 st230 hQ230
    subst l230 y230 z230
    obtain ⟨rfl, N230q, e230⟩ := hQ230
    have N230 := Fr.app N229 N230q
    obtain ⟨v254, hv254⟩ : ∃ z : Int32, z = if v198 = (0 : Int32) then (0 : Int32) else (if v208 = (0 : Int32) then (0 : Int32) else (if v218 = (0 : Int32) then (0 : Int32) else (if v228 = (0 : Int32) then (0 : Int32) else (if (((((0 : Int32) + (1 : Int32)) + (1 : Int32)) + (1 : Int32)) + (1 : Int32)) = (4 : Int32) then (1 : Int32) else (0 : Int32))))) := ⟨_, rfl⟩
    obtain ⟨T255, L255, X255, N255, e255, st255⟩ : ∃ (T' : State) (L' : List Loc), Stand p l e room_1 s m #[(.int p0)] below meth c T' L' 4 15 ∧ Fr n0 L' ∧ T'.heap = T220.heap ∧ ∀ target, Steps p.tables e below (T'.setTop (mkF m 127 #[.val (.int p0), .val (.int (4 : Int32)), .val (.ref b177), .val (.int (1 : Int32)), .val (.int v198), .val (.int v208), .val (.int v218), .val (.int v228), .val (.int (1 : Int32))] [(.int v254)])) target → Steps p.tables e below (T230.setTop (mkF m 91 #[.val (.int p0), .val (.int (4 : Int32)), .val (.ref b177), .val (.int (1 : Int32)), .val (.int v198), .val (.int v208), .val (.int v218), .val (.int v228), .val (.int (1 : Int32))] [(.int v198)])) target := by
      by_cases hc235 : v198 = (0 : Int32)
      · refine ⟨T230, _, X230, N230, e230, fun target kt => ?_⟩
        show Steps p.tables e below (T230.setTop (mkF m 91 #[.val (.int p0), .val (.int (4 : Int32)), .val (.ref b177), .val (.int (1 : Int32)), .val (.int v198), .val (.int v208), .val (.int v218), .val (.int v228), .val (.int (1 : Int32))] [(.int v198)])) _
        refine XS.ifYes X230.here hx rfl (pc0 := 91) (pc' := 126) rfl (hb hby at_91) rfl ((if0 _ _).trans (teq hc235).1) (by decide) (by decide) ?_
        show Steps p.tables e below (T230.setTop (mkF m 126 #[.val (.int p0), .val (.int (4 : Int32)), .val (.ref b177), .val (.int (1 : Int32)), .val (.int v198), .val (.int v208), .val (.int v218), .val (.int v228), .val (.int (1 : Int32))] [])) _
        refine XS.iconst X230.here hx rfl (hb hby at_126) ?_
        exact castTop (by rw [hv254, if_pos hc235] <;> rfl) kt
      · obtain ⟨v252, hv252⟩ : ∃ z : Int32, z = if v208 = (0 : Int32) then (0 : Int32) else (if v218 = (0 : Int32) then (0 : Int32) else (if v228 = (0 : Int32) then (0 : Int32) else (if (((((0 : Int32) + (1 : Int32)) + (1 : Int32)) + (1 : Int32)) + (1 : Int32)) = (4 : Int32) then (1 : Int32) else (0 : Int32)))) := ⟨_, rfl⟩
        obtain ⟨T253, L253, X253, N253, e253, st253⟩ : ∃ (T' : State) (L' : List Loc), Stand p l e room_1 s m #[(.int p0)] below meth c T' L' 4 15 ∧ Fr n0 L' ∧ T'.heap = T220.heap ∧ ∀ target, Steps p.tables e below (T'.setTop (mkF m 127 #[.val (.int p0), .val (.int (4 : Int32)), .val (.ref b177), .val (.int (1 : Int32)), .val (.int v198), .val (.int v208), .val (.int v218), .val (.int v228), .val (.int (1 : Int32))] [(.int v252)])) target → Steps p.tables e below (T230.setTop (mkF m 96 #[.val (.int p0), .val (.int (4 : Int32)), .val (.ref b177), .val (.int (1 : Int32)), .val (.int v198), .val (.int v208), .val (.int v218), .val (.int v228), .val (.int (1 : Int32))] [(.int v208)])) target := by
          by_cases hc239 : v208 = (0 : Int32)
          · refine ⟨T230, _, X230, N230, e230, fun target kt => ?_⟩
            show Steps p.tables e below (T230.setTop (mkF m 96 #[.val (.int p0), .val (.int (4 : Int32)), .val (.ref b177), .val (.int (1 : Int32)), .val (.int v198), .val (.int v208), .val (.int v218), .val (.int v228), .val (.int (1 : Int32))] [(.int v208)])) _
            refine XS.ifYes X230.here hx rfl (pc0 := 96) (pc' := 126) rfl (hb hby at_96) rfl ((if0 _ _).trans (teq hc239).1) (by decide) (by decide) ?_
            show Steps p.tables e below (T230.setTop (mkF m 126 #[.val (.int p0), .val (.int (4 : Int32)), .val (.ref b177), .val (.int (1 : Int32)), .val (.int v198), .val (.int v208), .val (.int v218), .val (.int v228), .val (.int (1 : Int32))] [])) _
            refine XS.iconst X230.here hx rfl (hb hby at_126) ?_
            exact castTop (by rw [hv252, if_pos hc239] <;> rfl) kt
          · obtain ⟨v250, hv250⟩ : ∃ z : Int32, z = if v218 = (0 : Int32) then (0 : Int32) else (if v228 = (0 : Int32) then (0 : Int32) else (if (((((0 : Int32) + (1 : Int32)) + (1 : Int32)) + (1 : Int32)) + (1 : Int32)) = (4 : Int32) then (1 : Int32) else (0 : Int32))) := ⟨_, rfl⟩
            obtain ⟨T251, L251, X251, N251, e251, st251⟩ : ∃ (T' : State) (L' : List Loc), Stand p l e room_1 s m #[(.int p0)] below meth c T' L' 4 15 ∧ Fr n0 L' ∧ T'.heap = T220.heap ∧ ∀ target, Steps p.tables e below (T'.setTop (mkF m 127 #[.val (.int p0), .val (.int (4 : Int32)), .val (.ref b177), .val (.int (1 : Int32)), .val (.int v198), .val (.int v208), .val (.int v218), .val (.int v228), .val (.int (1 : Int32))] [(.int v250)])) target → Steps p.tables e below (T230.setTop (mkF m 101 #[.val (.int p0), .val (.int (4 : Int32)), .val (.ref b177), .val (.int (1 : Int32)), .val (.int v198), .val (.int v208), .val (.int v218), .val (.int v228), .val (.int (1 : Int32))] [(.int v218)])) target := by
              by_cases hc242 : v218 = (0 : Int32)
              · refine ⟨T230, _, X230, N230, e230, fun target kt => ?_⟩
                show Steps p.tables e below (T230.setTop (mkF m 101 #[.val (.int p0), .val (.int (4 : Int32)), .val (.ref b177), .val (.int (1 : Int32)), .val (.int v198), .val (.int v208), .val (.int v218), .val (.int v228), .val (.int (1 : Int32))] [(.int v218)])) _
                refine XS.ifYes X230.here hx rfl (pc0 := 101) (pc' := 126) rfl (hb hby at_101) rfl ((if0 _ _).trans (teq hc242).1) (by decide) (by decide) ?_
                show Steps p.tables e below (T230.setTop (mkF m 126 #[.val (.int p0), .val (.int (4 : Int32)), .val (.ref b177), .val (.int (1 : Int32)), .val (.int v198), .val (.int v208), .val (.int v218), .val (.int v228), .val (.int (1 : Int32))] [])) _
                refine XS.iconst X230.here hx rfl (hb hby at_126) ?_
                exact castTop (by rw [hv250, if_pos hc242] <;> rfl) kt
              · obtain ⟨v248, hv248⟩ : ∃ z : Int32, z = if v228 = (0 : Int32) then (0 : Int32) else (if (((((0 : Int32) + (1 : Int32)) + (1 : Int32)) + (1 : Int32)) + (1 : Int32)) = (4 : Int32) then (1 : Int32) else (0 : Int32)) := ⟨_, rfl⟩
                obtain ⟨T249, L249, X249, N249, e249, st249⟩ : ∃ (T' : State) (L' : List Loc), Stand p l e room_1 s m #[(.int p0)] below meth c T' L' 4 15 ∧ Fr n0 L' ∧ T'.heap = T220.heap ∧ ∀ target, Steps p.tables e below (T'.setTop (mkF m 127 #[.val (.int p0), .val (.int (4 : Int32)), .val (.ref b177), .val (.int (1 : Int32)), .val (.int v198), .val (.int v208), .val (.int v218), .val (.int v228), .val (.int (1 : Int32))] [(.int v248)])) target → Steps p.tables e below (T230.setTop (mkF m 106 #[.val (.int p0), .val (.int (4 : Int32)), .val (.ref b177), .val (.int (1 : Int32)), .val (.int v198), .val (.int v208), .val (.int v218), .val (.int v228), .val (.int (1 : Int32))] [(.int v228)])) target := by
                  by_cases hc244 : v228 = (0 : Int32)
                  · refine ⟨T230, _, X230, N230, e230, fun target kt => ?_⟩
                    show Steps p.tables e below (T230.setTop (mkF m 106 #[.val (.int p0), .val (.int (4 : Int32)), .val (.ref b177), .val (.int (1 : Int32)), .val (.int v198), .val (.int v208), .val (.int v218), .val (.int v228), .val (.int (1 : Int32))] [(.int v228)])) _
                    refine XS.ifYes X230.here hx rfl (pc0 := 106) (pc' := 126) rfl (hb hby at_106) rfl ((if0 _ _).trans (teq hc244).1) (by decide) (by decide) ?_
                    show Steps p.tables e below (T230.setTop (mkF m 126 #[.val (.int p0), .val (.int (4 : Int32)), .val (.ref b177), .val (.int (1 : Int32)), .val (.int v198), .val (.int v208), .val (.int v218), .val (.int v228), .val (.int (1 : Int32))] [])) _
                    refine XS.iconst X230.here hx rfl (hb hby at_126) ?_
                    exact castTop (by rw [hv248, if_pos hc244] <;> rfl) kt
                  · obtain ⟨cq245, kq245, q245a, q245b, q245c⟩ := isOf hZ e230 P221
                    obtain ⟨_, _, ⟨T245, L245, k245, n245⟩, -, X245, ⟨Lc245, hQ245, l245, y245, z245⟩, st245⟩ := X230.virtualBack hx (y := (⟨"com/example/psilattice/psilattice/lang/WrittenGraph", "size", "()I"⟩ : MethodName)) (z := (⟨"com/example/psilattice/psilattice/lang/WrittenGraph", "size", "()I"⟩ : MethodName)) hown (mvT hZ (hw _ (List.mem_of_getElem? (i := 40) rfl))) (mvT hZ (hw _ (List.mem_of_getElem? (i := 41) rfl))) (notFace_of_selects (args := #[]) (mvT hZ (hw _ (List.mem_of_getElem? (i := 43) rfl)))) (mvT hZ (hw _ (List.mem_of_getElem? (i := 43) rfl))) (mvT hZ (hw _ (List.mem_of_getElem? (i := 42) rfl))) (by decide) (backOf (W := 0) (rm6 l Z A0 hw [] b177 (.ref b180_b2) (.ref b180_b12) (.ref b180_b24) (((((0 : Int32) + (1 : Int32)) + (1 : Int32)) + (1 : Int32)) + (1 : Int32)) (0 : Int64) (0 : Int64) T220.heap n0 (Nat.le_trans Z0 K220.1) P221 P222 P223 P224 P225 P226 P227) hZ (hw _ (List.mem_of_getElem? (i := 44) rfl)) (hw _ (List.mem_of_getElem? (i := 3) rfl)) (by decide) (by decide)) q245a q245c (g := (mkF m 115 #[.val (.int p0), .val (.int (4 : Int32)), .val (.ref b177), .val (.int (1 : Int32)), .val (.int v198), .val (.int v208), .val (.int v218), .val (.int v228), .val (.int (1 : Int32))] [(.ref b177)])) rfl (by rw [hml]; rfl) (Steps.refl _) (argsL := []) (rest := []) (lenOf pd_1 rfl) rfl (by show 2 * 0 + _ ≤ _; exact Nat.le_of_eq rfl) (hb hby at_115) (fun _ _ => ⟨rfl, e230, (by decide : 4 + 0 ≤ _), (by decide : 15 + 0 ≤ _)⟩)
                    dsimp only [Pt.U, Pt.locs, Pt.cells, Pt.slots] at X245 l245 y245 z245 st245 hQ245
                    subst l245 y245 z245
                    obtain ⟨rfl, N245q, e245⟩ := hQ245
                    have N245 := Fr.app N230 N245q
                    obtain ⟨v247, hv247⟩ : ∃ z : Int32, z = if (((((0 : Int32) + (1 : Int32)) + (1 : Int32)) + (1 : Int32)) + (1 : Int32)) = (4 : Int32) then (1 : Int32) else (0 : Int32) := ⟨_, rfl⟩
                    refine ⟨T245, _, X245, N245, e245, fun target kt => ?_⟩
                    show Steps p.tables e below (T230.setTop (mkF m 106 #[.val (.int p0), .val (.int (4 : Int32)), .val (.ref b177), .val (.int (1 : Int32)), .val (.int v198), .val (.int v208), .val (.int v218), .val (.int v228), .val (.int (1 : Int32))] [(.int v228)])) _
                    refine XS.ifNo X230.here hx rfl (hb hby at_106) rfl ((if0 _ _).trans (feq hc244).1) ?_
                    show Steps p.tables e below (T230.setTop (mkF m 109 #[.val (.int p0), .val (.int (4 : Int32)), .val (.ref b177), .val (.int (1 : Int32)), .val (.int v198), .val (.int v208), .val (.int v218), .val (.int v228), .val (.int (1 : Int32))] [])) _
                    refine XS.iload X230.here hx rfl (hb hby at_109) rfl ?_
                    show Steps p.tables e below (T230.setTop (mkF m 111 #[.val (.int p0), .val (.int (4 : Int32)), .val (.ref b177), .val (.int (1 : Int32)), .val (.int v198), .val (.int v208), .val (.int v218), .val (.int v228), .val (.int (1 : Int32))] [(.int (1 : Int32))])) _
                    refine XS.ifNo X230.here hx rfl (hb hby at_111) rfl ((if0 _ _).trans (feq (by decide)).1) ?_
                    show Steps p.tables e below (T230.setTop (mkF m 114 #[.val (.int p0), .val (.int (4 : Int32)), .val (.ref b177), .val (.int (1 : Int32)), .val (.int v198), .val (.int v208), .val (.int v218), .val (.int v228), .val (.int (1 : Int32))] [])) _
                    refine XS.aloadN X230.here hx rfl (hb hby at_114) rfl rfl ?_
                    show Steps p.tables e below (T230.setTop (mkF m 115 #[.val (.int p0), .val (.int (4 : Int32)), .val (.ref b177), .val (.int (1 : Int32)), .val (.int v198), .val (.int v208), .val (.int v218), .val (.int v228), .val (.int (1 : Int32))] [(.ref b177)])) _
                    refine st245.trans ?_
                    show Steps p.tables e below (T245.setTop (mkF m 118 #[.val (.int p0), .val (.int (4 : Int32)), .val (.ref b177), .val (.int (1 : Int32)), .val (.int v198), .val (.int v208), .val (.int v218), .val (.int v228), .val (.int (1 : Int32))] [(.int (((((0 : Int32) + (1 : Int32)) + (1 : Int32)) + (1 : Int32)) + (1 : Int32)))])) _
                    refine XS.iloadN X245.here hx rfl (hb hby at_118) rfl ?_
                    show Steps p.tables e below (T245.setTop (mkF m 119 #[.val (.int p0), .val (.int (4 : Int32)), .val (.ref b177), .val (.int (1 : Int32)), .val (.int v198), .val (.int v208), .val (.int v218), .val (.int v228), .val (.int (1 : Int32))] [(.int (4 : Int32)), (.int (((((0 : Int32) + (1 : Int32)) + (1 : Int32)) + (1 : Int32)) + (1 : Int32)))])) _
                    refine own_dia (F := (mkF m 127 #[.val (.int p0), .val (.int (4 : Int32)), .val (.ref b177), .val (.int (1 : Int32)), .val (.int v198), .val (.int v208), .val (.int v218), .val (.int v228), .val (.int (1 : Int32))] [(.int v247)])) ?_ ?_
                    · intro kt
                      by_cases hc246 : (((((0 : Int32) + (1 : Int32)) + (1 : Int32)) + (1 : Int32)) + (1 : Int32)) = (4 : Int32)
                      · show Steps p.tables e below (T245.setTop (mkF m 119 #[.val (.int p0), .val (.int (4 : Int32)), .val (.ref b177), .val (.int (1 : Int32)), .val (.int v198), .val (.int v208), .val (.int v218), .val (.int v228), .val (.int (1 : Int32))] [(.int (4 : Int32)), (.int (((((0 : Int32) + (1 : Int32)) + (1 : Int32)) + (1 : Int32)) + (1 : Int32)))])) _
                        refine XS.icmpNo X245.here hx rfl (hb hby at_119) rfl (teq hc246).2 ?_
                        show Steps p.tables e below (T245.setTop (mkF m 122 #[.val (.int p0), .val (.int (4 : Int32)), .val (.ref b177), .val (.int (1 : Int32)), .val (.int v198), .val (.int v208), .val (.int v218), .val (.int v228), .val (.int (1 : Int32))] [])) _
                        refine XS.iconst X245.here hx rfl (hb hby at_122) ?_
                        show Steps p.tables e below (T245.setTop (mkF m 123 #[.val (.int p0), .val (.int (4 : Int32)), .val (.ref b177), .val (.int (1 : Int32)), .val (.int v198), .val (.int v208), .val (.int v218), .val (.int v228), .val (.int (1 : Int32))] [(.int (1 : Int32))])) _
                        refine XS.goto X245.here hx rfl (pc0 := 123) (pc' := 127) rfl (hb hby at_123) (by decide) (by decide) ?_
                        exact castTop (by rw [hv247, if_pos hc246] <;> rfl) kt
                      · show Steps p.tables e below (T245.setTop (mkF m 119 #[.val (.int p0), .val (.int (4 : Int32)), .val (.ref b177), .val (.int (1 : Int32)), .val (.int v198), .val (.int v208), .val (.int v218), .val (.int v228), .val (.int (1 : Int32))] [(.int (4 : Int32)), (.int (((((0 : Int32) + (1 : Int32)) + (1 : Int32)) + (1 : Int32)) + (1 : Int32)))])) _
                        refine XS.icmpYes X245.here hx rfl (pc0 := 119) (pc' := 126) rfl (hb hby at_119) rfl (feq hc246).2 (by decide) (by decide) ?_
                        show Steps p.tables e below (T245.setTop (mkF m 126 #[.val (.int p0), .val (.int (4 : Int32)), .val (.ref b177), .val (.int (1 : Int32)), .val (.int v198), .val (.int v208), .val (.int v218), .val (.int v228), .val (.int (1 : Int32))] [])) _
                        refine XS.iconst X245.here hx rfl (hb hby at_126) ?_
                        exact castTop (by rw [hv247, if_neg hc246] <;> rfl) kt
                    exact castTop (by subst hv247; rw [hv248, if_neg hc244] <;> rfl) kt
                refine ⟨T249, _, X249, N249, e249, fun target kt => ?_⟩
                show Steps p.tables e below (T230.setTop (mkF m 101 #[.val (.int p0), .val (.int (4 : Int32)), .val (.ref b177), .val (.int (1 : Int32)), .val (.int v198), .val (.int v208), .val (.int v218), .val (.int v228), .val (.int (1 : Int32))] [(.int v218)])) _
                refine XS.ifNo X230.here hx rfl (hb hby at_101) rfl ((if0 _ _).trans (feq hc242).1) ?_
                show Steps p.tables e below (T230.setTop (mkF m 104 #[.val (.int p0), .val (.int (4 : Int32)), .val (.ref b177), .val (.int (1 : Int32)), .val (.int v198), .val (.int v208), .val (.int v218), .val (.int v228), .val (.int (1 : Int32))] [])) _
                refine XS.iload X230.here hx rfl (hb hby at_104) rfl ?_
                show Steps p.tables e below (T230.setTop (mkF m 106 #[.val (.int p0), .val (.int (4 : Int32)), .val (.ref b177), .val (.int (1 : Int32)), .val (.int v198), .val (.int v208), .val (.int v218), .val (.int v228), .val (.int (1 : Int32))] [(.int v228)])) _
                refine st249 _ ?_
                exact castTop (by subst hv248; rw [hv250, if_neg hc242] <;> rfl) kt
            refine ⟨T251, _, X251, N251, e251, fun target kt => ?_⟩
            show Steps p.tables e below (T230.setTop (mkF m 96 #[.val (.int p0), .val (.int (4 : Int32)), .val (.ref b177), .val (.int (1 : Int32)), .val (.int v198), .val (.int v208), .val (.int v218), .val (.int v228), .val (.int (1 : Int32))] [(.int v208)])) _
            refine XS.ifNo X230.here hx rfl (hb hby at_96) rfl ((if0 _ _).trans (feq hc239).1) ?_
            show Steps p.tables e below (T230.setTop (mkF m 99 #[.val (.int p0), .val (.int (4 : Int32)), .val (.ref b177), .val (.int (1 : Int32)), .val (.int v198), .val (.int v208), .val (.int v218), .val (.int v228), .val (.int (1 : Int32))] [])) _
            refine XS.iload X230.here hx rfl (hb hby at_99) rfl ?_
            show Steps p.tables e below (T230.setTop (mkF m 101 #[.val (.int p0), .val (.int (4 : Int32)), .val (.ref b177), .val (.int (1 : Int32)), .val (.int v198), .val (.int v208), .val (.int v218), .val (.int v228), .val (.int (1 : Int32))] [(.int v218)])) _
            refine st251 _ ?_
            exact castTop (by subst hv250; rw [hv252, if_neg hc239] <;> rfl) kt
        refine ⟨T253, _, X253, N253, e253, fun target kt => ?_⟩
        show Steps p.tables e below (T230.setTop (mkF m 91 #[.val (.int p0), .val (.int (4 : Int32)), .val (.ref b177), .val (.int (1 : Int32)), .val (.int v198), .val (.int v208), .val (.int v218), .val (.int v228), .val (.int (1 : Int32))] [(.int v198)])) _
        refine XS.ifNo X230.here hx rfl (hb hby at_91) rfl ((if0 _ _).trans (feq hc235).1) ?_
        show Steps p.tables e below (T230.setTop (mkF m 94 #[.val (.int p0), .val (.int (4 : Int32)), .val (.ref b177), .val (.int (1 : Int32)), .val (.int v198), .val (.int v208), .val (.int v218), .val (.int v228), .val (.int (1 : Int32))] [])) _
        refine XS.iload X230.here hx rfl (hb hby at_94) rfl ?_
        show Steps p.tables e below (T230.setTop (mkF m 96 #[.val (.int p0), .val (.int (4 : Int32)), .val (.ref b177), .val (.int (1 : Int32)), .val (.int v198), .val (.int v208), .val (.int v218), .val (.int v228), .val (.int (1 : Int32))] [(.int v208)])) _
        refine st253 _ ?_
        exact castTop (by subst hv252; rw [hv254, if_neg hc235] <;> rfl) kt
    obtain ⟨fs, hr, hrun, hended, hW, hsame⟩ := X255.leave (v := some (.int (nar .boolean v254))) (fun h => by rw [Bd.returns] at h; cases h)
    refine ⟨_, _, pre0 _ (ck2 _ ?_), hrun, hended, _, _, rfl, ?_, ⟨_, rfl⟩, hW, hsame.mono (by decide) (by decide)⟩
    · show Steps p.tables e below (s₁.setTop (mkF m 7 #[.val (.int p0), .val (.int (4 : Int32)), .unset, .unset, .unset, .unset, .unset, .unset, .unset] [])) _
      refine st177 _ ?_
      show Steps p.tables e below (T177.setTop (mkF m 10 #[.val (.int p0), .val (.int (4 : Int32)), .unset, .unset, .unset, .unset, .unset, .unset, .unset] [(.ref b177)])) _
      refine XS.dup X177.here hx rfl (hb hby at_10) rfl rfl ?_
      show Steps p.tables e below (T177.setTop (mkF m 11 #[.val (.int p0), .val (.int (4 : Int32)), .unset, .unset, .unset, .unset, .unset, .unset, .unset] [(.ref b177), (.ref b177)])) _
      refine st180.trans ?_
      show Steps p.tables e below (T180.setTop (mkF m 14 #[.val (.int p0), .val (.int (4 : Int32)), .unset, .unset, .unset, .unset, .unset, .unset, .unset] [(.ref b177)])) _
      refine XS.astoreN X180.here hx rfl (hb hby at_14) rfl rfl (l' := #[.val (.int p0), .val (.int (4 : Int32)), .val (.ref b177), .unset, .unset, .unset, .unset, .unset, .unset]) rfl ?_
      show Steps p.tables e below (T180.setTop (mkF m 15 #[.val (.int p0), .val (.int (4 : Int32)), .val (.ref b177), .unset, .unset, .unset, .unset, .unset, .unset] [])) _
      refine XS.aloadN X180.here hx rfl (hb hby at_15) rfl rfl ?_
      show Steps p.tables e below (T180.setTop (mkF m 16 #[.val (.int p0), .val (.int (4 : Int32)), .val (.ref b177), .unset, .unset, .unset, .unset, .unset, .unset] [(.ref b177)])) _
      refine st188.trans ?_
      show Steps p.tables e below (T188.setTop (mkF m 19 #[.val (.int p0), .val (.int (4 : Int32)), .val (.ref b177), .unset, .unset, .unset, .unset, .unset, .unset] [(.int (0 : Int32))])) _
      refine XS.ifNo X188.here hx rfl (hb hby at_19) rfl ((if0 _ _).trans (teq (by decide)).2) ?_
      show Steps p.tables e below (T188.setTop (mkF m 22 #[.val (.int p0), .val (.int (4 : Int32)), .val (.ref b177), .unset, .unset, .unset, .unset, .unset, .unset] [])) _
      refine XS.iconst X188.here hx rfl (hb hby at_22) ?_
      show Steps p.tables e below (T188.setTop (mkF m 23 #[.val (.int p0), .val (.int (4 : Int32)), .val (.ref b177), .unset, .unset, .unset, .unset, .unset, .unset] [(.int (1 : Int32))])) _
      refine XS.goto X188.here hx rfl (pc0 := 23) (pc' := 27) rfl (hb hby at_23) (by decide) (by decide) ?_
      show Steps p.tables e below (T188.setTop (mkF m 27 #[.val (.int p0), .val (.int (4 : Int32)), .val (.ref b177), .unset, .unset, .unset, .unset, .unset, .unset] [(.int (1 : Int32))])) _
      refine XS.istoreN X188.here hx rfl (hb hby at_27) rfl (l' := #[.val (.int p0), .val (.int (4 : Int32)), .val (.ref b177), .val (.int (1 : Int32)), .unset, .unset, .unset, .unset, .unset]) rfl ?_
      show Steps p.tables e below (T188.setTop (mkF m 28 #[.val (.int p0), .val (.int (4 : Int32)), .val (.ref b177), .val (.int (1 : Int32)), .unset, .unset, .unset, .unset, .unset] [])) _
      refine XS.aloadN X188.here hx rfl (hb hby at_28) rfl rfl ?_
      show Steps p.tables e below (T188.setTop (mkF m 29 #[.val (.int p0), .val (.int (4 : Int32)), .val (.ref b177), .val (.int (1 : Int32)), .unset, .unset, .unset, .unset, .unset] [(.ref b177)])) _
      refine XS.iconst X188.here hx rfl (hb hby at_29) ?_
      show Steps p.tables e below (T188.setTop (mkF m 30 #[.val (.int p0), .val (.int (4 : Int32)), .val (.ref b177), .val (.int (1 : Int32)), .unset, .unset, .unset, .unset, .unset] [(.int (0 : Int32)), (.ref b177)])) _
      refine XS.iloadN X188.here hx rfl (hb hby at_30) rfl ?_
      show Steps p.tables e below (T188.setTop (mkF m 31 #[.val (.int p0), .val (.int (4 : Int32)), .val (.ref b177), .val (.int (1 : Int32)), .unset, .unset, .unset, .unset, .unset] [(.int (4 : Int32)), (.int (0 : Int32)), (.ref b177)])) _
      refine st190 _ ?_
      show Steps p.tables e below (T190.setTop (mkF m 34 #[.val (.int p0), .val (.int (4 : Int32)), .val (.ref b177), .val (.int (1 : Int32)), .unset, .unset, .unset, .unset, .unset] [(.int (nar .boolean (if (0 : Int32) = (0 : Int32) then (if ((0 : Int32) + (1 : Int32)) = ((0 : Int32) + (1 : Int32)) then (1 : Int32) else (0 : Int32)) else (0 : Int32))))])) _
      refine castTop (g' := (mkF m 34 #[.val (.int p0), .val (.int (4 : Int32)), .val (.ref b177), .val (.int (1 : Int32)), .unset, .unset, .unset, .unset, .unset] [(.int v198)])) (by rw [hv198] <;> rfl) ?_
      show Steps p.tables e below (T190.setTop (mkF m 34 #[.val (.int p0), .val (.int (4 : Int32)), .val (.ref b177), .val (.int (1 : Int32)), .unset, .unset, .unset, .unset, .unset] [(.int v198)])) _
      refine XS.istore X190.here hx rfl (hb hby at_34) rfl (l' := #[.val (.int p0), .val (.int (4 : Int32)), .val (.ref b177), .val (.int (1 : Int32)), .val (.int v198), .unset, .unset, .unset, .unset]) rfl ?_
      show Steps p.tables e below (T190.setTop (mkF m 36 #[.val (.int p0), .val (.int (4 : Int32)), .val (.ref b177), .val (.int (1 : Int32)), .val (.int v198), .unset, .unset, .unset, .unset] [])) _
      refine XS.aloadN X190.here hx rfl (hb hby at_36) rfl rfl ?_
      show Steps p.tables e below (T190.setTop (mkF m 37 #[.val (.int p0), .val (.int (4 : Int32)), .val (.ref b177), .val (.int (1 : Int32)), .val (.int v198), .unset, .unset, .unset, .unset] [(.ref b177)])) _
      refine XS.iconst X190.here hx rfl (hb hby at_37) ?_
      show Steps p.tables e below (T190.setTop (mkF m 38 #[.val (.int p0), .val (.int (4 : Int32)), .val (.ref b177), .val (.int (1 : Int32)), .val (.int v198), .unset, .unset, .unset, .unset] [(.int (1 : Int32)), (.ref b177)])) _
      refine XS.iloadN X190.here hx rfl (hb hby at_38) rfl ?_
      show Steps p.tables e below (T190.setTop (mkF m 39 #[.val (.int p0), .val (.int (4 : Int32)), .val (.ref b177), .val (.int (1 : Int32)), .val (.int v198), .unset, .unset, .unset, .unset] [(.int (4 : Int32)), (.int (1 : Int32)), (.ref b177)])) _
      refine st200 _ ?_
      show Steps p.tables e below (T200.setTop (mkF m 42 #[.val (.int p0), .val (.int (4 : Int32)), .val (.ref b177), .val (.int (1 : Int32)), .val (.int v198), .unset, .unset, .unset, .unset] [(.int (nar .boolean (if ((0 : Int32) + (1 : Int32)) = (1 : Int32) then (if (((0 : Int32) + (1 : Int32)) + (1 : Int32)) = ((1 : Int32) + (1 : Int32)) then (1 : Int32) else (0 : Int32)) else (0 : Int32))))])) _
      refine castTop (g' := (mkF m 42 #[.val (.int p0), .val (.int (4 : Int32)), .val (.ref b177), .val (.int (1 : Int32)), .val (.int v198), .unset, .unset, .unset, .unset] [(.int v208)])) (by rw [hv208] <;> rfl) ?_
      show Steps p.tables e below (T200.setTop (mkF m 42 #[.val (.int p0), .val (.int (4 : Int32)), .val (.ref b177), .val (.int (1 : Int32)), .val (.int v198), .unset, .unset, .unset, .unset] [(.int v208)])) _
      refine XS.istore X200.here hx rfl (hb hby at_42) rfl (l' := #[.val (.int p0), .val (.int (4 : Int32)), .val (.ref b177), .val (.int (1 : Int32)), .val (.int v198), .val (.int v208), .unset, .unset, .unset]) rfl ?_
      show Steps p.tables e below (T200.setTop (mkF m 44 #[.val (.int p0), .val (.int (4 : Int32)), .val (.ref b177), .val (.int (1 : Int32)), .val (.int v198), .val (.int v208), .unset, .unset, .unset] [])) _
      refine XS.aloadN X200.here hx rfl (hb hby at_44) rfl rfl ?_
      show Steps p.tables e below (T200.setTop (mkF m 45 #[.val (.int p0), .val (.int (4 : Int32)), .val (.ref b177), .val (.int (1 : Int32)), .val (.int v198), .val (.int v208), .unset, .unset, .unset] [(.ref b177)])) _
      refine XS.iconst X200.here hx rfl (hb hby at_45) ?_
      show Steps p.tables e below (T200.setTop (mkF m 46 #[.val (.int p0), .val (.int (4 : Int32)), .val (.ref b177), .val (.int (1 : Int32)), .val (.int v198), .val (.int v208), .unset, .unset, .unset] [(.int (2 : Int32)), (.ref b177)])) _
      refine XS.iloadN X200.here hx rfl (hb hby at_46) rfl ?_
      show Steps p.tables e below (T200.setTop (mkF m 47 #[.val (.int p0), .val (.int (4 : Int32)), .val (.ref b177), .val (.int (1 : Int32)), .val (.int v198), .val (.int v208), .unset, .unset, .unset] [(.int (4 : Int32)), (.int (2 : Int32)), (.ref b177)])) _
      refine st210 _ ?_
      show Steps p.tables e below (T210.setTop (mkF m 50 #[.val (.int p0), .val (.int (4 : Int32)), .val (.ref b177), .val (.int (1 : Int32)), .val (.int v198), .val (.int v208), .unset, .unset, .unset] [(.int (nar .boolean (if (((0 : Int32) + (1 : Int32)) + (1 : Int32)) = (2 : Int32) then (if ((((0 : Int32) + (1 : Int32)) + (1 : Int32)) + (1 : Int32)) = ((2 : Int32) + (1 : Int32)) then (1 : Int32) else (0 : Int32)) else (0 : Int32))))])) _
      refine castTop (g' := (mkF m 50 #[.val (.int p0), .val (.int (4 : Int32)), .val (.ref b177), .val (.int (1 : Int32)), .val (.int v198), .val (.int v208), .unset, .unset, .unset] [(.int v218)])) (by rw [hv218] <;> rfl) ?_
      show Steps p.tables e below (T210.setTop (mkF m 50 #[.val (.int p0), .val (.int (4 : Int32)), .val (.ref b177), .val (.int (1 : Int32)), .val (.int v198), .val (.int v208), .unset, .unset, .unset] [(.int v218)])) _
      refine XS.istore X210.here hx rfl (hb hby at_50) rfl (l' := #[.val (.int p0), .val (.int (4 : Int32)), .val (.ref b177), .val (.int (1 : Int32)), .val (.int v198), .val (.int v208), .val (.int v218), .unset, .unset]) rfl ?_
      show Steps p.tables e below (T210.setTop (mkF m 52 #[.val (.int p0), .val (.int (4 : Int32)), .val (.ref b177), .val (.int (1 : Int32)), .val (.int v198), .val (.int v208), .val (.int v218), .unset, .unset] [])) _
      refine XS.aloadN X210.here hx rfl (hb hby at_52) rfl rfl ?_
      show Steps p.tables e below (T210.setTop (mkF m 53 #[.val (.int p0), .val (.int (4 : Int32)), .val (.ref b177), .val (.int (1 : Int32)), .val (.int v198), .val (.int v208), .val (.int v218), .unset, .unset] [(.ref b177)])) _
      refine XS.iconst X210.here hx rfl (hb hby at_53) ?_
      show Steps p.tables e below (T210.setTop (mkF m 54 #[.val (.int p0), .val (.int (4 : Int32)), .val (.ref b177), .val (.int (1 : Int32)), .val (.int v198), .val (.int v208), .val (.int v218), .unset, .unset] [(.int (3 : Int32)), (.ref b177)])) _
      refine XS.iloadN X210.here hx rfl (hb hby at_54) rfl ?_
      show Steps p.tables e below (T210.setTop (mkF m 55 #[.val (.int p0), .val (.int (4 : Int32)), .val (.ref b177), .val (.int (1 : Int32)), .val (.int v198), .val (.int v208), .val (.int v218), .unset, .unset] [(.int (4 : Int32)), (.int (3 : Int32)), (.ref b177)])) _
      refine st220 _ ?_
      show Steps p.tables e below (T220.setTop (mkF m 58 #[.val (.int p0), .val (.int (4 : Int32)), .val (.ref b177), .val (.int (1 : Int32)), .val (.int v198), .val (.int v208), .val (.int v218), .unset, .unset] [(.int (nar .boolean (if ((((0 : Int32) + (1 : Int32)) + (1 : Int32)) + (1 : Int32)) = (3 : Int32) then (if (((((0 : Int32) + (1 : Int32)) + (1 : Int32)) + (1 : Int32)) + (1 : Int32)) = ((3 : Int32) + (1 : Int32)) then (1 : Int32) else (0 : Int32)) else (0 : Int32))))])) _
      refine castTop (g' := (mkF m 58 #[.val (.int p0), .val (.int (4 : Int32)), .val (.ref b177), .val (.int (1 : Int32)), .val (.int v198), .val (.int v208), .val (.int v218), .unset, .unset] [(.int v228)])) (by rw [hv228] <;> rfl) ?_
      show Steps p.tables e below (T220.setTop (mkF m 58 #[.val (.int p0), .val (.int (4 : Int32)), .val (.ref b177), .val (.int (1 : Int32)), .val (.int v198), .val (.int v208), .val (.int v218), .unset, .unset] [(.int v228)])) _
      refine XS.istore X220.here hx rfl (hb hby at_58) rfl (l' := #[.val (.int p0), .val (.int (4 : Int32)), .val (.ref b177), .val (.int (1 : Int32)), .val (.int v198), .val (.int v208), .val (.int v218), .val (.int v228), .unset]) rfl ?_
      show Steps p.tables e below (T220.setTop (mkF m 60 #[.val (.int p0), .val (.int (4 : Int32)), .val (.ref b177), .val (.int (1 : Int32)), .val (.int v198), .val (.int v208), .val (.int v218), .val (.int v228), .unset] [])) _
      refine XS.aloadN X220.here hx rfl (hb hby at_60) rfl rfl ?_
      show Steps p.tables e below (T220.setTop (mkF m 61 #[.val (.int p0), .val (.int (4 : Int32)), .val (.ref b177), .val (.int (1 : Int32)), .val (.int v198), .val (.int v208), .val (.int v218), .val (.int v228), .unset] [(.ref b177)])) _
      refine st229.trans ?_
      show Steps p.tables e below (T229.setTop (mkF m 64 #[.val (.int p0), .val (.int (4 : Int32)), .val (.ref b177), .val (.int (1 : Int32)), .val (.int v198), .val (.int v208), .val (.int v218), .val (.int v228), .unset] [(.long (0 : Int64))])) _
      refine XS.lconst X229.here hx rfl (hb hby at_64) ?_
      show Steps p.tables e below (T229.setTop (mkF m 65 #[.val (.int p0), .val (.int (4 : Int32)), .val (.ref b177), .val (.int (1 : Int32)), .val (.int v198), .val (.int v208), .val (.int v218), .val (.int v228), .unset] [(.long (0 : Int64)), (.long (0 : Int64))])) _
      refine XS.lcmp X229.here hx rfl (hb hby at_65) rfl ?_
      show Steps p.tables e below (T229.setTop (mkF m 66 #[.val (.int p0), .val (.int (4 : Int32)), .val (.ref b177), .val (.int (1 : Int32)), .val (.int v198), .val (.int v208), .val (.int v218), .val (.int v228), .unset] [(.int (lcmpW (0 : Int64) (0 : Int64)))])) _
      refine XS.ifNo X229.here hx rfl (hb hby at_66) rfl ((if0 _ _).trans (teq ((lw_eq (0 : Int64) (0 : Int64)).mpr (by decide))).2) ?_
      show Steps p.tables e below (T229.setTop (mkF m 69 #[.val (.int p0), .val (.int (4 : Int32)), .val (.ref b177), .val (.int (1 : Int32)), .val (.int v198), .val (.int v208), .val (.int v218), .val (.int v228), .unset] [])) _
      refine XS.aloadN X229.here hx rfl (hb hby at_69) rfl rfl ?_
      show Steps p.tables e below (T229.setTop (mkF m 70 #[.val (.int p0), .val (.int (4 : Int32)), .val (.ref b177), .val (.int (1 : Int32)), .val (.int v198), .val (.int v208), .val (.int v218), .val (.int v228), .unset] [(.ref b177)])) _
      refine st230.trans ?_
      show Steps p.tables e below (T230.setTop (mkF m 73 #[.val (.int p0), .val (.int (4 : Int32)), .val (.ref b177), .val (.int (1 : Int32)), .val (.int v198), .val (.int v208), .val (.int v218), .val (.int v228), .unset] [(.long (0 : Int64))])) _
      refine XS.lconst X230.here hx rfl (hb hby at_73) ?_
      show Steps p.tables e below (T230.setTop (mkF m 74 #[.val (.int p0), .val (.int (4 : Int32)), .val (.ref b177), .val (.int (1 : Int32)), .val (.int v198), .val (.int v208), .val (.int v218), .val (.int v228), .unset] [(.long (0 : Int64)), (.long (0 : Int64))])) _
      refine XS.lcmp X230.here hx rfl (hb hby at_74) rfl ?_
      show Steps p.tables e below (T230.setTop (mkF m 75 #[.val (.int p0), .val (.int (4 : Int32)), .val (.ref b177), .val (.int (1 : Int32)), .val (.int v198), .val (.int v208), .val (.int v218), .val (.int v228), .unset] [(.int (lcmpW (0 : Int64) (0 : Int64)))])) _
      refine XS.ifNo X230.here hx rfl (hb hby at_75) rfl ((if0 _ _).trans (teq ((lw_eq (0 : Int64) (0 : Int64)).mpr (by decide))).2) ?_
      show Steps p.tables e below (T230.setTop (mkF m 78 #[.val (.int p0), .val (.int (4 : Int32)), .val (.ref b177), .val (.int (1 : Int32)), .val (.int v198), .val (.int v208), .val (.int v218), .val (.int v228), .unset] [])) _
      refine XS.iconst X230.here hx rfl (hb hby at_78) ?_
      show Steps p.tables e below (T230.setTop (mkF m 79 #[.val (.int p0), .val (.int (4 : Int32)), .val (.ref b177), .val (.int (1 : Int32)), .val (.int v198), .val (.int v208), .val (.int v218), .val (.int v228), .unset] [(.int (1 : Int32))])) _
      refine XS.goto X230.here hx rfl (pc0 := 79) (pc' := 83) rfl (hb hby at_79) (by decide) (by decide) ?_
      show Steps p.tables e below (T230.setTop (mkF m 83 #[.val (.int p0), .val (.int (4 : Int32)), .val (.ref b177), .val (.int (1 : Int32)), .val (.int v198), .val (.int v208), .val (.int v218), .val (.int v228), .unset] [(.int (1 : Int32))])) _
      refine XS.istore X230.here hx rfl (hb hby at_83) rfl (l' := #[.val (.int p0), .val (.int (4 : Int32)), .val (.ref b177), .val (.int (1 : Int32)), .val (.int v198), .val (.int v208), .val (.int v218), .val (.int v228), .val (.int (1 : Int32))]) rfl ?_
      show Steps p.tables e below (T230.setTop (mkF m 85 #[.val (.int p0), .val (.int (4 : Int32)), .val (.ref b177), .val (.int (1 : Int32)), .val (.int v198), .val (.int v208), .val (.int v218), .val (.int v228), .val (.int (1 : Int32))] [])) _
      refine XS.iloadN X230.here hx rfl (hb hby at_85) rfl ?_
      show Steps p.tables e below (T230.setTop (mkF m 86 #[.val (.int p0), .val (.int (4 : Int32)), .val (.ref b177), .val (.int (1 : Int32)), .val (.int v198), .val (.int v208), .val (.int v218), .val (.int v228), .val (.int (1 : Int32))] [(.int (1 : Int32))])) _
      refine XS.ifNo X230.here hx rfl (hb hby at_86) rfl ((if0 _ _).trans (feq (by decide)).1) ?_
      show Steps p.tables e below (T230.setTop (mkF m 89 #[.val (.int p0), .val (.int (4 : Int32)), .val (.ref b177), .val (.int (1 : Int32)), .val (.int v198), .val (.int v208), .val (.int v218), .val (.int v228), .val (.int (1 : Int32))] [])) _
      refine XS.iload X230.here hx rfl (hb hby at_89) rfl ?_
      show Steps p.tables e below (T230.setTop (mkF m 91 #[.val (.int p0), .val (.int (4 : Int32)), .val (.ref b177), .val (.int (1 : Int32)), .val (.int v198), .val (.int v208), .val (.int v218), .val (.int v228), .val (.int (1 : Int32))] [(.int v198)])) _
      refine st255 _ ?_
      show Steps p.tables e below (T255.setTop (mkF m 127 #[.val (.int p0), .val (.int (4 : Int32)), .val (.ref b177), .val (.int (1 : Int32)), .val (.int v198), .val (.int v208), .val (.int v218), .val (.int v228), .val (.int (1 : Int32))] [(.int v254)])) _
      exact retN X255 hx (t := .boolean) Bd.returns (by simp) (hb hby at_127) hr
    · show Q0 h0 n0 _ T255.heap _
      refine ⟨?_, N255⟩
      have hfin : (nar .boolean v254) = (1 : Int32) := by
        exact (own_law4 v198 v208 v218 v228 v254 hv198 hv208 hv218 hv228 hv254)
      rw [hfin]
set_option maxRecDepth 65536 in
set_option maxHeartbeats 40000000 in
theorem comes_1 {Post : Tables → Env → Array Value → State → Outcome → State → Prop} (hpost : ∀ tb e args s v u, (limb_1_1.after args s (.returned v) u = true ∧ limb_1_2.after args s (.returned v) u = true ∧ True) → FrameEnd s (.returned v) u (Jvm.fieldLocs frame_1_writes args s ++ Jvm.arrayLocs frame_1_arrays args s ++ Jvm.staticLocs frame_1_statics s) 16 128 → Post tb e args s (.returned v) u) :
    ArmFor flags0 classFile x code maxLocals ret World_1 tables_1 room_1 Calls_1 rest_1 Pre_1 Post := by
  intro l hfl _ _ p e ha hc hk s m args below hf hA hF happ hP
  obtain ⟨hcalls, hrest, hpre⟩ := hP
  obtain ⟨-, -, -, hnamed, -, -, -, hat⟩ := (Spec.applies_iff hf).mp happ
  obtain ⟨hg, hn⟩ := and_e (Cond.before_iff.mp (show (Jvm.Cond.and given_1 narrow_1).before args s = true from hpre))
  obtain ⟨gg1, gg2⟩ := and_e hg
  obtain ⟨w0, rfl⟩ : ∃ w0 : Value, args = #[w0] := by
    have hs : args.size = 1 := by simpa [Cond.value, given_1] using gg1
    obtain ⟨L⟩ := args
    match L, hs with
    | [w0], _ => exact ⟨w0, rfl⟩
  have hw := fun d (hd : d ∈ tables_1) => atoms_spec (ws := Jvm.Cond.code x code maxLocals ret :: tables_1) hat d (List.mem_cons_of_mem _ hd)
  have hfit : Fit s := fun {y c} hc i hi => by
    obtain ⟨ha, rfl⟩ := Array.getElem?_eq_some_iff.mp hc
    have q := List.all_eq_true.mp ((Array.all_eq_true_iff_forall_mem.mp hF) _ (Array.getElem_mem ha)) i (List.mem_range.mpr hi)
    simpa [Array.getElem?_eq_getElem hi] using q
  obtain ⟨hsets, hown0⟩ := atoms_of _ (rest_1_c_eq ▸ (show rest_1_c.before _ s = true from hrest))
  have hr0 := Cond.before_iff.mp hown0
  obtain ⟨i0, ei0⟩ := is_v gg2
  obtain rfl : w0 = (.int i0) := Option.some.inj ei0
  have SS : Sta s s.heap "java/util/ArrayList" "DEFAULTCAPACITY_EMPTY_ELEMENTDATA" "[Ljava/lang/Object;" _ := Sta.start (hi := Or.inr ⟨hw _ (List.mem_of_getElem? (i := 12) rfl), hsets _ (List.mem_of_getElem? (i := 2) rfl)⟩) (exa_v (Cond.before_iff.mp (hsets _ (List.mem_of_getElem? (i := 7) rfl)))).choose_spec
  obtain ⟨n, o, h1, h2, h3, _, L, rfl, ⟨rfl, N⟩, hq⟩ := rm0 l s _ hw tables_1 i0 _ s.heap s.heap.size (Nat.le_refl _) ⟨SS, Old.start s⟩ rfl p e ha hc hk s m _ below hf ((Spec.applies_iff_loose hf).mp happ).1 ⟨rfl, State.Warmed39.refl s, rfl⟩ trivial
  refine ⟨n, _, h1, h2, h3, hpost _ _ _ _ _ _ ⟨Cond.after_iff.mpr rfl, Cond.after_iff.mpr (eq_i res_at (Term.int_eval (1)) rfl), trivial⟩ ⟨hq.1, hq.2.1, (hq.2.2.sift fun y hy => Or.inr (N y hy)).mono (by decide) (by decide)⟩⟩
theorem main_1_1 : Claimed_1_1 := comes_1 fun _ _ _ _ _ _ h hF => ⟨h.1, hF⟩
theorem main_1_2 : Claimed_1_2 := comes_1 fun _ _ _ _ _ _ h hF => ⟨h.2.1, hF⟩
end Jvm.Pilot.@@N@@
namespace Jvm.Pilot.@@N@@
open Jvm Jvm.ClassFile Sem Op Lib Jvm.Free Jvm.Stand Jvm.Pilot.@@N@@.Jvm.D
/-! MADE BY PROGRAM (witnessworld.py) out of the Statement's table words and the real class files: 18 classes; the members and pool entries that the words name. The judged class is class 1, her method 2. -/
namespace start1
open Jvm.ClassFile
def u (s : String) : CpInfo := .utf8 (stringToUtf16 s)
/-- a pool by its gaps: so many unusable entries, then the entry; so many at the end -/
def gap : Nat → List CpInfo → List CpInfo
  | 0, r => r
  | n + 1, r => .unusable :: gap n r
def poolList (es : List (Nat × CpInfo)) (last : Nat) : List CpInfo := es.foldr (fun e r => gap e.1 (e.2 :: r)) (gap last [])
def pool (es : List (Nat × CpInfo)) (last : Nat) : Array CpInfo := ⟨poolList es last⟩
def fileOf (pool : Array CpInfo) (this : Nat) (attrs : Array Attribute := #[]) (ms : Array MethodInfo := #[]) (fl : Nat := 33) (sup : Nat := 0) (ifs : Array Nat := #[]) (fds : Array FieldInfo := #[]) : ClassFile where
  minorVersion := 0
  majorVersion := 65
  constantPool := pool
  accessFlags := fl
  thisClass := this
  superClass := sup
  interfaces := ifs
  fields := fds
  methods := ms
  attributes := attrs
def plain (name : String) (sup : Option ClassId) : Class where
  name := name
  kind := .ordinary
  loader := none
  accessFlags := 33
  super := sup
  interfaces := #[]
  cf := none
  fields := #[]
  methods := #[]
  instanceTypes := #[]
  staticTypes := #[]
  resolved := #[]
  callSites := []
  init := .initialized
  statics := none
  mirror := none

def pool0 : Array CpInfo := pool [(5, u "<init>"), (0, u "()V"), (1, .class_ 10), (1, u "java/lang/Object")] 113

def k0c0 : Code := { maxStack := 0, maxLocals := 1, code := object_method_1_code, exceptionTable := #[], attributes := #[] }
def k0m0 : Method := { name := "<init>", desc := "()V", sig := { parameters := [], returnType := none }, accessFlags := 1, code := some k0c0 }
/-- java/lang/Object -/
def k0 : Class := { plain "java/lang/Object" none with
  accessFlags := 33
  interfaces := #[]
  cf := some (fileOf pool0 8 #[] #[{ accessFlags := 1, nameIndex := 5, descriptorIndex := 6, attributes := #[] }] 33 0 #[] #[])
  fields := #[]
  methods := #[k0m0]
  instanceTypes := #[]
  staticTypes := #[]
  resolved := Array.replicate 124 none
  statics := none }

def pool1 : Array CpInfo := pool [(2, .class_ 4), (0, .nameAndType 5 6), (0, u "java/lang/Object"), (0, u "<init>"), (0, u "()V"), (0, .methodref 8 9), (0, .class_ 10), (0, .nameAndType 11 12), (0, u "com/example/psilattice/psilattice/lang/WrittenGraph"), (0, u "node"), (0, u "()I"), (0, .methodref 8 14), (0, .nameAndType 15 12), (0, u "size"), (0, .integer 2147483647), (0, .methodref 8 3), (0, .methodref 19 20), (0, .class_ 21), (0, .nameAndType 22 23), (0, u "com/example/psilattice/psilattice/lang/WrittenGraphNodePinLaw"), (0, u "step"), (0, u "(Lcom/example/psilattice/psilattice/lang/WrittenGraph;II)Z"), (0, .methodref 8 25), (0, .nameAndType 26 27), (0, u "copiedNodes"), (0, u "()J"), (0, .methodref 8 29), (0, .nameAndType 30 27), (0, u "copies"), (3, u "law"), (0, u "(I)Z")] 2

def k1m0 : Method := { name := "<init>", desc := "()V", sig := { parameters := [], returnType := none }, accessFlags := 2, code := none }
def k1c1 : Code := { maxStack := 3, maxLocals := 4, code := method_2_code, exceptionTable := #[], attributes := #[] }
def k1m1 : Method := { name := "step", desc := "(Lcom/example/psilattice/psilattice/lang/WrittenGraph;II)Z", sig := { parameters := [(.object "com/example/psilattice/psilattice/lang/WrittenGraph"), .int, .int], returnType := some .boolean }, accessFlags := 10, code := some k1c1 }
def k1c2 : Code := { maxStack := 4, maxLocals := 9, code := code, exceptionTable := #[], attributes := #[] }
def k1m2 : Method := { name := "law", desc := "(I)Z", sig := { parameters := [.int], returnType := some .boolean }, accessFlags := 9, code := some k1c2 }
/-- com/example/psilattice/psilattice/lang/WrittenGraphNodePinLaw -/
def k1 : Class := { plain "com/example/psilattice/psilattice/lang/WrittenGraphNodePinLaw" (some 0) with
  accessFlags := 49
  interfaces := #[]
  cf := some (fileOf pool1 19 #[] #[{ accessFlags := 2, nameIndex := 5, descriptorIndex := 6, attributes := #[] }, { accessFlags := 10, nameIndex := 22, descriptorIndex := 23, attributes := #[] }, { accessFlags := 9, nameIndex := 34, descriptorIndex := 35, attributes := #[] }] 49 2 #[] #[])
  fields := #[]
  methods := #[k1m0, k1m1, k1m2]
  instanceTypes := #[]
  staticTypes := #[]
  resolved := Array.replicate 38 none
  statics := none }

def pool2 : Array CpInfo := pool [(1, .methodref 2 3), (0, .class_ 4), (0, .nameAndType 5 6), (0, u "java/lang/Object"), (0, u "<init>"), (0, u "()V"), (0, .class_ 8), (0, u "java/util/ArrayList"), (0, .methodref 7 3), (0, .fieldref 11 12), (0, .class_ 13), (0, .nameAndType 14 15), (0, u "com/example/psilattice/psilattice/lang/WrittenGraph"), (0, u "sorts"), (0, u "Ljava/util/List;"), (0, .fieldref 11 17), (0, .nameAndType 18 15), (0, u "edges"), (0, .fieldref 11 20), (0, .nameAndType 21 15), (0, u "uses"), (0, .fieldref 11 23), (0, .nameAndType 24 25), (0, u "nodes"), (0, u "I"), (0, .class_ 27), (0, u "com/example/psilattice/psilattice/lang/WrittenGraph$SortOnNode"), (9, .class_ 38), (0, u "com/example/psilattice/psilattice/lang/WrittenGraph$Edge"), (3, .class_ 43), (0, u "com/example/psilattice/psilattice/lang/WrittenGraph$Use"), (3, .fieldref 11 48), (0, .nameAndType 49 50), (0, u "copiedNodes"), (0, u "J"), (5, u "()J"), (0, .fieldref 11 58), (0, .nameAndType 59 50), (0, u "copies"), (27, u "node"), (0, u "()I"), (6, .class_ 96), (0, u "com/example/psilattice/psilattice/lang/WrittenGraph$Placed"), (60, u "size"), (54, u "MOST_COPIED_NODES"), (2, u "MOST_COPIES")] 77

def k2c0 : Code := { maxStack := 3, maxLocals := 1, code := prog_74_method_1_code, exceptionTable := #[], attributes := #[] }
def k2m0 : Method := { name := "<init>", desc := "()V", sig := { parameters := [], returnType := none }, accessFlags := 0, code := some k2c0 }
def k2c1 : Code := { maxStack := 4, maxLocals := 1, code := prog_74_method_2_code, exceptionTable := #[], attributes := #[] }
def k2m1 : Method := { name := "node", desc := "()I", sig := { parameters := [], returnType := some .int }, accessFlags := 0, code := some k2c1 }
def k2c2 : Code := { maxStack := 1, maxLocals := 1, code := prog_74_method_3_code, exceptionTable := #[], attributes := #[] }
def k2m2 : Method := { name := "size", desc := "()I", sig := { parameters := [], returnType := some .int }, accessFlags := 0, code := some k2c2 }
def k2c3 : Code := { maxStack := 2, maxLocals := 1, code := prog_74_method_7_code, exceptionTable := #[], attributes := #[] }
def k2m3 : Method := { name := "copiedNodes", desc := "()J", sig := { parameters := [], returnType := some .long }, accessFlags := 0, code := some k2c3 }
def k2c4 : Code := { maxStack := 2, maxLocals := 1, code := prog_74_method_8_code, exceptionTable := #[], attributes := #[] }
def k2m4 : Method := { name := "copies", desc := "()J", sig := { parameters := [], returnType := some .long }, accessFlags := 0, code := some k2c4 }
/-- com/example/psilattice/psilattice/lang/WrittenGraph -/
def k2 : Class := { plain "com/example/psilattice/psilattice/lang/WrittenGraph" (some 0) with
  accessFlags := 48
  interfaces := #[]
  cf := some (fileOf pool2 11 #[.nestMembers #[42, 95, 37, 26]] #[{ accessFlags := 0, nameIndex := 5, descriptorIndex := 6, attributes := #[] }, { accessFlags := 0, nameIndex := 87, descriptorIndex := 88, attributes := #[] }, { accessFlags := 0, nameIndex := 157, descriptorIndex := 88, attributes := #[] }, { accessFlags := 0, nameIndex := 49, descriptorIndex := 56, attributes := #[] }, { accessFlags := 0, nameIndex := 59, descriptorIndex := 56, attributes := #[] }] 48 2 #[] #[{ accessFlags := 24, nameIndex := 212, descriptorIndex := 25, attributes := #[] }, { accessFlags := 24, nameIndex := 215, descriptorIndex := 25, attributes := #[] }, { accessFlags := 2, nameIndex := 24, descriptorIndex := 25, attributes := #[] }, { accessFlags := 18, nameIndex := 14, descriptorIndex := 15, attributes := #[] }, { accessFlags := 18, nameIndex := 18, descriptorIndex := 15, attributes := #[] }, { accessFlags := 18, nameIndex := 21, descriptorIndex := 15, attributes := #[] }, { accessFlags := 2, nameIndex := 49, descriptorIndex := 50, attributes := #[] }, { accessFlags := 2, nameIndex := 59, descriptorIndex := 50, attributes := #[] }])
  fields := #[{ name := "MOST_COPIED_NODES", type := .int, accessFlags := 24, slot := 0, constantValue := 0 }, { name := "MOST_COPIES", type := .int, accessFlags := 24, slot := 1, constantValue := 0 }, { name := "nodes", type := .int, accessFlags := 2, slot := 0, constantValue := 0 }, { name := "sorts", type := (.object "java/util/List"), accessFlags := 18, slot := 1, constantValue := 0 }, { name := "edges", type := (.object "java/util/List"), accessFlags := 18, slot := 2, constantValue := 0 }, { name := "uses", type := (.object "java/util/List"), accessFlags := 18, slot := 3, constantValue := 0 }, { name := "copiedNodes", type := .long, accessFlags := 2, slot := 4, constantValue := 0 }, { name := "copies", type := .long, accessFlags := 2, slot := 5, constantValue := 0 }]
  methods := #[k2m0, k2m1, k2m2, k2m3, k2m4]
  instanceTypes := #[.int, (.object "java/util/List"), (.object "java/util/List"), (.object "java/util/List"), .long, .long]
  staticTypes := #[.int, .int]
  resolved := Array.replicate 293 none
  statics := none }

def pool3 : Array CpInfo := pool [(8, .class_ 10), (1, u "java/lang/Iterable"), (24, .class_ 36), (0, u "java/lang/Object")] 25

/-- java/lang/Iterable -/
def k3 : Class := { plain "java/lang/Iterable" (some 0) with
  accessFlags := 1537
  interfaces := #[]
  cf := some (fileOf pool3 8 #[] #[] 1537 35 #[] #[])
  fields := #[]
  methods := #[]
  instanceTypes := #[]
  staticTypes := #[]
  resolved := Array.replicate 62 none
  statics := none }

def pool4 : Array CpInfo := pool [(10, .class_ 12), (1, u "java/util/Collection"), (47, .class_ 61), (0, u "java/lang/Object"), (0, .class_ 63), (0, u "java/lang/Iterable")] 51

/-- java/util/Collection -/
def k4 : Class := { plain "java/util/Collection" (some 0) with
  accessFlags := 1537
  interfaces := #[3]
  cf := some (fileOf pool4 10 #[] #[] 1537 60 #[62] #[])
  fields := #[]
  methods := #[]
  instanceTypes := #[]
  staticTypes := #[]
  resolved := Array.replicate 115 none
  statics := none }

def pool5 : Array CpInfo := pool [(1, .methodref 2 3), (0, .class_ 4), (0, .nameAndType 5 6), (0, u "java/lang/Object"), (0, u "<init>"), (0, u "()V"), (1, .class_ 10), (1, u "java/util/AbstractCollection"), (66, .class_ 78), (0, u "java/util/Collection")] 81

def k5c0 : Code := { maxStack := 1, maxLocals := 1, code := jdk_22_method_1_code, exceptionTable := #[], attributes := #[] }
def k5m0 : Method := { name := "<init>", desc := "()V", sig := { parameters := [], returnType := none }, accessFlags := 4, code := some k5c0 }
/-- java/util/AbstractCollection -/
def k5 : Class := { plain "java/util/AbstractCollection" (some 0) with
  accessFlags := 1057
  interfaces := #[4]
  cf := some (fileOf pool5 8 #[] #[{ accessFlags := 4, nameIndex := 5, descriptorIndex := 6, attributes := #[] }] 1057 2 #[77] #[])
  fields := #[]
  methods := #[k5m0]
  instanceTypes := #[]
  staticTypes := #[]
  resolved := Array.replicate 160 none
  statics := none }

def pool6 : Array CpInfo := pool [(8, .class_ 10), (1, u "java/util/SequencedCollection"), (15, .class_ 27), (0, u "java/lang/Object"), (0, .class_ 29), (0, u "java/util/Collection")] 27

/-- java/util/SequencedCollection -/
def k6 : Class := { plain "java/util/SequencedCollection" (some 0) with
  accessFlags := 1537
  interfaces := #[4]
  cf := some (fileOf pool6 8 #[] #[] 1537 26 #[28] #[])
  fields := #[]
  methods := #[]
  instanceTypes := #[]
  staticTypes := #[]
  resolved := Array.replicate 57 none
  statics := none }

def pool7 : Array CpInfo := pool [(8, .class_ 10), (1, u "java/util/List"), (92, .class_ 104), (0, u "java/lang/Object"), (15, .class_ 121), (0, u "java/util/SequencedCollection")] 129

/-- java/util/List -/
def k7 : Class := { plain "java/util/List" (some 0) with
  accessFlags := 1537
  interfaces := #[6]
  cf := some (fileOf pool7 8 #[] #[] 1537 103 #[120] #[])
  fields := #[]
  methods := #[]
  instanceTypes := #[]
  staticTypes := #[]
  resolved := Array.replicate 251 none
  statics := none }

def pool8 : Array CpInfo := pool [(1, .methodref 2 3), (0, .class_ 4), (0, .nameAndType 5 6), (0, u "java/util/AbstractCollection"), (0, u "<init>"), (0, u "()V"), (0, .fieldref 8 9), (0, .class_ 10), (0, .nameAndType 11 12), (0, u "java/util/AbstractList"), (0, u "modCount"), (0, u "I"), (64, .class_ 78), (0, u "java/util/AbstractList$Itr"), (3, .class_ 83), (0, u "java/util/AbstractList$ListItr"), (9, .class_ 94), (0, u "java/util/AbstractList$RandomAccessSubList"), (3, .class_ 99), (0, u "java/util/AbstractList$SubList"), (33, .class_ 134), (0, u "java/util/List"), (73, .class_ 209), (0, u "java/util/AbstractList$SubList$1"), (0, .class_ 211), (0, u "java/util/AbstractList$RandomAccessSpliterator")] 6

def k8c0 : Code := { maxStack := 2, maxLocals := 1, code := jdk_39_method_1_code, exceptionTable := #[], attributes := #[] }
def k8m0 : Method := { name := "<init>", desc := "()V", sig := { parameters := [], returnType := none }, accessFlags := 4, code := some k8c0 }
/-- java/util/AbstractList -/
def k8 : Class := { plain "java/util/AbstractList" (some 5) with
  accessFlags := 1057
  interfaces := #[7]
  cf := some (fileOf pool8 8 #[.nestMembers #[93, 98, 208, 210, 82, 77]] #[{ accessFlags := 4, nameIndex := 5, descriptorIndex := 6, attributes := #[] }] 1057 2 #[133] #[{ accessFlags := 132, nameIndex := 11, descriptorIndex := 12, attributes := #[] }])
  fields := #[{ name := "modCount", type := .int, accessFlags := 132, slot := 0, constantValue := 0 }]
  methods := #[k8m0]
  instanceTypes := #[.int]
  staticTypes := #[]
  resolved := Array.replicate 218 none
  statics := none }

def pool9 : Array CpInfo := pool [(1, .class_ 2), (0, u "java/util/RandomAccess"), (0, .class_ 4), (0, u "java/lang/Object")] 2

/-- java/util/RandomAccess -/
def k9 : Class := { plain "java/util/RandomAccess" (some 0) with
  accessFlags := 1537
  interfaces := #[]
  cf := some (fileOf pool9 1 #[] #[] 1537 3 #[] #[])
  fields := #[]
  methods := #[]
  instanceTypes := #[]
  staticTypes := #[]
  resolved := Array.replicate 7 none
  statics := none }

def pool10 : Array CpInfo := pool [(1, .class_ 2), (0, u "java/lang/Cloneable"), (0, .class_ 4), (0, u "java/lang/Object")] 2

/-- java/lang/Cloneable -/
def k10 : Class := { plain "java/lang/Cloneable" (some 0) with
  accessFlags := 1537
  interfaces := #[]
  cf := some (fileOf pool10 1 #[] #[] 1537 3 #[] #[])
  fields := #[]
  methods := #[]
  instanceTypes := #[]
  staticTypes := #[]
  resolved := Array.replicate 7 none
  statics := none }

def pool11 : Array CpInfo := pool [(1, .class_ 2), (0, u "java/io/Serializable"), (0, .class_ 4), (0, u "java/lang/Object")] 2

/-- java/io/Serializable -/
def k11 : Class := { plain "java/io/Serializable" (some 0) with
  accessFlags := 1537
  interfaces := #[]
  cf := some (fileOf pool11 1 #[] #[] 1537 3 #[] #[])
  fields := #[]
  methods := #[]
  instanceTypes := #[]
  staticTypes := #[]
  resolved := Array.replicate 7 none
  statics := none }

def pool12 : Array CpInfo := pool [(1, .methodref 2 3), (0, .class_ 4), (0, .nameAndType 5 6), (0, u "java/util/AbstractList"), (0, u "<init>"), (0, u "()V"), (2, .fieldref 10 11), (0, .class_ 12), (0, .nameAndType 13 14), (0, u "java/util/ArrayList"), (0, u "elementData"), (0, u "[Ljava/lang/Object;"), (2, u "EMPTY_ELEMENTDATA"), (21, .fieldref 10 40), (0, .nameAndType 41 14), (0, u "DEFAULTCAPACITY_EMPTY_ELEMENTDATA"), (8, u "size"), (0, u "I"), (96, .class_ 149), (0, u "java/util/List"), (112, .class_ 263), (0, u "java/util/ArrayList$ListItr"), (3, .class_ 268), (0, u "java/util/ArrayList$Itr"), (7, .class_ 277), (0, u "java/util/ArrayList$SubList"), (12, .class_ 291), (0, u "java/util/ArrayList$ArrayListSpliterator"), (37, .class_ 330), (0, u "java/util/RandomAccess"), (0, .class_ 332), (0, u "java/lang/Cloneable"), (0, .class_ 334), (0, u "java/io/Serializable"), (0, u "serialVersionUID"), (0, u "J"), (3, u "DEFAULT_CAPACITY"), (159, .class_ 501), (0, u "java/util/ArrayList$SubList$2"), (0, .class_ 503), (0, u "java/util/ArrayList$SubList$1")] 5

def k12c0 : Code := { maxStack := 2, maxLocals := 1, code := jdk_38_method_2_code, exceptionTable := #[], attributes := #[] }
def k12m0 : Method := { name := "<init>", desc := "()V", sig := { parameters := [], returnType := none }, accessFlags := 1, code := some k12c0 }
/-- java/util/ArrayList -/
def k12 : Class := { plain "java/util/ArrayList" (some 8) with
  accessFlags := 33
  interfaces := #[7, 9, 10, 11]
  cf := some (fileOf pool12 10 #[.nestMembers #[290, 276, 500, 502, 262, 267]] #[{ accessFlags := 1, nameIndex := 5, descriptorIndex := 6, attributes := #[] }] 33 2 #[148, 329, 331, 333] #[{ accessFlags := 26, nameIndex := 335, descriptorIndex := 336, attributes := #[] }, { accessFlags := 26, nameIndex := 340, descriptorIndex := 51, attributes := #[] }, { accessFlags := 26, nameIndex := 17, descriptorIndex := 14, attributes := #[] }, { accessFlags := 26, nameIndex := 41, descriptorIndex := 14, attributes := #[] }, { accessFlags := 128, nameIndex := 13, descriptorIndex := 14, attributes := #[] }, { accessFlags := 2, nameIndex := 50, descriptorIndex := 51, attributes := #[] }])
  fields := #[{ name := "serialVersionUID", type := .long, accessFlags := 26, slot := 0, constantValue := 0 }, { name := "DEFAULT_CAPACITY", type := .int, accessFlags := 26, slot := 1, constantValue := 0 }, { name := "EMPTY_ELEMENTDATA", type := (.array (.object "java/lang/Object")), accessFlags := 26, slot := 2, constantValue := 0 }, { name := "DEFAULTCAPACITY_EMPTY_ELEMENTDATA", type := (.array (.object "java/lang/Object")), accessFlags := 26, slot := 3, constantValue := 0 }, { name := "elementData", type := (.array (.object "java/lang/Object")), accessFlags := 128, slot := 1, constantValue := 0 }, { name := "size", type := .int, accessFlags := 2, slot := 2, constantValue := 0 }]
  methods := #[k12m0]
  instanceTypes := #[.int, (.array (.object "java/lang/Object")), .int]
  staticTypes := #[.long, .int, (.array (.object "java/lang/Object")), (.array (.object "java/lang/Object"))]
  resolved := Array.replicate 509 none
  statics := some 0 }

/-- the primitive byte -/
def k13 : Class := { plain "byte" none with kind := .primitive 'B', accessFlags := 0x411 }
/-- [B -/
def k14 : Class := { plain "[B" (some 0) with kind := .array 13 .byte, interfaces := #[10, 11], accessFlags := 1041 }

/-- the primitive int -/
def k15 : Class := { plain "int" none with kind := .primitive 'I', accessFlags := 0x411 }
/-- [I -/
def k16 : Class := { plain "[I" (some 0) with kind := .array 15 .int, interfaces := #[10, 11], accessFlags := 1041 }

/-- [Ljava/lang/Object; -/
def k17 : Class := { plain "[Ljava/lang/Object;" (some 0) with kind := .array 0 (.object "java/lang/Object"), interfaces := #[10, 11], accessFlags := 1041 }

def heap : Heap := #[{ cls := 12, slots := #[.long 0, .int 0, .ref 1, .ref 2], vm := .statics 12 },
  { cls := 17, slots := #[], vm := .none },
  { cls := 17, slots := #[], vm := .none }]
def classes : Array Class := #[k0, k1, k2, k3, k4, k5, k6, k7, k8, k9, k10, k11, k12, k13, k14, k15, k16, k17]
def interned : List (Array UInt16 × Addr) := []
def slotsUsed : Nat := 4
def theMethod : MethodId := ⟨1, 2⟩
def args0 : Array Value := #[.int 5]
def aboutOver (below : List Frame) : State where
  vm := { classes := classes, interned := interned.toArray }
  heap := heap
  slotsUsed := slotsUsed
  threads := #[{ frames := .invoking theMethod args0 :: below }]
def below0 : List Frame := [.native { method := ⟨0, 0⟩, args := #[] }]
def about1 : State := aboutOver below0
def p0 : Program := .bare "" "" ""
def e0 : Env := launch0.env 0 0 0
theorem w_frames : about1.frames = Frame.invoking theMethod args0 :: below0 := rfl
set_option maxRecDepth 65536 in
theorem w_args : argsFit about1.vm theMethod args0 = true := by decide +kernel
set_option maxRecDepth 65536 in
theorem w_heap : heapFits about1 = true := by decide +kernel
set_option maxRecDepth 65536 in
theorem w_runnable : about1.curStatus? = some .runnable := by decide +kernel
set_option maxRecDepth 65536 in
theorem w_alone : about1.alone = true := by decide +kernel
set_option maxRecDepth 65536 in
theorem w_named : about1.methodNamed? x = some theMethod := by decide +kernel
set_option maxRecDepth 65536 in
theorem w_hears : about1.hears theMethod below0 = true := by decide +kernel
set_option maxRecDepth 65536 in
theorem w_ripe : about1.ripe theMethod args0 below0 = true := by decide +kernel
theorem w_running : about1.status = .running := rfl
set_option maxRecDepth 65536 in
theorem w_room : about1.hasRoom e0.platform room_1 = true :=
  launch0.hasRoom_least _ room_1 (by decide +kernel) (by decide +kernel) (by decide +kernel) (by decide +kernel) (by decide +kernel) (by decide +kernel)
theorem allAtoms_all (ts : List Jvm.Cond) (a : Array Jvm.Value) (st : Jvm.State) : (allAtoms ts).before a st = ts.all (fun c => c.before a st) := by
  induction ts with
  | nil => rfl
  | cons c t ih =>
    show (Jvm.Cond.and c (allAtoms t)).before a st = _
    rw [Jvm.Cond.before_and, ih, List.all_cons]
def words1 : List Jvm.Cond := Jvm.Cond.code x code maxLocals ret :: tables_1
/-- a 'code' word, met by the world's own term for the bytes: nothing is compared byte by byte -/
theorem code_word {y : MethodName} {bytes : ByteArray} {mx : Nat} {rt : Option FieldType} {a : Array Value} {s : State} {m : MethodId} {meth : Method} {c : Code} (h1 : s.methodNamed? y = some m) (h2 : s.vm.method? m = some meth) (h3 : meth.code = some c) (h4 : c.code = bytes)
    (h5 : (c.maxLocals == mx && c.exceptionTable.isEmpty && decide (c.maxStack ≤ mostOperands) && decide (meth.sig.returnType = rt) && !meth.locks && decide (parseMethodDescriptor y.desc = some meth.sig)) = true) : (Jvm.Cond.code y bytes mx rt).before a s = true := by
  simp only [Bool.and_eq_true, beq_iff_eq, Bool.not_eq_true', decide_eq_true_eq] at h5
  obtain ⟨⟨⟨⟨⟨g1, g2⟩, g3⟩, g4⟩, g5⟩, g6⟩ := h5
  simp [Cond.before, Cond.holds, Cond.value, h1, h2, h3, h4, g1, g2, g3, g4, g5, g6]
def isCode : Jvm.Cond → Bool
  | .code _ _ _ _ => true
  | _ => false
theorem all_split {L : List Jvm.Cond} {P : Jvm.Cond → Bool} (h1 : L.all (fun c => isCode c || P c) = true) (h2 : ∀ c ∈ L.filter isCode, P c = true) : L.all P = true := by
  refine List.all_eq_true.mpr fun c hc => ?_
  have h := List.all_eq_true.mp h1 c hc
  rcases Bool.eq_false_or_eq_true (isCode c) with hi | hi
  · exact h2 c (List.mem_filter.mpr ⟨hc, hi⟩)
  · simpa [hi] using h
set_option maxRecDepth 65536 in
theorem w_c0 : (Jvm.Cond.code x code maxLocals ret).before args0 about1 = true := code_word (m := ⟨1, 2⟩) (meth := k1m2) (c := k1c2) (by decide +kernel) rfl rfl rfl (by decide +kernel)
set_option maxRecDepth 65536 in
theorem w_c1 : (Jvm.Cond.code ({ cls := "com/example/psilattice/psilattice/lang/WrittenGraph", name := "<init>", desc := "()V" } : Jvm.MethodName) prog_74_method_1_code (1 : Nat) (Option.none : Option Jvm.ClassFile.FieldType)).before args0 about1 = true := code_word (m := ⟨2, 0⟩) (meth := k2m0) (c := k2c0) (by decide +kernel) rfl rfl rfl (by decide +kernel)
set_option maxRecDepth 65536 in
theorem w_c2 : (Jvm.Cond.code ({ cls := "java/lang/Object", name := "<init>", desc := "()V" } : Jvm.MethodName) object_method_1_code (1 : Nat) (Option.none : Option Jvm.ClassFile.FieldType)).before args0 about1 = true := code_word (m := ⟨0, 0⟩) (meth := k0m0) (c := k0c0) (by decide +kernel) rfl rfl rfl (by decide +kernel)
set_option maxRecDepth 65536 in
theorem w_c3 : (Jvm.Cond.code ({ cls := "java/util/ArrayList", name := "<init>", desc := "()V" } : Jvm.MethodName) jdk_38_method_2_code (1 : Nat) (Option.none : Option Jvm.ClassFile.FieldType)).before args0 about1 = true := code_word (m := ⟨12, 0⟩) (meth := k12m0) (c := k12c0) (by decide +kernel) rfl rfl rfl (by decide +kernel)
set_option maxRecDepth 65536 in
theorem w_c4 : (Jvm.Cond.code ({ cls := "java/util/AbstractList", name := "<init>", desc := "()V" } : Jvm.MethodName) jdk_39_method_1_code (1 : Nat) (Option.none : Option Jvm.ClassFile.FieldType)).before args0 about1 = true := code_word (m := ⟨8, 0⟩) (meth := k8m0) (c := k8c0) (by decide +kernel) rfl rfl rfl (by decide +kernel)
set_option maxRecDepth 65536 in
theorem w_c5 : (Jvm.Cond.code ({ cls := "java/util/AbstractCollection", name := "<init>", desc := "()V" } : Jvm.MethodName) jdk_22_method_1_code (1 : Nat) (Option.none : Option Jvm.ClassFile.FieldType)).before args0 about1 = true := code_word (m := ⟨5, 0⟩) (meth := k5m0) (c := k5c0) (by decide +kernel) rfl rfl rfl (by decide +kernel)
set_option maxRecDepth 65536 in
theorem w_c6 : (Jvm.Cond.code ({ cls := "com/example/psilattice/psilattice/lang/WrittenGraph", name := "size", desc := "()I" } : Jvm.MethodName) prog_74_method_3_code (1 : Nat) (Option.some Jvm.ClassFile.FieldType.int)).before args0 about1 = true := code_word (m := ⟨2, 2⟩) (meth := k2m2) (c := k2c2) (by decide +kernel) rfl rfl rfl (by decide +kernel)
set_option maxRecDepth 65536 in
theorem w_c7 : (Jvm.Cond.code ({ cls := "com/example/psilattice/psilattice/lang/WrittenGraphNodePinLaw", name := "step", desc := "(Lcom/example/psilattice/psilattice/lang/WrittenGraph;II)Z" } : Jvm.MethodName) method_2_code (4 : Nat) (Option.some Jvm.ClassFile.FieldType.boolean)).before args0 about1 = true := code_word (m := ⟨1, 1⟩) (meth := k1m1) (c := k1c1) (by decide +kernel) rfl rfl rfl (by decide +kernel)
set_option maxRecDepth 65536 in
theorem w_c8 : (Jvm.Cond.code ({ cls := "com/example/psilattice/psilattice/lang/WrittenGraph", name := "copiedNodes", desc := "()J" } : Jvm.MethodName) prog_74_method_7_code (1 : Nat) (Option.some Jvm.ClassFile.FieldType.long)).before args0 about1 = true := code_word (m := ⟨2, 3⟩) (meth := k2m3) (c := k2c3) (by decide +kernel) rfl rfl rfl (by decide +kernel)
set_option maxRecDepth 65536 in
theorem w_c9 : (Jvm.Cond.code ({ cls := "com/example/psilattice/psilattice/lang/WrittenGraph", name := "copies", desc := "()J" } : Jvm.MethodName) prog_74_method_8_code (1 : Nat) (Option.some Jvm.ClassFile.FieldType.long)).before args0 about1 = true := code_word (m := ⟨2, 4⟩) (meth := k2m4) (c := k2c4) (by decide +kernel) rfl rfl rfl (by decide +kernel)
set_option maxRecDepth 65536 in
theorem w_c10 : (Jvm.Cond.code ({ cls := "com/example/psilattice/psilattice/lang/WrittenGraph", name := "node", desc := "()I" } : Jvm.MethodName) prog_74_method_2_code (1 : Nat) (Option.some Jvm.ClassFile.FieldType.int)).before args0 about1 = true := code_word (m := ⟨2, 1⟩) (meth := k2m1) (c := k2c1) (by decide +kernel) rfl rfl rfl (by decide +kernel)
def codes1 : List Jvm.Cond := [Jvm.Cond.code x code maxLocals ret, Jvm.Cond.code ({ cls := "com/example/psilattice/psilattice/lang/WrittenGraph", name := "<init>", desc := "()V" } : Jvm.MethodName) prog_74_method_1_code (1 : Nat) (Option.none : Option Jvm.ClassFile.FieldType), Jvm.Cond.code ({ cls := "java/lang/Object", name := "<init>", desc := "()V" } : Jvm.MethodName) object_method_1_code (1 : Nat) (Option.none : Option Jvm.ClassFile.FieldType), Jvm.Cond.code ({ cls := "java/util/ArrayList", name := "<init>", desc := "()V" } : Jvm.MethodName) jdk_38_method_2_code (1 : Nat) (Option.none : Option Jvm.ClassFile.FieldType), Jvm.Cond.code ({ cls := "java/util/AbstractList", name := "<init>", desc := "()V" } : Jvm.MethodName) jdk_39_method_1_code (1 : Nat) (Option.none : Option Jvm.ClassFile.FieldType), Jvm.Cond.code ({ cls := "java/util/AbstractCollection", name := "<init>", desc := "()V" } : Jvm.MethodName) jdk_22_method_1_code (1 : Nat) (Option.none : Option Jvm.ClassFile.FieldType), Jvm.Cond.code ({ cls := "com/example/psilattice/psilattice/lang/WrittenGraph", name := "size", desc := "()I" } : Jvm.MethodName) prog_74_method_3_code (1 : Nat) (Option.some Jvm.ClassFile.FieldType.int), Jvm.Cond.code ({ cls := "com/example/psilattice/psilattice/lang/WrittenGraphNodePinLaw", name := "step", desc := "(Lcom/example/psilattice/psilattice/lang/WrittenGraph;II)Z" } : Jvm.MethodName) method_2_code (4 : Nat) (Option.some Jvm.ClassFile.FieldType.boolean), Jvm.Cond.code ({ cls := "com/example/psilattice/psilattice/lang/WrittenGraph", name := "copiedNodes", desc := "()J" } : Jvm.MethodName) prog_74_method_7_code (1 : Nat) (Option.some Jvm.ClassFile.FieldType.long), Jvm.Cond.code ({ cls := "com/example/psilattice/psilattice/lang/WrittenGraph", name := "copies", desc := "()J" } : Jvm.MethodName) prog_74_method_8_code (1 : Nat) (Option.some Jvm.ClassFile.FieldType.long), Jvm.Cond.code ({ cls := "com/example/psilattice/psilattice/lang/WrittenGraph", name := "node", desc := "()I" } : Jvm.MethodName) prog_74_method_2_code (1 : Nat) (Option.some Jvm.ClassFile.FieldType.int)]
set_option maxRecDepth 65536 in
theorem codes_eq : words1.filter isCode = codes1 := rfl
theorem w_codes : ∀ c ∈ words1.filter isCode, c.before args0 about1 = true := by
  rw [codes_eq]
  intro c hc
  simp only [codes1, List.mem_cons, List.not_mem_nil, or_false] at hc
  rcases hc with rfl | rfl | rfl | rfl | rfl | rfl | rfl | rfl | rfl | rfl | rfl
  · exact w_c0
  · exact w_c1
  · exact w_c2
  · exact w_c3
  · exact w_c4
  · exact w_c5
  · exact w_c6
  · exact w_c7
  · exact w_c8
  · exact w_c9
  · exact w_c10
set_option maxRecDepth 65536 in
theorem w_t1 : (words1.take 24).all (fun c => isCode c || c.before args0 about1) = true := by decide +kernel
set_option maxRecDepth 65536 in
theorem w_t2 : ((words1.drop 24).take 24).all (fun c => isCode c || c.before args0 about1) = true := by decide +kernel
set_option maxRecDepth 65536 in
theorem w_t3 : ((words1.drop 24).drop 24).all (fun c => isCode c || c.before args0 about1) = true := by decide +kernel
theorem w_tables : (allAtoms (Jvm.Cond.code x code maxLocals ret :: tables_1)).before args0 about1 = true := by
  rw [allAtoms_all]
  show words1.all (fun c => c.before args0 about1) = true
  refine all_split ?_ w_codes
  rw [← List.take_append_drop 24 words1, List.all_append, w_t1, ← List.take_append_drop 24 (words1.drop 24), List.all_append, w_t2, w_t3]
  rfl
set_option maxRecDepth 65536 in
theorem w_rest : rest_1_c.before args0 about1 = true := by decide +kernel
set_option maxRecDepth 65536 in
theorem w_case : (Jvm.Cond.and given_1 narrow_1).before args0 about1 = true := by decide +kernel
theorem w_applies : (headSpec (Jvm.Cond.code x code maxLocals ret :: tables_1) room_1).applies x e0.platform about1 = true :=
  (Spec.applies_iff w_frames).mpr ⟨w_running, w_runnable, w_alone, w_named, w_hears, w_ripe, w_room, w_tables⟩
theorem atStart : AtStart classFile x code maxLocals ret World_1 tables_1 room_1 Calls_1 rest_1 Pre_1 launch0 p0 e0 about1 theMethod args0 below0 :=
  ⟨lists_1, trivial, launch0.admits_env _ _ _, launch0.least_env, fairChoices_fair.cas, fairChoices_fair.clock, w_frames, w_args, w_heap, w_applies, trivial, w_rest, w_case⟩
end start1
theorem witness_1 : WitnessClaimed_1 := ⟨start1.p0, start1.e0, start1.about1, start1.theMethod, start1.args0, start1.below0, start1.atStart⟩
end Jvm.Pilot.@@N@@
