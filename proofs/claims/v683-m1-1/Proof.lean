import JvmDerived
import JvmDerived.Pilot.@@N@@Statement
import JvmDerived.Pilot.@@N@@Code
set_option linter.unusedVariables false
set_option linter.unusedSimpArgs false
namespace Jvm.Pilot.@@N@@
open Jvm Jvm.ClassFile Sem Op Lib Jvm.Free Jvm.Stand Jvm.LawKit Jvm.RoadKit Bundle Jvm.Pilot.@@N@@.Jvm.D
section OwnKit
variable {p : Program} {l : Launch} {e : Env} {R : Room} {s : State} {m : MethodId} {args : Array Value} {below : List Frame} {meth : Method} {c : Code} {T : State} {locs : List Loc} {cells slots : Nat} {Z : State} {h h' : Heap} {a b : Addr} {ty : FieldType} {n : Nat} {f f' : Nat → Value} {sl : Nat} {v : Value} {ws : List Addr}
theorem own_dia {t : State} {B F : JFrame} (hh : Steps p.tables e below (T.setTop F) t → Steps p.tables e below (T.setTop B) t) (k : Steps p.tables e below (T.setTop F) t) : Steps p.tables e below (T.setTop B) t := hh k
/-- the place j lies in an array of n places -/
abbrev own_in (j : Int32) (n : Nat) : Prop := 0 ≤ j.toInt ∧ j.toInt < n
theorem own_in_nat {j : Int32} (hj : own_in j n) : j.toNatClampNeg < n := by simp only [Int32.toNatClampNeg]; omega
theorem own_in_arr {cl : Cell} {j : Int32} (hs : cl.slots.size = n) (hj : own_in j n) : ¬ (j < 0 ∨ cl.slots.size ≤ j.toNatClampNeg) := by
  have := own_in_nat hj
  have k0 : (0 : Int32).toInt = 0 := by decide
  rw [Int32.lt_iff_toInt_lt, hs, k0]; omega
/-- an array: its kind, its length, and what each place holds -/
def AF (Z : State) (h : Heap) (a : Addr) (ty : FieldType) (n : Nat) (f : Nat → Value) : Prop := ∃ c : Cell, Arr Z h a c ty ∧ c.slots.size = n ∧ n < 2147483648 ∧ ∀ j, j < n → c.slots[j]? = some (f j)
theorem AF.lt (F : AF Z h a ty n f) : a < h.size := by obtain ⟨c, A, -⟩ := F; exact A.lt
theorem AF.small (F : AF Z h a ty n f) : n < 2147483648 := by obtain ⟨c, -, -, q, -⟩ := F; exact q
theorem AF.ext (F : AF Z h a ty n f) (E : Ext h h') : AF Z h' a ty n f := by obtain ⟨c, A, r⟩ := F; exact ⟨c, A.ext E, r⟩
theorem AF.other (F : AF Z h b ty n f) (W : Wr h h' a sl v) (q : b ≠ a) : AF Z h' b ty n f := by obtain ⟨c, A, r⟩ := F; exact ⟨c, A.other W q, r⟩
theorem AF.keep (F : AF Z h a ty n f) (K : Keep h h' ws) (q : a ∉ ws) : AF Z h' a ty n f := by obtain ⟨c, A, r⟩ := F; exact ⟨c, ⟨K.2.1 a c A.1 q, A.2⟩, r⟩
theorem AF.cong (F : AF Z h a ty n f) (q : ∀ j, j < n → f j = f' j) : AF Z h a ty n f' := by obtain ⟨c, A, r1, r2, r3⟩ := F; exact ⟨c, A, r1, r2, fun j hj => by rw [← q j hj]; exact r3 j hj⟩
theorem AF.new {k : ClassId} {z : Int32} (A : Arr Z h a (newA k ty z) ty) (q : ¬ z < 0) : AF Z h a ty z.toNatClampNeg (fun _ => defaultValue ty) := ⟨_, A, sz_new _ _ _, (back32 q).2, fun j hj => by simp [newA, hj]⟩
theorem AF.set (F : AF Z h a ty n f) {k : Nat} (W : Wr h h' a k v) : AF Z h' a ty n (fun i => if i = k then v else f i) := by
  obtain ⟨c, A, r1, r2, r3⟩ := F
  refine ⟨_, Arr.same W A, by rw [sz_set]; exact r1, r2, fun j hj => ?_⟩
  obtain ⟨cell, h1, -, h3, -⟩ := W
  cases h1.symm.trans A.1
  by_cases q : j = k
  · subst q; simp [Cell.setSlot, h3]
  · have q' : ¬ k = j := fun z => q z.symm
    simp only [Cell.setSlot, Array.getElem?_setIfInBounds, if_neg q, if_neg q']; exact r3 j hj
theorem own_updI {g fN : Nat → Int32} {x : Int32} {J k : Nat} (hk : k = J) (hf : fN = fun i => if i = J then x else g i) : ∀ j, j < n → (if j = k then Value.int x else Value.int (g j)) = Value.int (fN j) := by
  subst hk hf; intro j _; by_cases q : j = k <;> simp [q]
theorem own_updJ {g fN : Nat → Int64} {x : Int64} {J k : Nat} (hk : k = J) (hf : fN = fun i => if i = J then x else g i) : ∀ j, j < n → (if j = k then Value.long x else Value.long (g j)) = Value.long (fN j) := by
  subst hk hf; intro j _; by_cases q : j = k <;> simp [q]
theorem AF.ldI (X : Stand p l e R s m args below meth c T locs cells slots) (hx : p.tables.exec = Jvm.exec) (hZ : Z.Warmed39 s.vm) (eT : T.heap = h) {f : Nat → Int32} (A : AF Z h a .int n (fun j => .int (f j))) {j : Int32} (hj : own_in j n) {g : JFrame} (hg : g.method = m) {rest : List Value} (hs : g.stack = .int j :: .ref a :: rest) (hd : decode c.code g.pc = .ok (.iaload, 1)) (target : State)
    (k : Steps p.tables e below (T.setTop { g with pc := g.pc + 1, stack := .int (f j.toNatClampNeg) :: rest }) target) : Steps p.tables e below (T.setTop g) target := by
  obtain ⟨cl, A, r1, r2, r3⟩ := A
  exact X.iaload hx (j := j) (v := .int (f j.toNatClampNeg)) (by rw [eT]; exact A.1) (State.isArrayOf_alike hZ.alike A.2.1) A.2.2 (own_in_arr r1 hj) (r3 _ (own_in_nat hj)) hg hs hd _ k
theorem AF.ldJ (X : Stand p l e R s m args below meth c T locs cells slots) (hx : p.tables.exec = Jvm.exec) (hZ : Z.Warmed39 s.vm) (eT : T.heap = h) {f : Nat → Int64} (A : AF Z h a .long n (fun j => .long (f j))) {j : Int32} (hj : own_in j n) {g : JFrame} (hg : g.method = m) {rest : List Value} (hs : g.stack = .int j :: .ref a :: rest) (hd : decode c.code g.pc = .ok (.laload, 1)) (target : State)
    (k : Steps p.tables e below (T.setTop { g with pc := g.pc + 1, stack := .long (f j.toNatClampNeg) :: rest }) target) : Steps p.tables e below (T.setTop g) target := by
  obtain ⟨cl, A, r1, r2, r3⟩ := A
  exact X.laload hx (j := j) (v := .long (f j.toNatClampNeg)) (by rw [eT]; exact A.1) (State.isArrayOf_alike hZ.alike A.2.1) A.2.2 (own_in_arr r1 hj) (r3 _ (own_in_nat hj)) hg hs hd _ k
theorem AF.ldB (X : Stand p l e R s m args below meth c T locs cells slots) (hx : p.tables.exec = Jvm.exec) (hZ : Z.Warmed39 s.vm) (eT : T.heap = h) {f : Nat → Int32} (A : AF Z h a .byte n (fun j => .int (f j))) {j : Int32} (hj : own_in j n) {g : JFrame} (hg : g.method = m) {rest : List Value} (hs : g.stack = .int j :: .ref a :: rest) (hd : decode c.code g.pc = .ok (.baload, 1)) (target : State)
    (k : Steps p.tables e below (T.setTop { g with pc := g.pc + 1, stack := .int (f j.toNatClampNeg) :: rest }) target) : Steps p.tables e below (T.setTop g) target := by
  obtain ⟨cl, A, r1, r2, r3⟩ := A
  exact X.baloadBytes hx (j := j) (v := .int (f j.toNatClampNeg)) (by rw [eT]; exact A.1) (State.isArrayOf_alike hZ.alike A.2.1) A.2.2 (own_in_arr r1 hj) (r3 _ (own_in_nat hj)) hg hs hd _ k
theorem AF.len (X : Stand p l e R s m args below meth c T locs cells slots) (hx : p.tables.exec = Jvm.exec) (hZ : Z.Warmed39 s.vm) (eT : T.heap = h) (A : AF Z h a ty n f) {g : JFrame} (hg : g.method = m) {rest : List Value} (hs : g.stack = .ref a :: rest) (hd : decode c.code g.pc = .ok (.arraylength, 1)) (target : State)
    (k : Steps p.tables e below (T.setTop { g with pc := g.pc + 1, stack := .int (Int32.ofNat n) :: rest }) target) : Steps p.tables e below (T.setTop g) target := by
  obtain ⟨cl, A, r1, r2, r3⟩ := A
  subst r1
  exact X.arraylength hx (by rw [eT]; exact A.1) (State.isArrayOf_alike hZ.alike A.2.1) hg hs hd _ k
theorem AF.stI (X : Stand p l e R s m args below meth c T locs cells slots) (hx : p.tables.exec = Jvm.exec) (hZ : Z.Warmed39 s.vm) (eT : T.heap = h) (A : AF Z h a .int n f) {j x : Int32} (hj : own_in j n) {g : JFrame} (hg : g.method = m) {rest : List Value} (hs : g.stack = .int x :: .int j :: .ref a :: rest) (hd : decode c.code g.pc = .ok (.iastore, 1)) :
    ∃ T' h', Stand p l e R s m args below meth c T' (locs ++ [⟨a, j.toNatClampNeg⟩]) cells slots ∧ T'.heap = h' ∧ Wr h h' a j.toNatClampNeg (.int x) ∧ AF Z h' a .int n (fun i => if i = j.toNatClampNeg then .int x else f i) ∧ ∀ target, Steps p.tables e below (T'.setTop { g with pc := g.pc + 1, stack := rest }) target → Steps p.tables e below (T.setTop g) target := by
  have A0 := A
  obtain ⟨cl, A, r1, r2, r3⟩ := A
  obtain ⟨T', h', X', e', W, st⟩ := Jvm.RoadKit.stI X hx hZ eT A (j := j) (own_in_arr r1 hj) hg hs hd
  exact ⟨T', h', X', e', W, A0.set W, st⟩
theorem AF.stJ (X : Stand p l e R s m args below meth c T locs cells slots) (hx : p.tables.exec = Jvm.exec) (hZ : Z.Warmed39 s.vm) (eT : T.heap = h) (A : AF Z h a .long n f) {j : Int32} {x : Int64} (hj : own_in j n) {g : JFrame} (hg : g.method = m) {rest : List Value} (hs : g.stack = .long x :: .int j :: .ref a :: rest) (hd : decode c.code g.pc = .ok (.lastore, 1)) :
    ∃ T' h', Stand p l e R s m args below meth c T' (locs ++ [⟨a, j.toNatClampNeg⟩]) cells slots ∧ T'.heap = h' ∧ Wr h h' a j.toNatClampNeg (.long x) ∧ AF Z h' a .long n (fun i => if i = j.toNatClampNeg then .long x else f i) ∧ ∀ target, Steps p.tables e below (T'.setTop { g with pc := g.pc + 1, stack := rest }) target → Steps p.tables e below (T.setTop g) target := by
  have A0 := A
  obtain ⟨cl, A, r1, r2, r3⟩ := A
  obtain ⟨T', h', X', e', W, st⟩ := Jvm.RoadKit.stJ X hx hZ eT A (j := j) (own_in_arr r1 hj) hg hs hd
  exact ⟨T', h', X', e', W, A0.set W, st⟩
theorem AF.stB (X : Stand p l e R s m args below meth c T locs cells slots) (hx : p.tables.exec = Jvm.exec) (hZ : Z.Warmed39 s.vm) (eT : T.heap = h) (A : AF Z h a .byte n f) {j x : Int32} (hj : own_in j n) {g : JFrame} (hg : g.method = m) {rest : List Value} (hs : g.stack = .int x :: .int j :: .ref a :: rest) (hd : decode c.code g.pc = .ok (.bastore, 1)) :
    ∃ T' h', Stand p l e R s m args below meth c T' (locs ++ [⟨a, j.toNatClampNeg⟩]) cells slots ∧ T'.heap = h' ∧ Wr h h' a j.toNatClampNeg (.int x.toInt8.toInt32) ∧ AF Z h' a .byte n (fun i => if i = j.toNatClampNeg then .int x.toInt8.toInt32 else f i) ∧ ∀ target, Steps p.tables e below (T'.setTop { g with pc := g.pc + 1, stack := rest }) target → Steps p.tables e below (T.setTop g) target := by
  have A0 := A
  obtain ⟨cl, A, r1, r2, r3⟩ := A
  obtain ⟨T', h', X', e', W, st⟩ := Jvm.RoadKit.stB X hx hZ eT A (j := j) (own_in_arr r1 hj) hg hs hd
  exact ⟨T', h', X', e', W, A0.set W, st⟩
theorem own_cpyI {f g fN : Nat → Int32} {k : Nat} (hf : fN = fun j => if j < k then f j else g j) : ∀ j, j < n → (if j < k then Value.int (f j) else Value.int (g j)) = Value.int (fN j) := by
  subst hf; intro j _; by_cases q : j < k <;> simp [q]
theorem own_cpyJ {f g fN : Nat → Int64} {k : Nat} (hf : fN = fun j => if j < k then f j else g j) : ∀ j, j < n → (if j < k then Value.long (f j) else Value.long (g j)) = Value.long (fN j) := by
  subst hf; intro j _; by_cases q : j < k <;> simp [q]
theorem own_acW {own : String} {index : Nat} (h1 : (Jvm.Cond.methodLink own index Jvm.Stand.acN).before args s = true) (h2 : (Jvm.Cond.native Jvm.Stand.acN).before args s = true) (h3 : (Jvm.Cond.static Jvm.Stand.acN).before args s = true) (h4 : (Jvm.Cond.initialized "java/lang/System").before args s = true) : ∀ w ∈ Jvm.Free.XT.acW own index, w.before args s = true := by
  intro w hw
  change w ∈ [Jvm.Cond.methodLink own index Jvm.Stand.acN, Jvm.Cond.native Jvm.Stand.acN, Jvm.Cond.static Jvm.Stand.acN, Jvm.Cond.initialized "java/lang/System"] at hw
  simp only [List.mem_cons, List.not_mem_nil, or_false] at hw
  rcases hw with rfl | rfl | rfl | rfl
  · exact h1
  · exact h2
  · exact h3
  · exact h4
theorem own_isArr {c c' : Cell} (q : Z.isArrayOf c ty) (h1 : c'.cls = c.cls) (h2 : c'.vm = c.vm) : Z.isArrayOf c' ty := by
  obtain ⟨q1, k, q2, q3⟩ := q
  exact ⟨by rw [h2]; exact q1, k, by rw [h1]; exact q2, q3⟩
theorem AF.copy (X : Stand p l e R s m args below meth c T locs cells slots) (hx : p.tables.exec = Jvm.exec) (hZ : Z.Warmed39 s.vm) {own : String} {index : Nat} (hown : s.vm.findClass own = some m.cls) (hw : ∀ w ∈ Jvm.Free.XT.acW own index, w.before args s = true)
    (eT : T.heap = h) {k : Nat} {f' : Nat → Value} (A : AF Z h a ty n f) (B : AF Z h b ty k f') (hp : ty.isReference = false) {cnt : Nat} (hfit : ∀ j, j < cnt → fits ty (f j) = true) (h1 : cnt ≤ n) (h2 : cnt ≤ k) {jn : Int32} (hn : jn = Int32.ofNat cnt)
    {g : JFrame} (hg : g.method = m) (hsize : g.locals.size = c.maxLocals) {rest : List Value} (hs : g.stack = .int jn :: .int 0 :: .ref b :: .int 0 :: .ref a :: rest) (hd : decode c.code g.pc = .ok (.invokestatic index, 3))
    {W : Nat} (hW : 2 * g.monitorRoom + (rest.map fun v => v.category).sum ≤ W) (hfr : 1 ≤ R.frames) (hlo : W + 40 ≤ R.locals) :
    ∃ (T' : State) (h' : Heap) (L' : List Loc), Stand p l e R s m args below meth c T' (locs ++ L') cells slots ∧ T'.heap = h' ∧ (∀ y ∈ L', y.base = b) ∧ Keep h h' [b] ∧ AF Z h' b ty k (fun j => if j < cnt then f j else f' j) ∧
      ∀ target, Steps p.tables e below (T'.setTop { g with pc := g.pc + 3, stack := rest }) target → Steps p.tables e below (T.setTop g) target := by
  obtain ⟨ca, A, a1, a2, a3⟩ := A
  obtain ⟨cb, B, b1, b2, b3⟩ := B
  have tA : Jvm.Free.XT.Arr ty a ca T := ⟨by rw [eT]; exact A.1, State.isArrayOf_alike X.warmed.alike (State.isArrayOf_alike hZ.alike A.2.1), A.2.2, by omega⟩
  have tB : Jvm.Free.XT.Arr ty b cb T := ⟨by rw [eT]; exact B.1, State.isArrayOf_alike X.warmed.alike (State.isArrayOf_alike hZ.alike B.2.1), B.2.2, by omega⟩
  have ga : ∀ j, j < n → ca.slots.getD j .null = f j := fun j hj => by
    have q := a3 j hj
    rw [Array.getD_eq_getD_getElem?, q]; rfl
  obtain ⟨T', B', X', P, q1, q2, q3, q4, st⟩ := X.acopy hx (o := 0) (q := 0) (n := cnt) (jo := 0) (jq := 0) hown hw tA tB (by simp) rfl rfl hn (by omega) (by omega)
    (fun i hi => ⟨by rw [Nat.zero_add, ga i (by omega)]; exact hfit i hi, fun z => by rw [hp] at z; cases z⟩) hg hsize hs hd hW hfr hlo
  refine ⟨T', _, _, X', rfl, fun y hy => ?_, ⟨by rw [P.2.2, eT]; exact Nat.le_refl _, fun x cx hx' hn' => ?_, fun x cx hx' => ?_⟩, ⟨B', ⟨P.1, own_isArr B.2.1 q1 q2, by rw [q2]; exact B.2.2⟩, q3.trans b1, b2, fun j hj => ?_⟩, st⟩
  · simp only [copyLocs, List.mem_map] at hy
    obtain ⟨i, -, rfl⟩ := hy
    rfl
  · rw [P.2.1 x (fun z => hn' (by simp [z])), eT]; exact hx'
  · by_cases z : x = b
    · subst z
      cases hx'.symm.trans B.1
      exact ⟨B', P.1, q1, q2, q3⟩
    · exact ⟨cx, by rw [P.2.1 x z, eT]; exact hx', rfl, rfl, rfl⟩
  · show _ = some (if j < cnt then f j else f' j)
    rw [q4 j]
    by_cases z : j < cnt
    · rw [if_pos (by omega), if_pos z]
      have : 0 + (j - 0) = j := by omega
      rw [this, ga j (by omega)]
    · rw [if_neg (by omega), if_neg z]; exact b3 j hj
theorem own_nb (x : Int32) : nar .boolean x = x &&& 1 := rfl
theorem own_nar1 : nar .boolean 1 = 1 := rfl
theorem own_nar0 : nar .boolean 0 = 0 := rfl
theorem own_nbyte (x : Int32) : nar .byte x = x.toInt8.toInt32 := rfl
theorem own_nar_ite (q : Prop) [Decidable q] (x y : Int32) : nar .boolean (if q then x else y) = if q then nar .boolean x else nar .boolean y := by split <;> rfl
theorem own_pos_ne {x : Int64} (q : 0 < x) : x ≠ 0 := fun z => by subst z; exact absurd q (by decide)
theorem own_cat {w : Value} (q : w.isRef = true) : w.category = 1 := by cases w <;> first | rfl | (simp [Value.isRef] at q)
theorem own_fits_ref {ty : FieldType} {w : Value} (q : w.isRef = true) (ht : ty.isReference = true := by rfl) : fits ty w = true := by
  cases w <;> cases ty <;> first | rfl | (exact absurd q (by decide)) | (exact absurd ht (by decide)) | (cases q) | (cases ht)
/-- a static field that holds v, in a heap that keeps all that was old at the start -/
def SO (Z : State) (n0 : Nat) (h : Heap) (C n d : String) (v : Value) : Prop := Sta Z Z.heap C n d v ∧ Old Z n0 h
theorem SO.ext {n0 : Nat} {C nm d : String} (F : SO Z n0 h C nm d v) (E : Ext h h') : SO Z n0 h' C nm d v := ⟨F.1, F.2.ext E⟩
theorem SO.wr {n0 : Nat} {C nm d : String} {w : Value} (F : SO Z n0 h C nm d v) (W : Wr h h' a sl w) (q : n0 ≤ a) : SO Z n0 h' C nm d v := ⟨F.1, F.2.wr W q⟩
theorem SO.keep {n0 : Nat} {C nm d : String} (F : SO Z n0 h C nm d v) (K : Keep h h' ws) (q : ∀ x ∈ ws, n0 ≤ x) : SO Z n0 h' C nm d v := ⟨F.1, F.2.keep K q⟩
theorem SO.sta {n0 : Nat} {C nm d : String} (F : SO Z n0 h C nm d v) : Sta Z h C nm d v := F.1.ext F.2.2
theorem own_selp {y : MethodName} {n : Nat} (wi : (Jvm.Cond.instantiable y.cls n).before args s = true) (hpriv : s.PrivateAt y) (hinst : (Jvm.Cond.instanceMethod y).before args s = true) (hy : y.cls ≠ "java/lang/invoke/MethodHandle" ∧ y.cls ≠ "java/lang/invoke/VarHandle") : (Jvm.Cond.selects y.cls y y).before args s = true := by
  obtain ⟨c, k, h1, h2, -, h4, -⟩ := Cond.instantiable_spec wi
  exact Jvm.Stand.selects_self_of_private h1 h2 (by simp only [Bool.or_eq_false_iff] at h4; exact h4.1) hpriv hinst hy
end OwnKit

theorem pn_0 : plainName "com/example/ezra/ezra/LineupHasPinLaw" = true := by first | (simp [plainName, overriddenIn]; done) | decide +kernel
theorem d1_0 : decode prog_14_method_1_code 0 = .ok (.aload_n 0, 1) := by decide +kernel
theorem d1_1 : decode prog_14_method_1_code 1 = .ok (.invokespecial 1, 3) := by decide +kernel
theorem d1_4 : decode prog_14_method_1_code 4 = .ok (.aload_n 0, 1) := by decide +kernel
theorem d1_5 : decode prog_14_method_1_code 5 = .ok (.aload_n 1, 1) := by decide +kernel
theorem d1_6 : decode prog_14_method_1_code 6 = .ok (.putfield 7, 3) := by decide +kernel
theorem d1_9 : decode prog_14_method_1_code 9 = .ok (.aload_n 0, 1) := by decide +kernel
theorem d1_10 : decode prog_14_method_1_code 10 = .ok (.aload_n 2, 1) := by decide +kernel
theorem d1_11 : decode prog_14_method_1_code 11 = .ok (.putfield 13, 3) := by decide +kernel
theorem d1_14 : decode prog_14_method_1_code 14 = .ok (.aload_n 0, 1) := by decide +kernel
theorem d1_15 : decode prog_14_method_1_code 15 = .ok (.aload_n 3, 1) := by decide +kernel
theorem d1_16 : decode prog_14_method_1_code 16 = .ok (.putfield 17, 3) := by decide +kernel
theorem d1_19 : decode prog_14_method_1_code 19 = .ok (.aload_n 0, 1) := by decide +kernel
theorem d1_20 : decode prog_14_method_1_code 20 = .ok (.aload 4, 2) := by decide +kernel
theorem d1_22 : decode prog_14_method_1_code 22 = .ok (.putfield 21, 3) := by decide +kernel
theorem d1_25 : decode prog_14_method_1_code 25 = .ok (.aload_n 0, 1) := by decide +kernel
theorem d1_26 : decode prog_14_method_1_code 26 = .ok (.aload 5, 2) := by decide +kernel
theorem d1_28 : decode prog_14_method_1_code 28 = .ok (.putfield 24, 3) := by decide +kernel
theorem d1_31 : decode prog_14_method_1_code 31 = .ok (.return_, 1) := by decide +kernel
theorem pn_1 : plainName "com/example/ezra/ezra/Lineup" = true := by first | (simp [plainName, overriddenIn]; done) | decide +kernel
theorem d2_0 : decode jdk_30_method_1_code 0 = .ok (.aload_n 0, 1) := by decide +kernel
theorem d2_1 : decode jdk_30_method_1_code 1 = .ok (.invokespecial 1, 3) := by decide +kernel
theorem d2_4 : decode jdk_30_method_1_code 4 = .ok (.return_, 1) := by decide +kernel
theorem pn_2 : plainName "java/lang/Record" = true := by first | (simp [plainName, overriddenIn]; done) | decide +kernel
theorem d4_0 : decode prog_14_method_6_code 0 = .ok (.aload_n 0, 1) := by decide +kernel
theorem d4_1 : decode prog_14_method_6_code 1 = .ok (.getfield 17, 3) := by decide +kernel
theorem d4_4 : decode prog_14_method_6_code 4 = .ok (.iload_n 1, 1) := by decide +kernel
theorem d4_5 : decode prog_14_method_6_code 5 = .ok (.iaload, 1) := by decide +kernel
theorem d4_6 : decode prog_14_method_6_code 6 = .ok (.istore 4, 2) := by decide +kernel
theorem d4_8 : decode prog_14_method_6_code 8 = .ok (.iload 4, 2) := by decide +kernel
theorem d4_10 : decode prog_14_method_6_code 10 = .ok (.aload_n 0, 1) := by decide +kernel
theorem d4_11 : decode prog_14_method_6_code 11 = .ok (.getfield 17, 3) := by decide +kernel
theorem d4_14 : decode prog_14_method_6_code 14 = .ok (.iload_n 1, 1) := by decide +kernel
theorem d4_15 : decode prog_14_method_6_code 15 = .ok (.iconst 1, 1) := by decide +kernel
theorem d4_16 : decode prog_14_method_6_code 16 = .ok (.iadd, 1) := by decide +kernel
theorem d4_17 : decode prog_14_method_6_code 17 = .ok (.iaload, 1) := by decide +kernel
theorem d4_18 : decode prog_14_method_6_code 18 = .ok (.if_icmp .ge 33, 3) := by decide +kernel
theorem d4_21 : decode prog_14_method_6_code 21 = .ok (.aload_n 0, 1) := by decide +kernel
theorem d4_22 : decode prog_14_method_6_code 22 = .ok (.getfield 21, 3) := by decide +kernel
theorem d4_25 : decode prog_14_method_6_code 25 = .ok (.iload 4, 2) := by decide +kernel
theorem d4_27 : decode prog_14_method_6_code 27 = .ok (.iaload, 1) := by decide +kernel
theorem d4_28 : decode prog_14_method_6_code 28 = .ok (.iload_n 2, 1) := by decide +kernel
theorem d4_29 : decode prog_14_method_6_code 29 = .ok (.if_icmp .lt 16, 3) := by decide +kernel
theorem d4_32 : decode prog_14_method_6_code 32 = .ok (.aload_n 0, 1) := by decide +kernel
theorem d4_33 : decode prog_14_method_6_code 33 = .ok (.getfield 21, 3) := by decide +kernel
theorem d4_36 : decode prog_14_method_6_code 36 = .ok (.iload 4, 2) := by decide +kernel
theorem d4_38 : decode prog_14_method_6_code 38 = .ok (.iaload, 1) := by decide +kernel
theorem d4_39 : decode prog_14_method_6_code 39 = .ok (.iload_n 3, 1) := by decide +kernel
theorem d4_40 : decode prog_14_method_6_code 40 = .ok (.if_icmp .ge 5, 3) := by decide +kernel
theorem d4_43 : decode prog_14_method_6_code 43 = .ok (.iconst 1, 1) := by decide +kernel
theorem d4_44 : decode prog_14_method_6_code 44 = .ok (.ireturn, 1) := by decide +kernel
theorem d4_45 : decode prog_14_method_6_code 45 = .ok (.iinc 4 1, 3) := by decide +kernel
theorem d4_48 : decode prog_14_method_6_code 48 = .ok (.goto (-40), 3) := by decide +kernel
theorem d4_51 : decode prog_14_method_6_code 51 = .ok (.iconst 0, 1) := by decide +kernel
theorem d4_52 : decode prog_14_method_6_code 52 = .ok (.ireturn, 1) := by decide +kernel
theorem pn_4 : plainName "com/example/ezra/ezra/Lineup" = true := by first | (simp [plainName, overriddenIn]; done) | decide +kernel
theorem d5_0 : decode method_3_code 0 = .ok (.iload_n 1, 1) := by decide +kernel
theorem d5_1 : decode method_3_code 1 = .ok (.iload_n 0, 1) := by decide +kernel
theorem d5_2 : decode method_3_code 2 = .ok (.if_icmp .gt 24, 3) := by decide +kernel
theorem d5_5 : decode method_3_code 5 = .ok (.iload_n 0, 1) := by decide +kernel
theorem d5_6 : decode method_3_code 6 = .ok (.iload_n 2, 1) := by decide +kernel
theorem d5_7 : decode method_3_code 7 = .ok (.if_icmp .ge 19, 3) := by decide +kernel
theorem d5_10 : decode method_3_code 10 = .ok (.iload 4, 2) := by decide +kernel
theorem d5_12 : decode method_3_code 12 = .ok (.iload_n 3, 1) := by decide +kernel
theorem d5_13 : decode method_3_code 13 = .ok (.if_icmp .gt 13, 3) := by decide +kernel
theorem d5_16 : decode method_3_code 16 = .ok (.iload_n 3, 1) := by decide +kernel
theorem d5_17 : decode method_3_code 17 = .ok (.iload 5, 2) := by decide +kernel
theorem d5_19 : decode method_3_code 19 = .ok (.if_icmp .ge 7, 3) := by decide +kernel
theorem d5_22 : decode method_3_code 22 = .ok (.iconst 1, 1) := by decide +kernel
theorem d5_23 : decode method_3_code 23 = .ok (.goto 4, 3) := by decide +kernel
theorem d5_26 : decode method_3_code 26 = .ok (.iconst 0, 1) := by decide +kernel
theorem d5_27 : decode method_3_code 27 = .ok (.ireturn, 1) := by decide +kernel
theorem pn_5 : plainName "com/example/ezra/ezra/LineupHasPinLaw" = true := by first | (simp [plainName, overriddenIn]; done) | decide +kernel
theorem pd_1 : parseMethodDescriptor "()V" = some ⟨[], none⟩ := by decide +kernel
theorem pd_0 : parseMethodDescriptor "(Ljava/util/List;[J[I[I[I)V" = some ⟨[(.object "java/util/List"), (.array .long), (.array .int), (.array .int), (.array .int)], none⟩ := by decide +kernel
theorem pd_2 : parseMethodDescriptor "(III)Z" = some ⟨[.int, .int, .int], some .boolean⟩ := by decide +kernel
theorem pd_3 : parseMethodDescriptor "(IIIIII)Z" = some ⟨[.int, .int, .int, .int, .int, .int], some .boolean⟩ := by decide +kernel

set_option maxRecDepth 65536 in
set_option maxHeartbeats 40000000 in
theorem tnA {p : Program} {l : Launch} {e : Env} {R : Room} {s : State} {m : MethodId} {args : Array Value} {below : List Frame} {meth : Method} {c : Code} {T0 : State} {locs : List Loc} {cells slots : Nat} {Z : State} {A0 : Array Value} (a0 : Addr) (p1 : Int32) (p2 : Int32) (p3 : Int32) (i4 : Int32) (w_start_a0 : Addr) (n_w_start_a0 : Nat) (g_w_start_a0 : Nat → Int32) (w_day_a0 : Addr) (n_w_day_a0 : Nat) (g_w_day_a0 : Nat → Int32) {h0 : Heap} {n0 : Nat}
    (X0 : Stand p l e R s m args below meth c T0 locs cells slots) (hx : p.tables.exec = Jvm.exec) (hZ : Z.Warmed39 s.vm) (hw : ∀ d ∈ tables_1, d.before A0 Z = true) (hby : c.code = prog_14_method_6_code) (hml : c.maxLocals = 5) (hown : s.vm.findClass "com/example/ezra/ezra/Lineup" = some m.cls) (e0 : T0.heap = h0) (N0 : Fr n0 locs) (F_start_a0 : Fld Z h0 a0 "com/example/ezra/ezra/Lineup" "start" "[I" (.ref w_start_a0)) (A_w_start_a0 : AF Z h0 w_start_a0 .int n_w_start_a0 (fun j => .int (g_w_start_a0 j))) (F_day_a0 : Fld Z h0 a0 "com/example/ezra/ezra/Lineup" "day" "[I" (.ref w_day_a0)) (A_w_day_a0 : AF Z h0 w_day_a0 .int n_w_day_a0 (fun j => .int (g_w_day_a0 j))) (hin17 : own_in (p1 + (1 : Int32)) n_w_start_a0) (hc18 : i4 < (g_w_start_a0 ((p1 + (1 : Int32))).toNatClampNeg)) (hin27 : own_in i4 n_w_day_a0) (hc29 : (g_w_day_a0 (i4).toNatClampNeg) < p2) :
    ∃ (T' : State) (L' : List Loc), Stand p l e R s m args below meth c T' L' cells slots ∧ Fr n0 L' ∧ T'.heap = h0 ∧ ∀ target, Steps p.tables e below (T'.setTop (mkF m 8 #[.val (.ref a0), .val (.int p1), .val (.int p2), .val (.int p3), .val (.int (i4 + (1 : Int32)))] [])) target → Steps p.tables e below (T0.setTop (mkF m 8 #[.val (.ref a0), .val (.int p1), .val (.int p2), .val (.int p3), .val (.int i4)] [])) target := by
  obtain ⟨T1, X1, e1, st1⟩ := getF X0 hx hZ hown (host := "") (Or.inl (hw _ (List.mem_of_getElem? (i := 22) rfl))) Via.refl e0 F_start_a0 (g := (mkF m 11 #[.val (.ref a0), .val (.int p1), .val (.int p2), .val (.int p3), .val (.int i4)] [(.ref a0), (.int i4)])) rfl rfl (hb hby d4_11)
  obtain ⟨T2, X2, e2, st2⟩ := getF X1 hx hZ hown (host := "") (Or.inl (hw _ (List.mem_of_getElem? (i := 24) rfl))) Via.refl e1 F_day_a0 (g := (mkF m 22 #[.val (.ref a0), .val (.int p1), .val (.int p2), .val (.int p3), .val (.int i4)] [(.ref a0)])) rfl rfl (hb hby d4_22)
  refine ⟨T2, _, X2, N0, e2, fun target kt => ?_⟩
  show Steps p.tables e below (T0.setTop (mkF m 8 #[.val (.ref a0), .val (.int p1), .val (.int p2), .val (.int p3), .val (.int i4)] [])) _
  refine XS.iload X0.here hx rfl (hb hby d4_8) rfl ?_
  show Steps p.tables e below (T0.setTop (mkF m 10 #[.val (.ref a0), .val (.int p1), .val (.int p2), .val (.int p3), .val (.int i4)] [(.int i4)])) _
  refine XS.aloadN X0.here hx rfl (hb hby d4_10) rfl rfl ?_
  show Steps p.tables e below (T0.setTop (mkF m 11 #[.val (.ref a0), .val (.int p1), .val (.int p2), .val (.int p3), .val (.int i4)] [(.ref a0), (.int i4)])) _
  refine st1 _ ?_
  show Steps p.tables e below (T1.setTop (mkF m 14 #[.val (.ref a0), .val (.int p1), .val (.int p2), .val (.int p3), .val (.int i4)] [(.ref w_start_a0), (.int i4)])) _
  refine XS.iloadN X1.here hx rfl (hb hby d4_14) rfl ?_
  show Steps p.tables e below (T1.setTop (mkF m 15 #[.val (.ref a0), .val (.int p1), .val (.int p2), .val (.int p3), .val (.int i4)] [(.int p1), (.ref w_start_a0), (.int i4)])) _
  refine XS.iconst X1.here hx rfl (hb hby d4_15) ?_
  show Steps p.tables e below (T1.setTop (mkF m 16 #[.val (.ref a0), .val (.int p1), .val (.int p2), .val (.int p3), .val (.int i4)] [(.int (1 : Int32)), (.int p1), (.ref w_start_a0), (.int i4)])) _
  refine XS.iadd X1.here hx rfl (hb hby d4_16) rfl ?_
  show Steps p.tables e below (T1.setTop (mkF m 17 #[.val (.ref a0), .val (.int p1), .val (.int p2), .val (.int p3), .val (.int i4)] [(.int (p1 + (1 : Int32))), (.ref w_start_a0), (.int i4)])) _
  refine AF.ldI X1 hx hZ e1 A_w_start_a0 hin17 (g := (mkF m 17 #[.val (.ref a0), .val (.int p1), .val (.int p2), .val (.int p3), .val (.int i4)] [(.int (p1 + (1 : Int32))), (.ref w_start_a0), (.int i4)])) rfl rfl (hb hby d4_17) _ ?_
  show Steps p.tables e below (T1.setTop (mkF m 18 #[.val (.ref a0), .val (.int p1), .val (.int p2), .val (.int p3), .val (.int i4)] [(.int (g_w_start_a0 ((p1 + (1 : Int32))).toNatClampNeg)), (.int i4)])) _
  refine XS.icmpNo X1.here hx rfl (hb hby d4_18) rfl (tlt hc18).2.1 ?_
  show Steps p.tables e below (T1.setTop (mkF m 21 #[.val (.ref a0), .val (.int p1), .val (.int p2), .val (.int p3), .val (.int i4)] [])) _
  refine XS.aloadN X1.here hx rfl (hb hby d4_21) rfl rfl ?_
  show Steps p.tables e below (T1.setTop (mkF m 22 #[.val (.ref a0), .val (.int p1), .val (.int p2), .val (.int p3), .val (.int i4)] [(.ref a0)])) _
  refine st2 _ ?_
  show Steps p.tables e below (T2.setTop (mkF m 25 #[.val (.ref a0), .val (.int p1), .val (.int p2), .val (.int p3), .val (.int i4)] [(.ref w_day_a0)])) _
  refine XS.iload X2.here hx rfl (hb hby d4_25) rfl ?_
  show Steps p.tables e below (T2.setTop (mkF m 27 #[.val (.ref a0), .val (.int p1), .val (.int p2), .val (.int p3), .val (.int i4)] [(.int i4), (.ref w_day_a0)])) _
  refine AF.ldI X2 hx hZ e2 A_w_day_a0 hin27 (g := (mkF m 27 #[.val (.ref a0), .val (.int p1), .val (.int p2), .val (.int p3), .val (.int i4)] [(.int i4), (.ref w_day_a0)])) rfl rfl (hb hby d4_27) _ ?_
  show Steps p.tables e below (T2.setTop (mkF m 28 #[.val (.ref a0), .val (.int p1), .val (.int p2), .val (.int p3), .val (.int i4)] [(.int (g_w_day_a0 (i4).toNatClampNeg))])) _
  refine XS.iloadN X2.here hx rfl (hb hby d4_28) rfl ?_
  show Steps p.tables e below (T2.setTop (mkF m 29 #[.val (.ref a0), .val (.int p1), .val (.int p2), .val (.int p3), .val (.int i4)] [(.int p2), (.int (g_w_day_a0 (i4).toNatClampNeg))])) _
  refine XS.icmpYes X2.here hx rfl (pc0 := 29) (pc' := 45) rfl (hb hby d4_29) rfl (tlt hc29).1 (by decide) (by decide) ?_
  show Steps p.tables e below (T2.setTop (mkF m 45 #[.val (.ref a0), .val (.int p1), .val (.int p2), .val (.int p3), .val (.int i4)] [])) _
  refine XS.iinc X2.here hx rfl (hb hby d4_45) rfl (l' := #[.val (.ref a0), .val (.int p1), .val (.int p2), .val (.int p3), .val (.int (i4 + (1 : Int32)))]) rfl ?_
  show Steps p.tables e below (T2.setTop (mkF m 48 #[.val (.ref a0), .val (.int p1), .val (.int p2), .val (.int p3), .val (.int (i4 + (1 : Int32)))] [])) _
  refine XS.goto X2.here hx rfl (pc0 := 48) (pc' := 8) rfl (hb hby d4_48) (by decide) (by decide) ?_
  exact kt
set_option maxRecDepth 65536 in
set_option maxHeartbeats 40000000 in
theorem tnB {p : Program} {l : Launch} {e : Env} {R : Room} {s : State} {m : MethodId} {args : Array Value} {below : List Frame} {meth : Method} {c : Code} {T0 : State} {locs : List Loc} {cells slots : Nat} {Z : State} {A0 : Array Value} (a0 : Addr) (p1 : Int32) (p2 : Int32) (p3 : Int32) (i4 : Int32) (w_start_a0 : Addr) (n_w_start_a0 : Nat) (g_w_start_a0 : Nat → Int32) (w_day_a0 : Addr) (n_w_day_a0 : Nat) (g_w_day_a0 : Nat → Int32) {h0 : Heap} {n0 : Nat}
    (X0 : Stand p l e R s m args below meth c T0 locs cells slots) (hx : p.tables.exec = Jvm.exec) (hZ : Z.Warmed39 s.vm) (hw : ∀ d ∈ tables_1, d.before A0 Z = true) (hby : c.code = prog_14_method_6_code) (hml : c.maxLocals = 5) (hown : s.vm.findClass "com/example/ezra/ezra/Lineup" = some m.cls) (e0 : T0.heap = h0) (N0 : Fr n0 locs) (F_start_a0 : Fld Z h0 a0 "com/example/ezra/ezra/Lineup" "start" "[I" (.ref w_start_a0)) (A_w_start_a0 : AF Z h0 w_start_a0 .int n_w_start_a0 (fun j => .int (g_w_start_a0 j))) (F_day_a0 : Fld Z h0 a0 "com/example/ezra/ezra/Lineup" "day" "[I" (.ref w_day_a0)) (A_w_day_a0 : AF Z h0 w_day_a0 .int n_w_day_a0 (fun j => .int (g_w_day_a0 j))) (hin17 : own_in (p1 + (1 : Int32)) n_w_start_a0) (hc18 : i4 < (g_w_start_a0 ((p1 + (1 : Int32))).toNatClampNeg)) (hin27 : own_in i4 n_w_day_a0) (hc29 : ¬ ((g_w_day_a0 (i4).toNatClampNeg) < p2)) (hin38 : own_in i4 n_w_day_a0) (hc40 : ¬ ((g_w_day_a0 (i4).toNatClampNeg) < p3)) :
    ∃ (T' : State) (L' : List Loc), Stand p l e R s m args below meth c T' L' cells slots ∧ Fr n0 L' ∧ T'.heap = h0 ∧ ∀ target, Steps p.tables e below (T'.setTop (mkF m 8 #[.val (.ref a0), .val (.int p1), .val (.int p2), .val (.int p3), .val (.int (i4 + (1 : Int32)))] [])) target → Steps p.tables e below (T0.setTop (mkF m 8 #[.val (.ref a0), .val (.int p1), .val (.int p2), .val (.int p3), .val (.int i4)] [])) target := by
  obtain ⟨T1, X1, e1, st1⟩ := getF X0 hx hZ hown (host := "") (Or.inl (hw _ (List.mem_of_getElem? (i := 22) rfl))) Via.refl e0 F_start_a0 (g := (mkF m 11 #[.val (.ref a0), .val (.int p1), .val (.int p2), .val (.int p3), .val (.int i4)] [(.ref a0), (.int i4)])) rfl rfl (hb hby d4_11)
  obtain ⟨T2, X2, e2, st2⟩ := getF X1 hx hZ hown (host := "") (Or.inl (hw _ (List.mem_of_getElem? (i := 24) rfl))) Via.refl e1 F_day_a0 (g := (mkF m 22 #[.val (.ref a0), .val (.int p1), .val (.int p2), .val (.int p3), .val (.int i4)] [(.ref a0)])) rfl rfl (hb hby d4_22)
  obtain ⟨T3, X3, e3, st3⟩ := getF X2 hx hZ hown (host := "") (Or.inl (hw _ (List.mem_of_getElem? (i := 24) rfl))) Via.refl e2 F_day_a0 (g := (mkF m 33 #[.val (.ref a0), .val (.int p1), .val (.int p2), .val (.int p3), .val (.int i4)] [(.ref a0)])) rfl rfl (hb hby d4_33)
  refine ⟨T3, _, X3, N0, e3, fun target kt => ?_⟩
  show Steps p.tables e below (T0.setTop (mkF m 8 #[.val (.ref a0), .val (.int p1), .val (.int p2), .val (.int p3), .val (.int i4)] [])) _
  refine XS.iload X0.here hx rfl (hb hby d4_8) rfl ?_
  show Steps p.tables e below (T0.setTop (mkF m 10 #[.val (.ref a0), .val (.int p1), .val (.int p2), .val (.int p3), .val (.int i4)] [(.int i4)])) _
  refine XS.aloadN X0.here hx rfl (hb hby d4_10) rfl rfl ?_
  show Steps p.tables e below (T0.setTop (mkF m 11 #[.val (.ref a0), .val (.int p1), .val (.int p2), .val (.int p3), .val (.int i4)] [(.ref a0), (.int i4)])) _
  refine st1 _ ?_
  show Steps p.tables e below (T1.setTop (mkF m 14 #[.val (.ref a0), .val (.int p1), .val (.int p2), .val (.int p3), .val (.int i4)] [(.ref w_start_a0), (.int i4)])) _
  refine XS.iloadN X1.here hx rfl (hb hby d4_14) rfl ?_
  show Steps p.tables e below (T1.setTop (mkF m 15 #[.val (.ref a0), .val (.int p1), .val (.int p2), .val (.int p3), .val (.int i4)] [(.int p1), (.ref w_start_a0), (.int i4)])) _
  refine XS.iconst X1.here hx rfl (hb hby d4_15) ?_
  show Steps p.tables e below (T1.setTop (mkF m 16 #[.val (.ref a0), .val (.int p1), .val (.int p2), .val (.int p3), .val (.int i4)] [(.int (1 : Int32)), (.int p1), (.ref w_start_a0), (.int i4)])) _
  refine XS.iadd X1.here hx rfl (hb hby d4_16) rfl ?_
  show Steps p.tables e below (T1.setTop (mkF m 17 #[.val (.ref a0), .val (.int p1), .val (.int p2), .val (.int p3), .val (.int i4)] [(.int (p1 + (1 : Int32))), (.ref w_start_a0), (.int i4)])) _
  refine AF.ldI X1 hx hZ e1 A_w_start_a0 hin17 (g := (mkF m 17 #[.val (.ref a0), .val (.int p1), .val (.int p2), .val (.int p3), .val (.int i4)] [(.int (p1 + (1 : Int32))), (.ref w_start_a0), (.int i4)])) rfl rfl (hb hby d4_17) _ ?_
  show Steps p.tables e below (T1.setTop (mkF m 18 #[.val (.ref a0), .val (.int p1), .val (.int p2), .val (.int p3), .val (.int i4)] [(.int (g_w_start_a0 ((p1 + (1 : Int32))).toNatClampNeg)), (.int i4)])) _
  refine XS.icmpNo X1.here hx rfl (hb hby d4_18) rfl (tlt hc18).2.1 ?_
  show Steps p.tables e below (T1.setTop (mkF m 21 #[.val (.ref a0), .val (.int p1), .val (.int p2), .val (.int p3), .val (.int i4)] [])) _
  refine XS.aloadN X1.here hx rfl (hb hby d4_21) rfl rfl ?_
  show Steps p.tables e below (T1.setTop (mkF m 22 #[.val (.ref a0), .val (.int p1), .val (.int p2), .val (.int p3), .val (.int i4)] [(.ref a0)])) _
  refine st2 _ ?_
  show Steps p.tables e below (T2.setTop (mkF m 25 #[.val (.ref a0), .val (.int p1), .val (.int p2), .val (.int p3), .val (.int i4)] [(.ref w_day_a0)])) _
  refine XS.iload X2.here hx rfl (hb hby d4_25) rfl ?_
  show Steps p.tables e below (T2.setTop (mkF m 27 #[.val (.ref a0), .val (.int p1), .val (.int p2), .val (.int p3), .val (.int i4)] [(.int i4), (.ref w_day_a0)])) _
  refine AF.ldI X2 hx hZ e2 A_w_day_a0 hin27 (g := (mkF m 27 #[.val (.ref a0), .val (.int p1), .val (.int p2), .val (.int p3), .val (.int i4)] [(.int i4), (.ref w_day_a0)])) rfl rfl (hb hby d4_27) _ ?_
  show Steps p.tables e below (T2.setTop (mkF m 28 #[.val (.ref a0), .val (.int p1), .val (.int p2), .val (.int p3), .val (.int i4)] [(.int (g_w_day_a0 (i4).toNatClampNeg))])) _
  refine XS.iloadN X2.here hx rfl (hb hby d4_28) rfl ?_
  show Steps p.tables e below (T2.setTop (mkF m 29 #[.val (.ref a0), .val (.int p1), .val (.int p2), .val (.int p3), .val (.int i4)] [(.int p2), (.int (g_w_day_a0 (i4).toNatClampNeg))])) _
  refine XS.icmpNo X2.here hx rfl (hb hby d4_29) rfl (flt hc29).1 ?_
  show Steps p.tables e below (T2.setTop (mkF m 32 #[.val (.ref a0), .val (.int p1), .val (.int p2), .val (.int p3), .val (.int i4)] [])) _
  refine XS.aloadN X2.here hx rfl (hb hby d4_32) rfl rfl ?_
  show Steps p.tables e below (T2.setTop (mkF m 33 #[.val (.ref a0), .val (.int p1), .val (.int p2), .val (.int p3), .val (.int i4)] [(.ref a0)])) _
  refine st3 _ ?_
  show Steps p.tables e below (T3.setTop (mkF m 36 #[.val (.ref a0), .val (.int p1), .val (.int p2), .val (.int p3), .val (.int i4)] [(.ref w_day_a0)])) _
  refine XS.iload X3.here hx rfl (hb hby d4_36) rfl ?_
  show Steps p.tables e below (T3.setTop (mkF m 38 #[.val (.ref a0), .val (.int p1), .val (.int p2), .val (.int p3), .val (.int i4)] [(.int i4), (.ref w_day_a0)])) _
  refine AF.ldI X3 hx hZ e3 A_w_day_a0 hin38 (g := (mkF m 38 #[.val (.ref a0), .val (.int p1), .val (.int p2), .val (.int p3), .val (.int i4)] [(.int i4), (.ref w_day_a0)])) rfl rfl (hb hby d4_38) _ ?_
  show Steps p.tables e below (T3.setTop (mkF m 39 #[.val (.ref a0), .val (.int p1), .val (.int p2), .val (.int p3), .val (.int i4)] [(.int (g_w_day_a0 (i4).toNatClampNeg))])) _
  refine XS.iloadN X3.here hx rfl (hb hby d4_39) rfl ?_
  show Steps p.tables e below (T3.setTop (mkF m 40 #[.val (.ref a0), .val (.int p1), .val (.int p2), .val (.int p3), .val (.int i4)] [(.int p3), (.int (g_w_day_a0 (i4).toNatClampNeg))])) _
  refine XS.icmpYes X3.here hx rfl (pc0 := 40) (pc' := 45) rfl (hb hby d4_40) rfl (flt hc40).2.1 (by decide) (by decide) ?_
  show Steps p.tables e below (T3.setTop (mkF m 45 #[.val (.ref a0), .val (.int p1), .val (.int p2), .val (.int p3), .val (.int i4)] [])) _
  refine XS.iinc X3.here hx rfl (hb hby d4_45) rfl (l' := #[.val (.ref a0), .val (.int p1), .val (.int p2), .val (.int p3), .val (.int (i4 + (1 : Int32)))]) rfl ?_
  show Steps p.tables e below (T3.setTop (mkF m 48 #[.val (.ref a0), .val (.int p1), .val (.int p2), .val (.int p3), .val (.int (i4 + (1 : Int32)))] [])) _
  refine XS.goto X3.here hx rfl (pc0 := 48) (pc' := 8) rfl (hb hby d4_48) (by decide) (by decide) ?_
  exact kt
set_option maxRecDepth 65536 in
set_option maxHeartbeats 40000000 in
theorem tnC {p : Program} {l : Launch} {e : Env} {R : Room} {s : State} {m : MethodId} {args : Array Value} {below : List Frame} {meth : Method} {c : Code} {T0 : State} {locs : List Loc} {cells slots : Nat} {Z : State} {A0 : Array Value} (a0 : Addr) (p1 : Int32) (p2 : Int32) (p3 : Int32) (i4 : Int32) (w_start_a0 : Addr) (n_w_start_a0 : Nat) (g_w_start_a0 : Nat → Int32) (w_day_a0 : Addr) (n_w_day_a0 : Nat) (g_w_day_a0 : Nat → Int32) {h0 : Heap} {n0 : Nat}
    (X0 : Stand p l e R s m args below meth c T0 locs cells slots) (hx : p.tables.exec = Jvm.exec) (hZ : Z.Warmed39 s.vm) (hw : ∀ d ∈ tables_1, d.before A0 Z = true) (hby : c.code = prog_14_method_6_code) (hml : c.maxLocals = 5) (hown : s.vm.findClass "com/example/ezra/ezra/Lineup" = some m.cls) (e0 : T0.heap = h0) (N0 : Fr n0 locs) (F_start_a0 : Fld Z h0 a0 "com/example/ezra/ezra/Lineup" "start" "[I" (.ref w_start_a0)) (A_w_start_a0 : AF Z h0 w_start_a0 .int n_w_start_a0 (fun j => .int (g_w_start_a0 j))) (F_day_a0 : Fld Z h0 a0 "com/example/ezra/ezra/Lineup" "day" "[I" (.ref w_day_a0)) (A_w_day_a0 : AF Z h0 w_day_a0 .int n_w_day_a0 (fun j => .int (g_w_day_a0 j))) (hin17 : own_in (p1 + (1 : Int32)) n_w_start_a0) (hc18 : i4 < (g_w_start_a0 ((p1 + (1 : Int32))).toNatClampNeg)) (hin27 : own_in i4 n_w_day_a0) (hc29 : ¬ ((g_w_day_a0 (i4).toNatClampNeg) < p2)) (hin38 : own_in i4 n_w_day_a0) (hc40 : (g_w_day_a0 (i4).toNatClampNeg) < p3) :
    ∃ (T' : State) (L' : List Loc), Stand p l e R s m args below meth c T' L' cells slots ∧ Fr n0 L' ∧ T'.heap = h0 ∧ ∀ target, Steps p.tables e below (T'.setTop (mkF m 43 #[.val (.ref a0), .val (.int p1), .val (.int p2), .val (.int p3), .val (.int i4)] [])) target → Steps p.tables e below (T0.setTop (mkF m 8 #[.val (.ref a0), .val (.int p1), .val (.int p2), .val (.int p3), .val (.int i4)] [])) target := by
  obtain ⟨T1, X1, e1, st1⟩ := getF X0 hx hZ hown (host := "") (Or.inl (hw _ (List.mem_of_getElem? (i := 22) rfl))) Via.refl e0 F_start_a0 (g := (mkF m 11 #[.val (.ref a0), .val (.int p1), .val (.int p2), .val (.int p3), .val (.int i4)] [(.ref a0), (.int i4)])) rfl rfl (hb hby d4_11)
  obtain ⟨T2, X2, e2, st2⟩ := getF X1 hx hZ hown (host := "") (Or.inl (hw _ (List.mem_of_getElem? (i := 24) rfl))) Via.refl e1 F_day_a0 (g := (mkF m 22 #[.val (.ref a0), .val (.int p1), .val (.int p2), .val (.int p3), .val (.int i4)] [(.ref a0)])) rfl rfl (hb hby d4_22)
  obtain ⟨T3, X3, e3, st3⟩ := getF X2 hx hZ hown (host := "") (Or.inl (hw _ (List.mem_of_getElem? (i := 24) rfl))) Via.refl e2 F_day_a0 (g := (mkF m 33 #[.val (.ref a0), .val (.int p1), .val (.int p2), .val (.int p3), .val (.int i4)] [(.ref a0)])) rfl rfl (hb hby d4_33)
  refine ⟨T3, _, X3, N0, e3, fun target kt => ?_⟩
  show Steps p.tables e below (T0.setTop (mkF m 8 #[.val (.ref a0), .val (.int p1), .val (.int p2), .val (.int p3), .val (.int i4)] [])) _
  refine XS.iload X0.here hx rfl (hb hby d4_8) rfl ?_
  show Steps p.tables e below (T0.setTop (mkF m 10 #[.val (.ref a0), .val (.int p1), .val (.int p2), .val (.int p3), .val (.int i4)] [(.int i4)])) _
  refine XS.aloadN X0.here hx rfl (hb hby d4_10) rfl rfl ?_
  show Steps p.tables e below (T0.setTop (mkF m 11 #[.val (.ref a0), .val (.int p1), .val (.int p2), .val (.int p3), .val (.int i4)] [(.ref a0), (.int i4)])) _
  refine st1 _ ?_
  show Steps p.tables e below (T1.setTop (mkF m 14 #[.val (.ref a0), .val (.int p1), .val (.int p2), .val (.int p3), .val (.int i4)] [(.ref w_start_a0), (.int i4)])) _
  refine XS.iloadN X1.here hx rfl (hb hby d4_14) rfl ?_
  show Steps p.tables e below (T1.setTop (mkF m 15 #[.val (.ref a0), .val (.int p1), .val (.int p2), .val (.int p3), .val (.int i4)] [(.int p1), (.ref w_start_a0), (.int i4)])) _
  refine XS.iconst X1.here hx rfl (hb hby d4_15) ?_
  show Steps p.tables e below (T1.setTop (mkF m 16 #[.val (.ref a0), .val (.int p1), .val (.int p2), .val (.int p3), .val (.int i4)] [(.int (1 : Int32)), (.int p1), (.ref w_start_a0), (.int i4)])) _
  refine XS.iadd X1.here hx rfl (hb hby d4_16) rfl ?_
  show Steps p.tables e below (T1.setTop (mkF m 17 #[.val (.ref a0), .val (.int p1), .val (.int p2), .val (.int p3), .val (.int i4)] [(.int (p1 + (1 : Int32))), (.ref w_start_a0), (.int i4)])) _
  refine AF.ldI X1 hx hZ e1 A_w_start_a0 hin17 (g := (mkF m 17 #[.val (.ref a0), .val (.int p1), .val (.int p2), .val (.int p3), .val (.int i4)] [(.int (p1 + (1 : Int32))), (.ref w_start_a0), (.int i4)])) rfl rfl (hb hby d4_17) _ ?_
  show Steps p.tables e below (T1.setTop (mkF m 18 #[.val (.ref a0), .val (.int p1), .val (.int p2), .val (.int p3), .val (.int i4)] [(.int (g_w_start_a0 ((p1 + (1 : Int32))).toNatClampNeg)), (.int i4)])) _
  refine XS.icmpNo X1.here hx rfl (hb hby d4_18) rfl (tlt hc18).2.1 ?_
  show Steps p.tables e below (T1.setTop (mkF m 21 #[.val (.ref a0), .val (.int p1), .val (.int p2), .val (.int p3), .val (.int i4)] [])) _
  refine XS.aloadN X1.here hx rfl (hb hby d4_21) rfl rfl ?_
  show Steps p.tables e below (T1.setTop (mkF m 22 #[.val (.ref a0), .val (.int p1), .val (.int p2), .val (.int p3), .val (.int i4)] [(.ref a0)])) _
  refine st2 _ ?_
  show Steps p.tables e below (T2.setTop (mkF m 25 #[.val (.ref a0), .val (.int p1), .val (.int p2), .val (.int p3), .val (.int i4)] [(.ref w_day_a0)])) _
  refine XS.iload X2.here hx rfl (hb hby d4_25) rfl ?_
  show Steps p.tables e below (T2.setTop (mkF m 27 #[.val (.ref a0), .val (.int p1), .val (.int p2), .val (.int p3), .val (.int i4)] [(.int i4), (.ref w_day_a0)])) _
  refine AF.ldI X2 hx hZ e2 A_w_day_a0 hin27 (g := (mkF m 27 #[.val (.ref a0), .val (.int p1), .val (.int p2), .val (.int p3), .val (.int i4)] [(.int i4), (.ref w_day_a0)])) rfl rfl (hb hby d4_27) _ ?_
  show Steps p.tables e below (T2.setTop (mkF m 28 #[.val (.ref a0), .val (.int p1), .val (.int p2), .val (.int p3), .val (.int i4)] [(.int (g_w_day_a0 (i4).toNatClampNeg))])) _
  refine XS.iloadN X2.here hx rfl (hb hby d4_28) rfl ?_
  show Steps p.tables e below (T2.setTop (mkF m 29 #[.val (.ref a0), .val (.int p1), .val (.int p2), .val (.int p3), .val (.int i4)] [(.int p2), (.int (g_w_day_a0 (i4).toNatClampNeg))])) _
  refine XS.icmpNo X2.here hx rfl (hb hby d4_29) rfl (flt hc29).1 ?_
  show Steps p.tables e below (T2.setTop (mkF m 32 #[.val (.ref a0), .val (.int p1), .val (.int p2), .val (.int p3), .val (.int i4)] [])) _
  refine XS.aloadN X2.here hx rfl (hb hby d4_32) rfl rfl ?_
  show Steps p.tables e below (T2.setTop (mkF m 33 #[.val (.ref a0), .val (.int p1), .val (.int p2), .val (.int p3), .val (.int i4)] [(.ref a0)])) _
  refine st3 _ ?_
  show Steps p.tables e below (T3.setTop (mkF m 36 #[.val (.ref a0), .val (.int p1), .val (.int p2), .val (.int p3), .val (.int i4)] [(.ref w_day_a0)])) _
  refine XS.iload X3.here hx rfl (hb hby d4_36) rfl ?_
  show Steps p.tables e below (T3.setTop (mkF m 38 #[.val (.ref a0), .val (.int p1), .val (.int p2), .val (.int p3), .val (.int i4)] [(.int i4), (.ref w_day_a0)])) _
  refine AF.ldI X3 hx hZ e3 A_w_day_a0 hin38 (g := (mkF m 38 #[.val (.ref a0), .val (.int p1), .val (.int p2), .val (.int p3), .val (.int i4)] [(.int i4), (.ref w_day_a0)])) rfl rfl (hb hby d4_38) _ ?_
  show Steps p.tables e below (T3.setTop (mkF m 39 #[.val (.ref a0), .val (.int p1), .val (.int p2), .val (.int p3), .val (.int i4)] [(.int (g_w_day_a0 (i4).toNatClampNeg))])) _
  refine XS.iloadN X3.here hx rfl (hb hby d4_39) rfl ?_
  show Steps p.tables e below (T3.setTop (mkF m 40 #[.val (.ref a0), .val (.int p1), .val (.int p2), .val (.int p3), .val (.int i4)] [(.int p3), (.int (g_w_day_a0 (i4).toNatClampNeg))])) _
  refine XS.icmpNo X3.here hx rfl (hb hby d4_40) rfl (tlt hc40).2.1 ?_
  exact kt
set_option maxRecDepth 65536 in
set_option maxHeartbeats 40000000 in
theorem tnD {p : Program} {l : Launch} {e : Env} {R : Room} {s : State} {m : MethodId} {args : Array Value} {below : List Frame} {meth : Method} {c : Code} {T0 : State} {locs : List Loc} {cells slots : Nat} {Z : State} {A0 : Array Value} (a0 : Addr) (p1 : Int32) (p2 : Int32) (p3 : Int32) (i4 : Int32) (w_start_a0 : Addr) (n_w_start_a0 : Nat) (g_w_start_a0 : Nat → Int32) {h0 : Heap} {n0 : Nat}
    (X0 : Stand p l e R s m args below meth c T0 locs cells slots) (hx : p.tables.exec = Jvm.exec) (hZ : Z.Warmed39 s.vm) (hw : ∀ d ∈ tables_1, d.before A0 Z = true) (hby : c.code = prog_14_method_6_code) (hml : c.maxLocals = 5) (hown : s.vm.findClass "com/example/ezra/ezra/Lineup" = some m.cls) (e0 : T0.heap = h0) (N0 : Fr n0 locs) (F_start_a0 : Fld Z h0 a0 "com/example/ezra/ezra/Lineup" "start" "[I" (.ref w_start_a0)) (A_w_start_a0 : AF Z h0 w_start_a0 .int n_w_start_a0 (fun j => .int (g_w_start_a0 j))) (hin17 : own_in (p1 + (1 : Int32)) n_w_start_a0) (hc18 : ¬ (i4 < (g_w_start_a0 ((p1 + (1 : Int32))).toNatClampNeg))) :
    ∃ (T' : State) (L' : List Loc), Stand p l e R s m args below meth c T' L' cells slots ∧ Fr n0 L' ∧ T'.heap = h0 ∧ ∀ target, Steps p.tables e below (T'.setTop (mkF m 51 #[.val (.ref a0), .val (.int p1), .val (.int p2), .val (.int p3), .val (.int i4)] [])) target → Steps p.tables e below (T0.setTop (mkF m 8 #[.val (.ref a0), .val (.int p1), .val (.int p2), .val (.int p3), .val (.int i4)] [])) target := by
  obtain ⟨T1, X1, e1, st1⟩ := getF X0 hx hZ hown (host := "") (Or.inl (hw _ (List.mem_of_getElem? (i := 22) rfl))) Via.refl e0 F_start_a0 (g := (mkF m 11 #[.val (.ref a0), .val (.int p1), .val (.int p2), .val (.int p3), .val (.int i4)] [(.ref a0), (.int i4)])) rfl rfl (hb hby d4_11)
  refine ⟨T1, _, X1, N0, e1, fun target kt => ?_⟩
  show Steps p.tables e below (T0.setTop (mkF m 8 #[.val (.ref a0), .val (.int p1), .val (.int p2), .val (.int p3), .val (.int i4)] [])) _
  refine XS.iload X0.here hx rfl (hb hby d4_8) rfl ?_
  show Steps p.tables e below (T0.setTop (mkF m 10 #[.val (.ref a0), .val (.int p1), .val (.int p2), .val (.int p3), .val (.int i4)] [(.int i4)])) _
  refine XS.aloadN X0.here hx rfl (hb hby d4_10) rfl rfl ?_
  show Steps p.tables e below (T0.setTop (mkF m 11 #[.val (.ref a0), .val (.int p1), .val (.int p2), .val (.int p3), .val (.int i4)] [(.ref a0), (.int i4)])) _
  refine st1 _ ?_
  show Steps p.tables e below (T1.setTop (mkF m 14 #[.val (.ref a0), .val (.int p1), .val (.int p2), .val (.int p3), .val (.int i4)] [(.ref w_start_a0), (.int i4)])) _
  refine XS.iloadN X1.here hx rfl (hb hby d4_14) rfl ?_
  show Steps p.tables e below (T1.setTop (mkF m 15 #[.val (.ref a0), .val (.int p1), .val (.int p2), .val (.int p3), .val (.int i4)] [(.int p1), (.ref w_start_a0), (.int i4)])) _
  refine XS.iconst X1.here hx rfl (hb hby d4_15) ?_
  show Steps p.tables e below (T1.setTop (mkF m 16 #[.val (.ref a0), .val (.int p1), .val (.int p2), .val (.int p3), .val (.int i4)] [(.int (1 : Int32)), (.int p1), (.ref w_start_a0), (.int i4)])) _
  refine XS.iadd X1.here hx rfl (hb hby d4_16) rfl ?_
  show Steps p.tables e below (T1.setTop (mkF m 17 #[.val (.ref a0), .val (.int p1), .val (.int p2), .val (.int p3), .val (.int i4)] [(.int (p1 + (1 : Int32))), (.ref w_start_a0), (.int i4)])) _
  refine AF.ldI X1 hx hZ e1 A_w_start_a0 hin17 (g := (mkF m 17 #[.val (.ref a0), .val (.int p1), .val (.int p2), .val (.int p3), .val (.int i4)] [(.int (p1 + (1 : Int32))), (.ref w_start_a0), (.int i4)])) rfl rfl (hb hby d4_17) _ ?_
  show Steps p.tables e below (T1.setTop (mkF m 18 #[.val (.ref a0), .val (.int p1), .val (.int p2), .val (.int p3), .val (.int i4)] [(.int (g_w_start_a0 ((p1 + (1 : Int32))).toNatClampNeg)), (.int i4)])) _
  refine XS.icmpYes X1.here hx rfl (pc0 := 18) (pc' := 51) rfl (hb hby d4_18) rfl (flt hc18).2.1 (by decide) (by decide) ?_
  exact kt

def own_any (g : Nat → Int32) (f e : Int32) (i : Nat) : Nat → Bool
  | 0 => false
  | k + 1 => (!decide (g i < f) && decide (g i < e)) || own_any g f e (i + 1) k
theorem loop4 {p : Program} {l : Launch} {e : Env} {R : Room} {s : State} {m : MethodId} {args : Array Value} {below : List Frame} {meth : Method} {c : Code} {cells slots : Nat} {Z : State} {A0 : Array Value} (a0 : Addr) (p1 p2 p3 : Int32) (wst : Addr) (ns : Nat) (gs : Nat → Int32) (wd : Addr) (nd : Nat) (gd : Nat → Int32) {h0 : Heap} {n0 : Nat}
    (hx : p.tables.exec = Jvm.exec) (hZ : Z.Warmed39 s.vm) (hw : ∀ d ∈ tables_1, d.before A0 Z = true) (hby : c.code = prog_14_method_6_code) (hml : c.maxLocals = 5) (hown : s.vm.findClass "com/example/ezra/ezra/Lineup" = some m.cls)
    (F1 : Fld Z h0 a0 "com/example/ezra/ezra/Lineup" "start" "[I" (.ref wst)) (A1 : AF Z h0 wst .int ns (fun j => .int (gs j))) (F2 : Fld Z h0 a0 "com/example/ezra/ezra/Lineup" "day" "[I" (.ref wd)) (A2 : AF Z h0 wd .int nd (fun j => .int (gd j)))
    (h17 : own_in (p1 + (1 : Int32)) ns) (hhi : (gs ((p1 + (1 : Int32))).toNatClampNeg).toInt ≤ nd) (k : Nat) :
    ∀ (i4 : Int32) (T0 : State) (locs : List Loc), Stand p l e R s m args below meth c T0 locs cells slots → T0.heap = h0 → Fr n0 locs → 0 ≤ i4.toInt → (gs ((p1 + (1 : Int32))).toNatClampNeg).toInt - i4.toInt = (k : Int) →
    ∃ (T' : State) (L' : List Loc) (i' : Int32), Stand p l e R s m args below meth c T' L' cells slots ∧ Fr n0 L' ∧ T'.heap = h0 ∧
      ((own_any gd p2 p3 i4.toNatClampNeg k = true ∧ ∀ target, Steps p.tables e below (T'.setTop (mkF m 43 #[.val (.ref a0), .val (.int p1), .val (.int p2), .val (.int p3), .val (.int i')] [])) target → Steps p.tables e below (T0.setTop (mkF m 8 #[.val (.ref a0), .val (.int p1), .val (.int p2), .val (.int p3), .val (.int i4)] [])) target) ∨
       (own_any gd p2 p3 i4.toNatClampNeg k = false ∧ ∀ target, Steps p.tables e below (T'.setTop (mkF m 51 #[.val (.ref a0), .val (.int p1), .val (.int p2), .val (.int p3), .val (.int i')] [])) target → Steps p.tables e below (T0.setTop (mkF m 8 #[.val (.ref a0), .val (.int p1), .val (.int p2), .val (.int p3), .val (.int i4)] [])) target)) := by
  induction k with
  | zero =>
    intro i4 T0 locs X0 e0 N0 hi0 hk
    obtain ⟨T', L', X', N', e', st⟩ := tnD a0 p1 p2 p3 i4 wst ns gs X0 hx hZ hw hby hml hown e0 N0 F1 A1 h17 (by rw [Int32.lt_iff_toInt_lt]; omega)
    exact ⟨T', L', i4, X', N', e', Or.inr ⟨rfl, st⟩⟩
  | succ k ih =>
    intro i4 T0 locs X0 e0 N0 hi0 hk
    have hlt : i4 < gs ((p1 + (1 : Int32))).toNatClampNeg := by rw [Int32.lt_iff_toInt_lt]; omega
    have hin : own_in i4 nd := ⟨hi0, by omega⟩
    have hsm := A2.small
    have inc : (i4 + (1 : Int32)).toInt = i4.toInt + 1 := by
      have z1 := c_iadd i4 1
      have z2 := rng32 (i4 + 1)
      have z3 : (1 : Int32).toInt = 1 := by decide
      rw [z3] at z1
      omega
    have idx : (i4 + (1 : Int32)).toNatClampNeg = i4.toNatClampNeg + 1 := by
      show (i4 + (1 : Int32)).toInt.toNat = i4.toInt.toNat + 1
      omega
    by_cases c1 : gd i4.toNatClampNeg < p2
    · obtain ⟨T', L', X', N', e', st⟩ := tnA a0 p1 p2 p3 i4 wst ns gs wd nd gd X0 hx hZ hw hby hml hown e0 N0 F1 A1 F2 A2 h17 hlt hin c1
      obtain ⟨T2, L2, i2, X2, N2, e2, r⟩ := ih (i4 + (1 : Int32)) T' L' X' e' N' (by omega) (by omega)
      rw [idx] at r
      have q : own_any gd p2 p3 i4.toNatClampNeg (k + 1) = own_any gd p2 p3 (i4.toNatClampNeg + 1) k := by simp [own_any, c1]
      refine ⟨T2, L2, i2, X2, N2, e2, ?_⟩
      rw [q]
      rcases r with ⟨r1, r2⟩ | ⟨r1, r2⟩
      · exact Or.inl ⟨r1, fun t kt => st t (r2 t kt)⟩
      · exact Or.inr ⟨r1, fun t kt => st t (r2 t kt)⟩
    · by_cases c2 : gd i4.toNatClampNeg < p3
      · obtain ⟨T', L', X', N', e', st⟩ := tnC a0 p1 p2 p3 i4 wst ns gs wd nd gd X0 hx hZ hw hby hml hown e0 N0 F1 A1 F2 A2 h17 hlt hin c1 hin c2
        exact ⟨T', L', i4, X', N', e', Or.inl ⟨by simp [own_any, c1, c2], st⟩⟩
      · obtain ⟨T', L', X', N', e', st⟩ := tnB a0 p1 p2 p3 i4 wst ns gs wd nd gd X0 hx hZ hw hby hml hown e0 N0 F1 A1 F2 A2 h17 hlt hin c1 hin c2
        obtain ⟨T2, L2, i2, X2, N2, e2, r⟩ := ih (i4 + (1 : Int32)) T' L' X' e' N' (by omega) (by omega)
        rw [idx] at r
        have q : own_any gd p2 p3 i4.toNatClampNeg (k + 1) = own_any gd p2 p3 (i4.toNatClampNeg + 1) k := by simp [own_any, c1, c2]
        refine ⟨T2, L2, i2, X2, N2, e2, ?_⟩
        rw [q]
        rcases r with ⟨r1, r2⟩ | ⟨r1, r2⟩
        · exact Or.inl ⟨r1, fun t kt => st t (r2 t kt)⟩
        · exact Or.inr ⟨r1, fun t kt => st t (r2 t kt)⟩

theorem ef_4 (m : MethodId) (a0 : Addr) (p1 : Int32) (p2 : Int32) (p3 : Int32) : entryFrame m #[(.ref a0), (.int p1), (.int p2), (.int p3)] 5 = mkF m 0 #[.val (.ref a0), .val (.int p1), .val (.int p2), .val (.int p3), .unset] [] := by first | (simp [entryFrame, mkF, argsToLocals, Value.category]; done) | rfl
def Q4 (Z : State) (a0 : Addr) (p1 : Int32) (p2 : Int32) (p3 : Int32) (w_days_a0 : Value) (w_numbers_a0 : Value) (w_start_a0 : Addr) (w_day_a0 : Addr) (w_position_a0 : Value) (n_w_start_a0 : Nat) (g_w_start_a0 : Nat → Int32) (n_w_day_a0 : Nat) (g_w_day_a0 : Nat → Int32) (h0 : Heap) (n0 : Nat) (v : Option Value) (h : Heap) (L : List Loc) : Prop := v = some (.int (if own_any g_w_day_a0 p2 p3 ((g_w_start_a0 (p1).toNatClampNeg)).toNatClampNeg ((g_w_start_a0 ((p1 + (1 : Int32))).toNatClampNeg).toInt - (g_w_start_a0 (p1).toNatClampNeg).toInt).toNat = true then (1 : Int32) else (0 : Int32))) ∧ Fr n0 L ∧ h = h0
set_option maxRecDepth 65536 in
set_option maxHeartbeats 40000000 in
theorem rm4 (l : Launch) (Z : State) (A0 : Array Value) (hw : ∀ d ∈ tables_1, d.before A0 Z = true) (ws : List Jvm.Cond) (a0 : Addr) (p1 : Int32) (p2 : Int32) (p3 : Int32) (w_days_a0 : Value) (w_numbers_a0 : Value) (w_start_a0 : Addr) (w_day_a0 : Addr) (w_position_a0 : Value) (n_w_start_a0 : Nat) (g_w_start_a0 : Nat → Int32) (n_w_day_a0 : Nat) (g_w_day_a0 : Nat → Int32) (h0 : Heap) (n0 : Nat) (Z0 : n0 ≤ h0.size) (E_a0 : Exa Z h0 a0 "com/example/ezra/ezra/Lineup") (F_days_a0 : Fld Z h0 a0 "com/example/ezra/ezra/Lineup" "days" "Ljava/util/List;" w_days_a0) (F_numbers_a0 : Fld Z h0 a0 "com/example/ezra/ezra/Lineup" "numbers" "[J" w_numbers_a0) (F_start_a0 : Fld Z h0 a0 "com/example/ezra/ezra/Lineup" "start" "[I" (.ref w_start_a0)) (F_day_a0 : Fld Z h0 a0 "com/example/ezra/ezra/Lineup" "day" "[I" (.ref w_day_a0)) (F_position_a0 : Fld Z h0 a0 "com/example/ezra/ezra/Lineup" "position" "[I" w_position_a0) (A_w_start_a0 : AF Z h0 w_start_a0 .int n_w_start_a0 (fun j => .int (g_w_start_a0 j))) (A_w_day_a0 : AF Z h0 w_day_a0 .int n_w_day_a0 (fun j => .int (g_w_day_a0 j))) (hin5 : own_in p1 n_w_start_a0) (hin17 : own_in (p1 + (1 : Int32)) n_w_start_a0) (hhi : (g_w_start_a0 ((p1 + (1 : Int32))).toNatClampNeg).toInt ≤ n_w_day_a0) (hlo : 0 ≤ (g_w_start_a0 (p1).toNatClampNeg).toInt) (hle : (g_w_start_a0 (p1).toNatClampNeg).toInt ≤ (g_w_start_a0 ((p1 + (1 : Int32))).toNatClampNeg).toInt) :
    MetFree l (⟨"com/example/ezra/ezra/Lineup", "has", "(III)Z"⟩ : MethodName) (head1 (Jvm.Cond.code (⟨"com/example/ezra/ezra/Lineup", "has", "(III)Z"⟩ : MethodName) prog_14_method_6_code 5 (some .boolean) :: ws) ({ frames := 0, cells := 0, slots := 0, locals := 0 } : Room)) (fun a U => a = #[(.ref a0), (.int p1), (.int p2), (.int p3)] ∧ Z.Warmed39 U.vm ∧ U.heap = h0) (fun _ _ _ _ _ => True) (fun _ U o U' => ∃ v L, o = .returned v ∧ Q4 Z a0 p1 p2 p3 w_days_a0 w_numbers_a0 w_start_a0 w_day_a0 w_position_a0 n_w_start_a0 g_w_start_a0 n_w_day_a0 g_w_day_a0 h0 n0 v U'.heap L ∧ FrameEnd U o U' L ({ frames := 0, cells := 0, slots := 0, locals := 0 } : Room).cells ({ frames := 0, cells := 0, slots := 0, locals := 0 } : Room).slots) := by
  refine MetFree.of_bodySF (plainFor_of_name pn_4) hisR ?_
  intro p e s m args below meth c s₁ Bd hml0 hP hK
  obtain ⟨rfl, hZ, hh⟩ := hP
  have hx := Bd.exec
  have hby := Bd.bytes
  have hml : c.maxLocals = 5 := hml0
  have hown : s.vm.findClass "com/example/ezra/ezra/Lineup" = some m.cls := findClass_of_methodNamed Bd.named
  have hnm := (name_of_methodNamed Bd.named Bd.method).1
  have X0 : Stand p l e ({ frames := 0, cells := 0, slots := 0, locals := 0 } : Room) s m #[(.ref a0), (.int p1), (.int p2), (.int p3)] below meth c s₁ [] 0 0 := Stand.of_body Bd
  have e0 : s₁.heap = h0 := by rw [← hh, Bd.state]; rfl
  have N0 := Fr.nil n0
  have pre0 : ∀ t, Steps p.tables e below (s₁.setTop (mkF m 0 #[.val (.ref a0), .val (.int p1), .val (.int p2), .val (.int p3), .unset] [])) t → Steps p.tables e below (s₁.setTop (entryFrame m #[(.ref a0), (.int p1), (.int p2), (.int p3)] 5)) t := fun t k => castTop (ef_4 m a0 p1 p2 p3) k
  obtain ⟨T1, X1, e1, st1⟩ := getF X0 hx hZ hown (host := "") (Or.inl (hw _ (List.mem_of_getElem? (i := 22) rfl))) Via.refl e0 F_start_a0 (g := (mkF m 1 #[.val (.ref a0), .val (.int p1), .val (.int p2), .val (.int p3), .unset] [(.ref a0)])) rfl rfl (hb hby d4_1)
  have ck2 : ∀ t, Steps p.tables e below (T1.setTop (mkF m 8 #[.val (.ref a0), .val (.int p1), .val (.int p2), .val (.int p3), .val (.int (g_w_start_a0 (p1).toNatClampNeg))] [])) t → Steps p.tables e below (s₁.setTop (mkF m 0 #[.val (.ref a0), .val (.int p1), .val (.int p2), .val (.int p3), .unset] [])) t := by
    intro t kt
    show Steps p.tables e below (s₁.setTop (mkF m 0 #[.val (.ref a0), .val (.int p1), .val (.int p2), .val (.int p3), .unset] [])) _
    refine XS.aloadN X0.here hx rfl (hb hby d4_0) rfl rfl ?_
    show Steps p.tables e below (s₁.setTop (mkF m 1 #[.val (.ref a0), .val (.int p1), .val (.int p2), .val (.int p3), .unset] [(.ref a0)])) _
    refine st1 _ ?_
    show Steps p.tables e below (T1.setTop (mkF m 4 #[.val (.ref a0), .val (.int p1), .val (.int p2), .val (.int p3), .unset] [(.ref w_start_a0)])) _
    refine XS.iloadN X1.here hx rfl (hb hby d4_4) rfl ?_
    show Steps p.tables e below (T1.setTop (mkF m 5 #[.val (.ref a0), .val (.int p1), .val (.int p2), .val (.int p3), .unset] [(.int p1), (.ref w_start_a0)])) _
    refine AF.ldI X1 hx hZ e1 A_w_start_a0 hin5 (g := (mkF m 5 #[.val (.ref a0), .val (.int p1), .val (.int p2), .val (.int p3), .unset] [(.int p1), (.ref w_start_a0)])) rfl rfl (hb hby d4_5) _ ?_
    show Steps p.tables e below (T1.setTop (mkF m 6 #[.val (.ref a0), .val (.int p1), .val (.int p2), .val (.int p3), .unset] [(.int (g_w_start_a0 (p1).toNatClampNeg))])) _
    refine XS.istore X1.here hx rfl (hb hby d4_6) rfl (l' := #[.val (.ref a0), .val (.int p1), .val (.int p2), .val (.int p3), .val (.int (g_w_start_a0 (p1).toNatClampNeg))]) rfl ?_
    exact kt
  obtain ⟨T3, L3, i3, X3, N3, e3, r3⟩ := loop4 a0 p1 p2 p3 w_start_a0 n_w_start_a0 g_w_start_a0 w_day_a0 n_w_day_a0 g_w_day_a0 hx hZ hw hby hml hown F_start_a0 A_w_start_a0 F_day_a0 A_w_day_a0 hin17 hhi ((g_w_start_a0 ((p1 + (1 : Int32))).toNatClampNeg).toInt - (g_w_start_a0 (p1).toNatClampNeg).toInt).toNat (g_w_start_a0 (p1).toNatClampNeg) T1 _ X1 e1 N0 hlo (by omega)
  rcases r3 with ⟨q3, z3⟩ | ⟨q3, z3⟩
  · obtain ⟨fs, hr, hrun, hended, hW, hsame⟩ := X3.leave (v := some (.int (1 : Int32))) (fun h => by rw [Bd.returns] at h; cases h)
    refine ⟨_, _, pre0 _ (ck2 _ ?_), hrun, hended, _, _, rfl, ?_, ⟨_, rfl⟩, hW, hsame.mono (by decide) (by decide)⟩
    · show Steps p.tables e below (T1.setTop (mkF m 8 #[.val (.ref a0), .val (.int p1), .val (.int p2), .val (.int p3), .val (.int (g_w_start_a0 (p1).toNatClampNeg))] [])) _
      refine z3 _ ?_
      show Steps p.tables e below (T3.setTop (mkF m 43 #[.val (.ref a0), .val (.int p1), .val (.int p2), .val (.int p3), .val (.int i3)] [])) _
      refine XS.iconst X3.here hx rfl (hb hby d4_43) ?_
      show Steps p.tables e below (T3.setTop (mkF m 44 #[.val (.ref a0), .val (.int p1), .val (.int p2), .val (.int p3), .val (.int i3)] [(.int (1 : Int32))])) _
      exact retN X3 hx (t := .boolean) Bd.returns (by simp) (hb hby d4_44) hr
    · show Q4 Z a0 p1 p2 p3 w_days_a0 w_numbers_a0 w_start_a0 w_day_a0 w_position_a0 n_w_start_a0 g_w_start_a0 n_w_day_a0 g_w_day_a0 h0 n0 _ T3.heap _
      exact ⟨(congrArg (fun z => some (Value.int z)) ((if_pos q3).symm : (1 : Int32) = (if own_any g_w_day_a0 p2 p3 ((g_w_start_a0 (p1).toNatClampNeg)).toNatClampNeg ((g_w_start_a0 ((p1 + (1 : Int32))).toNatClampNeg).toInt - (g_w_start_a0 (p1).toNatClampNeg).toInt).toNat = true then (1 : Int32) else (0 : Int32)))), N3, e3⟩
  · obtain ⟨fs, hr, hrun, hended, hW, hsame⟩ := X3.leave (v := some (.int (0 : Int32))) (fun h => by rw [Bd.returns] at h; cases h)
    refine ⟨_, _, pre0 _ (ck2 _ ?_), hrun, hended, _, _, rfl, ?_, ⟨_, rfl⟩, hW, hsame.mono (by decide) (by decide)⟩
    · show Steps p.tables e below (T1.setTop (mkF m 8 #[.val (.ref a0), .val (.int p1), .val (.int p2), .val (.int p3), .val (.int (g_w_start_a0 (p1).toNatClampNeg))] [])) _
      refine z3 _ ?_
      show Steps p.tables e below (T3.setTop (mkF m 51 #[.val (.ref a0), .val (.int p1), .val (.int p2), .val (.int p3), .val (.int i3)] [])) _
      refine XS.iconst X3.here hx rfl (hb hby d4_51) ?_
      show Steps p.tables e below (T3.setTop (mkF m 52 #[.val (.ref a0), .val (.int p1), .val (.int p2), .val (.int p3), .val (.int i3)] [(.int (0 : Int32))])) _
      exact retN X3 hx (t := .boolean) Bd.returns (by simp) (hb hby d4_52) hr
    · show Q4 Z a0 p1 p2 p3 w_days_a0 w_numbers_a0 w_start_a0 w_day_a0 w_position_a0 n_w_start_a0 g_w_start_a0 n_w_day_a0 g_w_day_a0 h0 n0 _ T3.heap _
      exact ⟨(congrArg (fun z => some (Value.int z)) ((if_neg (by rw [q3]; decide)).symm : (0 : Int32) = (if own_any g_w_day_a0 p2 p3 ((g_w_start_a0 (p1).toNatClampNeg)).toNatClampNeg ((g_w_start_a0 ((p1 + (1 : Int32))).toNatClampNeg).toInt - (g_w_start_a0 (p1).toNatClampNeg).toInt).toNat = true then (1 : Int32) else (0 : Int32)))), N3, e3⟩
theorem ef_2 (m : MethodId) (a0 : Addr) : entryFrame m #[(.ref a0)] 1 = mkF m 0 #[.val (.ref a0)] [] := by first | (simp [entryFrame, mkF, argsToLocals, Value.category]; done) | rfl
def Q2 (Z : State) (a0 : Addr) (h0 : Heap) (n0 : Nat) (v : Option Value) (h : Heap) (L : List Loc) : Prop := v = none ∧ Fr n0 L ∧ h = h0
set_option maxRecDepth 65536 in
set_option maxHeartbeats 40000000 in
theorem rm2 (l : Launch) (Z : State) (A0 : Array Value) (hw : ∀ d ∈ tables_1, d.before A0 Z = true) (ws : List Jvm.Cond) (a0 : Addr) (h0 : Heap) (n0 : Nat) (Z0 : n0 ≤ h0.size) :
    MetFree l (⟨"java/lang/Record", "<init>", "()V"⟩ : MethodName) (head1 (Jvm.Cond.code (⟨"java/lang/Record", "<init>", "()V"⟩ : MethodName) jdk_30_method_1_code 1 none :: ws) ({ frames := 1, cells := 0, slots := 0, locals := 12 } : Room)) (fun a U => a = #[(.ref a0)] ∧ Z.Warmed39 U.vm ∧ U.heap = h0) (fun _ _ _ _ _ => True) (fun _ U o U' => ∃ v L, o = .returned v ∧ Q2 Z a0 h0 n0 v U'.heap L ∧ FrameEnd U o U' L ({ frames := 1, cells := 0, slots := 0, locals := 12 } : Room).cells ({ frames := 1, cells := 0, slots := 0, locals := 12 } : Room).slots) := by
  refine MetFree.of_bodySF (plainFor_of_name pn_2) hisR ?_
  intro p e s m args below meth c s₁ Bd hml0 hP hK
  obtain ⟨rfl, hZ, hh⟩ := hP
  have hx := Bd.exec
  have hby := Bd.bytes
  have hml : c.maxLocals = 1 := hml0
  have hown : s.vm.findClass "java/lang/Record" = some m.cls := findClass_of_methodNamed Bd.named
  have hnm := (name_of_methodNamed Bd.named Bd.method).1
  have X0 : Stand p l e ({ frames := 1, cells := 0, slots := 0, locals := 12 } : Room) s m #[(.ref a0)] below meth c s₁ [] 0 0 := Stand.of_body Bd
  have e0 : s₁.heap = h0 := by rw [← hh, Bd.state]; rfl
  have N0 := Fr.nil n0
  have pre0 : ∀ t, Steps p.tables e below (s₁.setTop (mkF m 0 #[.val (.ref a0)] [])) t → Steps p.tables e below (s₁.setTop (entryFrame m #[(.ref a0)] 1)) t := fun t k => castTop (ef_2 m a0) k
  obtain ⟨T1, X1, e1, st1⟩ := initO X0 hx hZ hown (hw _ (List.mem_of_getElem? (i := 15) rfl)) (hw _ (List.mem_of_getElem? (i := 16) rfl)) (hw _ (List.mem_of_getElem? (i := 17) rfl)) e0 (g := (mkF m 1 #[.val (.ref a0)] [(.ref a0)])) rfl (by rw [hml]; rfl) rfl (hb hby d2_1) (by decide) (W := 0) (by show 2 * 0 + _ ≤ _; exact Nat.le_of_eq rfl) (by decide)
  obtain ⟨fs, hr, hrun, hended, hW, hsame⟩ := X1.leave (v := none) (fun _ => rfl)
  refine ⟨_, _, pre0 _ ?_, hrun, hended, _, _, rfl, ?_, ⟨_, rfl⟩, hW, hsame.mono (by decide) (by decide)⟩
  · show Steps p.tables e below (s₁.setTop (mkF m 0 #[.val (.ref a0)] [])) _
    refine XS.aloadN X0.here hx rfl (hb hby d2_0) rfl rfl ?_
    show Steps p.tables e below (s₁.setTop (mkF m 1 #[.val (.ref a0)] [(.ref a0)])) _
    refine st1 _ ?_
    show Steps p.tables e below (T1.setTop (mkF m 4 #[.val (.ref a0)] [])) _
    exact X1.returnOut hx Bd.returns (hb hby d2_4) hr
  · show Q2 Z a0 h0 n0 _ T1.heap _
    exact ⟨rfl, N0, e1⟩
theorem ef_1 (m : MethodId) (a0 : Addr) (a2 : Addr) (a3 : Addr) (a4 : Addr) (a5 : Addr) : entryFrame m #[(.ref a0), .null, (.ref a2), (.ref a3), (.ref a4), (.ref a5)] 6 = mkF m 0 #[.val (.ref a0), .val .null, .val (.ref a2), .val (.ref a3), .val (.ref a4), .val (.ref a5)] [] := by first | (simp [entryFrame, mkF, argsToLocals, Value.category]; done) | rfl
def Q1 (Z : State) (a0 : Addr) (a2 : Addr) (a3 : Addr) (a4 : Addr) (a5 : Addr) (w_days_a0 : Value) (w_numbers_a0 : Value) (w_start_a0 : Value) (w_day_a0 : Value) (w_position_a0 : Value) (h0 : Heap) (n0 : Nat) (v : Option Value) (h : Heap) (L : List Loc) : Prop := v = none ∧ Fr n0 L ∧ Keep h0 h [a0] ∧ Exa Z h a0 "com/example/ezra/ezra/Lineup" ∧ Fld Z h a0 "com/example/ezra/ezra/Lineup" "days" "Ljava/util/List;" .null ∧ Fld Z h a0 "com/example/ezra/ezra/Lineup" "numbers" "[J" (.ref a2) ∧ Fld Z h a0 "com/example/ezra/ezra/Lineup" "start" "[I" (.ref a3) ∧ Fld Z h a0 "com/example/ezra/ezra/Lineup" "day" "[I" (.ref a4) ∧ Fld Z h a0 "com/example/ezra/ezra/Lineup" "position" "[I" (.ref a5)
set_option maxRecDepth 65536 in
set_option maxHeartbeats 40000000 in
theorem rm1 (l : Launch) (Z : State) (A0 : Array Value) (hw : ∀ d ∈ tables_1, d.before A0 Z = true) (ws : List Jvm.Cond) (a0 : Addr) (a2 : Addr) (a3 : Addr) (a4 : Addr) (a5 : Addr) (w_days_a0 : Value) (w_numbers_a0 : Value) (w_start_a0 : Value) (w_day_a0 : Value) (w_position_a0 : Value) (h0 : Heap) (n0 : Nat) (Z0 : n0 ≤ h0.size) (E_a0 : Exa Z h0 a0 "com/example/ezra/ezra/Lineup") (F_days_a0 : Fld Z h0 a0 "com/example/ezra/ezra/Lineup" "days" "Ljava/util/List;" w_days_a0) (F_numbers_a0 : Fld Z h0 a0 "com/example/ezra/ezra/Lineup" "numbers" "[J" w_numbers_a0) (F_start_a0 : Fld Z h0 a0 "com/example/ezra/ezra/Lineup" "start" "[I" w_start_a0) (F_day_a0 : Fld Z h0 a0 "com/example/ezra/ezra/Lineup" "day" "[I" w_day_a0) (F_position_a0 : Fld Z h0 a0 "com/example/ezra/ezra/Lineup" "position" "[I" w_position_a0) (nw_a0 : n0 ≤ a0) :
    MetFree l (⟨"com/example/ezra/ezra/Lineup", "<init>", "(Ljava/util/List;[J[I[I[I)V"⟩ : MethodName) (head1 (Jvm.Cond.code (⟨"com/example/ezra/ezra/Lineup", "<init>", "(Ljava/util/List;[J[I[I[I)V"⟩ : MethodName) prog_14_method_1_code 6 none :: ws) ({ frames := 2, cells := 0, slots := 0, locals := 24 } : Room)) (fun a U => a = #[(.ref a0), .null, (.ref a2), (.ref a3), (.ref a4), (.ref a5)] ∧ Z.Warmed39 U.vm ∧ U.heap = h0) (fun _ _ _ _ _ => True) (fun _ U o U' => ∃ v L, o = .returned v ∧ Q1 Z a0 a2 a3 a4 a5 w_days_a0 w_numbers_a0 w_start_a0 w_day_a0 w_position_a0 h0 n0 v U'.heap L ∧ FrameEnd U o U' L ({ frames := 2, cells := 0, slots := 0, locals := 24 } : Room).cells ({ frames := 2, cells := 0, slots := 0, locals := 24 } : Room).slots) := by
  refine MetFree.of_bodySF (plainFor_of_name pn_1) hisR ?_
  intro p e s m args below meth c s₁ Bd hml0 hP hK
  obtain ⟨rfl, hZ, hh⟩ := hP
  have hx := Bd.exec
  have hby := Bd.bytes
  have hml : c.maxLocals = 6 := hml0
  have hown : s.vm.findClass "com/example/ezra/ezra/Lineup" = some m.cls := findClass_of_methodNamed Bd.named
  have hnm := (name_of_methodNamed Bd.named Bd.method).1
  have X0 : Stand p l e ({ frames := 2, cells := 0, slots := 0, locals := 24 } : Room) s m #[(.ref a0), .null, (.ref a2), (.ref a3), (.ref a4), (.ref a5)] below meth c s₁ [] 0 0 := Stand.of_body Bd
  have e0 : s₁.heap = h0 := by rw [← hh, Bd.state]; rfl
  have N0 := Fr.nil n0
  have pre0 : ∀ t, Steps p.tables e below (s₁.setTop (mkF m 0 #[.val (.ref a0), .val .null, .val (.ref a2), .val (.ref a3), .val (.ref a4), .val (.ref a5)] [])) t → Steps p.tables e below (s₁.setTop (entryFrame m #[(.ref a0), .null, (.ref a2), (.ref a3), (.ref a4), (.ref a5)] 6)) t := fun t k => castTop (ef_1 m a0 a2 a3 a4 a5) k
  obtain ⟨_, _, ⟨T1, L1, k1, n1⟩, -, X1, ⟨Lc1, hQ1, l1, y1, z1⟩, st1⟩ := X0.specialBack hx (y := (⟨"java/lang/Record", "<init>", "()V"⟩ : MethodName)) rfl hown (mvT hZ (hw _ (List.mem_of_getElem? (i := 10) rfl))) (mvT hZ (hw _ (List.mem_of_getElem? (i := 11) rfl))) (mvT hZ (hw _ (List.mem_of_getElem? (i := 14) rfl))) (by decide) (backOf (W := 0) (rm2 l Z A0 hw [] a0 h0 n0 (Nat.le_trans Z0 (Keep.refl h0 [a0]).1) ) hZ (hw _ (List.mem_of_getElem? (i := 14) rfl)) (hw _ (List.mem_of_getElem? (i := 13) rfl)) (by decide) (by decide)) (g := (mkF m 1 #[.val (.ref a0), .val .null, .val (.ref a2), .val (.ref a3), .val (.ref a4), .val (.ref a5)] [(.ref a0)])) rfl (by rw [hml]; rfl) (Steps.refl _) (a := a0) (argsL := []) (rest := []) (lenOf pd_1 rfl) rfl (by show 2 * 0 + _ ≤ _; exact Nat.le_of_eq rfl) (hb hby d1_1) (fun _ _ => ⟨rfl, e0, (by decide : 0 + 0 ≤ _), (by decide : 0 + 0 ≤ _)⟩)
  dsimp only [Pt.U, Pt.locs, Pt.cells, Pt.slots] at X1 l1 y1 z1 st1 hQ1
  subst l1 y1 z1
  obtain ⟨rfl, N1q, e1⟩ := hQ1
  have N1 := Fr.app N0 N1q
  obtain ⟨T2, h2, X2, e2, W2, st2⟩ := putF X1 hx hZ hown (host := "") (Or.inl (hw _ (List.mem_of_getElem? (i := 18) rfl))) Via.refl e1 F_days_a0 E_a0 (Or.inr ⟨(hw _ (List.mem_of_getElem? (i := 19) rfl)), rfl, hnm⟩) (hw _ (List.mem_of_getElem? (i := 5) rfl)) (ty := (.object "java/util/List")) (by decide) rfl rfl (g := (mkF m 6 #[.val (.ref a0), .val .null, .val (.ref a2), .val (.ref a3), .val (.ref a4), .val (.ref a5)] [.null, (.ref a0)])) rfl rfl (hb hby d1_6)
  have K2 : Keep h0 h2 [a0] := (Keep.refl h0 [a0]).wr W2 (Or.inl (by simp))
  have Fw2 : Fld Z h2 a0 "com/example/ezra/ezra/Lineup" "days" "Ljava/util/List;" .null := F_days_a0.same W2
  have N2 := Fr.snoc X2 N1 nw_a0
  have G3 : Exa Z h2 a0 "com/example/ezra/ezra/Lineup" := (E_a0.wr W2)
  have G4 : Fld Z h2 a0 "com/example/ezra/ezra/Lineup" "numbers" "[J" w_numbers_a0 := (F_numbers_a0.other W2 (Or.inr (slot_ne (Or.inr (hw _ (List.mem_of_getElem? (i := 21) rfl))) (Or.inr (hw _ (List.mem_of_getElem? (i := 19) rfl))) (by decide) (t := (.array .long)) (t' := (.object "java/util/List")) (by decide) (by decide))))
  obtain ⟨T5, h5, X5, e5, W5, st5⟩ := putF X2 hx hZ hown (host := "") (Or.inl (hw _ (List.mem_of_getElem? (i := 20) rfl))) Via.refl e2 G4 G3 (Or.inr ⟨(hw _ (List.mem_of_getElem? (i := 21) rfl)), rfl, hnm⟩) (hw _ (List.mem_of_getElem? (i := 5) rfl)) (ty := (.array .long)) (by decide) rfl rfl (g := (mkF m 11 #[.val (.ref a0), .val .null, .val (.ref a2), .val (.ref a3), .val (.ref a4), .val (.ref a5)] [(.ref a2), (.ref a0)])) rfl rfl (hb hby d1_11)
  have K5 : Keep h0 h5 [a0] := K2.wr W5 (Or.inl (by simp))
  have Fw5 : Fld Z h5 a0 "com/example/ezra/ezra/Lineup" "numbers" "[J" (.ref a2) := G4.same W5
  have N5 := Fr.snoc X5 N2 nw_a0
  have G6 : Exa Z h5 a0 "com/example/ezra/ezra/Lineup" := (G3.wr W5)
  have G7 : Fld Z h5 a0 "com/example/ezra/ezra/Lineup" "start" "[I" w_start_a0 := ((F_start_a0.other W2 (Or.inr (slot_ne (Or.inr (hw _ (List.mem_of_getElem? (i := 23) rfl))) (Or.inr (hw _ (List.mem_of_getElem? (i := 19) rfl))) (by decide) (t := (.array .int)) (t' := (.object "java/util/List")) (by decide) (by decide)))).other W5 (Or.inr (slot_ne (Or.inr (hw _ (List.mem_of_getElem? (i := 23) rfl))) (Or.inr (hw _ (List.mem_of_getElem? (i := 21) rfl))) (by decide) (t := (.array .int)) (t' := (.array .long)) (by decide) (by decide))))
  obtain ⟨T8, h8, X8, e8, W8, st8⟩ := putF X5 hx hZ hown (host := "") (Or.inl (hw _ (List.mem_of_getElem? (i := 22) rfl))) Via.refl e5 G7 G6 (Or.inr ⟨(hw _ (List.mem_of_getElem? (i := 23) rfl)), rfl, hnm⟩) (hw _ (List.mem_of_getElem? (i := 5) rfl)) (ty := (.array .int)) (by decide) rfl rfl (g := (mkF m 16 #[.val (.ref a0), .val .null, .val (.ref a2), .val (.ref a3), .val (.ref a4), .val (.ref a5)] [(.ref a3), (.ref a0)])) rfl rfl (hb hby d1_16)
  have K8 : Keep h0 h8 [a0] := K5.wr W8 (Or.inl (by simp))
  have Fw8 : Fld Z h8 a0 "com/example/ezra/ezra/Lineup" "start" "[I" (.ref a3) := G7.same W8
  have N8 := Fr.snoc X8 N5 nw_a0
  have G9 : Exa Z h8 a0 "com/example/ezra/ezra/Lineup" := (G6.wr W8)
  have G10 : Fld Z h8 a0 "com/example/ezra/ezra/Lineup" "day" "[I" w_day_a0 := (((F_day_a0.other W2 (Or.inr (slot_ne (Or.inr (hw _ (List.mem_of_getElem? (i := 25) rfl))) (Or.inr (hw _ (List.mem_of_getElem? (i := 19) rfl))) (by decide) (t := (.array .int)) (t' := (.object "java/util/List")) (by decide) (by decide)))).other W5 (Or.inr (slot_ne (Or.inr (hw _ (List.mem_of_getElem? (i := 25) rfl))) (Or.inr (hw _ (List.mem_of_getElem? (i := 21) rfl))) (by decide) (t := (.array .int)) (t' := (.array .long)) (by decide) (by decide)))).other W8 (Or.inr (slot_ne (Or.inr (hw _ (List.mem_of_getElem? (i := 25) rfl))) (Or.inr (hw _ (List.mem_of_getElem? (i := 23) rfl))) (by decide) (t := (.array .int)) (t' := (.array .int)) (by decide) (by decide))))
  obtain ⟨T11, h11, X11, e11, W11, st11⟩ := putF X8 hx hZ hown (host := "") (Or.inl (hw _ (List.mem_of_getElem? (i := 24) rfl))) Via.refl e8 G10 G9 (Or.inr ⟨(hw _ (List.mem_of_getElem? (i := 25) rfl)), rfl, hnm⟩) (hw _ (List.mem_of_getElem? (i := 5) rfl)) (ty := (.array .int)) (by decide) rfl rfl (g := (mkF m 22 #[.val (.ref a0), .val .null, .val (.ref a2), .val (.ref a3), .val (.ref a4), .val (.ref a5)] [(.ref a4), (.ref a0)])) rfl rfl (hb hby d1_22)
  have K11 : Keep h0 h11 [a0] := K8.wr W11 (Or.inl (by simp))
  have Fw11 : Fld Z h11 a0 "com/example/ezra/ezra/Lineup" "day" "[I" (.ref a4) := G10.same W11
  have N11 := Fr.snoc X11 N8 nw_a0
  have G12 : Exa Z h11 a0 "com/example/ezra/ezra/Lineup" := (G9.wr W11)
  have G13 : Fld Z h11 a0 "com/example/ezra/ezra/Lineup" "position" "[I" w_position_a0 := ((((F_position_a0.other W2 (Or.inr (slot_ne (Or.inr (hw _ (List.mem_of_getElem? (i := 27) rfl))) (Or.inr (hw _ (List.mem_of_getElem? (i := 19) rfl))) (by decide) (t := (.array .int)) (t' := (.object "java/util/List")) (by decide) (by decide)))).other W5 (Or.inr (slot_ne (Or.inr (hw _ (List.mem_of_getElem? (i := 27) rfl))) (Or.inr (hw _ (List.mem_of_getElem? (i := 21) rfl))) (by decide) (t := (.array .int)) (t' := (.array .long)) (by decide) (by decide)))).other W8 (Or.inr (slot_ne (Or.inr (hw _ (List.mem_of_getElem? (i := 27) rfl))) (Or.inr (hw _ (List.mem_of_getElem? (i := 23) rfl))) (by decide) (t := (.array .int)) (t' := (.array .int)) (by decide) (by decide)))).other W11 (Or.inr (slot_ne (Or.inr (hw _ (List.mem_of_getElem? (i := 27) rfl))) (Or.inr (hw _ (List.mem_of_getElem? (i := 25) rfl))) (by decide) (t := (.array .int)) (t' := (.array .int)) (by decide) (by decide))))
  obtain ⟨T14, h14, X14, e14, W14, st14⟩ := putF X11 hx hZ hown (host := "") (Or.inl (hw _ (List.mem_of_getElem? (i := 26) rfl))) Via.refl e11 G13 G12 (Or.inr ⟨(hw _ (List.mem_of_getElem? (i := 27) rfl)), rfl, hnm⟩) (hw _ (List.mem_of_getElem? (i := 5) rfl)) (ty := (.array .int)) (by decide) rfl rfl (g := (mkF m 28 #[.val (.ref a0), .val .null, .val (.ref a2), .val (.ref a3), .val (.ref a4), .val (.ref a5)] [(.ref a5), (.ref a0)])) rfl rfl (hb hby d1_28)
  have K14 : Keep h0 h14 [a0] := K11.wr W14 (Or.inl (by simp))
  have Fw14 : Fld Z h14 a0 "com/example/ezra/ezra/Lineup" "position" "[I" (.ref a5) := G13.same W14
  have N14 := Fr.snoc X14 N11 nw_a0
  obtain ⟨fs, hr, hrun, hended, hW, hsame⟩ := X14.leave (v := none) (fun _ => rfl)
  refine ⟨_, _, pre0 _ ?_, hrun, hended, _, _, rfl, ?_, ⟨_, rfl⟩, hW, hsame.mono (by decide) (by decide)⟩
  · show Steps p.tables e below (s₁.setTop (mkF m 0 #[.val (.ref a0), .val .null, .val (.ref a2), .val (.ref a3), .val (.ref a4), .val (.ref a5)] [])) _
    refine XS.aloadN X0.here hx rfl (hb hby d1_0) rfl rfl ?_
    show Steps p.tables e below (s₁.setTop (mkF m 1 #[.val (.ref a0), .val .null, .val (.ref a2), .val (.ref a3), .val (.ref a4), .val (.ref a5)] [(.ref a0)])) _
    refine st1.trans ?_
    show Steps p.tables e below (T1.setTop (mkF m 4 #[.val (.ref a0), .val .null, .val (.ref a2), .val (.ref a3), .val (.ref a4), .val (.ref a5)] [])) _
    refine XS.aloadN X1.here hx rfl (hb hby d1_4) rfl rfl ?_
    show Steps p.tables e below (T1.setTop (mkF m 5 #[.val (.ref a0), .val .null, .val (.ref a2), .val (.ref a3), .val (.ref a4), .val (.ref a5)] [(.ref a0)])) _
    refine XS.aloadN X1.here hx rfl (hb hby d1_5) rfl rfl ?_
    show Steps p.tables e below (T1.setTop (mkF m 6 #[.val (.ref a0), .val .null, .val (.ref a2), .val (.ref a3), .val (.ref a4), .val (.ref a5)] [.null, (.ref a0)])) _
    refine st2 _ ?_
    show Steps p.tables e below (T2.setTop (mkF m 9 #[.val (.ref a0), .val .null, .val (.ref a2), .val (.ref a3), .val (.ref a4), .val (.ref a5)] [])) _
    refine XS.aloadN X2.here hx rfl (hb hby d1_9) rfl rfl ?_
    show Steps p.tables e below (T2.setTop (mkF m 10 #[.val (.ref a0), .val .null, .val (.ref a2), .val (.ref a3), .val (.ref a4), .val (.ref a5)] [(.ref a0)])) _
    refine XS.aloadN X2.here hx rfl (hb hby d1_10) rfl rfl ?_
    show Steps p.tables e below (T2.setTop (mkF m 11 #[.val (.ref a0), .val .null, .val (.ref a2), .val (.ref a3), .val (.ref a4), .val (.ref a5)] [(.ref a2), (.ref a0)])) _
    refine st5 _ ?_
    show Steps p.tables e below (T5.setTop (mkF m 14 #[.val (.ref a0), .val .null, .val (.ref a2), .val (.ref a3), .val (.ref a4), .val (.ref a5)] [])) _
    refine XS.aloadN X5.here hx rfl (hb hby d1_14) rfl rfl ?_
    show Steps p.tables e below (T5.setTop (mkF m 15 #[.val (.ref a0), .val .null, .val (.ref a2), .val (.ref a3), .val (.ref a4), .val (.ref a5)] [(.ref a0)])) _
    refine XS.aloadN X5.here hx rfl (hb hby d1_15) rfl rfl ?_
    show Steps p.tables e below (T5.setTop (mkF m 16 #[.val (.ref a0), .val .null, .val (.ref a2), .val (.ref a3), .val (.ref a4), .val (.ref a5)] [(.ref a3), (.ref a0)])) _
    refine st8 _ ?_
    show Steps p.tables e below (T8.setTop (mkF m 19 #[.val (.ref a0), .val .null, .val (.ref a2), .val (.ref a3), .val (.ref a4), .val (.ref a5)] [])) _
    refine XS.aloadN X8.here hx rfl (hb hby d1_19) rfl rfl ?_
    show Steps p.tables e below (T8.setTop (mkF m 20 #[.val (.ref a0), .val .null, .val (.ref a2), .val (.ref a3), .val (.ref a4), .val (.ref a5)] [(.ref a0)])) _
    refine XS.aload X8.here hx rfl (hb hby d1_20) rfl rfl ?_
    show Steps p.tables e below (T8.setTop (mkF m 22 #[.val (.ref a0), .val .null, .val (.ref a2), .val (.ref a3), .val (.ref a4), .val (.ref a5)] [(.ref a4), (.ref a0)])) _
    refine st11 _ ?_
    show Steps p.tables e below (T11.setTop (mkF m 25 #[.val (.ref a0), .val .null, .val (.ref a2), .val (.ref a3), .val (.ref a4), .val (.ref a5)] [])) _
    refine XS.aloadN X11.here hx rfl (hb hby d1_25) rfl rfl ?_
    show Steps p.tables e below (T11.setTop (mkF m 26 #[.val (.ref a0), .val .null, .val (.ref a2), .val (.ref a3), .val (.ref a4), .val (.ref a5)] [(.ref a0)])) _
    refine XS.aload X11.here hx rfl (hb hby d1_26) rfl rfl ?_
    show Steps p.tables e below (T11.setTop (mkF m 28 #[.val (.ref a0), .val .null, .val (.ref a2), .val (.ref a3), .val (.ref a4), .val (.ref a5)] [(.ref a5), (.ref a0)])) _
    refine st14 _ ?_
    show Steps p.tables e below (T14.setTop (mkF m 31 #[.val (.ref a0), .val .null, .val (.ref a2), .val (.ref a3), .val (.ref a4), .val (.ref a5)] [])) _
    exact X14.returnOut hx Bd.returns (hb hby d1_31) hr
  have G15 : Exa Z h14 a0 "com/example/ezra/ezra/Lineup" := (G12.wr W14)
  have G16 : Fld Z h14 a0 "com/example/ezra/ezra/Lineup" "days" "Ljava/util/List;" .null := ((((Fw2.other W5 (Or.inr (slot_ne (Or.inr (hw _ (List.mem_of_getElem? (i := 19) rfl))) (Or.inr (hw _ (List.mem_of_getElem? (i := 21) rfl))) (by decide) (t := (.object "java/util/List")) (t' := (.array .long)) (by decide) (by decide)))).other W8 (Or.inr (slot_ne (Or.inr (hw _ (List.mem_of_getElem? (i := 19) rfl))) (Or.inr (hw _ (List.mem_of_getElem? (i := 23) rfl))) (by decide) (t := (.object "java/util/List")) (t' := (.array .int)) (by decide) (by decide)))).other W11 (Or.inr (slot_ne (Or.inr (hw _ (List.mem_of_getElem? (i := 19) rfl))) (Or.inr (hw _ (List.mem_of_getElem? (i := 25) rfl))) (by decide) (t := (.object "java/util/List")) (t' := (.array .int)) (by decide) (by decide)))).other W14 (Or.inr (slot_ne (Or.inr (hw _ (List.mem_of_getElem? (i := 19) rfl))) (Or.inr (hw _ (List.mem_of_getElem? (i := 27) rfl))) (by decide) (t := (.object "java/util/List")) (t' := (.array .int)) (by decide) (by decide))))
  have G17 : Fld Z h14 a0 "com/example/ezra/ezra/Lineup" "numbers" "[J" (.ref a2) := (((Fw5.other W8 (Or.inr (slot_ne (Or.inr (hw _ (List.mem_of_getElem? (i := 21) rfl))) (Or.inr (hw _ (List.mem_of_getElem? (i := 23) rfl))) (by decide) (t := (.array .long)) (t' := (.array .int)) (by decide) (by decide)))).other W11 (Or.inr (slot_ne (Or.inr (hw _ (List.mem_of_getElem? (i := 21) rfl))) (Or.inr (hw _ (List.mem_of_getElem? (i := 25) rfl))) (by decide) (t := (.array .long)) (t' := (.array .int)) (by decide) (by decide)))).other W14 (Or.inr (slot_ne (Or.inr (hw _ (List.mem_of_getElem? (i := 21) rfl))) (Or.inr (hw _ (List.mem_of_getElem? (i := 27) rfl))) (by decide) (t := (.array .long)) (t' := (.array .int)) (by decide) (by decide))))
  have G18 : Fld Z h14 a0 "com/example/ezra/ezra/Lineup" "start" "[I" (.ref a3) := ((Fw8.other W11 (Or.inr (slot_ne (Or.inr (hw _ (List.mem_of_getElem? (i := 23) rfl))) (Or.inr (hw _ (List.mem_of_getElem? (i := 25) rfl))) (by decide) (t := (.array .int)) (t' := (.array .int)) (by decide) (by decide)))).other W14 (Or.inr (slot_ne (Or.inr (hw _ (List.mem_of_getElem? (i := 23) rfl))) (Or.inr (hw _ (List.mem_of_getElem? (i := 27) rfl))) (by decide) (t := (.array .int)) (t' := (.array .int)) (by decide) (by decide))))
  have G19 : Fld Z h14 a0 "com/example/ezra/ezra/Lineup" "day" "[I" (.ref a4) := (Fw11.other W14 (Or.inr (slot_ne (Or.inr (hw _ (List.mem_of_getElem? (i := 25) rfl))) (Or.inr (hw _ (List.mem_of_getElem? (i := 27) rfl))) (by decide) (t := (.array .int)) (t' := (.array .int)) (by decide) (by decide))))
  · show Q1 Z a0 a2 a3 a4 a5 w_days_a0 w_numbers_a0 w_start_a0 w_day_a0 w_position_a0 h0 n0 _ T14.heap _
    rw [e14]
    exact ⟨rfl, N14, K14, G15, G16, G17, G18, G19, Fw14⟩
theorem ef_5 (m : MethodId) (p0 : Int32) (p1 : Int32) (p2 : Int32) (p3 : Int32) (p4 : Int32) (p5 : Int32) : entryFrame m #[(.int p0), (.int p1), (.int p2), (.int p3), (.int p4), (.int p5)] 6 = mkF m 0 #[.val (.int p0), .val (.int p1), .val (.int p2), .val (.int p3), .val (.int p4), .val (.int p5)] [] := by first | (simp [entryFrame, mkF, argsToLocals, Value.category]; done) | rfl
def own_inn (p0 : Int32) (p1 : Int32) (p2 : Int32) (p3 : Int32) (p4 : Int32) (p5 : Int32) : Int32 := (nar .boolean (if p0 < p1 then (0 : Int32) else (if p0 < p2 then (if p3 < p4 then (0 : Int32) else (if p3 < p5 then (1 : Int32) else (0 : Int32))) else (0 : Int32))))
def Q5 (Z : State) (p0 : Int32) (p1 : Int32) (p2 : Int32) (p3 : Int32) (p4 : Int32) (p5 : Int32) (h0 : Heap) (n0 : Nat) (v : Option Value) (h : Heap) (L : List Loc) : Prop := v = some (.int (own_inn p0 p1 p2 p3 p4 p5)) ∧ Fr n0 L ∧ h = h0
set_option maxRecDepth 65536 in
set_option maxHeartbeats 40000000 in
theorem rm5 (l : Launch) (Z : State) (A0 : Array Value) (hw : ∀ d ∈ tables_1, d.before A0 Z = true) (ws : List Jvm.Cond) (p0 : Int32) (p1 : Int32) (p2 : Int32) (p3 : Int32) (p4 : Int32) (p5 : Int32) (h0 : Heap) (n0 : Nat) (Z0 : n0 ≤ h0.size) :
    MetFree l (⟨"com/example/ezra/ezra/LineupHasPinLaw", "in", "(IIIIII)Z"⟩ : MethodName) (head1 (Jvm.Cond.code (⟨"com/example/ezra/ezra/LineupHasPinLaw", "in", "(IIIIII)Z"⟩ : MethodName) method_3_code 6 (some .boolean) :: ws) ({ frames := 0, cells := 0, slots := 0, locals := 0 } : Room)) (fun a U => a = #[(.int p0), (.int p1), (.int p2), (.int p3), (.int p4), (.int p5)] ∧ Z.Warmed39 U.vm ∧ U.heap = h0) (fun _ _ _ _ _ => True) (fun _ U o U' => ∃ v L, o = .returned v ∧ Q5 Z p0 p1 p2 p3 p4 p5 h0 n0 v U'.heap L ∧ FrameEnd U o U' L ({ frames := 0, cells := 0, slots := 0, locals := 0 } : Room).cells ({ frames := 0, cells := 0, slots := 0, locals := 0 } : Room).slots) := by
  refine MetFree.of_bodySF (plainFor_of_name pn_5) hisR ?_
  intro p e s m args below meth c s₁ Bd hml0 hP hK
  obtain ⟨rfl, hZ, hh⟩ := hP
  have hx := Bd.exec
  have hby := Bd.bytes
  have hml : c.maxLocals = 6 := hml0
  have hown : s.vm.findClass "com/example/ezra/ezra/LineupHasPinLaw" = some m.cls := findClass_of_methodNamed Bd.named
  have hnm := (name_of_methodNamed Bd.named Bd.method).1
  have X0 : Stand p l e ({ frames := 0, cells := 0, slots := 0, locals := 0 } : Room) s m #[(.int p0), (.int p1), (.int p2), (.int p3), (.int p4), (.int p5)] below meth c s₁ [] 0 0 := Stand.of_body Bd
  have e0 : s₁.heap = h0 := by rw [← hh, Bd.state]; rfl
  have N0 := Fr.nil n0
  have pre0 : ∀ t, Steps p.tables e below (s₁.setTop (mkF m 0 #[.val (.int p0), .val (.int p1), .val (.int p2), .val (.int p3), .val (.int p4), .val (.int p5)] [])) t → Steps p.tables e below (s₁.setTop (entryFrame m #[(.int p0), (.int p1), (.int p2), (.int p3), (.int p4), (.int p5)] 6)) t := fun t k => castTop (ef_5 m p0 p1 p2 p3 p4 p5) k
  obtain ⟨v5, hv5⟩ : ∃ z : Int32, z = if p3 < p5 then (1 : Int32) else (0 : Int32) := ⟨_, rfl⟩
  obtain ⟨v6, hv6⟩ : ∃ z : Int32, z = if p3 < p4 then (0 : Int32) else v5 := ⟨_, rfl⟩
  obtain ⟨v7, hv7⟩ : ∃ z : Int32, z = if p0 < p2 then v6 else (0 : Int32) := ⟨_, rfl⟩
  obtain ⟨v8, hv8⟩ : ∃ z : Int32, z = if p0 < p1 then (0 : Int32) else v7 := ⟨_, rfl⟩
  obtain ⟨fs, hr, hrun, hended, hW, hsame⟩ := X0.leave (v := some (.int (nar .boolean v8))) (fun h => by rw [Bd.returns] at h; cases h)
  refine ⟨_, _, pre0 _ ?_, hrun, hended, _, _, rfl, ?_, ⟨_, rfl⟩, hW, hsame.mono (by decide) (by decide)⟩
  · show Steps p.tables e below (s₁.setTop (mkF m 0 #[.val (.int p0), .val (.int p1), .val (.int p2), .val (.int p3), .val (.int p4), .val (.int p5)] [])) _
    refine XS.iloadN X0.here hx rfl (hb hby d5_0) rfl ?_
    show Steps p.tables e below (s₁.setTop (mkF m 1 #[.val (.int p0), .val (.int p1), .val (.int p2), .val (.int p3), .val (.int p4), .val (.int p5)] [(.int p1)])) _
    refine XS.iloadN X0.here hx rfl (hb hby d5_1) rfl ?_
    show Steps p.tables e below (s₁.setTop (mkF m 2 #[.val (.int p0), .val (.int p1), .val (.int p2), .val (.int p3), .val (.int p4), .val (.int p5)] [(.int p0), (.int p1)])) _
    refine own_dia (F := (mkF m 27 #[.val (.int p0), .val (.int p1), .val (.int p2), .val (.int p3), .val (.int p4), .val (.int p5)] [(.int v8)])) ?_ ?_
    · intro kt
      by_cases hc1 : p0 < p1
      · show Steps p.tables e below (s₁.setTop (mkF m 2 #[.val (.int p0), .val (.int p1), .val (.int p2), .val (.int p3), .val (.int p4), .val (.int p5)] [(.int p0), (.int p1)])) _
        refine XS.icmpYes X0.here hx rfl (pc0 := 2) (pc' := 26) rfl (hb hby d5_2) rfl (tlt hc1).2.2.1 (by decide) (by decide) ?_
        show Steps p.tables e below (s₁.setTop (mkF m 26 #[.val (.int p0), .val (.int p1), .val (.int p2), .val (.int p3), .val (.int p4), .val (.int p5)] [])) _
        refine XS.iconst X0.here hx rfl (hb hby d5_26) ?_
        exact castTop (by rw [hv8, if_pos hc1] <;> rfl) kt
      · show Steps p.tables e below (s₁.setTop (mkF m 2 #[.val (.int p0), .val (.int p1), .val (.int p2), .val (.int p3), .val (.int p4), .val (.int p5)] [(.int p0), (.int p1)])) _
        refine XS.icmpNo X0.here hx rfl (hb hby d5_2) rfl (flt hc1).2.2.1 ?_
        show Steps p.tables e below (s₁.setTop (mkF m 5 #[.val (.int p0), .val (.int p1), .val (.int p2), .val (.int p3), .val (.int p4), .val (.int p5)] [])) _
        refine XS.iloadN X0.here hx rfl (hb hby d5_5) rfl ?_
        show Steps p.tables e below (s₁.setTop (mkF m 6 #[.val (.int p0), .val (.int p1), .val (.int p2), .val (.int p3), .val (.int p4), .val (.int p5)] [(.int p0)])) _
        refine XS.iloadN X0.here hx rfl (hb hby d5_6) rfl ?_
        show Steps p.tables e below (s₁.setTop (mkF m 7 #[.val (.int p0), .val (.int p1), .val (.int p2), .val (.int p3), .val (.int p4), .val (.int p5)] [(.int p2), (.int p0)])) _
        refine own_dia (F := (mkF m 27 #[.val (.int p0), .val (.int p1), .val (.int p2), .val (.int p3), .val (.int p4), .val (.int p5)] [(.int v7)])) ?_ ?_
        · intro kt
          by_cases hc2 : p0 < p2
          · show Steps p.tables e below (s₁.setTop (mkF m 7 #[.val (.int p0), .val (.int p1), .val (.int p2), .val (.int p3), .val (.int p4), .val (.int p5)] [(.int p2), (.int p0)])) _
            refine XS.icmpNo X0.here hx rfl (hb hby d5_7) rfl (tlt hc2).2.1 ?_
            show Steps p.tables e below (s₁.setTop (mkF m 10 #[.val (.int p0), .val (.int p1), .val (.int p2), .val (.int p3), .val (.int p4), .val (.int p5)] [])) _
            refine XS.iload X0.here hx rfl (hb hby d5_10) rfl ?_
            show Steps p.tables e below (s₁.setTop (mkF m 12 #[.val (.int p0), .val (.int p1), .val (.int p2), .val (.int p3), .val (.int p4), .val (.int p5)] [(.int p4)])) _
            refine XS.iloadN X0.here hx rfl (hb hby d5_12) rfl ?_
            show Steps p.tables e below (s₁.setTop (mkF m 13 #[.val (.int p0), .val (.int p1), .val (.int p2), .val (.int p3), .val (.int p4), .val (.int p5)] [(.int p3), (.int p4)])) _
            refine own_dia (F := (mkF m 27 #[.val (.int p0), .val (.int p1), .val (.int p2), .val (.int p3), .val (.int p4), .val (.int p5)] [(.int v6)])) ?_ ?_
            · intro kt
              by_cases hc3 : p3 < p4
              · show Steps p.tables e below (s₁.setTop (mkF m 13 #[.val (.int p0), .val (.int p1), .val (.int p2), .val (.int p3), .val (.int p4), .val (.int p5)] [(.int p3), (.int p4)])) _
                refine XS.icmpYes X0.here hx rfl (pc0 := 13) (pc' := 26) rfl (hb hby d5_13) rfl (tlt hc3).2.2.1 (by decide) (by decide) ?_
                show Steps p.tables e below (s₁.setTop (mkF m 26 #[.val (.int p0), .val (.int p1), .val (.int p2), .val (.int p3), .val (.int p4), .val (.int p5)] [])) _
                refine XS.iconst X0.here hx rfl (hb hby d5_26) ?_
                exact castTop (by rw [hv6, if_pos hc3] <;> rfl) kt
              · show Steps p.tables e below (s₁.setTop (mkF m 13 #[.val (.int p0), .val (.int p1), .val (.int p2), .val (.int p3), .val (.int p4), .val (.int p5)] [(.int p3), (.int p4)])) _
                refine XS.icmpNo X0.here hx rfl (hb hby d5_13) rfl (flt hc3).2.2.1 ?_
                show Steps p.tables e below (s₁.setTop (mkF m 16 #[.val (.int p0), .val (.int p1), .val (.int p2), .val (.int p3), .val (.int p4), .val (.int p5)] [])) _
                refine XS.iloadN X0.here hx rfl (hb hby d5_16) rfl ?_
                show Steps p.tables e below (s₁.setTop (mkF m 17 #[.val (.int p0), .val (.int p1), .val (.int p2), .val (.int p3), .val (.int p4), .val (.int p5)] [(.int p3)])) _
                refine XS.iload X0.here hx rfl (hb hby d5_17) rfl ?_
                show Steps p.tables e below (s₁.setTop (mkF m 19 #[.val (.int p0), .val (.int p1), .val (.int p2), .val (.int p3), .val (.int p4), .val (.int p5)] [(.int p5), (.int p3)])) _
                refine own_dia (F := (mkF m 27 #[.val (.int p0), .val (.int p1), .val (.int p2), .val (.int p3), .val (.int p4), .val (.int p5)] [(.int v5)])) ?_ ?_
                · intro kt
                  by_cases hc4 : p3 < p5
                  · show Steps p.tables e below (s₁.setTop (mkF m 19 #[.val (.int p0), .val (.int p1), .val (.int p2), .val (.int p3), .val (.int p4), .val (.int p5)] [(.int p5), (.int p3)])) _
                    refine XS.icmpNo X0.here hx rfl (hb hby d5_19) rfl (tlt hc4).2.1 ?_
                    show Steps p.tables e below (s₁.setTop (mkF m 22 #[.val (.int p0), .val (.int p1), .val (.int p2), .val (.int p3), .val (.int p4), .val (.int p5)] [])) _
                    refine XS.iconst X0.here hx rfl (hb hby d5_22) ?_
                    show Steps p.tables e below (s₁.setTop (mkF m 23 #[.val (.int p0), .val (.int p1), .val (.int p2), .val (.int p3), .val (.int p4), .val (.int p5)] [(.int (1 : Int32))])) _
                    refine XS.goto X0.here hx rfl (pc0 := 23) (pc' := 27) rfl (hb hby d5_23) (by decide) (by decide) ?_
                    exact castTop (by rw [hv5, if_pos hc4] <;> rfl) kt
                  · show Steps p.tables e below (s₁.setTop (mkF m 19 #[.val (.int p0), .val (.int p1), .val (.int p2), .val (.int p3), .val (.int p4), .val (.int p5)] [(.int p5), (.int p3)])) _
                    refine XS.icmpYes X0.here hx rfl (pc0 := 19) (pc' := 26) rfl (hb hby d5_19) rfl (flt hc4).2.1 (by decide) (by decide) ?_
                    show Steps p.tables e below (s₁.setTop (mkF m 26 #[.val (.int p0), .val (.int p1), .val (.int p2), .val (.int p3), .val (.int p4), .val (.int p5)] [])) _
                    refine XS.iconst X0.here hx rfl (hb hby d5_26) ?_
                    exact castTop (by rw [hv5, if_neg hc4] <;> rfl) kt
                exact castTop (by rw [hv6, if_neg hc3] <;> rfl) kt
            exact castTop (by rw [hv7, if_pos hc2] <;> rfl) kt
          · show Steps p.tables e below (s₁.setTop (mkF m 7 #[.val (.int p0), .val (.int p1), .val (.int p2), .val (.int p3), .val (.int p4), .val (.int p5)] [(.int p2), (.int p0)])) _
            refine XS.icmpYes X0.here hx rfl (pc0 := 7) (pc' := 26) rfl (hb hby d5_7) rfl (flt hc2).2.1 (by decide) (by decide) ?_
            show Steps p.tables e below (s₁.setTop (mkF m 26 #[.val (.int p0), .val (.int p1), .val (.int p2), .val (.int p3), .val (.int p4), .val (.int p5)] [])) _
            refine XS.iconst X0.here hx rfl (hb hby d5_26) ?_
            exact castTop (by rw [hv7, if_neg hc2] <;> rfl) kt
        exact castTop (by rw [hv8, if_neg hc1] <;> rfl) kt
    show Steps p.tables e below (s₁.setTop (mkF m 27 #[.val (.int p0), .val (.int p1), .val (.int p2), .val (.int p3), .val (.int p4), .val (.int p5)] [(.int v8)])) _
    exact retN X0 hx (t := .boolean) Bd.returns (by simp) (hb hby d5_27) hr
  · show Q5 Z p0 p1 p2 p3 p4 p5 h0 n0 _ s₁.heap _
    subst hv5 hv6 hv7 hv8
    exact ⟨rfl, N0, e0⟩

theorem own_c (q v : Int32) (hv : v = ((q &&& (2147483647 : Int32)) % (3 : Int32))) : (v = 0 ∨ v = 1 ∨ v = 2) ∧ own_in v 4 ∧ own_in (v + (1 : Int32)) 4 := by
  have e1 : (q &&& (2147483647 : Int32)).toInt = q.toInt % (2 ^ 31 : Nat) := c_mask q _ 31 (by decide) (by decide)
  have e2 := (c_irem (q &&& (2147483647 : Int32)) 3 3 (by decide)).1 (by rw [e1]; omega)
  rw [← hv] at e2
  have k0 : (0 : Int32).toInt = 0 := by decide
  have k1 : (1 : Int32).toInt = 1 := by decide
  have k2 : (2 : Int32).toInt = 2 := by decide
  have : v.toInt = 0 ∨ v.toInt = 1 ∨ v.toInt = 2 := by omega
  have w : v = 0 ∨ v = 1 ∨ v = 2 := by
    rcases this with h | h | h
    · exact Or.inl (Int32.toInt_inj.mp (h.trans k0.symm))
    · exact Or.inr (Or.inl (Int32.toInt_inj.mp (h.trans k1.symm)))
    · exact Or.inr (Or.inr (Int32.toInt_inj.mp (h.trans k2.symm)))
  refine ⟨w, ?_, ?_⟩
  · rcases w with rfl | rfl | rfl <;> decide
  · rcases w with rfl | rfl | rfl <;> decide
theorem own_s1 (p v : Int32) (hv : v = ((p &&& (7 : Int32)) % (5 : Int32))) : 0 ≤ v.toInt ∧ v.toInt ≤ 4 := by
  have e1 := c_mask p 7 3 (by decide) (by decide)
  have e2 := (c_irem (p &&& (7 : Int32)) 5 5 (by decide)).1 (by rw [e1]; omega)
  rw [← hv] at e2
  omega
theorem own_s2 (x v s : Int32) (h1 : 0 ≤ v.toInt) (h2 : v.toInt ≤ 4) (hs : s = (v + ((x &&& (255 : Int32)) % ((5 : Int32) - v)))) : v.toInt ≤ s.toInt ∧ s.toInt ≤ 4 := by
  have e1 := c_mask x 255 8 (by decide) (by decide)
  have a := c_isub 5 v
  have r := rng32 ((5 : Int32) - v)
  have k5 : (5 : Int32).toInt = 5 := by decide
  rw [k5] at a
  obtain ⟨b1, b2, -⟩ := (c_iremV (x &&& (255 : Int32)) ((5 : Int32) - v)).1 (by omega) (by omega)
  have c := c_iadd v ((x &&& (255 : Int32)) % ((5 : Int32) - v))
  have r2 := rng32 (v + ((x &&& (255 : Int32)) % ((5 : Int32) - v)))
  rw [hs]
  omega
theorem own_st (x p q s1 s2 v : Int32) (f : Nat → Int32) (h1 : s1 = ((p &&& (7 : Int32)) % (5 : Int32))) (h2 : s2 = (s1 + ((x &&& (255 : Int32)) % ((5 : Int32) - s1)))) (hv : v = ((q &&& (2147483647 : Int32)) % (3 : Int32))) (f0 : f 0 = 0) (f1 : f 1 = s1) (f2 : f 2 = s2) (f3 : f 3 = 4) :
    0 ≤ (f v.toNatClampNeg).toInt ∧ (f v.toNatClampNeg).toInt ≤ (f (v + (1 : Int32)).toNatClampNeg).toInt ∧ (f (v + (1 : Int32)).toNatClampNeg).toInt ≤ 4 := by
  have k0 : (0 : Int32).toInt = 0 := by decide
  have k4 : (4 : Int32).toInt = 4 := by decide
  obtain ⟨a1, a2⟩ := own_s1 p s1 h1
  obtain ⟨b1, b2⟩ := own_s2 x s1 s2 a1 a2 h2
  obtain ⟨w, -, -⟩ := own_c q v hv
  have z0 : (0 : Int32).toNatClampNeg = 0 := by decide
  have z1 : ((0 : Int32) + (1 : Int32)).toNatClampNeg = 1 := by decide
  have z2 : (1 : Int32).toNatClampNeg = 1 := by decide
  have z3 : ((1 : Int32) + (1 : Int32)).toNatClampNeg = 2 := by decide
  have z4 : (2 : Int32).toNatClampNeg = 2 := by decide
  have z5 : ((2 : Int32) + (1 : Int32)).toNatClampNeg = 3 := by decide
  rcases w with rfl | rfl | rfl
  · rw [z0, z1, f0, f1]; omega
  · rw [z2, z3, f1, f2]; omega
  · rw [z4, z5, f2, f3]; omega
theorem own_anyN (g : Nat → Int32) (f e : Int32) (a b : Nat) (h : a ≤ b) (hb : b ≤ 4) : own_any g f e a (b - a) = true ↔ ∃ i, a ≤ i ∧ i < b ∧ ¬ g i < f ∧ g i < e := by
  obtain ⟨k, rfl⟩ := Nat.exists_eq_add_of_le h
  rw [Nat.add_sub_cancel_left]
  clear h hb
  induction k generalizing a with
  | zero => simp [own_any]; intro i h1 h2; omega
  | succ k ih =>
    have := ih (a + 1)
    simp only [own_any, Bool.or_eq_true, Bool.and_eq_true, Bool.not_eq_true', decide_eq_false_iff_not, decide_eq_true_eq]
    rw [this]
    constructor
    · rintro (⟨h1, h2⟩ | ⟨i, h1, h2, h3⟩)
      · exact ⟨a, Nat.le_refl _, by omega, h1, h2⟩
      · exact ⟨i, by omega, by omega, h3⟩
    · rintro ⟨i, h1, h2, h3⟩
      by_cases q : i = a
      · subst q; exact Or.inl h3
      · exact Or.inr ⟨i, by omega, by omega, h3⟩
theorem own_innN (k : Nat) (lo hi d f e : Int32) (hk : k < 4) (l0 : 0 ≤ lo.toInt) (l1 : lo.toInt ≤ hi.toInt) (l2 : hi.toInt ≤ 4) : (own_inn (Int32.ofNat k) lo hi d f e = (0 : Int32)) ↔ ¬ (lo.toInt.toNat ≤ k ∧ k < hi.toInt.toNat ∧ ¬ d < f ∧ d < e) := by
  have kk : (Int32.ofNat k).toInt = k := Int32.toInt_ofNat_of_lt (by omega)
  unfold own_inn
  by_cases c1 : (Int32.ofNat k) < lo
  · rw [if_pos c1]
    rw [Int32.lt_iff_toInt_lt, kk] at c1
    refine ⟨fun _ => by omega, fun _ => rfl⟩
  · rw [if_neg c1]
    rw [Int32.lt_iff_toInt_lt, kk] at c1
    by_cases c2 : (Int32.ofNat k) < hi
    · rw [if_pos c2]
      rw [Int32.lt_iff_toInt_lt, kk] at c2
      have : lo.toInt.toNat ≤ k ∧ k < hi.toInt.toNat := by omega
      by_cases c3 : d < f
      · simp [c3, own_nar0, own_nar1]
      · by_cases c4 : d < e
        · have z : ¬ (nar .boolean 1 = (0 : Int32)) := by decide
          simp only [if_neg c3, if_pos c4]
          exact ⟨fun q => absurd q z, fun q => absurd ⟨this.1, this.2, c3, c4⟩ q⟩
        · simp [c3, c4, own_nar0, own_nar1]
    · rw [if_neg c2]
      rw [Int32.lt_iff_toInt_lt, kk] at c2
      refine ⟨fun _ => by omega, fun _ => rfl⟩

theorem own_nz66 (p1 : Int32) (v13 : Int32) (hv13 : v13 = ((p1 &&& (7 : Int32)) % (5 : Int32))) : ((5 : Int32) - v13) ≠ (0 : Int32) := by
  obtain ⟨a1, a2⟩ := own_s1 _ v13 hv13
  intro q
  have a := c_isub 5 v13
  rw [q] at a
  have k5 : (5 : Int32).toInt = 5 := by decide
  have k0 : (0 : Int32).toInt = 0 := by decide
  rw [k5, k0] at a
  omega
theorem own_hin5_153 (p2 : Int32) (v25 : Int32) (hv25 : v25 = ((p2 &&& (2147483647 : Int32)) % (3 : Int32))) : own_in v25 4 := by
  exact (own_c _ v25 hv25).2.1
theorem own_hin17_153 (p2 : Int32) (v25 : Int32) (hv25 : v25 = ((p2 &&& (2147483647 : Int32)) % (3 : Int32))) : own_in (v25 + (1 : Int32)) 4 := by
  exact (own_c _ v25 hv25).2.2
theorem own_hhi_153 (p1 : Int32) (p2 : Int32) (v13 : Int32) (v15 : Int32) (f18 : Nat → Int32) (f20 : Nat → Int32) (f22 : Nat → Int32) (f24 : Nat → Int32) (v25 : Int32) (hv13 : v13 = ((p1 &&& (7 : Int32)) % (5 : Int32))) (hv15 : v15 = (v13 + ((((p1.toUInt32 >>> ((3 : Int32) &&& 31).toUInt32).toInt32) &&& (255 : Int32)) % ((5 : Int32) - v13)))) (hf18 : f18 = (fun i => if i = 0 then (0 : Int32) else (fun _ => (0 : Int32)) i)) (hf20 : f20 = (fun i => if i = 1 then v13 else f18 i)) (hf22 : f22 = (fun i => if i = 2 then v15 else f20 i)) (hf24 : f24 = (fun i => if i = 3 then (4 : Int32) else f22 i)) (hv25 : v25 = ((p2 &&& (2147483647 : Int32)) % (3 : Int32))) : (f24 ((v25 + (1 : Int32))).toNatClampNeg).toInt ≤ 4 := by
  exact (own_st _ _ _ v13 v15 v25 f24 hv13 hv15 hv25 (by simp [hf18, hf20, hf22, hf24]) (by simp [hf18, hf20, hf22, hf24]) (by simp [hf18, hf20, hf22, hf24]) (by simp [hf18, hf20, hf22, hf24])).2.2
theorem own_hlo_153 (p1 : Int32) (p2 : Int32) (v13 : Int32) (v15 : Int32) (f18 : Nat → Int32) (f20 : Nat → Int32) (f22 : Nat → Int32) (f24 : Nat → Int32) (v25 : Int32) (hv13 : v13 = ((p1 &&& (7 : Int32)) % (5 : Int32))) (hv15 : v15 = (v13 + ((((p1.toUInt32 >>> ((3 : Int32) &&& 31).toUInt32).toInt32) &&& (255 : Int32)) % ((5 : Int32) - v13)))) (hf18 : f18 = (fun i => if i = 0 then (0 : Int32) else (fun _ => (0 : Int32)) i)) (hf20 : f20 = (fun i => if i = 1 then v13 else f18 i)) (hf22 : f22 = (fun i => if i = 2 then v15 else f20 i)) (hf24 : f24 = (fun i => if i = 3 then (4 : Int32) else f22 i)) (hv25 : v25 = ((p2 &&& (2147483647 : Int32)) % (3 : Int32))) : 0 ≤ (f24 (v25).toNatClampNeg).toInt := by
  exact (own_st _ _ _ v13 v15 v25 f24 hv13 hv15 hv25 (by simp [hf18, hf20, hf22, hf24]) (by simp [hf18, hf20, hf22, hf24]) (by simp [hf18, hf20, hf22, hf24]) (by simp [hf18, hf20, hf22, hf24])).1
theorem own_hle_153 (p1 : Int32) (p2 : Int32) (v13 : Int32) (v15 : Int32) (f18 : Nat → Int32) (f20 : Nat → Int32) (f22 : Nat → Int32) (f24 : Nat → Int32) (v25 : Int32) (hv13 : v13 = ((p1 &&& (7 : Int32)) % (5 : Int32))) (hv15 : v15 = (v13 + ((((p1.toUInt32 >>> ((3 : Int32) &&& 31).toUInt32).toInt32) &&& (255 : Int32)) % ((5 : Int32) - v13)))) (hf18 : f18 = (fun i => if i = 0 then (0 : Int32) else (fun _ => (0 : Int32)) i)) (hf20 : f20 = (fun i => if i = 1 then v13 else f18 i)) (hf22 : f22 = (fun i => if i = 2 then v15 else f20 i)) (hf24 : f24 = (fun i => if i = 3 then (4 : Int32) else f22 i)) (hv25 : v25 = ((p2 &&& (2147483647 : Int32)) % (3 : Int32))) : (f24 (v25).toNatClampNeg).toInt ≤ (f24 ((v25 + (1 : Int32))).toNatClampNeg).toInt := by
  exact (own_st _ _ _ v13 v15 v25 f24 hv13 hv15 hv25 (by simp [hf18, hf20, hf22, hf24]) (by simp [hf18, hf20, hf22, hf24]) (by simp [hf18, hf20, hf22, hf24]) (by simp [hf18, hf20, hf22, hf24])).2.1
theorem own_in162 (p2 : Int32) (v25 : Int32) (hv25 : v25 = ((p2 &&& (2147483647 : Int32)) % (3 : Int32))) : own_in v25 4 := by
  exact (own_c _ v25 hv25).2.1
theorem own_in171 (p2 : Int32) (v25 : Int32) (hv25 : v25 = ((p2 &&& (2147483647 : Int32)) % (3 : Int32))) : own_in (v25 + (1 : Int32)) 4 := by
  exact (own_c _ v25 hv25).2.2
theorem own_law (p0 : Int32) (p1 : Int32) (p2 : Int32) (p3 : Int32) (p4 : Int32) (f3 : Nat → Int32) (v4 : Int32) (f6 : Nat → Int32) (v7 : Int32) (f9 : Nat → Int32) (v10 : Int32) (f12 : Nat → Int32) (v13 : Int32) (v15 : Int32) (f18 : Nat → Int32) (f20 : Nat → Int32) (f22 : Nat → Int32) (f24 : Nat → Int32) (v25 : Int32) (v62 : Int32) (v64 : Int32) (v66 : Int32) (v83 : Int32) (v86 : Int32) (hf3 : f3 = (fun i => if i = 0 then (p0 &&& (7 : Int32)) else (fun _ => (0 : Int32)) i)) (hv4 : v4 = (((p0.toUInt32 >>> ((3 : Int32) &&& 31).toUInt32).toInt32) &&& (7 : Int32))) (hf6 : f6 = (fun i => if i = 1 then v4 else f3 i)) (hv7 : v7 = (((p0.toUInt32 >>> ((6 : Int32) &&& 31).toUInt32).toInt32) &&& (7 : Int32))) (hf9 : f9 = (fun i => if i = 2 then v7 else f6 i)) (hv10 : v10 = (((p0.toUInt32 >>> ((9 : Int32) &&& 31).toUInt32).toInt32) &&& (7 : Int32))) (hf12 : f12 = (fun i => if i = 3 then v10 else f9 i)) (hv13 : v13 = ((p1 &&& (7 : Int32)) % (5 : Int32))) (hv15 : v15 = (v13 + ((((p1.toUInt32 >>> ((3 : Int32) &&& 31).toUInt32).toInt32) &&& (255 : Int32)) % ((5 : Int32) - v13)))) (hf18 : f18 = (fun i => if i = 0 then (0 : Int32) else (fun _ => (0 : Int32)) i)) (hf20 : f20 = (fun i => if i = 1 then v13 else f18 i)) (hf22 : f22 = (fun i => if i = 2 then v15 else f20 i)) (hf24 : f24 = (fun i => if i = 3 then (4 : Int32) else f22 i)) (hv25 : v25 = ((p2 &&& (2147483647 : Int32)) % (3 : Int32))) (hv62 : v62 = (if own_any f12 p3 p4 ((f24 (v25).toNatClampNeg)).toNatClampNeg ((f24 ((v25 + (1 : Int32))).toNatClampNeg).toInt - (f24 (v25).toNatClampNeg).toInt).toNat = true then (1 : Int32) else (0 : Int32))) (hv64 : v64 = (f24 (v25).toNatClampNeg)) (hv66 : v66 = (f24 ((v25 + (1 : Int32))).toNatClampNeg)) (hv83 : v83 = (if (own_inn (0 : Int32) v64 v66 (f12 0) p3 p4) = (0 : Int32) then (if (own_inn (1 : Int32) v64 v66 (f12 1) p3 p4) = (0 : Int32) then (if (own_inn (2 : Int32) v64 v66 (f12 2) p3 p4) = (0 : Int32) then (if (own_inn (3 : Int32) v64 v66 (f12 3) p3 p4) = (0 : Int32) then (0 : Int32) else (1 : Int32)) else (1 : Int32)) else (1 : Int32)) else (1 : Int32))) (hv86 : v86 = (if v62 = v83 then (1 : Int32) else (0 : Int32))) : (nar .boolean v86) = (1 : Int32) := by
  obtain ⟨l0, l1, l2⟩ := own_st _ _ _ v13 v15 v25 f24 hv13 hv15 hv25 (by simp [hf18, hf20, hf22, hf24]) (by simp [hf18, hf20, hf22, hf24]) (by simp [hf18, hf20, hf22, hf24]) (by simp [hf18, hf20, hf22, hf24])
  rw [← hv64] at l0 l1 hv62
  rw [← hv66] at l1 l2 hv62
  have n1 : v64.toNatClampNeg = v64.toInt.toNat := rfl
  have n2 : (v66.toInt - v64.toInt).toNat = v66.toInt.toNat - v64.toInt.toNat := by omega
  rw [n1, n2] at hv62
  have A := own_anyN f12 p3 p4 v64.toInt.toNat v66.toInt.toNat (by omega) (by omega)
  have i0 := own_innN 0 v64 v66 (f12 0) p3 p4 (by omega) l0 l1 l2
  have i1 := own_innN 1 v64 v66 (f12 1) p3 p4 (by omega) l0 l1 l2
  have i2 := own_innN 2 v64 v66 (f12 2) p3 p4 (by omega) l0 l1 l2
  have i3 := own_innN 3 v64 v66 (f12 3) p3 p4 (by omega) l0 l1 l2
  have e : v62 = v83 := by
    rw [hv62, hv83]
    by_cases c : own_any f12 p3 p4 v64.toInt.toNat (v66.toInt.toNat - v64.toInt.toNat) = true
    · rw [if_pos c]
      obtain ⟨i, q1, q2, q3⟩ := A.mp c
      have hi : i = 0 ∨ i = 1 ∨ i = 2 ∨ i = 3 := by omega
      split
      · rename_i z0
        split
        · rename_i z1
          split
          · rename_i z2
            split
            · rename_i z3
              exfalso
              rcases hi with rfl | rfl | rfl | rfl
              · exact i0.mp z0 ⟨q1, q2, q3⟩
              · exact i1.mp z1 ⟨q1, q2, q3⟩
              · exact i2.mp z2 ⟨q1, q2, q3⟩
              · exact i3.mp z3 ⟨q1, q2, q3⟩
            · rfl
          · rfl
        · rfl
      · rfl
    · rw [if_neg c]
      have n : ∀ i, ¬ (v64.toInt.toNat ≤ i ∧ i < v66.toInt.toNat ∧ ¬ f12 i < p3 ∧ f12 i < p4) := fun i q => c (A.mpr ⟨i, q⟩)
      exact ((if_pos (i0.mpr (n 0))).trans ((if_pos (i1.mpr (n 1))).trans ((if_pos (i2.mpr (n 2))).trans (if_pos (i3.mpr (n 3)))))).symm
  rw [hv86, if_pos e, own_nar1]
theorem ef_0 (m : MethodId) (p0 : Int32) (p1 : Int32) (p2 : Int32) (p3 : Int32) (p4 : Int32) : entryFrame m #[(.int p0), (.int p1), (.int p2), (.int p3), (.int p4)] maxLocals = mkF m 0 #[.val (.int p0), .val (.int p1), .val (.int p2), .val (.int p3), .val (.int p4), .unset, .unset, .unset, .unset, .unset, .unset, .unset, .unset, .unset, .unset, .unset] [] := by first | (simp [entryFrame, mkF, argsToLocals, Value.category, maxLocals]; done) | rfl
def Q0 (h0 : Heap) (n0 : Nat) (v : Option Value) (h : Heap) (L : List Loc) : Prop := v = some (.int 1) ∧ Fr n0 L
set_option maxRecDepth 65536 in
set_option maxHeartbeats 40000000 in
theorem rm0 (l : Launch) (Z : State) (A0 : Array Value) (hw : ∀ d ∈ tables_1, d.before A0 Z = true) (ws : List Jvm.Cond) (p0 : Int32) (p1 : Int32) (p2 : Int32) (p3 : Int32) (p4 : Int32) (h0 : Heap) (n0 : Nat) (Z0 : n0 ≤ h0.size) :
    MetFree l x (head1 (Jvm.Cond.code x code maxLocals ret :: ws) room_1) (fun a U => a = #[(.int p0), (.int p1), (.int p2), (.int p3), (.int p4)] ∧ Z.Warmed39 U.vm ∧ U.heap = h0) (fun _ _ _ _ _ => True) (fun _ U o U' => ∃ v L, o = .returned v ∧ Q0 h0 n0 v U'.heap L ∧ FrameEnd U o U' L 5 20) := by
  refine MetFree.of_bodySF (plainFor_of_name pn_0) hisR ?_
  intro p e s m args below meth c s₁ Bd hml0 hP hK
  obtain ⟨rfl, hZ, hh⟩ := hP
  have hx := Bd.exec
  have hby := Bd.bytes
  have hml : c.maxLocals = 16 := hml0
  have hown : s.vm.findClass "com/example/ezra/ezra/LineupHasPinLaw" = some m.cls := findClass_of_methodNamed Bd.named
  have hnm := (name_of_methodNamed Bd.named Bd.method).1
  have X0 : Stand p l e room_1 s m #[(.int p0), (.int p1), (.int p2), (.int p3), (.int p4)] below meth c s₁ [] 0 0 := Stand.of_body Bd
  have e0 : s₁.heap = h0 := by rw [← hh, Bd.state]; rfl
  have N0 := Fr.nil n0
  have pre0 : ∀ t, Steps p.tables e below (s₁.setTop (mkF m 0 #[.val (.int p0), .val (.int p1), .val (.int p2), .val (.int p3), .val (.int p4), .unset, .unset, .unset, .unset, .unset, .unset, .unset, .unset, .unset, .unset, .unset] [])) t → Steps p.tables e below (s₁.setTop (entryFrame m #[(.int p0), (.int p1), (.int p2), (.int p3), (.int p4)] maxLocals)) t := fun t k => castTop (ef_0 m p0 p1 p2 p3 p4) k
  obtain ⟨T1, h1, k1, X1, e1, E1, A1, st1⟩ := newP X0 hx hZ (hw _ (List.mem_of_getElem? (i := 0) rfl)) e0 (g := (mkF m 1 #[.val (.int p0), .val (.int p1), .val (.int p2), .val (.int p3), .val (.int p4), .unset, .unset, .unset, .unset, .unset, .unset, .unset, .unset, .unset, .unset, .unset] [(.int (4 : Int32))])) rfl (hb hby at_1) rfl (by decide) (cap := 4) (by decide) (by decide) (by decide) (by decide)
  obtain ⟨b1, g1⟩ : ∃ z, z = h0.size := ⟨_, rfl⟩
  rw [← g1] at A1 st1
  have nw_b1 : n0 ≤ b1 := Nat.le_trans (Nat.le_trans Z0 (Keep.refl h0 []).1) (Nat.le_of_eq g1.symm)
  have sz_b1 : h0.size ≤ b1 := Nat.le_trans (Keep.refl h0 []).1 (Nat.le_of_eq g1.symm)
  have K1 : Keep h0 h1 [] := (Keep.refl h0 []).ext E1
  have V1 : AF Z h1 b1 .int 4 (fun j => .int ((fun _ => (0 : Int32)) j)) := AF.new A1 (by decide)
  obtain ⟨T2, h2, X2, e2, W2, A2, st2⟩ := AF.stI X1 hx hZ e1 V1 (by decide : own_in (0 : Int32) 4) (g := (mkF m 12 #[.val (.int p0), .val (.int p1), .val (.int p2), .val (.int p3), .val (.int p4), .val (.ref b1), .unset, .unset, .unset, .unset, .unset, .unset, .unset, .unset, .unset, .unset] [(.int (p0 &&& (7 : Int32))), (.int (0 : Int32)), (.ref b1)])) rfl rfl (hb hby at_12)
  have K2 : Keep h0 h2 [] := K1.wr W2 (Or.inr sz_b1)
  obtain ⟨f3, hf3⟩ : ∃ f : Nat → Int32, f = (fun i => if i = 0 then (p0 &&& (7 : Int32)) else (fun _ => (0 : Int32)) i) := ⟨_, rfl⟩
  have V2 : AF Z h2 b1 .int 4 (fun j => .int (f3 j)) := AF.cong A2 (own_updI rfl hf3)
  have N2 := Fr.snoc X2 N0 nw_b1
  obtain ⟨v4, hv4⟩ : ∃ z : Int32, z = (((p0.toUInt32 >>> ((3 : Int32) &&& 31).toUInt32).toInt32) &&& (7 : Int32)) := ⟨_, rfl⟩
  obtain ⟨T5, h5, X5, e5, W5, A5, st5⟩ := AF.stI X2 hx hZ e2 V2 (by decide : own_in (1 : Int32) 4) (g := (mkF m 22 #[.val (.int p0), .val (.int p1), .val (.int p2), .val (.int p3), .val (.int p4), .val (.ref b1), .unset, .unset, .unset, .unset, .unset, .unset, .unset, .unset, .unset, .unset] [(.int v4), (.int (1 : Int32)), (.ref b1)])) rfl rfl (hb hby at_22)
  have K5 : Keep h0 h5 [] := K2.wr W5 (Or.inr sz_b1)
  obtain ⟨f6, hf6⟩ : ∃ f : Nat → Int32, f = (fun i => if i = 1 then v4 else f3 i) := ⟨_, rfl⟩
  have V5 : AF Z h5 b1 .int 4 (fun j => .int (f6 j)) := AF.cong A5 (own_updI rfl hf6)
  have N5 := Fr.snoc X5 N2 nw_b1
  obtain ⟨v7, hv7⟩ : ∃ z : Int32, z = (((p0.toUInt32 >>> ((6 : Int32) &&& 31).toUInt32).toInt32) &&& (7 : Int32)) := ⟨_, rfl⟩
  obtain ⟨T8, h8, X8, e8, W8, A8, st8⟩ := AF.stI X5 hx hZ e5 V5 (by decide : own_in (2 : Int32) 4) (g := (mkF m 33 #[.val (.int p0), .val (.int p1), .val (.int p2), .val (.int p3), .val (.int p4), .val (.ref b1), .unset, .unset, .unset, .unset, .unset, .unset, .unset, .unset, .unset, .unset] [(.int v7), (.int (2 : Int32)), (.ref b1)])) rfl rfl (hb hby at_33)
  have K8 : Keep h0 h8 [] := K5.wr W8 (Or.inr sz_b1)
  obtain ⟨f9, hf9⟩ : ∃ f : Nat → Int32, f = (fun i => if i = 2 then v7 else f6 i) := ⟨_, rfl⟩
  have V8 : AF Z h8 b1 .int 4 (fun j => .int (f9 j)) := AF.cong A8 (own_updI rfl hf9)
  have N8 := Fr.snoc X8 N5 nw_b1
  obtain ⟨v10, hv10⟩ : ∃ z : Int32, z = (((p0.toUInt32 >>> ((9 : Int32) &&& 31).toUInt32).toInt32) &&& (7 : Int32)) := ⟨_, rfl⟩
  obtain ⟨T11, h11, X11, e11, W11, A11, st11⟩ := AF.stI X8 hx hZ e8 V8 (by decide : own_in (3 : Int32) 4) (g := (mkF m 44 #[.val (.int p0), .val (.int p1), .val (.int p2), .val (.int p3), .val (.int p4), .val (.ref b1), .unset, .unset, .unset, .unset, .unset, .unset, .unset, .unset, .unset, .unset] [(.int v10), (.int (3 : Int32)), (.ref b1)])) rfl rfl (hb hby at_44)
  have K11 : Keep h0 h11 [] := K8.wr W11 (Or.inr sz_b1)
  obtain ⟨f12, hf12⟩ : ∃ f : Nat → Int32, f = (fun i => if i = 3 then v10 else f9 i) := ⟨_, rfl⟩
  have V11 : AF Z h11 b1 .int 4 (fun j => .int (f12 j)) := AF.cong A11 (own_updI rfl hf12)
  have N11 := Fr.snoc X11 N8 nw_b1
  obtain ⟨v13, hv13⟩ : ∃ z : Int32, z = ((p1 &&& (7 : Int32)) % (5 : Int32)) := ⟨_, rfl⟩
  have hz14 : ((5 : Int32) - v13) ≠ (0 : Int32) := (own_nz66 p1 v13 hv13)
  obtain ⟨v15, hv15⟩ : ∃ z : Int32, z = (v13 + ((((p1.toUInt32 >>> ((3 : Int32) &&& 31).toUInt32).toInt32) &&& (255 : Int32)) % ((5 : Int32) - v13))) := ⟨_, rfl⟩
  obtain ⟨T16, h16, k16, X16, e16, E16, A16, st16⟩ := newP X11 hx hZ (hw _ (List.mem_of_getElem? (i := 0) rfl)) e11 (g := (mkF m 71 #[.val (.int p0), .val (.int p1), .val (.int p2), .val (.int p3), .val (.int p4), .val (.ref b1), .val (.int v13), .val (.int v15), .unset, .unset, .unset, .unset, .unset, .unset, .unset, .unset] [(.int (4 : Int32))])) rfl (hb hby at_71) rfl (by decide) (cap := 4) (by decide) (by decide) (by decide) (by decide)
  obtain ⟨b16, g16⟩ : ∃ z, z = h11.size := ⟨_, rfl⟩
  rw [← g16] at A16 st16
  have ne_b1_b16 : b1 ≠ b16 := Nat.ne_of_lt (Nat.lt_of_lt_of_le V11.lt (Nat.le_of_eq g16.symm))
  have nw_b16 : n0 ≤ b16 := Nat.le_trans (Nat.le_trans Z0 K11.1) (Nat.le_of_eq g16.symm)
  have sz_b16 : h0.size ≤ b16 := Nat.le_trans K11.1 (Nat.le_of_eq g16.symm)
  have K16 : Keep h0 h16 [] := K11.ext E16
  have V16 : AF Z h16 b16 .int 4 (fun j => .int ((fun _ => (0 : Int32)) j)) := AF.new A16 (by decide)
  obtain ⟨T17, h17, X17, e17, W17, A17, st17⟩ := AF.stI X16 hx hZ e16 V16 (by decide : own_in (0 : Int32) 4) (g := (mkF m 79 #[.val (.int p0), .val (.int p1), .val (.int p2), .val (.int p3), .val (.int p4), .val (.ref b1), .val (.int v13), .val (.int v15), .val (.ref b16), .unset, .unset, .unset, .unset, .unset, .unset, .unset] [(.int (0 : Int32)), (.int (0 : Int32)), (.ref b16)])) rfl rfl (hb hby at_79)
  have K17 : Keep h0 h17 [] := K16.wr W17 (Or.inr sz_b16)
  obtain ⟨f18, hf18⟩ : ∃ f : Nat → Int32, f = (fun i => if i = 0 then (0 : Int32) else (fun _ => (0 : Int32)) i) := ⟨_, rfl⟩
  have V17 : AF Z h17 b16 .int 4 (fun j => .int (f18 j)) := AF.cong A17 (own_updI rfl hf18)
  have N17 := Fr.snoc X17 N11 nw_b16
  obtain ⟨T19, h19, X19, e19, W19, A19, st19⟩ := AF.stI X17 hx hZ e17 V17 (by decide : own_in (1 : Int32) 4) (g := (mkF m 85 #[.val (.int p0), .val (.int p1), .val (.int p2), .val (.int p3), .val (.int p4), .val (.ref b1), .val (.int v13), .val (.int v15), .val (.ref b16), .unset, .unset, .unset, .unset, .unset, .unset, .unset] [(.int v13), (.int (1 : Int32)), (.ref b16)])) rfl rfl (hb hby at_85)
  have K19 : Keep h0 h19 [] := K17.wr W19 (Or.inr sz_b16)
  obtain ⟨f20, hf20⟩ : ∃ f : Nat → Int32, f = (fun i => if i = 1 then v13 else f18 i) := ⟨_, rfl⟩
  have V19 : AF Z h19 b16 .int 4 (fun j => .int (f20 j)) := AF.cong A19 (own_updI rfl hf20)
  have N19 := Fr.snoc X19 N17 nw_b16
  obtain ⟨T21, h21, X21, e21, W21, A21, st21⟩ := AF.stI X19 hx hZ e19 V19 (by decide : own_in (2 : Int32) 4) (g := (mkF m 91 #[.val (.int p0), .val (.int p1), .val (.int p2), .val (.int p3), .val (.int p4), .val (.ref b1), .val (.int v13), .val (.int v15), .val (.ref b16), .unset, .unset, .unset, .unset, .unset, .unset, .unset] [(.int v15), (.int (2 : Int32)), (.ref b16)])) rfl rfl (hb hby at_91)
  have K21 : Keep h0 h21 [] := K19.wr W21 (Or.inr sz_b16)
  obtain ⟨f22, hf22⟩ : ∃ f : Nat → Int32, f = (fun i => if i = 2 then v15 else f20 i) := ⟨_, rfl⟩
  have V21 : AF Z h21 b16 .int 4 (fun j => .int (f22 j)) := AF.cong A21 (own_updI rfl hf22)
  have N21 := Fr.snoc X21 N19 nw_b16
  obtain ⟨T23, h23, X23, e23, W23, A23, st23⟩ := AF.stI X21 hx hZ e21 V21 (by decide : own_in (3 : Int32) 4) (g := (mkF m 96 #[.val (.int p0), .val (.int p1), .val (.int p2), .val (.int p3), .val (.int p4), .val (.ref b1), .val (.int v13), .val (.int v15), .val (.ref b16), .unset, .unset, .unset, .unset, .unset, .unset, .unset] [(.int (4 : Int32)), (.int (3 : Int32)), (.ref b16)])) rfl rfl (hb hby at_96)
  have K23 : Keep h0 h23 [] := K21.wr W23 (Or.inr sz_b16)
  obtain ⟨f24, hf24⟩ : ∃ f : Nat → Int32, f = (fun i => if i = 3 then (4 : Int32) else f22 i) := ⟨_, rfl⟩
  have V23 : AF Z h23 b16 .int 4 (fun j => .int (f24 j)) := AF.cong A23 (own_updI rfl hf24)
  have N23 := Fr.snoc X23 N21 nw_b16
  obtain ⟨v25, hv25⟩ : ∃ z : Int32, z = ((p2 &&& (2147483647 : Int32)) % (3 : Int32)) := ⟨_, rfl⟩
  obtain ⟨T26, h26, k26, X26, e26, E26, A26, st26⟩ := newP X23 hx hZ (hw _ (List.mem_of_getElem? (i := 2) rfl)) e23 (g := (mkF m 106 #[.val (.int p0), .val (.int p1), .val (.int p2), .val (.int p3), .val (.int p4), .val (.ref b1), .val (.int v13), .val (.int v15), .val (.ref b16), .val (.int v25), .unset, .unset, .unset, .unset, .unset, .unset] [(.int (3 : Int32))])) rfl (hb hby at_106) rfl (by decide) (cap := 3) (by decide) (by decide) (by decide) (by decide)
  obtain ⟨b26, g26⟩ : ∃ z, z = h23.size := ⟨_, rfl⟩
  rw [← g26] at A26 st26
  have G27 : AF Z h23 b1 .int 4 (fun j => .int (f12 j)) := (((((V11.ext E16).other W17 ne_b1_b16).other W19 ne_b1_b16).other W21 ne_b1_b16).other W23 ne_b1_b16)
  have ne_b1_b26 : b1 ≠ b26 := Nat.ne_of_lt (Nat.lt_of_lt_of_le G27.lt (Nat.le_of_eq g26.symm))
  have ne_b16_b26 : b16 ≠ b26 := Nat.ne_of_lt (Nat.lt_of_lt_of_le V23.lt (Nat.le_of_eq g26.symm))
  have nw_b26 : n0 ≤ b26 := Nat.le_trans (Nat.le_trans Z0 K23.1) (Nat.le_of_eq g26.symm)
  have sz_b26 : h0.size ≤ b26 := Nat.le_trans K23.1 (Nat.le_of_eq g26.symm)
  have K26 : Keep h0 h26 [] := K23.ext E26
  have V26 : AF Z h26 b26 .long 3 (fun j => .long ((fun _ => (0 : Int64)) j)) := AF.new A26 (by decide)
  obtain ⟨T28, h28, X28, e28, W28, A28, st28⟩ := AF.stJ X26 hx hZ e26 V26 (by decide : own_in (0 : Int32) 3) (g := (mkF m 114 #[.val (.int p0), .val (.int p1), .val (.int p2), .val (.int p3), .val (.int p4), .val (.ref b1), .val (.int v13), .val (.int v15), .val (.ref b16), .val (.int v25), .val (.ref b26), .unset, .unset, .unset, .unset, .unset] [(.long (0 : Int64)), (.int (0 : Int32)), (.ref b26)])) rfl rfl (hb hby at_114)
  have K28 : Keep h0 h28 [] := K26.wr W28 (Or.inr sz_b26)
  obtain ⟨f29, hf29⟩ : ∃ f : Nat → Int64, f = (fun i => if i = 0 then (0 : Int64) else (fun _ => (0 : Int64)) i) := ⟨_, rfl⟩
  have V28 : AF Z h28 b26 .long 3 (fun j => .long (f29 j)) := AF.cong A28 (own_updJ rfl hf29)
  have N28 := Fr.snoc X28 N23 nw_b26
  obtain ⟨T30, h30, X30, e30, W30, A30, st30⟩ := AF.stJ X28 hx hZ e28 V28 (by decide : own_in (1 : Int32) 3) (g := (mkF m 119 #[.val (.int p0), .val (.int p1), .val (.int p2), .val (.int p3), .val (.int p4), .val (.ref b1), .val (.int v13), .val (.int v15), .val (.ref b16), .val (.int v25), .val (.ref b26), .unset, .unset, .unset, .unset, .unset] [(.long (1 : Int64)), (.int (1 : Int32)), (.ref b26)])) rfl rfl (hb hby at_119)
  have K30 : Keep h0 h30 [] := K28.wr W30 (Or.inr sz_b26)
  obtain ⟨f31, hf31⟩ : ∃ f : Nat → Int64, f = (fun i => if i = 1 then (1 : Int64) else f29 i) := ⟨_, rfl⟩
  have V30 : AF Z h30 b26 .long 3 (fun j => .long (f31 j)) := AF.cong A30 (own_updJ rfl hf31)
  have N30 := Fr.snoc X30 N28 nw_b26
  obtain ⟨T32, h32, X32, e32, W32, A32, st32⟩ := AF.stJ X30 hx hZ e30 V30 (by decide : own_in (2 : Int32) 3) (g := (mkF m 126 #[.val (.int p0), .val (.int p1), .val (.int p2), .val (.int p3), .val (.int p4), .val (.ref b1), .val (.int v13), .val (.int v15), .val (.ref b16), .val (.int v25), .val (.ref b26), .unset, .unset, .unset, .unset, .unset] [(.long (2 : Int64)), (.int (2 : Int32)), (.ref b26)])) rfl rfl (hb hby at_126)
  have K32 : Keep h0 h32 [] := K30.wr W32 (Or.inr sz_b26)
  obtain ⟨f33, hf33⟩ : ∃ f : Nat → Int64, f = (fun i => if i = 2 then (2 : Int64) else f31 i) := ⟨_, rfl⟩
  have V32 : AF Z h32 b26 .long 3 (fun j => .long (f33 j)) := AF.cong A32 (own_updJ rfl hf33)
  have N32 := Fr.snoc X32 N30 nw_b26
  obtain ⟨T34, h34, X34, e34, E34, A34, D34, -, st34⟩ := newO X32 hx hZ hown (hw _ (List.mem_of_getElem? (i := 4) rfl)) (hw _ (List.mem_of_getElem? (i := 5) rfl)) (hw _ (List.mem_of_getElem? (i := 6) rfl)) e32 (g := (mkF m 127 #[.val (.int p0), .val (.int p1), .val (.int p2), .val (.int p3), .val (.int p4), .val (.ref b1), .val (.int v13), .val (.int v15), .val (.ref b16), .val (.int v25), .val (.ref b26), .unset, .unset, .unset, .unset, .unset] [])) rfl (hb hby at_127) (by decide) (by decide)
  obtain ⟨b34, g34⟩ : ∃ z, z = h32.size := ⟨_, rfl⟩
  rw [← g34] at A34 D34 st34
  have G35 : AF Z h32 b1 .int 4 (fun j => .int (f12 j)) := ((((G27.ext E26).other W28 ne_b1_b26).other W30 ne_b1_b26).other W32 ne_b1_b26)
  have ne_b1_b34 : b1 ≠ b34 := Nat.ne_of_lt (Nat.lt_of_lt_of_le G35.lt (Nat.le_of_eq g34.symm))
  have G36 : AF Z h32 b16 .int 4 (fun j => .int (f24 j)) := ((((V23.ext E26).other W28 ne_b16_b26).other W30 ne_b16_b26).other W32 ne_b16_b26)
  have ne_b16_b34 : b16 ≠ b34 := Nat.ne_of_lt (Nat.lt_of_lt_of_le G36.lt (Nat.le_of_eq g34.symm))
  have ne_b26_b34 : b26 ≠ b34 := Nat.ne_of_lt (Nat.lt_of_lt_of_le V32.lt (Nat.le_of_eq g34.symm))
  have nw_b34 : n0 ≤ b34 := Nat.le_trans (Nat.le_trans Z0 K32.1) (Nat.le_of_eq g34.symm)
  have sz_b34 : h0.size ≤ b34 := Nat.le_trans K32.1 (Nat.le_of_eq g34.symm)
  have K34 : Keep h0 h34 [] := K32.ext E34
  have F_days_b34 : Fld Z h34 b34 "com/example/ezra/ezra/Lineup" "days" "Ljava/util/List;" .null := D34 (Or.inr (hw _ (List.mem_of_getElem? (i := 19) rfl))) (ty := (.object "java/util/List")) (by decide)
  have F_numbers_b34 : Fld Z h34 b34 "com/example/ezra/ezra/Lineup" "numbers" "[J" .null := D34 (Or.inr (hw _ (List.mem_of_getElem? (i := 21) rfl))) (ty := (.array .long)) (by decide)
  have F_start_b34 : Fld Z h34 b34 "com/example/ezra/ezra/Lineup" "start" "[I" .null := D34 (Or.inr (hw _ (List.mem_of_getElem? (i := 23) rfl))) (ty := (.array .int)) (by decide)
  have F_day_b34 : Fld Z h34 b34 "com/example/ezra/ezra/Lineup" "day" "[I" .null := D34 (Or.inr (hw _ (List.mem_of_getElem? (i := 25) rfl))) (ty := (.array .int)) (by decide)
  have F_position_b34 : Fld Z h34 b34 "com/example/ezra/ezra/Lineup" "position" "[I" .null := D34 (Or.inr (hw _ (List.mem_of_getElem? (i := 27) rfl))) (ty := (.array .int)) (by decide)
  obtain ⟨T37, h37, k37, X37, e37, E37, A37, st37⟩ := newP X34 hx hZ (hw _ (List.mem_of_getElem? (i := 0) rfl)) e34 (g := (mkF m 139 #[.val (.int p0), .val (.int p1), .val (.int p2), .val (.int p3), .val (.int p4), .val (.ref b1), .val (.int v13), .val (.int v15), .val (.ref b16), .val (.int v25), .val (.ref b26), .unset, .unset, .unset, .unset, .unset] [(.int (4 : Int32)), (.ref b1), (.ref b16), (.ref b26), .null, (.ref b34), (.ref b34)])) rfl (hb hby at_139) rfl (by decide) (cap := 4) (by decide) (by decide) (by decide) (by decide)
  obtain ⟨b37, g37⟩ : ∃ z, z = h34.size := ⟨_, rfl⟩
  rw [← g37] at A37 st37
  have G38 : AF Z h34 b1 .int 4 (fun j => .int (f12 j)) := (G35.ext E34)
  have ne_b1_b37 : b1 ≠ b37 := Nat.ne_of_lt (Nat.lt_of_lt_of_le G38.lt (Nat.le_of_eq g37.symm))
  have G39 : AF Z h34 b16 .int 4 (fun j => .int (f24 j)) := (G36.ext E34)
  have ne_b16_b37 : b16 ≠ b37 := Nat.ne_of_lt (Nat.lt_of_lt_of_le G39.lt (Nat.le_of_eq g37.symm))
  have G40 : AF Z h34 b26 .long 3 (fun j => .long (f33 j)) := (V32.ext E34)
  have ne_b26_b37 : b26 ≠ b37 := Nat.ne_of_lt (Nat.lt_of_lt_of_le G40.lt (Nat.le_of_eq g37.symm))
  have ne_b34_b37 : b34 ≠ b37 := Nat.ne_of_lt (Nat.lt_of_lt_of_le A34.lt (Nat.le_of_eq g37.symm))
  have nw_b37 : n0 ≤ b37 := Nat.le_trans (Nat.le_trans Z0 K34.1) (Nat.le_of_eq g37.symm)
  have sz_b37 : h0.size ≤ b37 := Nat.le_trans K34.1 (Nat.le_of_eq g37.symm)
  have K37 : Keep h0 h37 [] := K34.ext E37
  have V37 : AF Z h37 b37 .int 4 (fun j => .int ((fun _ => (0 : Int32)) j)) := AF.new A37 (by decide)
  have G41 : Exa Z h37 b34 "com/example/ezra/ezra/Lineup" := (A34.ext E37)
  have G42 : Fld Z h37 b34 "com/example/ezra/ezra/Lineup" "days" "Ljava/util/List;" .null := (F_days_b34.ext E37)
  have G43 : Fld Z h37 b34 "com/example/ezra/ezra/Lineup" "numbers" "[J" .null := (F_numbers_b34.ext E37)
  have G44 : Fld Z h37 b34 "com/example/ezra/ezra/Lineup" "start" "[I" .null := (F_start_b34.ext E37)
  have G45 : Fld Z h37 b34 "com/example/ezra/ezra/Lineup" "day" "[I" .null := (F_day_b34.ext E37)
  have G46 : Fld Z h37 b34 "com/example/ezra/ezra/Lineup" "position" "[I" .null := (F_position_b34.ext E37)
  obtain ⟨_, _, ⟨T47, L47, k47, n47⟩, -, X47, ⟨Lc47, hQ47, l47, y47, z47⟩, st47⟩ := X37.specialBack hx (y := (⟨"com/example/ezra/ezra/Lineup", "<init>", "(Ljava/util/List;[J[I[I[I)V"⟩ : MethodName)) rfl hown (mvT hZ (hw _ (List.mem_of_getElem? (i := 7) rfl))) (mvT hZ (hw _ (List.mem_of_getElem? (i := 8) rfl))) (mvT hZ (hw _ (List.mem_of_getElem? (i := 9) rfl))) (by decide) (backOf (W := 1) (rm1 l Z A0 hw [] b34 b26 b16 b1 b37 .null .null .null .null .null h37 n0 (Nat.le_trans Z0 K37.1) G41 G42 G43 G44 G45 G46 nw_b34) hZ (hw _ (List.mem_of_getElem? (i := 9) rfl)) (hw _ (List.mem_of_getElem? (i := 6) rfl)) (by decide) (by decide)) (g := (mkF m 141 #[.val (.int p0), .val (.int p1), .val (.int p2), .val (.int p3), .val (.int p4), .val (.ref b1), .val (.int v13), .val (.int v15), .val (.ref b16), .val (.int v25), .val (.ref b26), .unset, .unset, .unset, .unset, .unset] [(.ref b37), (.ref b1), (.ref b16), (.ref b26), .null, (.ref b34), (.ref b34)])) rfl (by rw [hml]; rfl) (Steps.refl _) (a := b34) (argsL := [.null, (.ref b26), (.ref b16), (.ref b1), (.ref b37)]) (rest := [(.ref b34)]) (lenOf pd_0 rfl) rfl (by show 2 * 0 + _ ≤ _; exact Nat.le_of_eq rfl) (hb hby at_141) (fun _ _ => ⟨rfl, e37, (by decide : 5 + 0 ≤ _), (by decide : 20 + 0 ≤ _)⟩)
  dsimp only [Pt.U, Pt.locs, Pt.cells, Pt.slots] at X47 l47 y47 z47 st47 hQ47
  subst l47 y47 z47
  obtain ⟨rfl, N47q, Kc47, P48, P49, P50, P51, P52, P53⟩ := hQ47
  have K47 : Keep h0 T47.heap [] := K37.trans Kc47 (allS (Or.inr sz_b34) all0)
  have N47 := Fr.app N32 N47q
  have G54 : AF Z T47.heap b16 .int 4 (fun j => .int (f24 j)) := ((G39.ext E37).keep Kc47 (ninS ne_b16_b34 nin0))
  have G55 : AF Z T47.heap b1 .int 4 (fun j => .int (f12 j)) := ((G38.ext E37).keep Kc47 (ninS ne_b1_b34 nin0))
  have hp56 : own_in v25 4 := (own_hin5_153 p2 v25 hv25)
  have hp57 : own_in (v25 + (1 : Int32)) 4 := (own_hin17_153 p2 v25 hv25)
  have hp58 : (f24 ((v25 + (1 : Int32))).toNatClampNeg).toInt ≤ 4 := (own_hhi_153 p1 p2 v13 v15 f18 f20 f22 f24 v25 hv13 hv15 hf18 hf20 hf22 hf24 hv25)
  have hp59 : 0 ≤ (f24 (v25).toNatClampNeg).toInt := (own_hlo_153 p1 p2 v13 v15 f18 f20 f22 f24 v25 hv13 hv15 hf18 hf20 hf22 hf24 hv25)
  have hp60 : (f24 (v25).toNatClampNeg).toInt ≤ (f24 ((v25 + (1 : Int32))).toNatClampNeg).toInt := (own_hle_153 p1 p2 v13 v15 f18 f20 f22 f24 v25 hv13 hv15 hf18 hf20 hf22 hf24 hv25)
  obtain ⟨cq61, kq61, q61a, q61b, q61c⟩ := isOf hZ rfl P48
  obtain ⟨_, _, ⟨T61, L61, k61, n61⟩, -, X61, ⟨Lc61, hQ61, l61, y61, z61⟩, st61⟩ := X47.virtualBack hx (y := (⟨"com/example/ezra/ezra/Lineup", "has", "(III)Z"⟩ : MethodName)) (z := (⟨"com/example/ezra/ezra/Lineup", "has", "(III)Z"⟩ : MethodName)) hown (mvT hZ (hw _ (List.mem_of_getElem? (i := 28) rfl))) (mvT hZ (hw _ (List.mem_of_getElem? (i := 29) rfl))) (notFace_of_selects (args := #[]) (mvT hZ (hw _ (List.mem_of_getElem? (i := 31) rfl)))) (mvT hZ (hw _ (List.mem_of_getElem? (i := 31) rfl))) (mvT hZ (hw _ (List.mem_of_getElem? (i := 30) rfl))) (by decide) (backOf (W := 0) (rm4 l Z A0 hw [] b34 v25 p3 p4 .null (.ref b26) b16 b1 (.ref b37) 4 f24 4 f12 T47.heap n0 (Nat.le_trans Z0 K47.1) P48 P49 P50 P51 P52 P53 G54 G55 hp56 hp57 hp58 hp59 hp60) hZ (hw _ (List.mem_of_getElem? (i := 32) rfl)) (hw _ (List.mem_of_getElem? (i := 6) rfl)) (by decide) (by decide)) q61a q61c (g := (mkF m 153 #[.val (.int p0), .val (.int p1), .val (.int p2), .val (.int p3), .val (.int p4), .val (.ref b1), .val (.int v13), .val (.int v15), .val (.ref b16), .val (.int v25), .val (.ref b26), .val (.ref b34), .unset, .unset, .unset, .unset] [(.int p4), (.int p3), (.int v25), (.ref b34)])) rfl (by rw [hml]; rfl) (Steps.refl _) (argsL := [(.int v25), (.int p3), (.int p4)]) (rest := []) (lenOf pd_2 rfl) rfl (by show 2 * 0 + _ ≤ _; exact Nat.le_of_eq rfl) (hb hby at_153) (fun _ _ => ⟨rfl, rfl, (by decide : 5 + 0 ≤ _), (by decide : 20 + 0 ≤ _)⟩)
  dsimp only [Pt.U, Pt.locs, Pt.cells, Pt.slots] at X61 l61 y61 z61 st61 hQ61
  subst l61 y61 z61
  obtain ⟨rfl, N61q, e61⟩ := hQ61
  have N61 := Fr.app N47 N61q
  obtain ⟨v62, hv62⟩ : ∃ z : Int32, z = (if own_any f12 p3 p4 ((f24 (v25).toNatClampNeg)).toNatClampNeg ((f24 ((v25 + (1 : Int32))).toNatClampNeg).toInt - (f24 (v25).toNatClampNeg).toInt).toNat = true then (1 : Int32) else (0 : Int32)) := ⟨_, rfl⟩
  have hi63 : own_in v25 4 := (own_in162 p2 v25 hv25)
  obtain ⟨v64, hv64⟩ : ∃ z : Int32, z = (f24 (v25).toNatClampNeg) := ⟨_, rfl⟩
  have hi65 : own_in (v25 + (1 : Int32)) 4 := (own_in171 p2 v25 hv25)
  obtain ⟨v66, hv66⟩ : ∃ z : Int32, z = (f24 ((v25 + (1 : Int32))).toNatClampNeg) := ⟨_, rfl⟩
  obtain ⟨_, _, ⟨T67, L67, k67, n67⟩, -, X67, ⟨Lc67, hQ67, l67, y67, z67⟩, st67⟩ := Jvm.LawKit.callS X61 hx (y := (⟨"com/example/ezra/ezra/LineupHasPinLaw", "in", "(IIIIII)Z"⟩ : MethodName)) hown (mvT hZ (hw _ (List.mem_of_getElem? (i := 33) rfl))) (mvT hZ (hw _ (List.mem_of_getElem? (i := 34) rfl))) (mvT hZ (hw _ (List.mem_of_getElem? (i := 35) rfl))) (mvT hZ (hw _ (List.mem_of_getElem? (i := 36) rfl))) (by decide) (backOf (W := 0) (rm5 l Z A0 hw [] (0 : Int32) v64 v66 (f12 0) p3 p4 T47.heap n0 (Nat.le_trans Z0 K47.1) ) hZ (hw _ (List.mem_of_getElem? (i := 36) rfl)) (hw _ (List.mem_of_getElem? (i := 35) rfl)) (by decide) (by decide)) (g := (mkF m 186 #[.val (.int p0), .val (.int p1), .val (.int p2), .val (.int p3), .val (.int p4), .val (.ref b1), .val (.int v13), .val (.int v15), .val (.ref b16), .val (.int v25), .val (.ref b26), .val (.ref b34), .val (.int v62), .val (.int v64), .val (.int v66), .unset] [(.int p4), (.int p3), (.int (f12 0)), (.int v66), (.int v64), (.int (0 : Int32))])) rfl (by rw [hml]; rfl) (argsL := [(.int (0 : Int32)), (.int v64), (.int v66), (.int (f12 0)), (.int p3), (.int p4)]) (rest := []) (lenOf pd_3 rfl) rfl (by show 2 * 0 + _ ≤ _; exact Nat.le_of_eq rfl) (hb hby at_186) (fun _ _ => ⟨rfl, e61, (by decide : 5 + 0 ≤ _), (by decide : 20 + 0 ≤ _)⟩)
  dsimp only [Pt.U, Pt.locs, Pt.cells, Pt.slots] at X67 l67 y67 z67 st67 hQ67
  subst l67 y67 z67
  obtain ⟨rfl, N67q, e67⟩ := hQ67
  have N67 := Fr.app N61 N67q
  obtain ⟨v83, hv83⟩ : ∃ z : Int32, z = if (own_inn (0 : Int32) v64 v66 (f12 0) p3 p4) = (0 : Int32) then (if (own_inn (1 : Int32) v64 v66 (f12 1) p3 p4) = (0 : Int32) then (if (own_inn (2 : Int32) v64 v66 (f12 2) p3 p4) = (0 : Int32) then (if (own_inn (3 : Int32) v64 v66 (f12 3) p3 p4) = (0 : Int32) then (0 : Int32) else (1 : Int32)) else (1 : Int32)) else (1 : Int32)) else (1 : Int32) := ⟨_, rfl⟩
  obtain ⟨T84, L84, X84, N84, e84, st84⟩ : ∃ (T' : State) (L' : List Loc), Stand p l e room_1 s m #[(.int p0), (.int p1), (.int p2), (.int p3), (.int p4)] below meth c T' L' 5 20 ∧ Fr n0 L' ∧ T'.heap = T47.heap ∧ ∀ target, Steps p.tables e below (T'.setTop (mkF m 251 #[.val (.int p0), .val (.int p1), .val (.int p2), .val (.int p3), .val (.int p4), .val (.ref b1), .val (.int v13), .val (.int v15), .val (.ref b16), .val (.int v25), .val (.ref b26), .val (.ref b34), .val (.int v62), .val (.int v64), .val (.int v66), .unset] [(.int v83)])) target → Steps p.tables e below (T67.setTop (mkF m 189 #[.val (.int p0), .val (.int p1), .val (.int p2), .val (.int p3), .val (.int p4), .val (.ref b1), .val (.int v13), .val (.int v15), .val (.ref b16), .val (.int v25), .val (.ref b26), .val (.ref b34), .val (.int v62), .val (.int v64), .val (.int v66), .unset] [(.int (own_inn (0 : Int32) v64 v66 (f12 0) p3 p4))])) target := by
    by_cases hc69 : (own_inn (0 : Int32) v64 v66 (f12 0) p3 p4) = (0 : Int32)
    · obtain ⟨_, _, ⟨T70, L70, k70, n70⟩, -, X70, ⟨Lc70, hQ70, l70, y70, z70⟩, st70⟩ := Jvm.LawKit.callS X67 hx (y := (⟨"com/example/ezra/ezra/LineupHasPinLaw", "in", "(IIIIII)Z"⟩ : MethodName)) hown (mvT hZ (hw _ (List.mem_of_getElem? (i := 33) rfl))) (mvT hZ (hw _ (List.mem_of_getElem? (i := 34) rfl))) (mvT hZ (hw _ (List.mem_of_getElem? (i := 35) rfl))) (mvT hZ (hw _ (List.mem_of_getElem? (i := 36) rfl))) (by decide) (backOf (W := 0) (rm5 l Z A0 hw [] (1 : Int32) v64 v66 (f12 1) p3 p4 T47.heap n0 (Nat.le_trans Z0 K47.1) ) hZ (hw _ (List.mem_of_getElem? (i := 36) rfl)) (hw _ (List.mem_of_getElem? (i := 35) rfl)) (by decide) (by decide)) (g := (mkF m 204 #[.val (.int p0), .val (.int p1), .val (.int p2), .val (.int p3), .val (.int p4), .val (.ref b1), .val (.int v13), .val (.int v15), .val (.ref b16), .val (.int v25), .val (.ref b26), .val (.ref b34), .val (.int v62), .val (.int v64), .val (.int v66), .unset] [(.int p4), (.int p3), (.int (f12 1)), (.int v66), (.int v64), (.int (1 : Int32))])) rfl (by rw [hml]; rfl) (argsL := [(.int (1 : Int32)), (.int v64), (.int v66), (.int (f12 1)), (.int p3), (.int p4)]) (rest := []) (lenOf pd_3 rfl) rfl (by show 2 * 0 + _ ≤ _; exact Nat.le_of_eq rfl) (hb hby at_204) (fun _ _ => ⟨rfl, e67, (by decide : 5 + 0 ≤ _), (by decide : 20 + 0 ≤ _)⟩)
      dsimp only [Pt.U, Pt.locs, Pt.cells, Pt.slots] at X70 l70 y70 z70 st70 hQ70
      subst l70 y70 z70
      obtain ⟨rfl, N70q, e70⟩ := hQ70
      have N70 := Fr.app N67 N70q
      obtain ⟨v81, hv81⟩ : ∃ z : Int32, z = if (own_inn (1 : Int32) v64 v66 (f12 1) p3 p4) = (0 : Int32) then (if (own_inn (2 : Int32) v64 v66 (f12 2) p3 p4) = (0 : Int32) then (if (own_inn (3 : Int32) v64 v66 (f12 3) p3 p4) = (0 : Int32) then (0 : Int32) else (1 : Int32)) else (1 : Int32)) else (1 : Int32) := ⟨_, rfl⟩
      obtain ⟨T82, L82, X82, N82, e82, st82⟩ : ∃ (T' : State) (L' : List Loc), Stand p l e room_1 s m #[(.int p0), (.int p1), (.int p2), (.int p3), (.int p4)] below meth c T' L' 5 20 ∧ Fr n0 L' ∧ T'.heap = T47.heap ∧ ∀ target, Steps p.tables e below (T'.setTop (mkF m 251 #[.val (.int p0), .val (.int p1), .val (.int p2), .val (.int p3), .val (.int p4), .val (.ref b1), .val (.int v13), .val (.int v15), .val (.ref b16), .val (.int v25), .val (.ref b26), .val (.ref b34), .val (.int v62), .val (.int v64), .val (.int v66), .unset] [(.int v81)])) target → Steps p.tables e below (T70.setTop (mkF m 207 #[.val (.int p0), .val (.int p1), .val (.int p2), .val (.int p3), .val (.int p4), .val (.ref b1), .val (.int v13), .val (.int v15), .val (.ref b16), .val (.int v25), .val (.ref b26), .val (.ref b34), .val (.int v62), .val (.int v64), .val (.int v66), .unset] [(.int (own_inn (1 : Int32) v64 v66 (f12 1) p3 p4))])) target := by
        by_cases hc72 : (own_inn (1 : Int32) v64 v66 (f12 1) p3 p4) = (0 : Int32)
        · obtain ⟨_, _, ⟨T73, L73, k73, n73⟩, -, X73, ⟨Lc73, hQ73, l73, y73, z73⟩, st73⟩ := Jvm.LawKit.callS X70 hx (y := (⟨"com/example/ezra/ezra/LineupHasPinLaw", "in", "(IIIIII)Z"⟩ : MethodName)) hown (mvT hZ (hw _ (List.mem_of_getElem? (i := 33) rfl))) (mvT hZ (hw _ (List.mem_of_getElem? (i := 34) rfl))) (mvT hZ (hw _ (List.mem_of_getElem? (i := 35) rfl))) (mvT hZ (hw _ (List.mem_of_getElem? (i := 36) rfl))) (by decide) (backOf (W := 0) (rm5 l Z A0 hw [] (2 : Int32) v64 v66 (f12 2) p3 p4 T47.heap n0 (Nat.le_trans Z0 K47.1) ) hZ (hw _ (List.mem_of_getElem? (i := 36) rfl)) (hw _ (List.mem_of_getElem? (i := 35) rfl)) (by decide) (by decide)) (g := (mkF m 222 #[.val (.int p0), .val (.int p1), .val (.int p2), .val (.int p3), .val (.int p4), .val (.ref b1), .val (.int v13), .val (.int v15), .val (.ref b16), .val (.int v25), .val (.ref b26), .val (.ref b34), .val (.int v62), .val (.int v64), .val (.int v66), .unset] [(.int p4), (.int p3), (.int (f12 2)), (.int v66), (.int v64), (.int (2 : Int32))])) rfl (by rw [hml]; rfl) (argsL := [(.int (2 : Int32)), (.int v64), (.int v66), (.int (f12 2)), (.int p3), (.int p4)]) (rest := []) (lenOf pd_3 rfl) rfl (by show 2 * 0 + _ ≤ _; exact Nat.le_of_eq rfl) (hb hby at_222) (fun _ _ => ⟨rfl, e70, (by decide : 5 + 0 ≤ _), (by decide : 20 + 0 ≤ _)⟩)
          dsimp only [Pt.U, Pt.locs, Pt.cells, Pt.slots] at X73 l73 y73 z73 st73 hQ73
          subst l73 y73 z73
          obtain ⟨rfl, N73q, e73⟩ := hQ73
          have N73 := Fr.app N70 N73q
          obtain ⟨v79, hv79⟩ : ∃ z : Int32, z = if (own_inn (2 : Int32) v64 v66 (f12 2) p3 p4) = (0 : Int32) then (if (own_inn (3 : Int32) v64 v66 (f12 3) p3 p4) = (0 : Int32) then (0 : Int32) else (1 : Int32)) else (1 : Int32) := ⟨_, rfl⟩
          obtain ⟨T80, L80, X80, N80, e80, st80⟩ : ∃ (T' : State) (L' : List Loc), Stand p l e room_1 s m #[(.int p0), (.int p1), (.int p2), (.int p3), (.int p4)] below meth c T' L' 5 20 ∧ Fr n0 L' ∧ T'.heap = T47.heap ∧ ∀ target, Steps p.tables e below (T'.setTop (mkF m 251 #[.val (.int p0), .val (.int p1), .val (.int p2), .val (.int p3), .val (.int p4), .val (.ref b1), .val (.int v13), .val (.int v15), .val (.ref b16), .val (.int v25), .val (.ref b26), .val (.ref b34), .val (.int v62), .val (.int v64), .val (.int v66), .unset] [(.int v79)])) target → Steps p.tables e below (T73.setTop (mkF m 225 #[.val (.int p0), .val (.int p1), .val (.int p2), .val (.int p3), .val (.int p4), .val (.ref b1), .val (.int v13), .val (.int v15), .val (.ref b16), .val (.int v25), .val (.ref b26), .val (.ref b34), .val (.int v62), .val (.int v64), .val (.int v66), .unset] [(.int (own_inn (2 : Int32) v64 v66 (f12 2) p3 p4))])) target := by
            by_cases hc75 : (own_inn (2 : Int32) v64 v66 (f12 2) p3 p4) = (0 : Int32)
            · obtain ⟨_, _, ⟨T76, L76, k76, n76⟩, -, X76, ⟨Lc76, hQ76, l76, y76, z76⟩, st76⟩ := Jvm.LawKit.callS X73 hx (y := (⟨"com/example/ezra/ezra/LineupHasPinLaw", "in", "(IIIIII)Z"⟩ : MethodName)) hown (mvT hZ (hw _ (List.mem_of_getElem? (i := 33) rfl))) (mvT hZ (hw _ (List.mem_of_getElem? (i := 34) rfl))) (mvT hZ (hw _ (List.mem_of_getElem? (i := 35) rfl))) (mvT hZ (hw _ (List.mem_of_getElem? (i := 36) rfl))) (by decide) (backOf (W := 0) (rm5 l Z A0 hw [] (3 : Int32) v64 v66 (f12 3) p3 p4 T47.heap n0 (Nat.le_trans Z0 K47.1) ) hZ (hw _ (List.mem_of_getElem? (i := 36) rfl)) (hw _ (List.mem_of_getElem? (i := 35) rfl)) (by decide) (by decide)) (g := (mkF m 240 #[.val (.int p0), .val (.int p1), .val (.int p2), .val (.int p3), .val (.int p4), .val (.ref b1), .val (.int v13), .val (.int v15), .val (.ref b16), .val (.int v25), .val (.ref b26), .val (.ref b34), .val (.int v62), .val (.int v64), .val (.int v66), .unset] [(.int p4), (.int p3), (.int (f12 3)), (.int v66), (.int v64), (.int (3 : Int32))])) rfl (by rw [hml]; rfl) (argsL := [(.int (3 : Int32)), (.int v64), (.int v66), (.int (f12 3)), (.int p3), (.int p4)]) (rest := []) (lenOf pd_3 rfl) rfl (by show 2 * 0 + _ ≤ _; exact Nat.le_of_eq rfl) (hb hby at_240) (fun _ _ => ⟨rfl, e73, (by decide : 5 + 0 ≤ _), (by decide : 20 + 0 ≤ _)⟩)
              dsimp only [Pt.U, Pt.locs, Pt.cells, Pt.slots] at X76 l76 y76 z76 st76 hQ76
              subst l76 y76 z76
              obtain ⟨rfl, N76q, e76⟩ := hQ76
              have N76 := Fr.app N73 N76q
              obtain ⟨v78, hv78⟩ : ∃ z : Int32, z = if (own_inn (3 : Int32) v64 v66 (f12 3) p3 p4) = (0 : Int32) then (0 : Int32) else (1 : Int32) := ⟨_, rfl⟩
              refine ⟨T76, _, X76, N76, e76, fun target kt => ?_⟩
              show Steps p.tables e below (T73.setTop (mkF m 225 #[.val (.int p0), .val (.int p1), .val (.int p2), .val (.int p3), .val (.int p4), .val (.ref b1), .val (.int v13), .val (.int v15), .val (.ref b16), .val (.int v25), .val (.ref b26), .val (.ref b34), .val (.int v62), .val (.int v64), .val (.int v66), .unset] [(.int (own_inn (2 : Int32) v64 v66 (f12 2) p3 p4))])) _
              refine XS.ifNo X73.here hx rfl (hb hby at_225) rfl ((if0 _ _).trans (teq hc75).2) ?_
              show Steps p.tables e below (T73.setTop (mkF m 228 #[.val (.int p0), .val (.int p1), .val (.int p2), .val (.int p3), .val (.int p4), .val (.ref b1), .val (.int v13), .val (.int v15), .val (.ref b16), .val (.int v25), .val (.ref b26), .val (.ref b34), .val (.int v62), .val (.int v64), .val (.int v66), .unset] [])) _
              refine XS.iconst X73.here hx rfl (hb hby at_228) ?_
              show Steps p.tables e below (T73.setTop (mkF m 229 #[.val (.int p0), .val (.int p1), .val (.int p2), .val (.int p3), .val (.int p4), .val (.ref b1), .val (.int v13), .val (.int v15), .val (.ref b16), .val (.int v25), .val (.ref b26), .val (.ref b34), .val (.int v62), .val (.int v64), .val (.int v66), .unset] [(.int (3 : Int32))])) _
              refine XS.iload X73.here hx rfl (hb hby at_229) rfl ?_
              show Steps p.tables e below (T73.setTop (mkF m 231 #[.val (.int p0), .val (.int p1), .val (.int p2), .val (.int p3), .val (.int p4), .val (.ref b1), .val (.int v13), .val (.int v15), .val (.ref b16), .val (.int v25), .val (.ref b26), .val (.ref b34), .val (.int v62), .val (.int v64), .val (.int v66), .unset] [(.int v64), (.int (3 : Int32))])) _
              refine XS.iload X73.here hx rfl (hb hby at_231) rfl ?_
              show Steps p.tables e below (T73.setTop (mkF m 233 #[.val (.int p0), .val (.int p1), .val (.int p2), .val (.int p3), .val (.int p4), .val (.ref b1), .val (.int v13), .val (.int v15), .val (.ref b16), .val (.int v25), .val (.ref b26), .val (.ref b34), .val (.int v62), .val (.int v64), .val (.int v66), .unset] [(.int v66), (.int v64), (.int (3 : Int32))])) _
              refine XS.aload X73.here hx rfl (hb hby at_233) rfl rfl ?_
              show Steps p.tables e below (T73.setTop (mkF m 235 #[.val (.int p0), .val (.int p1), .val (.int p2), .val (.int p3), .val (.int p4), .val (.ref b1), .val (.int v13), .val (.int v15), .val (.ref b16), .val (.int v25), .val (.ref b26), .val (.ref b34), .val (.int v62), .val (.int v64), .val (.int v66), .unset] [(.ref b1), (.int v66), (.int v64), (.int (3 : Int32))])) _
              refine XS.iconst X73.here hx rfl (hb hby at_235) ?_
              show Steps p.tables e below (T73.setTop (mkF m 236 #[.val (.int p0), .val (.int p1), .val (.int p2), .val (.int p3), .val (.int p4), .val (.ref b1), .val (.int v13), .val (.int v15), .val (.ref b16), .val (.int v25), .val (.ref b26), .val (.ref b34), .val (.int v62), .val (.int v64), .val (.int v66), .unset] [(.int (3 : Int32)), (.ref b1), (.int v66), (.int v64), (.int (3 : Int32))])) _
              refine AF.ldI X73 hx hZ e73 G55 (by decide : own_in (3 : Int32) 4) (g := (mkF m 236 #[.val (.int p0), .val (.int p1), .val (.int p2), .val (.int p3), .val (.int p4), .val (.ref b1), .val (.int v13), .val (.int v15), .val (.ref b16), .val (.int v25), .val (.ref b26), .val (.ref b34), .val (.int v62), .val (.int v64), .val (.int v66), .unset] [(.int (3 : Int32)), (.ref b1), (.int v66), (.int v64), (.int (3 : Int32))])) rfl rfl (hb hby at_236) _ ?_
              show Steps p.tables e below (T73.setTop (mkF m 237 #[.val (.int p0), .val (.int p1), .val (.int p2), .val (.int p3), .val (.int p4), .val (.ref b1), .val (.int v13), .val (.int v15), .val (.ref b16), .val (.int v25), .val (.ref b26), .val (.ref b34), .val (.int v62), .val (.int v64), .val (.int v66), .unset] [(.int (f12 3)), (.int v66), (.int v64), (.int (3 : Int32))])) _
              refine XS.iloadN X73.here hx rfl (hb hby at_237) rfl ?_
              show Steps p.tables e below (T73.setTop (mkF m 238 #[.val (.int p0), .val (.int p1), .val (.int p2), .val (.int p3), .val (.int p4), .val (.ref b1), .val (.int v13), .val (.int v15), .val (.ref b16), .val (.int v25), .val (.ref b26), .val (.ref b34), .val (.int v62), .val (.int v64), .val (.int v66), .unset] [(.int p3), (.int (f12 3)), (.int v66), (.int v64), (.int (3 : Int32))])) _
              refine XS.iload X73.here hx rfl (hb hby at_238) rfl ?_
              show Steps p.tables e below (T73.setTop (mkF m 240 #[.val (.int p0), .val (.int p1), .val (.int p2), .val (.int p3), .val (.int p4), .val (.ref b1), .val (.int v13), .val (.int v15), .val (.ref b16), .val (.int v25), .val (.ref b26), .val (.ref b34), .val (.int v62), .val (.int v64), .val (.int v66), .unset] [(.int p4), (.int p3), (.int (f12 3)), (.int v66), (.int v64), (.int (3 : Int32))])) _
              refine st76 _ ?_
              show Steps p.tables e below (T76.setTop (mkF m 243 #[.val (.int p0), .val (.int p1), .val (.int p2), .val (.int p3), .val (.int p4), .val (.ref b1), .val (.int v13), .val (.int v15), .val (.ref b16), .val (.int v25), .val (.ref b26), .val (.ref b34), .val (.int v62), .val (.int v64), .val (.int v66), .unset] [(.int (own_inn (3 : Int32) v64 v66 (f12 3) p3 p4))])) _
              refine own_dia (F := (mkF m 251 #[.val (.int p0), .val (.int p1), .val (.int p2), .val (.int p3), .val (.int p4), .val (.ref b1), .val (.int v13), .val (.int v15), .val (.ref b16), .val (.int v25), .val (.ref b26), .val (.ref b34), .val (.int v62), .val (.int v64), .val (.int v66), .unset] [(.int v78)])) ?_ ?_
              · intro kt
                by_cases hc77 : (own_inn (3 : Int32) v64 v66 (f12 3) p3 p4) = (0 : Int32)
                · show Steps p.tables e below (T76.setTop (mkF m 243 #[.val (.int p0), .val (.int p1), .val (.int p2), .val (.int p3), .val (.int p4), .val (.ref b1), .val (.int v13), .val (.int v15), .val (.ref b16), .val (.int v25), .val (.ref b26), .val (.ref b34), .val (.int v62), .val (.int v64), .val (.int v66), .unset] [(.int (own_inn (3 : Int32) v64 v66 (f12 3) p3 p4))])) _
                  refine XS.ifYes X76.here hx rfl (pc0 := 243) (pc' := 250) rfl (hb hby at_243) rfl ((if0 _ _).trans (teq hc77).1) (by decide) (by decide) ?_
                  show Steps p.tables e below (T76.setTop (mkF m 250 #[.val (.int p0), .val (.int p1), .val (.int p2), .val (.int p3), .val (.int p4), .val (.ref b1), .val (.int v13), .val (.int v15), .val (.ref b16), .val (.int v25), .val (.ref b26), .val (.ref b34), .val (.int v62), .val (.int v64), .val (.int v66), .unset] [])) _
                  refine XS.iconst X76.here hx rfl (hb hby at_250) ?_
                  exact castTop (by rw [hv78, if_pos hc77] <;> rfl) kt
                · show Steps p.tables e below (T76.setTop (mkF m 243 #[.val (.int p0), .val (.int p1), .val (.int p2), .val (.int p3), .val (.int p4), .val (.ref b1), .val (.int v13), .val (.int v15), .val (.ref b16), .val (.int v25), .val (.ref b26), .val (.ref b34), .val (.int v62), .val (.int v64), .val (.int v66), .unset] [(.int (own_inn (3 : Int32) v64 v66 (f12 3) p3 p4))])) _
                  refine XS.ifNo X76.here hx rfl (hb hby at_243) rfl ((if0 _ _).trans (feq hc77).1) ?_
                  show Steps p.tables e below (T76.setTop (mkF m 246 #[.val (.int p0), .val (.int p1), .val (.int p2), .val (.int p3), .val (.int p4), .val (.ref b1), .val (.int v13), .val (.int v15), .val (.ref b16), .val (.int v25), .val (.ref b26), .val (.ref b34), .val (.int v62), .val (.int v64), .val (.int v66), .unset] [])) _
                  refine XS.iconst X76.here hx rfl (hb hby at_246) ?_
                  show Steps p.tables e below (T76.setTop (mkF m 247 #[.val (.int p0), .val (.int p1), .val (.int p2), .val (.int p3), .val (.int p4), .val (.ref b1), .val (.int v13), .val (.int v15), .val (.ref b16), .val (.int v25), .val (.ref b26), .val (.ref b34), .val (.int v62), .val (.int v64), .val (.int v66), .unset] [(.int (1 : Int32))])) _
                  refine XS.goto X76.here hx rfl (pc0 := 247) (pc' := 251) rfl (hb hby at_247) (by decide) (by decide) ?_
                  exact castTop (by rw [hv78, if_neg hc77] <;> rfl) kt
              exact castTop (by subst hv78; rw [hv79, if_pos hc75] <;> rfl) kt
            · refine ⟨T73, _, X73, N73, e73, fun target kt => ?_⟩
              show Steps p.tables e below (T73.setTop (mkF m 225 #[.val (.int p0), .val (.int p1), .val (.int p2), .val (.int p3), .val (.int p4), .val (.ref b1), .val (.int v13), .val (.int v15), .val (.ref b16), .val (.int v25), .val (.ref b26), .val (.ref b34), .val (.int v62), .val (.int v64), .val (.int v66), .unset] [(.int (own_inn (2 : Int32) v64 v66 (f12 2) p3 p4))])) _
              refine XS.ifYes X73.here hx rfl (pc0 := 225) (pc' := 246) rfl (hb hby at_225) rfl ((if0 _ _).trans (feq hc75).2) (by decide) (by decide) ?_
              show Steps p.tables e below (T73.setTop (mkF m 246 #[.val (.int p0), .val (.int p1), .val (.int p2), .val (.int p3), .val (.int p4), .val (.ref b1), .val (.int v13), .val (.int v15), .val (.ref b16), .val (.int v25), .val (.ref b26), .val (.ref b34), .val (.int v62), .val (.int v64), .val (.int v66), .unset] [])) _
              refine XS.iconst X73.here hx rfl (hb hby at_246) ?_
              show Steps p.tables e below (T73.setTop (mkF m 247 #[.val (.int p0), .val (.int p1), .val (.int p2), .val (.int p3), .val (.int p4), .val (.ref b1), .val (.int v13), .val (.int v15), .val (.ref b16), .val (.int v25), .val (.ref b26), .val (.ref b34), .val (.int v62), .val (.int v64), .val (.int v66), .unset] [(.int (1 : Int32))])) _
              refine XS.goto X73.here hx rfl (pc0 := 247) (pc' := 251) rfl (hb hby at_247) (by decide) (by decide) ?_
              exact castTop (by rw [hv79, if_neg hc75] <;> rfl) kt
          refine ⟨T80, _, X80, N80, e80, fun target kt => ?_⟩
          show Steps p.tables e below (T70.setTop (mkF m 207 #[.val (.int p0), .val (.int p1), .val (.int p2), .val (.int p3), .val (.int p4), .val (.ref b1), .val (.int v13), .val (.int v15), .val (.ref b16), .val (.int v25), .val (.ref b26), .val (.ref b34), .val (.int v62), .val (.int v64), .val (.int v66), .unset] [(.int (own_inn (1 : Int32) v64 v66 (f12 1) p3 p4))])) _
          refine XS.ifNo X70.here hx rfl (hb hby at_207) rfl ((if0 _ _).trans (teq hc72).2) ?_
          show Steps p.tables e below (T70.setTop (mkF m 210 #[.val (.int p0), .val (.int p1), .val (.int p2), .val (.int p3), .val (.int p4), .val (.ref b1), .val (.int v13), .val (.int v15), .val (.ref b16), .val (.int v25), .val (.ref b26), .val (.ref b34), .val (.int v62), .val (.int v64), .val (.int v66), .unset] [])) _
          refine XS.iconst X70.here hx rfl (hb hby at_210) ?_
          show Steps p.tables e below (T70.setTop (mkF m 211 #[.val (.int p0), .val (.int p1), .val (.int p2), .val (.int p3), .val (.int p4), .val (.ref b1), .val (.int v13), .val (.int v15), .val (.ref b16), .val (.int v25), .val (.ref b26), .val (.ref b34), .val (.int v62), .val (.int v64), .val (.int v66), .unset] [(.int (2 : Int32))])) _
          refine XS.iload X70.here hx rfl (hb hby at_211) rfl ?_
          show Steps p.tables e below (T70.setTop (mkF m 213 #[.val (.int p0), .val (.int p1), .val (.int p2), .val (.int p3), .val (.int p4), .val (.ref b1), .val (.int v13), .val (.int v15), .val (.ref b16), .val (.int v25), .val (.ref b26), .val (.ref b34), .val (.int v62), .val (.int v64), .val (.int v66), .unset] [(.int v64), (.int (2 : Int32))])) _
          refine XS.iload X70.here hx rfl (hb hby at_213) rfl ?_
          show Steps p.tables e below (T70.setTop (mkF m 215 #[.val (.int p0), .val (.int p1), .val (.int p2), .val (.int p3), .val (.int p4), .val (.ref b1), .val (.int v13), .val (.int v15), .val (.ref b16), .val (.int v25), .val (.ref b26), .val (.ref b34), .val (.int v62), .val (.int v64), .val (.int v66), .unset] [(.int v66), (.int v64), (.int (2 : Int32))])) _
          refine XS.aload X70.here hx rfl (hb hby at_215) rfl rfl ?_
          show Steps p.tables e below (T70.setTop (mkF m 217 #[.val (.int p0), .val (.int p1), .val (.int p2), .val (.int p3), .val (.int p4), .val (.ref b1), .val (.int v13), .val (.int v15), .val (.ref b16), .val (.int v25), .val (.ref b26), .val (.ref b34), .val (.int v62), .val (.int v64), .val (.int v66), .unset] [(.ref b1), (.int v66), (.int v64), (.int (2 : Int32))])) _
          refine XS.iconst X70.here hx rfl (hb hby at_217) ?_
          show Steps p.tables e below (T70.setTop (mkF m 218 #[.val (.int p0), .val (.int p1), .val (.int p2), .val (.int p3), .val (.int p4), .val (.ref b1), .val (.int v13), .val (.int v15), .val (.ref b16), .val (.int v25), .val (.ref b26), .val (.ref b34), .val (.int v62), .val (.int v64), .val (.int v66), .unset] [(.int (2 : Int32)), (.ref b1), (.int v66), (.int v64), (.int (2 : Int32))])) _
          refine AF.ldI X70 hx hZ e70 G55 (by decide : own_in (2 : Int32) 4) (g := (mkF m 218 #[.val (.int p0), .val (.int p1), .val (.int p2), .val (.int p3), .val (.int p4), .val (.ref b1), .val (.int v13), .val (.int v15), .val (.ref b16), .val (.int v25), .val (.ref b26), .val (.ref b34), .val (.int v62), .val (.int v64), .val (.int v66), .unset] [(.int (2 : Int32)), (.ref b1), (.int v66), (.int v64), (.int (2 : Int32))])) rfl rfl (hb hby at_218) _ ?_
          show Steps p.tables e below (T70.setTop (mkF m 219 #[.val (.int p0), .val (.int p1), .val (.int p2), .val (.int p3), .val (.int p4), .val (.ref b1), .val (.int v13), .val (.int v15), .val (.ref b16), .val (.int v25), .val (.ref b26), .val (.ref b34), .val (.int v62), .val (.int v64), .val (.int v66), .unset] [(.int (f12 2)), (.int v66), (.int v64), (.int (2 : Int32))])) _
          refine XS.iloadN X70.here hx rfl (hb hby at_219) rfl ?_
          show Steps p.tables e below (T70.setTop (mkF m 220 #[.val (.int p0), .val (.int p1), .val (.int p2), .val (.int p3), .val (.int p4), .val (.ref b1), .val (.int v13), .val (.int v15), .val (.ref b16), .val (.int v25), .val (.ref b26), .val (.ref b34), .val (.int v62), .val (.int v64), .val (.int v66), .unset] [(.int p3), (.int (f12 2)), (.int v66), (.int v64), (.int (2 : Int32))])) _
          refine XS.iload X70.here hx rfl (hb hby at_220) rfl ?_
          show Steps p.tables e below (T70.setTop (mkF m 222 #[.val (.int p0), .val (.int p1), .val (.int p2), .val (.int p3), .val (.int p4), .val (.ref b1), .val (.int v13), .val (.int v15), .val (.ref b16), .val (.int v25), .val (.ref b26), .val (.ref b34), .val (.int v62), .val (.int v64), .val (.int v66), .unset] [(.int p4), (.int p3), (.int (f12 2)), (.int v66), (.int v64), (.int (2 : Int32))])) _
          refine st73 _ ?_
          show Steps p.tables e below (T73.setTop (mkF m 225 #[.val (.int p0), .val (.int p1), .val (.int p2), .val (.int p3), .val (.int p4), .val (.ref b1), .val (.int v13), .val (.int v15), .val (.ref b16), .val (.int v25), .val (.ref b26), .val (.ref b34), .val (.int v62), .val (.int v64), .val (.int v66), .unset] [(.int (own_inn (2 : Int32) v64 v66 (f12 2) p3 p4))])) _
          refine st80 _ ?_
          exact castTop (by subst hv79; rw [hv81, if_pos hc72] <;> rfl) kt
        · refine ⟨T70, _, X70, N70, e70, fun target kt => ?_⟩
          show Steps p.tables e below (T70.setTop (mkF m 207 #[.val (.int p0), .val (.int p1), .val (.int p2), .val (.int p3), .val (.int p4), .val (.ref b1), .val (.int v13), .val (.int v15), .val (.ref b16), .val (.int v25), .val (.ref b26), .val (.ref b34), .val (.int v62), .val (.int v64), .val (.int v66), .unset] [(.int (own_inn (1 : Int32) v64 v66 (f12 1) p3 p4))])) _
          refine XS.ifYes X70.here hx rfl (pc0 := 207) (pc' := 246) rfl (hb hby at_207) rfl ((if0 _ _).trans (feq hc72).2) (by decide) (by decide) ?_
          show Steps p.tables e below (T70.setTop (mkF m 246 #[.val (.int p0), .val (.int p1), .val (.int p2), .val (.int p3), .val (.int p4), .val (.ref b1), .val (.int v13), .val (.int v15), .val (.ref b16), .val (.int v25), .val (.ref b26), .val (.ref b34), .val (.int v62), .val (.int v64), .val (.int v66), .unset] [])) _
          refine XS.iconst X70.here hx rfl (hb hby at_246) ?_
          show Steps p.tables e below (T70.setTop (mkF m 247 #[.val (.int p0), .val (.int p1), .val (.int p2), .val (.int p3), .val (.int p4), .val (.ref b1), .val (.int v13), .val (.int v15), .val (.ref b16), .val (.int v25), .val (.ref b26), .val (.ref b34), .val (.int v62), .val (.int v64), .val (.int v66), .unset] [(.int (1 : Int32))])) _
          refine XS.goto X70.here hx rfl (pc0 := 247) (pc' := 251) rfl (hb hby at_247) (by decide) (by decide) ?_
          exact castTop (by rw [hv81, if_neg hc72] <;> rfl) kt
      refine ⟨T82, _, X82, N82, e82, fun target kt => ?_⟩
      show Steps p.tables e below (T67.setTop (mkF m 189 #[.val (.int p0), .val (.int p1), .val (.int p2), .val (.int p3), .val (.int p4), .val (.ref b1), .val (.int v13), .val (.int v15), .val (.ref b16), .val (.int v25), .val (.ref b26), .val (.ref b34), .val (.int v62), .val (.int v64), .val (.int v66), .unset] [(.int (own_inn (0 : Int32) v64 v66 (f12 0) p3 p4))])) _
      refine XS.ifNo X67.here hx rfl (hb hby at_189) rfl ((if0 _ _).trans (teq hc69).2) ?_
      show Steps p.tables e below (T67.setTop (mkF m 192 #[.val (.int p0), .val (.int p1), .val (.int p2), .val (.int p3), .val (.int p4), .val (.ref b1), .val (.int v13), .val (.int v15), .val (.ref b16), .val (.int v25), .val (.ref b26), .val (.ref b34), .val (.int v62), .val (.int v64), .val (.int v66), .unset] [])) _
      refine XS.iconst X67.here hx rfl (hb hby at_192) ?_
      show Steps p.tables e below (T67.setTop (mkF m 193 #[.val (.int p0), .val (.int p1), .val (.int p2), .val (.int p3), .val (.int p4), .val (.ref b1), .val (.int v13), .val (.int v15), .val (.ref b16), .val (.int v25), .val (.ref b26), .val (.ref b34), .val (.int v62), .val (.int v64), .val (.int v66), .unset] [(.int (1 : Int32))])) _
      refine XS.iload X67.here hx rfl (hb hby at_193) rfl ?_
      show Steps p.tables e below (T67.setTop (mkF m 195 #[.val (.int p0), .val (.int p1), .val (.int p2), .val (.int p3), .val (.int p4), .val (.ref b1), .val (.int v13), .val (.int v15), .val (.ref b16), .val (.int v25), .val (.ref b26), .val (.ref b34), .val (.int v62), .val (.int v64), .val (.int v66), .unset] [(.int v64), (.int (1 : Int32))])) _
      refine XS.iload X67.here hx rfl (hb hby at_195) rfl ?_
      show Steps p.tables e below (T67.setTop (mkF m 197 #[.val (.int p0), .val (.int p1), .val (.int p2), .val (.int p3), .val (.int p4), .val (.ref b1), .val (.int v13), .val (.int v15), .val (.ref b16), .val (.int v25), .val (.ref b26), .val (.ref b34), .val (.int v62), .val (.int v64), .val (.int v66), .unset] [(.int v66), (.int v64), (.int (1 : Int32))])) _
      refine XS.aload X67.here hx rfl (hb hby at_197) rfl rfl ?_
      show Steps p.tables e below (T67.setTop (mkF m 199 #[.val (.int p0), .val (.int p1), .val (.int p2), .val (.int p3), .val (.int p4), .val (.ref b1), .val (.int v13), .val (.int v15), .val (.ref b16), .val (.int v25), .val (.ref b26), .val (.ref b34), .val (.int v62), .val (.int v64), .val (.int v66), .unset] [(.ref b1), (.int v66), (.int v64), (.int (1 : Int32))])) _
      refine XS.iconst X67.here hx rfl (hb hby at_199) ?_
      show Steps p.tables e below (T67.setTop (mkF m 200 #[.val (.int p0), .val (.int p1), .val (.int p2), .val (.int p3), .val (.int p4), .val (.ref b1), .val (.int v13), .val (.int v15), .val (.ref b16), .val (.int v25), .val (.ref b26), .val (.ref b34), .val (.int v62), .val (.int v64), .val (.int v66), .unset] [(.int (1 : Int32)), (.ref b1), (.int v66), (.int v64), (.int (1 : Int32))])) _
      refine AF.ldI X67 hx hZ e67 G55 (by decide : own_in (1 : Int32) 4) (g := (mkF m 200 #[.val (.int p0), .val (.int p1), .val (.int p2), .val (.int p3), .val (.int p4), .val (.ref b1), .val (.int v13), .val (.int v15), .val (.ref b16), .val (.int v25), .val (.ref b26), .val (.ref b34), .val (.int v62), .val (.int v64), .val (.int v66), .unset] [(.int (1 : Int32)), (.ref b1), (.int v66), (.int v64), (.int (1 : Int32))])) rfl rfl (hb hby at_200) _ ?_
      show Steps p.tables e below (T67.setTop (mkF m 201 #[.val (.int p0), .val (.int p1), .val (.int p2), .val (.int p3), .val (.int p4), .val (.ref b1), .val (.int v13), .val (.int v15), .val (.ref b16), .val (.int v25), .val (.ref b26), .val (.ref b34), .val (.int v62), .val (.int v64), .val (.int v66), .unset] [(.int (f12 1)), (.int v66), (.int v64), (.int (1 : Int32))])) _
      refine XS.iloadN X67.here hx rfl (hb hby at_201) rfl ?_
      show Steps p.tables e below (T67.setTop (mkF m 202 #[.val (.int p0), .val (.int p1), .val (.int p2), .val (.int p3), .val (.int p4), .val (.ref b1), .val (.int v13), .val (.int v15), .val (.ref b16), .val (.int v25), .val (.ref b26), .val (.ref b34), .val (.int v62), .val (.int v64), .val (.int v66), .unset] [(.int p3), (.int (f12 1)), (.int v66), (.int v64), (.int (1 : Int32))])) _
      refine XS.iload X67.here hx rfl (hb hby at_202) rfl ?_
      show Steps p.tables e below (T67.setTop (mkF m 204 #[.val (.int p0), .val (.int p1), .val (.int p2), .val (.int p3), .val (.int p4), .val (.ref b1), .val (.int v13), .val (.int v15), .val (.ref b16), .val (.int v25), .val (.ref b26), .val (.ref b34), .val (.int v62), .val (.int v64), .val (.int v66), .unset] [(.int p4), (.int p3), (.int (f12 1)), (.int v66), (.int v64), (.int (1 : Int32))])) _
      refine st70 _ ?_
      show Steps p.tables e below (T70.setTop (mkF m 207 #[.val (.int p0), .val (.int p1), .val (.int p2), .val (.int p3), .val (.int p4), .val (.ref b1), .val (.int v13), .val (.int v15), .val (.ref b16), .val (.int v25), .val (.ref b26), .val (.ref b34), .val (.int v62), .val (.int v64), .val (.int v66), .unset] [(.int (own_inn (1 : Int32) v64 v66 (f12 1) p3 p4))])) _
      refine st82 _ ?_
      exact castTop (by subst hv81; rw [hv83, if_pos hc69] <;> rfl) kt
    · refine ⟨T67, _, X67, N67, e67, fun target kt => ?_⟩
      show Steps p.tables e below (T67.setTop (mkF m 189 #[.val (.int p0), .val (.int p1), .val (.int p2), .val (.int p3), .val (.int p4), .val (.ref b1), .val (.int v13), .val (.int v15), .val (.ref b16), .val (.int v25), .val (.ref b26), .val (.ref b34), .val (.int v62), .val (.int v64), .val (.int v66), .unset] [(.int (own_inn (0 : Int32) v64 v66 (f12 0) p3 p4))])) _
      refine XS.ifYes X67.here hx rfl (pc0 := 189) (pc' := 246) rfl (hb hby at_189) rfl ((if0 _ _).trans (feq hc69).2) (by decide) (by decide) ?_
      show Steps p.tables e below (T67.setTop (mkF m 246 #[.val (.int p0), .val (.int p1), .val (.int p2), .val (.int p3), .val (.int p4), .val (.ref b1), .val (.int v13), .val (.int v15), .val (.ref b16), .val (.int v25), .val (.ref b26), .val (.ref b34), .val (.int v62), .val (.int v64), .val (.int v66), .unset] [])) _
      refine XS.iconst X67.here hx rfl (hb hby at_246) ?_
      show Steps p.tables e below (T67.setTop (mkF m 247 #[.val (.int p0), .val (.int p1), .val (.int p2), .val (.int p3), .val (.int p4), .val (.ref b1), .val (.int v13), .val (.int v15), .val (.ref b16), .val (.int v25), .val (.ref b26), .val (.ref b34), .val (.int v62), .val (.int v64), .val (.int v66), .unset] [(.int (1 : Int32))])) _
      refine XS.goto X67.here hx rfl (pc0 := 247) (pc' := 251) rfl (hb hby at_247) (by decide) (by decide) ?_
      exact castTop (by rw [hv83, if_neg hc69] <;> rfl) kt
  obtain ⟨v86, hv86⟩ : ∃ z : Int32, z = if v62 = v83 then (1 : Int32) else (0 : Int32) := ⟨_, rfl⟩
  obtain ⟨fs, hr, hrun, hended, hW, hsame⟩ := X84.leave (v := some (.int (nar .boolean v86))) (fun h => by rw [Bd.returns] at h; cases h)
  refine ⟨_, _, pre0 _ ?_, hrun, hended, _, _, rfl, ?_, ⟨_, rfl⟩, hW, hsame.mono (by decide) (by decide)⟩
  · show Steps p.tables e below (s₁.setTop (mkF m 0 #[.val (.int p0), .val (.int p1), .val (.int p2), .val (.int p3), .val (.int p4), .unset, .unset, .unset, .unset, .unset, .unset, .unset, .unset, .unset, .unset, .unset] [])) _
    refine XS.iconst X0.here hx rfl (hb hby at_0) ?_
    show Steps p.tables e below (s₁.setTop (mkF m 1 #[.val (.int p0), .val (.int p1), .val (.int p2), .val (.int p3), .val (.int p4), .unset, .unset, .unset, .unset, .unset, .unset, .unset, .unset, .unset, .unset, .unset] [(.int (4 : Int32))])) _
    refine st1 _ ?_
    show Steps p.tables e below (T1.setTop (mkF m 3 #[.val (.int p0), .val (.int p1), .val (.int p2), .val (.int p3), .val (.int p4), .unset, .unset, .unset, .unset, .unset, .unset, .unset, .unset, .unset, .unset, .unset] [(.ref b1)])) _
    refine XS.astore X1.here hx rfl (hb hby at_3) rfl rfl (l' := #[.val (.int p0), .val (.int p1), .val (.int p2), .val (.int p3), .val (.int p4), .val (.ref b1), .unset, .unset, .unset, .unset, .unset, .unset, .unset, .unset, .unset, .unset]) rfl ?_
    show Steps p.tables e below (T1.setTop (mkF m 5 #[.val (.int p0), .val (.int p1), .val (.int p2), .val (.int p3), .val (.int p4), .val (.ref b1), .unset, .unset, .unset, .unset, .unset, .unset, .unset, .unset, .unset, .unset] [])) _
    refine XS.aload X1.here hx rfl (hb hby at_5) rfl rfl ?_
    show Steps p.tables e below (T1.setTop (mkF m 7 #[.val (.int p0), .val (.int p1), .val (.int p2), .val (.int p3), .val (.int p4), .val (.ref b1), .unset, .unset, .unset, .unset, .unset, .unset, .unset, .unset, .unset, .unset] [(.ref b1)])) _
    refine XS.iconst X1.here hx rfl (hb hby at_7) ?_
    show Steps p.tables e below (T1.setTop (mkF m 8 #[.val (.int p0), .val (.int p1), .val (.int p2), .val (.int p3), .val (.int p4), .val (.ref b1), .unset, .unset, .unset, .unset, .unset, .unset, .unset, .unset, .unset, .unset] [(.int (0 : Int32)), (.ref b1)])) _
    refine XS.iloadN X1.here hx rfl (hb hby at_8) rfl ?_
    show Steps p.tables e below (T1.setTop (mkF m 9 #[.val (.int p0), .val (.int p1), .val (.int p2), .val (.int p3), .val (.int p4), .val (.ref b1), .unset, .unset, .unset, .unset, .unset, .unset, .unset, .unset, .unset, .unset] [(.int p0), (.int (0 : Int32)), (.ref b1)])) _
    refine XS.bipush X1.here hx rfl (hb hby at_9) ?_
    show Steps p.tables e below (T1.setTop (mkF m 11 #[.val (.int p0), .val (.int p1), .val (.int p2), .val (.int p3), .val (.int p4), .val (.ref b1), .unset, .unset, .unset, .unset, .unset, .unset, .unset, .unset, .unset, .unset] [(.int (7 : Int32)), (.int p0), (.int (0 : Int32)), (.ref b1)])) _
    refine XS.iand X1.here hx rfl (hb hby at_11) rfl ?_
    show Steps p.tables e below (T1.setTop (mkF m 12 #[.val (.int p0), .val (.int p1), .val (.int p2), .val (.int p3), .val (.int p4), .val (.ref b1), .unset, .unset, .unset, .unset, .unset, .unset, .unset, .unset, .unset, .unset] [(.int (p0 &&& (7 : Int32))), (.int (0 : Int32)), (.ref b1)])) _
    refine st2 _ ?_
    show Steps p.tables e below (T2.setTop (mkF m 13 #[.val (.int p0), .val (.int p1), .val (.int p2), .val (.int p3), .val (.int p4), .val (.ref b1), .unset, .unset, .unset, .unset, .unset, .unset, .unset, .unset, .unset, .unset] [])) _
    refine XS.aload X2.here hx rfl (hb hby at_13) rfl rfl ?_
    show Steps p.tables e below (T2.setTop (mkF m 15 #[.val (.int p0), .val (.int p1), .val (.int p2), .val (.int p3), .val (.int p4), .val (.ref b1), .unset, .unset, .unset, .unset, .unset, .unset, .unset, .unset, .unset, .unset] [(.ref b1)])) _
    refine XS.iconst X2.here hx rfl (hb hby at_15) ?_
    show Steps p.tables e below (T2.setTop (mkF m 16 #[.val (.int p0), .val (.int p1), .val (.int p2), .val (.int p3), .val (.int p4), .val (.ref b1), .unset, .unset, .unset, .unset, .unset, .unset, .unset, .unset, .unset, .unset] [(.int (1 : Int32)), (.ref b1)])) _
    refine XS.iloadN X2.here hx rfl (hb hby at_16) rfl ?_
    show Steps p.tables e below (T2.setTop (mkF m 17 #[.val (.int p0), .val (.int p1), .val (.int p2), .val (.int p3), .val (.int p4), .val (.ref b1), .unset, .unset, .unset, .unset, .unset, .unset, .unset, .unset, .unset, .unset] [(.int p0), (.int (1 : Int32)), (.ref b1)])) _
    refine XS.iconst X2.here hx rfl (hb hby at_17) ?_
    show Steps p.tables e below (T2.setTop (mkF m 18 #[.val (.int p0), .val (.int p1), .val (.int p2), .val (.int p3), .val (.int p4), .val (.ref b1), .unset, .unset, .unset, .unset, .unset, .unset, .unset, .unset, .unset, .unset] [(.int (3 : Int32)), (.int p0), (.int (1 : Int32)), (.ref b1)])) _
    refine XS.iushr X2.here hx rfl (hb hby at_18) rfl ?_
    show Steps p.tables e below (T2.setTop (mkF m 19 #[.val (.int p0), .val (.int p1), .val (.int p2), .val (.int p3), .val (.int p4), .val (.ref b1), .unset, .unset, .unset, .unset, .unset, .unset, .unset, .unset, .unset, .unset] [(.int ((p0.toUInt32 >>> ((3 : Int32) &&& 31).toUInt32).toInt32)), (.int (1 : Int32)), (.ref b1)])) _
    refine XS.bipush X2.here hx rfl (hb hby at_19) ?_
    show Steps p.tables e below (T2.setTop (mkF m 21 #[.val (.int p0), .val (.int p1), .val (.int p2), .val (.int p3), .val (.int p4), .val (.ref b1), .unset, .unset, .unset, .unset, .unset, .unset, .unset, .unset, .unset, .unset] [(.int (7 : Int32)), (.int ((p0.toUInt32 >>> ((3 : Int32) &&& 31).toUInt32).toInt32)), (.int (1 : Int32)), (.ref b1)])) _
    refine XS.iand X2.here hx rfl (hb hby at_21) rfl ?_
    show Steps p.tables e below (T2.setTop (mkF m 22 #[.val (.int p0), .val (.int p1), .val (.int p2), .val (.int p3), .val (.int p4), .val (.ref b1), .unset, .unset, .unset, .unset, .unset, .unset, .unset, .unset, .unset, .unset] [(.int (((p0.toUInt32 >>> ((3 : Int32) &&& 31).toUInt32).toInt32) &&& (7 : Int32))), (.int (1 : Int32)), (.ref b1)])) _
    refine castTop (g' := (mkF m 22 #[.val (.int p0), .val (.int p1), .val (.int p2), .val (.int p3), .val (.int p4), .val (.ref b1), .unset, .unset, .unset, .unset, .unset, .unset, .unset, .unset, .unset, .unset] [(.int v4), (.int (1 : Int32)), (.ref b1)])) (by rw [hv4] <;> rfl) ?_
    show Steps p.tables e below (T2.setTop (mkF m 22 #[.val (.int p0), .val (.int p1), .val (.int p2), .val (.int p3), .val (.int p4), .val (.ref b1), .unset, .unset, .unset, .unset, .unset, .unset, .unset, .unset, .unset, .unset] [(.int v4), (.int (1 : Int32)), (.ref b1)])) _
    refine st5 _ ?_
    show Steps p.tables e below (T5.setTop (mkF m 23 #[.val (.int p0), .val (.int p1), .val (.int p2), .val (.int p3), .val (.int p4), .val (.ref b1), .unset, .unset, .unset, .unset, .unset, .unset, .unset, .unset, .unset, .unset] [])) _
    refine XS.aload X5.here hx rfl (hb hby at_23) rfl rfl ?_
    show Steps p.tables e below (T5.setTop (mkF m 25 #[.val (.int p0), .val (.int p1), .val (.int p2), .val (.int p3), .val (.int p4), .val (.ref b1), .unset, .unset, .unset, .unset, .unset, .unset, .unset, .unset, .unset, .unset] [(.ref b1)])) _
    refine XS.iconst X5.here hx rfl (hb hby at_25) ?_
    show Steps p.tables e below (T5.setTop (mkF m 26 #[.val (.int p0), .val (.int p1), .val (.int p2), .val (.int p3), .val (.int p4), .val (.ref b1), .unset, .unset, .unset, .unset, .unset, .unset, .unset, .unset, .unset, .unset] [(.int (2 : Int32)), (.ref b1)])) _
    refine XS.iloadN X5.here hx rfl (hb hby at_26) rfl ?_
    show Steps p.tables e below (T5.setTop (mkF m 27 #[.val (.int p0), .val (.int p1), .val (.int p2), .val (.int p3), .val (.int p4), .val (.ref b1), .unset, .unset, .unset, .unset, .unset, .unset, .unset, .unset, .unset, .unset] [(.int p0), (.int (2 : Int32)), (.ref b1)])) _
    refine XS.bipush X5.here hx rfl (hb hby at_27) ?_
    show Steps p.tables e below (T5.setTop (mkF m 29 #[.val (.int p0), .val (.int p1), .val (.int p2), .val (.int p3), .val (.int p4), .val (.ref b1), .unset, .unset, .unset, .unset, .unset, .unset, .unset, .unset, .unset, .unset] [(.int (6 : Int32)), (.int p0), (.int (2 : Int32)), (.ref b1)])) _
    refine XS.iushr X5.here hx rfl (hb hby at_29) rfl ?_
    show Steps p.tables e below (T5.setTop (mkF m 30 #[.val (.int p0), .val (.int p1), .val (.int p2), .val (.int p3), .val (.int p4), .val (.ref b1), .unset, .unset, .unset, .unset, .unset, .unset, .unset, .unset, .unset, .unset] [(.int ((p0.toUInt32 >>> ((6 : Int32) &&& 31).toUInt32).toInt32)), (.int (2 : Int32)), (.ref b1)])) _
    refine XS.bipush X5.here hx rfl (hb hby at_30) ?_
    show Steps p.tables e below (T5.setTop (mkF m 32 #[.val (.int p0), .val (.int p1), .val (.int p2), .val (.int p3), .val (.int p4), .val (.ref b1), .unset, .unset, .unset, .unset, .unset, .unset, .unset, .unset, .unset, .unset] [(.int (7 : Int32)), (.int ((p0.toUInt32 >>> ((6 : Int32) &&& 31).toUInt32).toInt32)), (.int (2 : Int32)), (.ref b1)])) _
    refine XS.iand X5.here hx rfl (hb hby at_32) rfl ?_
    show Steps p.tables e below (T5.setTop (mkF m 33 #[.val (.int p0), .val (.int p1), .val (.int p2), .val (.int p3), .val (.int p4), .val (.ref b1), .unset, .unset, .unset, .unset, .unset, .unset, .unset, .unset, .unset, .unset] [(.int (((p0.toUInt32 >>> ((6 : Int32) &&& 31).toUInt32).toInt32) &&& (7 : Int32))), (.int (2 : Int32)), (.ref b1)])) _
    refine castTop (g' := (mkF m 33 #[.val (.int p0), .val (.int p1), .val (.int p2), .val (.int p3), .val (.int p4), .val (.ref b1), .unset, .unset, .unset, .unset, .unset, .unset, .unset, .unset, .unset, .unset] [(.int v7), (.int (2 : Int32)), (.ref b1)])) (by rw [hv7] <;> rfl) ?_
    show Steps p.tables e below (T5.setTop (mkF m 33 #[.val (.int p0), .val (.int p1), .val (.int p2), .val (.int p3), .val (.int p4), .val (.ref b1), .unset, .unset, .unset, .unset, .unset, .unset, .unset, .unset, .unset, .unset] [(.int v7), (.int (2 : Int32)), (.ref b1)])) _
    refine st8 _ ?_
    show Steps p.tables e below (T8.setTop (mkF m 34 #[.val (.int p0), .val (.int p1), .val (.int p2), .val (.int p3), .val (.int p4), .val (.ref b1), .unset, .unset, .unset, .unset, .unset, .unset, .unset, .unset, .unset, .unset] [])) _
    refine XS.aload X8.here hx rfl (hb hby at_34) rfl rfl ?_
    show Steps p.tables e below (T8.setTop (mkF m 36 #[.val (.int p0), .val (.int p1), .val (.int p2), .val (.int p3), .val (.int p4), .val (.ref b1), .unset, .unset, .unset, .unset, .unset, .unset, .unset, .unset, .unset, .unset] [(.ref b1)])) _
    refine XS.iconst X8.here hx rfl (hb hby at_36) ?_
    show Steps p.tables e below (T8.setTop (mkF m 37 #[.val (.int p0), .val (.int p1), .val (.int p2), .val (.int p3), .val (.int p4), .val (.ref b1), .unset, .unset, .unset, .unset, .unset, .unset, .unset, .unset, .unset, .unset] [(.int (3 : Int32)), (.ref b1)])) _
    refine XS.iloadN X8.here hx rfl (hb hby at_37) rfl ?_
    show Steps p.tables e below (T8.setTop (mkF m 38 #[.val (.int p0), .val (.int p1), .val (.int p2), .val (.int p3), .val (.int p4), .val (.ref b1), .unset, .unset, .unset, .unset, .unset, .unset, .unset, .unset, .unset, .unset] [(.int p0), (.int (3 : Int32)), (.ref b1)])) _
    refine XS.bipush X8.here hx rfl (hb hby at_38) ?_
    show Steps p.tables e below (T8.setTop (mkF m 40 #[.val (.int p0), .val (.int p1), .val (.int p2), .val (.int p3), .val (.int p4), .val (.ref b1), .unset, .unset, .unset, .unset, .unset, .unset, .unset, .unset, .unset, .unset] [(.int (9 : Int32)), (.int p0), (.int (3 : Int32)), (.ref b1)])) _
    refine XS.iushr X8.here hx rfl (hb hby at_40) rfl ?_
    show Steps p.tables e below (T8.setTop (mkF m 41 #[.val (.int p0), .val (.int p1), .val (.int p2), .val (.int p3), .val (.int p4), .val (.ref b1), .unset, .unset, .unset, .unset, .unset, .unset, .unset, .unset, .unset, .unset] [(.int ((p0.toUInt32 >>> ((9 : Int32) &&& 31).toUInt32).toInt32)), (.int (3 : Int32)), (.ref b1)])) _
    refine XS.bipush X8.here hx rfl (hb hby at_41) ?_
    show Steps p.tables e below (T8.setTop (mkF m 43 #[.val (.int p0), .val (.int p1), .val (.int p2), .val (.int p3), .val (.int p4), .val (.ref b1), .unset, .unset, .unset, .unset, .unset, .unset, .unset, .unset, .unset, .unset] [(.int (7 : Int32)), (.int ((p0.toUInt32 >>> ((9 : Int32) &&& 31).toUInt32).toInt32)), (.int (3 : Int32)), (.ref b1)])) _
    refine XS.iand X8.here hx rfl (hb hby at_43) rfl ?_
    show Steps p.tables e below (T8.setTop (mkF m 44 #[.val (.int p0), .val (.int p1), .val (.int p2), .val (.int p3), .val (.int p4), .val (.ref b1), .unset, .unset, .unset, .unset, .unset, .unset, .unset, .unset, .unset, .unset] [(.int (((p0.toUInt32 >>> ((9 : Int32) &&& 31).toUInt32).toInt32) &&& (7 : Int32))), (.int (3 : Int32)), (.ref b1)])) _
    refine castTop (g' := (mkF m 44 #[.val (.int p0), .val (.int p1), .val (.int p2), .val (.int p3), .val (.int p4), .val (.ref b1), .unset, .unset, .unset, .unset, .unset, .unset, .unset, .unset, .unset, .unset] [(.int v10), (.int (3 : Int32)), (.ref b1)])) (by rw [hv10] <;> rfl) ?_
    show Steps p.tables e below (T8.setTop (mkF m 44 #[.val (.int p0), .val (.int p1), .val (.int p2), .val (.int p3), .val (.int p4), .val (.ref b1), .unset, .unset, .unset, .unset, .unset, .unset, .unset, .unset, .unset, .unset] [(.int v10), (.int (3 : Int32)), (.ref b1)])) _
    refine st11 _ ?_
    show Steps p.tables e below (T11.setTop (mkF m 45 #[.val (.int p0), .val (.int p1), .val (.int p2), .val (.int p3), .val (.int p4), .val (.ref b1), .unset, .unset, .unset, .unset, .unset, .unset, .unset, .unset, .unset, .unset] [])) _
    refine XS.iloadN X11.here hx rfl (hb hby at_45) rfl ?_
    show Steps p.tables e below (T11.setTop (mkF m 46 #[.val (.int p0), .val (.int p1), .val (.int p2), .val (.int p3), .val (.int p4), .val (.ref b1), .unset, .unset, .unset, .unset, .unset, .unset, .unset, .unset, .unset, .unset] [(.int p1)])) _
    refine XS.bipush X11.here hx rfl (hb hby at_46) ?_
    show Steps p.tables e below (T11.setTop (mkF m 48 #[.val (.int p0), .val (.int p1), .val (.int p2), .val (.int p3), .val (.int p4), .val (.ref b1), .unset, .unset, .unset, .unset, .unset, .unset, .unset, .unset, .unset, .unset] [(.int (7 : Int32)), (.int p1)])) _
    refine XS.iand X11.here hx rfl (hb hby at_48) rfl ?_
    show Steps p.tables e below (T11.setTop (mkF m 49 #[.val (.int p0), .val (.int p1), .val (.int p2), .val (.int p3), .val (.int p4), .val (.ref b1), .unset, .unset, .unset, .unset, .unset, .unset, .unset, .unset, .unset, .unset] [(.int (p1 &&& (7 : Int32)))])) _
    refine XS.iconst X11.here hx rfl (hb hby at_49) ?_
    show Steps p.tables e below (T11.setTop (mkF m 50 #[.val (.int p0), .val (.int p1), .val (.int p2), .val (.int p3), .val (.int p4), .val (.ref b1), .unset, .unset, .unset, .unset, .unset, .unset, .unset, .unset, .unset, .unset] [(.int (5 : Int32)), (.int (p1 &&& (7 : Int32)))])) _
    refine iremM X11 hx rfl (hb hby at_50) rfl (by decide) ?_
    show Steps p.tables e below (T11.setTop (mkF m 51 #[.val (.int p0), .val (.int p1), .val (.int p2), .val (.int p3), .val (.int p4), .val (.ref b1), .unset, .unset, .unset, .unset, .unset, .unset, .unset, .unset, .unset, .unset] [(.int ((p1 &&& (7 : Int32)) % (5 : Int32)))])) _
    refine castTop (g' := (mkF m 51 #[.val (.int p0), .val (.int p1), .val (.int p2), .val (.int p3), .val (.int p4), .val (.ref b1), .unset, .unset, .unset, .unset, .unset, .unset, .unset, .unset, .unset, .unset] [(.int v13)])) (by rw [hv13] <;> rfl) ?_
    show Steps p.tables e below (T11.setTop (mkF m 51 #[.val (.int p0), .val (.int p1), .val (.int p2), .val (.int p3), .val (.int p4), .val (.ref b1), .unset, .unset, .unset, .unset, .unset, .unset, .unset, .unset, .unset, .unset] [(.int v13)])) _
    refine XS.istore X11.here hx rfl (hb hby at_51) rfl (l' := #[.val (.int p0), .val (.int p1), .val (.int p2), .val (.int p3), .val (.int p4), .val (.ref b1), .val (.int v13), .unset, .unset, .unset, .unset, .unset, .unset, .unset, .unset, .unset]) rfl ?_
    show Steps p.tables e below (T11.setTop (mkF m 53 #[.val (.int p0), .val (.int p1), .val (.int p2), .val (.int p3), .val (.int p4), .val (.ref b1), .val (.int v13), .unset, .unset, .unset, .unset, .unset, .unset, .unset, .unset, .unset] [])) _
    refine XS.iload X11.here hx rfl (hb hby at_53) rfl ?_
    show Steps p.tables e below (T11.setTop (mkF m 55 #[.val (.int p0), .val (.int p1), .val (.int p2), .val (.int p3), .val (.int p4), .val (.ref b1), .val (.int v13), .unset, .unset, .unset, .unset, .unset, .unset, .unset, .unset, .unset] [(.int v13)])) _
    refine XS.iloadN X11.here hx rfl (hb hby at_55) rfl ?_
    show Steps p.tables e below (T11.setTop (mkF m 56 #[.val (.int p0), .val (.int p1), .val (.int p2), .val (.int p3), .val (.int p4), .val (.ref b1), .val (.int v13), .unset, .unset, .unset, .unset, .unset, .unset, .unset, .unset, .unset] [(.int p1), (.int v13)])) _
    refine XS.iconst X11.here hx rfl (hb hby at_56) ?_
    show Steps p.tables e below (T11.setTop (mkF m 57 #[.val (.int p0), .val (.int p1), .val (.int p2), .val (.int p3), .val (.int p4), .val (.ref b1), .val (.int v13), .unset, .unset, .unset, .unset, .unset, .unset, .unset, .unset, .unset] [(.int (3 : Int32)), (.int p1), (.int v13)])) _
    refine XS.iushr X11.here hx rfl (hb hby at_57) rfl ?_
    show Steps p.tables e below (T11.setTop (mkF m 58 #[.val (.int p0), .val (.int p1), .val (.int p2), .val (.int p3), .val (.int p4), .val (.ref b1), .val (.int v13), .unset, .unset, .unset, .unset, .unset, .unset, .unset, .unset, .unset] [(.int ((p1.toUInt32 >>> ((3 : Int32) &&& 31).toUInt32).toInt32)), (.int v13)])) _
    refine XS.sipush X11.here hx rfl (hb hby at_58) ?_
    show Steps p.tables e below (T11.setTop (mkF m 61 #[.val (.int p0), .val (.int p1), .val (.int p2), .val (.int p3), .val (.int p4), .val (.ref b1), .val (.int v13), .unset, .unset, .unset, .unset, .unset, .unset, .unset, .unset, .unset] [(.int (255 : Int32)), (.int ((p1.toUInt32 >>> ((3 : Int32) &&& 31).toUInt32).toInt32)), (.int v13)])) _
    refine XS.iand X11.here hx rfl (hb hby at_61) rfl ?_
    show Steps p.tables e below (T11.setTop (mkF m 62 #[.val (.int p0), .val (.int p1), .val (.int p2), .val (.int p3), .val (.int p4), .val (.ref b1), .val (.int v13), .unset, .unset, .unset, .unset, .unset, .unset, .unset, .unset, .unset] [(.int (((p1.toUInt32 >>> ((3 : Int32) &&& 31).toUInt32).toInt32) &&& (255 : Int32))), (.int v13)])) _
    refine XS.iconst X11.here hx rfl (hb hby at_62) ?_
    show Steps p.tables e below (T11.setTop (mkF m 63 #[.val (.int p0), .val (.int p1), .val (.int p2), .val (.int p3), .val (.int p4), .val (.ref b1), .val (.int v13), .unset, .unset, .unset, .unset, .unset, .unset, .unset, .unset, .unset] [(.int (5 : Int32)), (.int (((p1.toUInt32 >>> ((3 : Int32) &&& 31).toUInt32).toInt32) &&& (255 : Int32))), (.int v13)])) _
    refine XS.iload X11.here hx rfl (hb hby at_63) rfl ?_
    show Steps p.tables e below (T11.setTop (mkF m 65 #[.val (.int p0), .val (.int p1), .val (.int p2), .val (.int p3), .val (.int p4), .val (.ref b1), .val (.int v13), .unset, .unset, .unset, .unset, .unset, .unset, .unset, .unset, .unset] [(.int v13), (.int (5 : Int32)), (.int (((p1.toUInt32 >>> ((3 : Int32) &&& 31).toUInt32).toInt32) &&& (255 : Int32))), (.int v13)])) _
    refine XS.isub X11.here hx rfl (hb hby at_65) rfl ?_
    show Steps p.tables e below (T11.setTop (mkF m 66 #[.val (.int p0), .val (.int p1), .val (.int p2), .val (.int p3), .val (.int p4), .val (.ref b1), .val (.int v13), .unset, .unset, .unset, .unset, .unset, .unset, .unset, .unset, .unset] [(.int ((5 : Int32) - v13)), (.int (((p1.toUInt32 >>> ((3 : Int32) &&& 31).toUInt32).toInt32) &&& (255 : Int32))), (.int v13)])) _
    refine iremM X11 hx rfl (hb hby at_66) rfl hz14 ?_
    show Steps p.tables e below (T11.setTop (mkF m 67 #[.val (.int p0), .val (.int p1), .val (.int p2), .val (.int p3), .val (.int p4), .val (.ref b1), .val (.int v13), .unset, .unset, .unset, .unset, .unset, .unset, .unset, .unset, .unset] [(.int ((((p1.toUInt32 >>> ((3 : Int32) &&& 31).toUInt32).toInt32) &&& (255 : Int32)) % ((5 : Int32) - v13))), (.int v13)])) _
    refine XS.iadd X11.here hx rfl (hb hby at_67) rfl ?_
    show Steps p.tables e below (T11.setTop (mkF m 68 #[.val (.int p0), .val (.int p1), .val (.int p2), .val (.int p3), .val (.int p4), .val (.ref b1), .val (.int v13), .unset, .unset, .unset, .unset, .unset, .unset, .unset, .unset, .unset] [(.int (v13 + ((((p1.toUInt32 >>> ((3 : Int32) &&& 31).toUInt32).toInt32) &&& (255 : Int32)) % ((5 : Int32) - v13))))])) _
    refine castTop (g' := (mkF m 68 #[.val (.int p0), .val (.int p1), .val (.int p2), .val (.int p3), .val (.int p4), .val (.ref b1), .val (.int v13), .unset, .unset, .unset, .unset, .unset, .unset, .unset, .unset, .unset] [(.int v15)])) (by rw [hv15] <;> rfl) ?_
    show Steps p.tables e below (T11.setTop (mkF m 68 #[.val (.int p0), .val (.int p1), .val (.int p2), .val (.int p3), .val (.int p4), .val (.ref b1), .val (.int v13), .unset, .unset, .unset, .unset, .unset, .unset, .unset, .unset, .unset] [(.int v15)])) _
    refine XS.istore X11.here hx rfl (hb hby at_68) rfl (l' := #[.val (.int p0), .val (.int p1), .val (.int p2), .val (.int p3), .val (.int p4), .val (.ref b1), .val (.int v13), .val (.int v15), .unset, .unset, .unset, .unset, .unset, .unset, .unset, .unset]) rfl ?_
    show Steps p.tables e below (T11.setTop (mkF m 70 #[.val (.int p0), .val (.int p1), .val (.int p2), .val (.int p3), .val (.int p4), .val (.ref b1), .val (.int v13), .val (.int v15), .unset, .unset, .unset, .unset, .unset, .unset, .unset, .unset] [])) _
    refine XS.iconst X11.here hx rfl (hb hby at_70) ?_
    show Steps p.tables e below (T11.setTop (mkF m 71 #[.val (.int p0), .val (.int p1), .val (.int p2), .val (.int p3), .val (.int p4), .val (.ref b1), .val (.int v13), .val (.int v15), .unset, .unset, .unset, .unset, .unset, .unset, .unset, .unset] [(.int (4 : Int32))])) _
    refine st16 _ ?_
    show Steps p.tables e below (T16.setTop (mkF m 73 #[.val (.int p0), .val (.int p1), .val (.int p2), .val (.int p3), .val (.int p4), .val (.ref b1), .val (.int v13), .val (.int v15), .unset, .unset, .unset, .unset, .unset, .unset, .unset, .unset] [(.ref b16)])) _
    refine XS.astore X16.here hx rfl (hb hby at_73) rfl rfl (l' := #[.val (.int p0), .val (.int p1), .val (.int p2), .val (.int p3), .val (.int p4), .val (.ref b1), .val (.int v13), .val (.int v15), .val (.ref b16), .unset, .unset, .unset, .unset, .unset, .unset, .unset]) rfl ?_
    show Steps p.tables e below (T16.setTop (mkF m 75 #[.val (.int p0), .val (.int p1), .val (.int p2), .val (.int p3), .val (.int p4), .val (.ref b1), .val (.int v13), .val (.int v15), .val (.ref b16), .unset, .unset, .unset, .unset, .unset, .unset, .unset] [])) _
    refine XS.aload X16.here hx rfl (hb hby at_75) rfl rfl ?_
    show Steps p.tables e below (T16.setTop (mkF m 77 #[.val (.int p0), .val (.int p1), .val (.int p2), .val (.int p3), .val (.int p4), .val (.ref b1), .val (.int v13), .val (.int v15), .val (.ref b16), .unset, .unset, .unset, .unset, .unset, .unset, .unset] [(.ref b16)])) _
    refine XS.iconst X16.here hx rfl (hb hby at_77) ?_
    show Steps p.tables e below (T16.setTop (mkF m 78 #[.val (.int p0), .val (.int p1), .val (.int p2), .val (.int p3), .val (.int p4), .val (.ref b1), .val (.int v13), .val (.int v15), .val (.ref b16), .unset, .unset, .unset, .unset, .unset, .unset, .unset] [(.int (0 : Int32)), (.ref b16)])) _
    refine XS.iconst X16.here hx rfl (hb hby at_78) ?_
    show Steps p.tables e below (T16.setTop (mkF m 79 #[.val (.int p0), .val (.int p1), .val (.int p2), .val (.int p3), .val (.int p4), .val (.ref b1), .val (.int v13), .val (.int v15), .val (.ref b16), .unset, .unset, .unset, .unset, .unset, .unset, .unset] [(.int (0 : Int32)), (.int (0 : Int32)), (.ref b16)])) _
    refine st17 _ ?_
    show Steps p.tables e below (T17.setTop (mkF m 80 #[.val (.int p0), .val (.int p1), .val (.int p2), .val (.int p3), .val (.int p4), .val (.ref b1), .val (.int v13), .val (.int v15), .val (.ref b16), .unset, .unset, .unset, .unset, .unset, .unset, .unset] [])) _
    refine XS.aload X17.here hx rfl (hb hby at_80) rfl rfl ?_
    show Steps p.tables e below (T17.setTop (mkF m 82 #[.val (.int p0), .val (.int p1), .val (.int p2), .val (.int p3), .val (.int p4), .val (.ref b1), .val (.int v13), .val (.int v15), .val (.ref b16), .unset, .unset, .unset, .unset, .unset, .unset, .unset] [(.ref b16)])) _
    refine XS.iconst X17.here hx rfl (hb hby at_82) ?_
    show Steps p.tables e below (T17.setTop (mkF m 83 #[.val (.int p0), .val (.int p1), .val (.int p2), .val (.int p3), .val (.int p4), .val (.ref b1), .val (.int v13), .val (.int v15), .val (.ref b16), .unset, .unset, .unset, .unset, .unset, .unset, .unset] [(.int (1 : Int32)), (.ref b16)])) _
    refine XS.iload X17.here hx rfl (hb hby at_83) rfl ?_
    show Steps p.tables e below (T17.setTop (mkF m 85 #[.val (.int p0), .val (.int p1), .val (.int p2), .val (.int p3), .val (.int p4), .val (.ref b1), .val (.int v13), .val (.int v15), .val (.ref b16), .unset, .unset, .unset, .unset, .unset, .unset, .unset] [(.int v13), (.int (1 : Int32)), (.ref b16)])) _
    refine st19 _ ?_
    show Steps p.tables e below (T19.setTop (mkF m 86 #[.val (.int p0), .val (.int p1), .val (.int p2), .val (.int p3), .val (.int p4), .val (.ref b1), .val (.int v13), .val (.int v15), .val (.ref b16), .unset, .unset, .unset, .unset, .unset, .unset, .unset] [])) _
    refine XS.aload X19.here hx rfl (hb hby at_86) rfl rfl ?_
    show Steps p.tables e below (T19.setTop (mkF m 88 #[.val (.int p0), .val (.int p1), .val (.int p2), .val (.int p3), .val (.int p4), .val (.ref b1), .val (.int v13), .val (.int v15), .val (.ref b16), .unset, .unset, .unset, .unset, .unset, .unset, .unset] [(.ref b16)])) _
    refine XS.iconst X19.here hx rfl (hb hby at_88) ?_
    show Steps p.tables e below (T19.setTop (mkF m 89 #[.val (.int p0), .val (.int p1), .val (.int p2), .val (.int p3), .val (.int p4), .val (.ref b1), .val (.int v13), .val (.int v15), .val (.ref b16), .unset, .unset, .unset, .unset, .unset, .unset, .unset] [(.int (2 : Int32)), (.ref b16)])) _
    refine XS.iload X19.here hx rfl (hb hby at_89) rfl ?_
    show Steps p.tables e below (T19.setTop (mkF m 91 #[.val (.int p0), .val (.int p1), .val (.int p2), .val (.int p3), .val (.int p4), .val (.ref b1), .val (.int v13), .val (.int v15), .val (.ref b16), .unset, .unset, .unset, .unset, .unset, .unset, .unset] [(.int v15), (.int (2 : Int32)), (.ref b16)])) _
    refine st21 _ ?_
    show Steps p.tables e below (T21.setTop (mkF m 92 #[.val (.int p0), .val (.int p1), .val (.int p2), .val (.int p3), .val (.int p4), .val (.ref b1), .val (.int v13), .val (.int v15), .val (.ref b16), .unset, .unset, .unset, .unset, .unset, .unset, .unset] [])) _
    refine XS.aload X21.here hx rfl (hb hby at_92) rfl rfl ?_
    show Steps p.tables e below (T21.setTop (mkF m 94 #[.val (.int p0), .val (.int p1), .val (.int p2), .val (.int p3), .val (.int p4), .val (.ref b1), .val (.int v13), .val (.int v15), .val (.ref b16), .unset, .unset, .unset, .unset, .unset, .unset, .unset] [(.ref b16)])) _
    refine XS.iconst X21.here hx rfl (hb hby at_94) ?_
    show Steps p.tables e below (T21.setTop (mkF m 95 #[.val (.int p0), .val (.int p1), .val (.int p2), .val (.int p3), .val (.int p4), .val (.ref b1), .val (.int v13), .val (.int v15), .val (.ref b16), .unset, .unset, .unset, .unset, .unset, .unset, .unset] [(.int (3 : Int32)), (.ref b16)])) _
    refine XS.iconst X21.here hx rfl (hb hby at_95) ?_
    show Steps p.tables e below (T21.setTop (mkF m 96 #[.val (.int p0), .val (.int p1), .val (.int p2), .val (.int p3), .val (.int p4), .val (.ref b1), .val (.int v13), .val (.int v15), .val (.ref b16), .unset, .unset, .unset, .unset, .unset, .unset, .unset] [(.int (4 : Int32)), (.int (3 : Int32)), (.ref b16)])) _
    refine st23 _ ?_
    show Steps p.tables e below (T23.setTop (mkF m 97 #[.val (.int p0), .val (.int p1), .val (.int p2), .val (.int p3), .val (.int p4), .val (.ref b1), .val (.int v13), .val (.int v15), .val (.ref b16), .unset, .unset, .unset, .unset, .unset, .unset, .unset] [])) _
    refine XS.iloadN X23.here hx rfl (hb hby at_97) rfl ?_
    show Steps p.tables e below (T23.setTop (mkF m 98 #[.val (.int p0), .val (.int p1), .val (.int p2), .val (.int p3), .val (.int p4), .val (.ref b1), .val (.int v13), .val (.int v15), .val (.ref b16), .unset, .unset, .unset, .unset, .unset, .unset, .unset] [(.int p2)])) _
    refine X23.ldcInt hx hown (mvT hZ (hw _ (List.mem_of_getElem? (i := 1) rfl))) (g := (mkF m 98 #[.val (.int p0), .val (.int p1), .val (.int p2), .val (.int p3), .val (.int p4), .val (.ref b1), .val (.int v13), .val (.int v15), .val (.ref b16), .unset, .unset, .unset, .unset, .unset, .unset, .unset] [(.int p2)])) rfl (hb hby at_98) _ ?_
    show Steps p.tables e below (T23.setTop (mkF m 100 #[.val (.int p0), .val (.int p1), .val (.int p2), .val (.int p3), .val (.int p4), .val (.ref b1), .val (.int v13), .val (.int v15), .val (.ref b16), .unset, .unset, .unset, .unset, .unset, .unset, .unset] [(.int (2147483647 : Int32)), (.int p2)])) _
    refine XS.iand X23.here hx rfl (hb hby at_100) rfl ?_
    show Steps p.tables e below (T23.setTop (mkF m 101 #[.val (.int p0), .val (.int p1), .val (.int p2), .val (.int p3), .val (.int p4), .val (.ref b1), .val (.int v13), .val (.int v15), .val (.ref b16), .unset, .unset, .unset, .unset, .unset, .unset, .unset] [(.int (p2 &&& (2147483647 : Int32)))])) _
    refine XS.iconst X23.here hx rfl (hb hby at_101) ?_
    show Steps p.tables e below (T23.setTop (mkF m 102 #[.val (.int p0), .val (.int p1), .val (.int p2), .val (.int p3), .val (.int p4), .val (.ref b1), .val (.int v13), .val (.int v15), .val (.ref b16), .unset, .unset, .unset, .unset, .unset, .unset, .unset] [(.int (3 : Int32)), (.int (p2 &&& (2147483647 : Int32)))])) _
    refine iremM X23 hx rfl (hb hby at_102) rfl (by decide) ?_
    show Steps p.tables e below (T23.setTop (mkF m 103 #[.val (.int p0), .val (.int p1), .val (.int p2), .val (.int p3), .val (.int p4), .val (.ref b1), .val (.int v13), .val (.int v15), .val (.ref b16), .unset, .unset, .unset, .unset, .unset, .unset, .unset] [(.int ((p2 &&& (2147483647 : Int32)) % (3 : Int32)))])) _
    refine castTop (g' := (mkF m 103 #[.val (.int p0), .val (.int p1), .val (.int p2), .val (.int p3), .val (.int p4), .val (.ref b1), .val (.int v13), .val (.int v15), .val (.ref b16), .unset, .unset, .unset, .unset, .unset, .unset, .unset] [(.int v25)])) (by rw [hv25] <;> rfl) ?_
    show Steps p.tables e below (T23.setTop (mkF m 103 #[.val (.int p0), .val (.int p1), .val (.int p2), .val (.int p3), .val (.int p4), .val (.ref b1), .val (.int v13), .val (.int v15), .val (.ref b16), .unset, .unset, .unset, .unset, .unset, .unset, .unset] [(.int v25)])) _
    refine XS.istore X23.here hx rfl (hb hby at_103) rfl (l' := #[.val (.int p0), .val (.int p1), .val (.int p2), .val (.int p3), .val (.int p4), .val (.ref b1), .val (.int v13), .val (.int v15), .val (.ref b16), .val (.int v25), .unset, .unset, .unset, .unset, .unset, .unset]) rfl ?_
    show Steps p.tables e below (T23.setTop (mkF m 105 #[.val (.int p0), .val (.int p1), .val (.int p2), .val (.int p3), .val (.int p4), .val (.ref b1), .val (.int v13), .val (.int v15), .val (.ref b16), .val (.int v25), .unset, .unset, .unset, .unset, .unset, .unset] [])) _
    refine XS.iconst X23.here hx rfl (hb hby at_105) ?_
    show Steps p.tables e below (T23.setTop (mkF m 106 #[.val (.int p0), .val (.int p1), .val (.int p2), .val (.int p3), .val (.int p4), .val (.ref b1), .val (.int v13), .val (.int v15), .val (.ref b16), .val (.int v25), .unset, .unset, .unset, .unset, .unset, .unset] [(.int (3 : Int32))])) _
    refine st26 _ ?_
    show Steps p.tables e below (T26.setTop (mkF m 108 #[.val (.int p0), .val (.int p1), .val (.int p2), .val (.int p3), .val (.int p4), .val (.ref b1), .val (.int v13), .val (.int v15), .val (.ref b16), .val (.int v25), .unset, .unset, .unset, .unset, .unset, .unset] [(.ref b26)])) _
    refine XS.astore X26.here hx rfl (hb hby at_108) rfl rfl (l' := #[.val (.int p0), .val (.int p1), .val (.int p2), .val (.int p3), .val (.int p4), .val (.ref b1), .val (.int v13), .val (.int v15), .val (.ref b16), .val (.int v25), .val (.ref b26), .unset, .unset, .unset, .unset, .unset]) rfl ?_
    show Steps p.tables e below (T26.setTop (mkF m 110 #[.val (.int p0), .val (.int p1), .val (.int p2), .val (.int p3), .val (.int p4), .val (.ref b1), .val (.int v13), .val (.int v15), .val (.ref b16), .val (.int v25), .val (.ref b26), .unset, .unset, .unset, .unset, .unset] [])) _
    refine XS.aload X26.here hx rfl (hb hby at_110) rfl rfl ?_
    show Steps p.tables e below (T26.setTop (mkF m 112 #[.val (.int p0), .val (.int p1), .val (.int p2), .val (.int p3), .val (.int p4), .val (.ref b1), .val (.int v13), .val (.int v15), .val (.ref b16), .val (.int v25), .val (.ref b26), .unset, .unset, .unset, .unset, .unset] [(.ref b26)])) _
    refine XS.iconst X26.here hx rfl (hb hby at_112) ?_
    show Steps p.tables e below (T26.setTop (mkF m 113 #[.val (.int p0), .val (.int p1), .val (.int p2), .val (.int p3), .val (.int p4), .val (.ref b1), .val (.int v13), .val (.int v15), .val (.ref b16), .val (.int v25), .val (.ref b26), .unset, .unset, .unset, .unset, .unset] [(.int (0 : Int32)), (.ref b26)])) _
    refine XS.lconst X26.here hx rfl (hb hby at_113) ?_
    show Steps p.tables e below (T26.setTop (mkF m 114 #[.val (.int p0), .val (.int p1), .val (.int p2), .val (.int p3), .val (.int p4), .val (.ref b1), .val (.int v13), .val (.int v15), .val (.ref b16), .val (.int v25), .val (.ref b26), .unset, .unset, .unset, .unset, .unset] [(.long (0 : Int64)), (.int (0 : Int32)), (.ref b26)])) _
    refine st28 _ ?_
    show Steps p.tables e below (T28.setTop (mkF m 115 #[.val (.int p0), .val (.int p1), .val (.int p2), .val (.int p3), .val (.int p4), .val (.ref b1), .val (.int v13), .val (.int v15), .val (.ref b16), .val (.int v25), .val (.ref b26), .unset, .unset, .unset, .unset, .unset] [])) _
    refine XS.aload X28.here hx rfl (hb hby at_115) rfl rfl ?_
    show Steps p.tables e below (T28.setTop (mkF m 117 #[.val (.int p0), .val (.int p1), .val (.int p2), .val (.int p3), .val (.int p4), .val (.ref b1), .val (.int v13), .val (.int v15), .val (.ref b16), .val (.int v25), .val (.ref b26), .unset, .unset, .unset, .unset, .unset] [(.ref b26)])) _
    refine XS.iconst X28.here hx rfl (hb hby at_117) ?_
    show Steps p.tables e below (T28.setTop (mkF m 118 #[.val (.int p0), .val (.int p1), .val (.int p2), .val (.int p3), .val (.int p4), .val (.ref b1), .val (.int v13), .val (.int v15), .val (.ref b16), .val (.int v25), .val (.ref b26), .unset, .unset, .unset, .unset, .unset] [(.int (1 : Int32)), (.ref b26)])) _
    refine XS.lconst X28.here hx rfl (hb hby at_118) ?_
    show Steps p.tables e below (T28.setTop (mkF m 119 #[.val (.int p0), .val (.int p1), .val (.int p2), .val (.int p3), .val (.int p4), .val (.ref b1), .val (.int v13), .val (.int v15), .val (.ref b16), .val (.int v25), .val (.ref b26), .unset, .unset, .unset, .unset, .unset] [(.long (1 : Int64)), (.int (1 : Int32)), (.ref b26)])) _
    refine st30 _ ?_
    show Steps p.tables e below (T30.setTop (mkF m 120 #[.val (.int p0), .val (.int p1), .val (.int p2), .val (.int p3), .val (.int p4), .val (.ref b1), .val (.int v13), .val (.int v15), .val (.ref b16), .val (.int v25), .val (.ref b26), .unset, .unset, .unset, .unset, .unset] [])) _
    refine XS.aload X30.here hx rfl (hb hby at_120) rfl rfl ?_
    show Steps p.tables e below (T30.setTop (mkF m 122 #[.val (.int p0), .val (.int p1), .val (.int p2), .val (.int p3), .val (.int p4), .val (.ref b1), .val (.int v13), .val (.int v15), .val (.ref b16), .val (.int v25), .val (.ref b26), .unset, .unset, .unset, .unset, .unset] [(.ref b26)])) _
    refine XS.iconst X30.here hx rfl (hb hby at_122) ?_
    show Steps p.tables e below (T30.setTop (mkF m 123 #[.val (.int p0), .val (.int p1), .val (.int p2), .val (.int p3), .val (.int p4), .val (.ref b1), .val (.int v13), .val (.int v15), .val (.ref b16), .val (.int v25), .val (.ref b26), .unset, .unset, .unset, .unset, .unset] [(.int (2 : Int32)), (.ref b26)])) _
    refine X30.ldc2Long hx hown (mvT hZ (hw _ (List.mem_of_getElem? (i := 3) rfl))) (g := (mkF m 123 #[.val (.int p0), .val (.int p1), .val (.int p2), .val (.int p3), .val (.int p4), .val (.ref b1), .val (.int v13), .val (.int v15), .val (.ref b16), .val (.int v25), .val (.ref b26), .unset, .unset, .unset, .unset, .unset] [(.int (2 : Int32)), (.ref b26)])) rfl (hb hby at_123) _ ?_
    show Steps p.tables e below (T30.setTop (mkF m 126 #[.val (.int p0), .val (.int p1), .val (.int p2), .val (.int p3), .val (.int p4), .val (.ref b1), .val (.int v13), .val (.int v15), .val (.ref b16), .val (.int v25), .val (.ref b26), .unset, .unset, .unset, .unset, .unset] [(.long (2 : Int64)), (.int (2 : Int32)), (.ref b26)])) _
    refine st32 _ ?_
    show Steps p.tables e below (T32.setTop (mkF m 127 #[.val (.int p0), .val (.int p1), .val (.int p2), .val (.int p3), .val (.int p4), .val (.ref b1), .val (.int v13), .val (.int v15), .val (.ref b16), .val (.int v25), .val (.ref b26), .unset, .unset, .unset, .unset, .unset] [])) _
    refine st34 _ ?_
    show Steps p.tables e below (T34.setTop (mkF m 130 #[.val (.int p0), .val (.int p1), .val (.int p2), .val (.int p3), .val (.int p4), .val (.ref b1), .val (.int v13), .val (.int v15), .val (.ref b16), .val (.int v25), .val (.ref b26), .unset, .unset, .unset, .unset, .unset] [(.ref b34)])) _
    refine XS.dup X34.here hx rfl (hb hby at_130) rfl rfl ?_
    show Steps p.tables e below (T34.setTop (mkF m 131 #[.val (.int p0), .val (.int p1), .val (.int p2), .val (.int p3), .val (.int p4), .val (.ref b1), .val (.int v13), .val (.int v15), .val (.ref b16), .val (.int v25), .val (.ref b26), .unset, .unset, .unset, .unset, .unset] [(.ref b34), (.ref b34)])) _
    refine XS.aconstNull X34.here hx rfl (hb hby at_131) ?_
    show Steps p.tables e below (T34.setTop (mkF m 132 #[.val (.int p0), .val (.int p1), .val (.int p2), .val (.int p3), .val (.int p4), .val (.ref b1), .val (.int v13), .val (.int v15), .val (.ref b16), .val (.int v25), .val (.ref b26), .unset, .unset, .unset, .unset, .unset] [.null, (.ref b34), (.ref b34)])) _
    refine XS.aload X34.here hx rfl (hb hby at_132) rfl rfl ?_
    show Steps p.tables e below (T34.setTop (mkF m 134 #[.val (.int p0), .val (.int p1), .val (.int p2), .val (.int p3), .val (.int p4), .val (.ref b1), .val (.int v13), .val (.int v15), .val (.ref b16), .val (.int v25), .val (.ref b26), .unset, .unset, .unset, .unset, .unset] [(.ref b26), .null, (.ref b34), (.ref b34)])) _
    refine XS.aload X34.here hx rfl (hb hby at_134) rfl rfl ?_
    show Steps p.tables e below (T34.setTop (mkF m 136 #[.val (.int p0), .val (.int p1), .val (.int p2), .val (.int p3), .val (.int p4), .val (.ref b1), .val (.int v13), .val (.int v15), .val (.ref b16), .val (.int v25), .val (.ref b26), .unset, .unset, .unset, .unset, .unset] [(.ref b16), (.ref b26), .null, (.ref b34), (.ref b34)])) _
    refine XS.aload X34.here hx rfl (hb hby at_136) rfl rfl ?_
    show Steps p.tables e below (T34.setTop (mkF m 138 #[.val (.int p0), .val (.int p1), .val (.int p2), .val (.int p3), .val (.int p4), .val (.ref b1), .val (.int v13), .val (.int v15), .val (.ref b16), .val (.int v25), .val (.ref b26), .unset, .unset, .unset, .unset, .unset] [(.ref b1), (.ref b16), (.ref b26), .null, (.ref b34), (.ref b34)])) _
    refine XS.iconst X34.here hx rfl (hb hby at_138) ?_
    show Steps p.tables e below (T34.setTop (mkF m 139 #[.val (.int p0), .val (.int p1), .val (.int p2), .val (.int p3), .val (.int p4), .val (.ref b1), .val (.int v13), .val (.int v15), .val (.ref b16), .val (.int v25), .val (.ref b26), .unset, .unset, .unset, .unset, .unset] [(.int (4 : Int32)), (.ref b1), (.ref b16), (.ref b26), .null, (.ref b34), (.ref b34)])) _
    refine st37 _ ?_
    show Steps p.tables e below (T37.setTop (mkF m 141 #[.val (.int p0), .val (.int p1), .val (.int p2), .val (.int p3), .val (.int p4), .val (.ref b1), .val (.int v13), .val (.int v15), .val (.ref b16), .val (.int v25), .val (.ref b26), .unset, .unset, .unset, .unset, .unset] [(.ref b37), (.ref b1), (.ref b16), (.ref b26), .null, (.ref b34), (.ref b34)])) _
    refine st47.trans ?_
    show Steps p.tables e below (T47.setTop (mkF m 144 #[.val (.int p0), .val (.int p1), .val (.int p2), .val (.int p3), .val (.int p4), .val (.ref b1), .val (.int v13), .val (.int v15), .val (.ref b16), .val (.int v25), .val (.ref b26), .unset, .unset, .unset, .unset, .unset] [(.ref b34)])) _
    refine XS.astore X47.here hx rfl (hb hby at_144) rfl rfl (l' := #[.val (.int p0), .val (.int p1), .val (.int p2), .val (.int p3), .val (.int p4), .val (.ref b1), .val (.int v13), .val (.int v15), .val (.ref b16), .val (.int v25), .val (.ref b26), .val (.ref b34), .unset, .unset, .unset, .unset]) rfl ?_
    show Steps p.tables e below (T47.setTop (mkF m 146 #[.val (.int p0), .val (.int p1), .val (.int p2), .val (.int p3), .val (.int p4), .val (.ref b1), .val (.int v13), .val (.int v15), .val (.ref b16), .val (.int v25), .val (.ref b26), .val (.ref b34), .unset, .unset, .unset, .unset] [])) _
    refine XS.aload X47.here hx rfl (hb hby at_146) rfl rfl ?_
    show Steps p.tables e below (T47.setTop (mkF m 148 #[.val (.int p0), .val (.int p1), .val (.int p2), .val (.int p3), .val (.int p4), .val (.ref b1), .val (.int v13), .val (.int v15), .val (.ref b16), .val (.int v25), .val (.ref b26), .val (.ref b34), .unset, .unset, .unset, .unset] [(.ref b34)])) _
    refine XS.iload X47.here hx rfl (hb hby at_148) rfl ?_
    show Steps p.tables e below (T47.setTop (mkF m 150 #[.val (.int p0), .val (.int p1), .val (.int p2), .val (.int p3), .val (.int p4), .val (.ref b1), .val (.int v13), .val (.int v15), .val (.ref b16), .val (.int v25), .val (.ref b26), .val (.ref b34), .unset, .unset, .unset, .unset] [(.int v25), (.ref b34)])) _
    refine XS.iloadN X47.here hx rfl (hb hby at_150) rfl ?_
    show Steps p.tables e below (T47.setTop (mkF m 151 #[.val (.int p0), .val (.int p1), .val (.int p2), .val (.int p3), .val (.int p4), .val (.ref b1), .val (.int v13), .val (.int v15), .val (.ref b16), .val (.int v25), .val (.ref b26), .val (.ref b34), .unset, .unset, .unset, .unset] [(.int p3), (.int v25), (.ref b34)])) _
    refine XS.iload X47.here hx rfl (hb hby at_151) rfl ?_
    show Steps p.tables e below (T47.setTop (mkF m 153 #[.val (.int p0), .val (.int p1), .val (.int p2), .val (.int p3), .val (.int p4), .val (.ref b1), .val (.int v13), .val (.int v15), .val (.ref b16), .val (.int v25), .val (.ref b26), .val (.ref b34), .unset, .unset, .unset, .unset] [(.int p4), (.int p3), (.int v25), (.ref b34)])) _
    refine st61.trans ?_
    show Steps p.tables e below (T61.setTop (mkF m 156 #[.val (.int p0), .val (.int p1), .val (.int p2), .val (.int p3), .val (.int p4), .val (.ref b1), .val (.int v13), .val (.int v15), .val (.ref b16), .val (.int v25), .val (.ref b26), .val (.ref b34), .unset, .unset, .unset, .unset] [(.int (if own_any f12 p3 p4 ((f24 (v25).toNatClampNeg)).toNatClampNeg ((f24 ((v25 + (1 : Int32))).toNatClampNeg).toInt - (f24 (v25).toNatClampNeg).toInt).toNat = true then (1 : Int32) else (0 : Int32)))])) _
    refine castTop (g' := (mkF m 156 #[.val (.int p0), .val (.int p1), .val (.int p2), .val (.int p3), .val (.int p4), .val (.ref b1), .val (.int v13), .val (.int v15), .val (.ref b16), .val (.int v25), .val (.ref b26), .val (.ref b34), .unset, .unset, .unset, .unset] [(.int v62)])) (by rw [hv62] <;> rfl) ?_
    show Steps p.tables e below (T61.setTop (mkF m 156 #[.val (.int p0), .val (.int p1), .val (.int p2), .val (.int p3), .val (.int p4), .val (.ref b1), .val (.int v13), .val (.int v15), .val (.ref b16), .val (.int v25), .val (.ref b26), .val (.ref b34), .unset, .unset, .unset, .unset] [(.int v62)])) _
    refine XS.istore X61.here hx rfl (hb hby at_156) rfl (l' := #[.val (.int p0), .val (.int p1), .val (.int p2), .val (.int p3), .val (.int p4), .val (.ref b1), .val (.int v13), .val (.int v15), .val (.ref b16), .val (.int v25), .val (.ref b26), .val (.ref b34), .val (.int v62), .unset, .unset, .unset]) rfl ?_
    show Steps p.tables e below (T61.setTop (mkF m 158 #[.val (.int p0), .val (.int p1), .val (.int p2), .val (.int p3), .val (.int p4), .val (.ref b1), .val (.int v13), .val (.int v15), .val (.ref b16), .val (.int v25), .val (.ref b26), .val (.ref b34), .val (.int v62), .unset, .unset, .unset] [])) _
    refine XS.aload X61.here hx rfl (hb hby at_158) rfl rfl ?_
    show Steps p.tables e below (T61.setTop (mkF m 160 #[.val (.int p0), .val (.int p1), .val (.int p2), .val (.int p3), .val (.int p4), .val (.ref b1), .val (.int v13), .val (.int v15), .val (.ref b16), .val (.int v25), .val (.ref b26), .val (.ref b34), .val (.int v62), .unset, .unset, .unset] [(.ref b16)])) _
    refine XS.iload X61.here hx rfl (hb hby at_160) rfl ?_
    show Steps p.tables e below (T61.setTop (mkF m 162 #[.val (.int p0), .val (.int p1), .val (.int p2), .val (.int p3), .val (.int p4), .val (.ref b1), .val (.int v13), .val (.int v15), .val (.ref b16), .val (.int v25), .val (.ref b26), .val (.ref b34), .val (.int v62), .unset, .unset, .unset] [(.int v25), (.ref b16)])) _
    refine AF.ldI X61 hx hZ e61 G54 hi63 (g := (mkF m 162 #[.val (.int p0), .val (.int p1), .val (.int p2), .val (.int p3), .val (.int p4), .val (.ref b1), .val (.int v13), .val (.int v15), .val (.ref b16), .val (.int v25), .val (.ref b26), .val (.ref b34), .val (.int v62), .unset, .unset, .unset] [(.int v25), (.ref b16)])) rfl rfl (hb hby at_162) _ ?_
    show Steps p.tables e below (T61.setTop (mkF m 163 #[.val (.int p0), .val (.int p1), .val (.int p2), .val (.int p3), .val (.int p4), .val (.ref b1), .val (.int v13), .val (.int v15), .val (.ref b16), .val (.int v25), .val (.ref b26), .val (.ref b34), .val (.int v62), .unset, .unset, .unset] [(.int (f24 (v25).toNatClampNeg))])) _
    refine castTop (g' := (mkF m 163 #[.val (.int p0), .val (.int p1), .val (.int p2), .val (.int p3), .val (.int p4), .val (.ref b1), .val (.int v13), .val (.int v15), .val (.ref b16), .val (.int v25), .val (.ref b26), .val (.ref b34), .val (.int v62), .unset, .unset, .unset] [(.int v64)])) (by rw [hv64] <;> rfl) ?_
    show Steps p.tables e below (T61.setTop (mkF m 163 #[.val (.int p0), .val (.int p1), .val (.int p2), .val (.int p3), .val (.int p4), .val (.ref b1), .val (.int v13), .val (.int v15), .val (.ref b16), .val (.int v25), .val (.ref b26), .val (.ref b34), .val (.int v62), .unset, .unset, .unset] [(.int v64)])) _
    refine XS.istore X61.here hx rfl (hb hby at_163) rfl (l' := #[.val (.int p0), .val (.int p1), .val (.int p2), .val (.int p3), .val (.int p4), .val (.ref b1), .val (.int v13), .val (.int v15), .val (.ref b16), .val (.int v25), .val (.ref b26), .val (.ref b34), .val (.int v62), .val (.int v64), .unset, .unset]) rfl ?_
    show Steps p.tables e below (T61.setTop (mkF m 165 #[.val (.int p0), .val (.int p1), .val (.int p2), .val (.int p3), .val (.int p4), .val (.ref b1), .val (.int v13), .val (.int v15), .val (.ref b16), .val (.int v25), .val (.ref b26), .val (.ref b34), .val (.int v62), .val (.int v64), .unset, .unset] [])) _
    refine XS.aload X61.here hx rfl (hb hby at_165) rfl rfl ?_
    show Steps p.tables e below (T61.setTop (mkF m 167 #[.val (.int p0), .val (.int p1), .val (.int p2), .val (.int p3), .val (.int p4), .val (.ref b1), .val (.int v13), .val (.int v15), .val (.ref b16), .val (.int v25), .val (.ref b26), .val (.ref b34), .val (.int v62), .val (.int v64), .unset, .unset] [(.ref b16)])) _
    refine XS.iload X61.here hx rfl (hb hby at_167) rfl ?_
    show Steps p.tables e below (T61.setTop (mkF m 169 #[.val (.int p0), .val (.int p1), .val (.int p2), .val (.int p3), .val (.int p4), .val (.ref b1), .val (.int v13), .val (.int v15), .val (.ref b16), .val (.int v25), .val (.ref b26), .val (.ref b34), .val (.int v62), .val (.int v64), .unset, .unset] [(.int v25), (.ref b16)])) _
    refine XS.iconst X61.here hx rfl (hb hby at_169) ?_
    show Steps p.tables e below (T61.setTop (mkF m 170 #[.val (.int p0), .val (.int p1), .val (.int p2), .val (.int p3), .val (.int p4), .val (.ref b1), .val (.int v13), .val (.int v15), .val (.ref b16), .val (.int v25), .val (.ref b26), .val (.ref b34), .val (.int v62), .val (.int v64), .unset, .unset] [(.int (1 : Int32)), (.int v25), (.ref b16)])) _
    refine XS.iadd X61.here hx rfl (hb hby at_170) rfl ?_
    show Steps p.tables e below (T61.setTop (mkF m 171 #[.val (.int p0), .val (.int p1), .val (.int p2), .val (.int p3), .val (.int p4), .val (.ref b1), .val (.int v13), .val (.int v15), .val (.ref b16), .val (.int v25), .val (.ref b26), .val (.ref b34), .val (.int v62), .val (.int v64), .unset, .unset] [(.int (v25 + (1 : Int32))), (.ref b16)])) _
    refine AF.ldI X61 hx hZ e61 G54 hi65 (g := (mkF m 171 #[.val (.int p0), .val (.int p1), .val (.int p2), .val (.int p3), .val (.int p4), .val (.ref b1), .val (.int v13), .val (.int v15), .val (.ref b16), .val (.int v25), .val (.ref b26), .val (.ref b34), .val (.int v62), .val (.int v64), .unset, .unset] [(.int (v25 + (1 : Int32))), (.ref b16)])) rfl rfl (hb hby at_171) _ ?_
    show Steps p.tables e below (T61.setTop (mkF m 172 #[.val (.int p0), .val (.int p1), .val (.int p2), .val (.int p3), .val (.int p4), .val (.ref b1), .val (.int v13), .val (.int v15), .val (.ref b16), .val (.int v25), .val (.ref b26), .val (.ref b34), .val (.int v62), .val (.int v64), .unset, .unset] [(.int (f24 ((v25 + (1 : Int32))).toNatClampNeg))])) _
    refine castTop (g' := (mkF m 172 #[.val (.int p0), .val (.int p1), .val (.int p2), .val (.int p3), .val (.int p4), .val (.ref b1), .val (.int v13), .val (.int v15), .val (.ref b16), .val (.int v25), .val (.ref b26), .val (.ref b34), .val (.int v62), .val (.int v64), .unset, .unset] [(.int v66)])) (by rw [hv66] <;> rfl) ?_
    show Steps p.tables e below (T61.setTop (mkF m 172 #[.val (.int p0), .val (.int p1), .val (.int p2), .val (.int p3), .val (.int p4), .val (.ref b1), .val (.int v13), .val (.int v15), .val (.ref b16), .val (.int v25), .val (.ref b26), .val (.ref b34), .val (.int v62), .val (.int v64), .unset, .unset] [(.int v66)])) _
    refine XS.istore X61.here hx rfl (hb hby at_172) rfl (l' := #[.val (.int p0), .val (.int p1), .val (.int p2), .val (.int p3), .val (.int p4), .val (.ref b1), .val (.int v13), .val (.int v15), .val (.ref b16), .val (.int v25), .val (.ref b26), .val (.ref b34), .val (.int v62), .val (.int v64), .val (.int v66), .unset]) rfl ?_
    show Steps p.tables e below (T61.setTop (mkF m 174 #[.val (.int p0), .val (.int p1), .val (.int p2), .val (.int p3), .val (.int p4), .val (.ref b1), .val (.int v13), .val (.int v15), .val (.ref b16), .val (.int v25), .val (.ref b26), .val (.ref b34), .val (.int v62), .val (.int v64), .val (.int v66), .unset] [])) _
    refine XS.iconst X61.here hx rfl (hb hby at_174) ?_
    show Steps p.tables e below (T61.setTop (mkF m 175 #[.val (.int p0), .val (.int p1), .val (.int p2), .val (.int p3), .val (.int p4), .val (.ref b1), .val (.int v13), .val (.int v15), .val (.ref b16), .val (.int v25), .val (.ref b26), .val (.ref b34), .val (.int v62), .val (.int v64), .val (.int v66), .unset] [(.int (0 : Int32))])) _
    refine XS.iload X61.here hx rfl (hb hby at_175) rfl ?_
    show Steps p.tables e below (T61.setTop (mkF m 177 #[.val (.int p0), .val (.int p1), .val (.int p2), .val (.int p3), .val (.int p4), .val (.ref b1), .val (.int v13), .val (.int v15), .val (.ref b16), .val (.int v25), .val (.ref b26), .val (.ref b34), .val (.int v62), .val (.int v64), .val (.int v66), .unset] [(.int v64), (.int (0 : Int32))])) _
    refine XS.iload X61.here hx rfl (hb hby at_177) rfl ?_
    show Steps p.tables e below (T61.setTop (mkF m 179 #[.val (.int p0), .val (.int p1), .val (.int p2), .val (.int p3), .val (.int p4), .val (.ref b1), .val (.int v13), .val (.int v15), .val (.ref b16), .val (.int v25), .val (.ref b26), .val (.ref b34), .val (.int v62), .val (.int v64), .val (.int v66), .unset] [(.int v66), (.int v64), (.int (0 : Int32))])) _
    refine XS.aload X61.here hx rfl (hb hby at_179) rfl rfl ?_
    show Steps p.tables e below (T61.setTop (mkF m 181 #[.val (.int p0), .val (.int p1), .val (.int p2), .val (.int p3), .val (.int p4), .val (.ref b1), .val (.int v13), .val (.int v15), .val (.ref b16), .val (.int v25), .val (.ref b26), .val (.ref b34), .val (.int v62), .val (.int v64), .val (.int v66), .unset] [(.ref b1), (.int v66), (.int v64), (.int (0 : Int32))])) _
    refine XS.iconst X61.here hx rfl (hb hby at_181) ?_
    show Steps p.tables e below (T61.setTop (mkF m 182 #[.val (.int p0), .val (.int p1), .val (.int p2), .val (.int p3), .val (.int p4), .val (.ref b1), .val (.int v13), .val (.int v15), .val (.ref b16), .val (.int v25), .val (.ref b26), .val (.ref b34), .val (.int v62), .val (.int v64), .val (.int v66), .unset] [(.int (0 : Int32)), (.ref b1), (.int v66), (.int v64), (.int (0 : Int32))])) _
    refine AF.ldI X61 hx hZ e61 G55 (by decide : own_in (0 : Int32) 4) (g := (mkF m 182 #[.val (.int p0), .val (.int p1), .val (.int p2), .val (.int p3), .val (.int p4), .val (.ref b1), .val (.int v13), .val (.int v15), .val (.ref b16), .val (.int v25), .val (.ref b26), .val (.ref b34), .val (.int v62), .val (.int v64), .val (.int v66), .unset] [(.int (0 : Int32)), (.ref b1), (.int v66), (.int v64), (.int (0 : Int32))])) rfl rfl (hb hby at_182) _ ?_
    show Steps p.tables e below (T61.setTop (mkF m 183 #[.val (.int p0), .val (.int p1), .val (.int p2), .val (.int p3), .val (.int p4), .val (.ref b1), .val (.int v13), .val (.int v15), .val (.ref b16), .val (.int v25), .val (.ref b26), .val (.ref b34), .val (.int v62), .val (.int v64), .val (.int v66), .unset] [(.int (f12 0)), (.int v66), (.int v64), (.int (0 : Int32))])) _
    refine XS.iloadN X61.here hx rfl (hb hby at_183) rfl ?_
    show Steps p.tables e below (T61.setTop (mkF m 184 #[.val (.int p0), .val (.int p1), .val (.int p2), .val (.int p3), .val (.int p4), .val (.ref b1), .val (.int v13), .val (.int v15), .val (.ref b16), .val (.int v25), .val (.ref b26), .val (.ref b34), .val (.int v62), .val (.int v64), .val (.int v66), .unset] [(.int p3), (.int (f12 0)), (.int v66), (.int v64), (.int (0 : Int32))])) _
    refine XS.iload X61.here hx rfl (hb hby at_184) rfl ?_
    show Steps p.tables e below (T61.setTop (mkF m 186 #[.val (.int p0), .val (.int p1), .val (.int p2), .val (.int p3), .val (.int p4), .val (.ref b1), .val (.int v13), .val (.int v15), .val (.ref b16), .val (.int v25), .val (.ref b26), .val (.ref b34), .val (.int v62), .val (.int v64), .val (.int v66), .unset] [(.int p4), (.int p3), (.int (f12 0)), (.int v66), (.int v64), (.int (0 : Int32))])) _
    refine st67 _ ?_
    show Steps p.tables e below (T67.setTop (mkF m 189 #[.val (.int p0), .val (.int p1), .val (.int p2), .val (.int p3), .val (.int p4), .val (.ref b1), .val (.int v13), .val (.int v15), .val (.ref b16), .val (.int v25), .val (.ref b26), .val (.ref b34), .val (.int v62), .val (.int v64), .val (.int v66), .unset] [(.int (own_inn (0 : Int32) v64 v66 (f12 0) p3 p4))])) _
    refine st84 _ ?_
    show Steps p.tables e below (T84.setTop (mkF m 251 #[.val (.int p0), .val (.int p1), .val (.int p2), .val (.int p3), .val (.int p4), .val (.ref b1), .val (.int v13), .val (.int v15), .val (.ref b16), .val (.int v25), .val (.ref b26), .val (.ref b34), .val (.int v62), .val (.int v64), .val (.int v66), .unset] [(.int v83)])) _
    refine XS.istore X84.here hx rfl (hb hby at_251) rfl (l' := #[.val (.int p0), .val (.int p1), .val (.int p2), .val (.int p3), .val (.int p4), .val (.ref b1), .val (.int v13), .val (.int v15), .val (.ref b16), .val (.int v25), .val (.ref b26), .val (.ref b34), .val (.int v62), .val (.int v64), .val (.int v66), .val (.int v83)]) rfl ?_
    show Steps p.tables e below (T84.setTop (mkF m 253 #[.val (.int p0), .val (.int p1), .val (.int p2), .val (.int p3), .val (.int p4), .val (.ref b1), .val (.int v13), .val (.int v15), .val (.ref b16), .val (.int v25), .val (.ref b26), .val (.ref b34), .val (.int v62), .val (.int v64), .val (.int v66), .val (.int v83)] [])) _
    refine XS.iload X84.here hx rfl (hb hby at_253) rfl ?_
    show Steps p.tables e below (T84.setTop (mkF m 255 #[.val (.int p0), .val (.int p1), .val (.int p2), .val (.int p3), .val (.int p4), .val (.ref b1), .val (.int v13), .val (.int v15), .val (.ref b16), .val (.int v25), .val (.ref b26), .val (.ref b34), .val (.int v62), .val (.int v64), .val (.int v66), .val (.int v83)] [(.int v62)])) _
    refine XS.iload X84.here hx rfl (hb hby at_255) rfl ?_
    show Steps p.tables e below (T84.setTop (mkF m 257 #[.val (.int p0), .val (.int p1), .val (.int p2), .val (.int p3), .val (.int p4), .val (.ref b1), .val (.int v13), .val (.int v15), .val (.ref b16), .val (.int v25), .val (.ref b26), .val (.ref b34), .val (.int v62), .val (.int v64), .val (.int v66), .val (.int v83)] [(.int v83), (.int v62)])) _
    refine own_dia (F := (mkF m 265 #[.val (.int p0), .val (.int p1), .val (.int p2), .val (.int p3), .val (.int p4), .val (.ref b1), .val (.int v13), .val (.int v15), .val (.ref b16), .val (.int v25), .val (.ref b26), .val (.ref b34), .val (.int v62), .val (.int v64), .val (.int v66), .val (.int v83)] [(.int v86)])) ?_ ?_
    · intro kt
      by_cases hc85 : v62 = v83
      · show Steps p.tables e below (T84.setTop (mkF m 257 #[.val (.int p0), .val (.int p1), .val (.int p2), .val (.int p3), .val (.int p4), .val (.ref b1), .val (.int v13), .val (.int v15), .val (.ref b16), .val (.int v25), .val (.ref b26), .val (.ref b34), .val (.int v62), .val (.int v64), .val (.int v66), .val (.int v83)] [(.int v83), (.int v62)])) _
        refine XS.icmpNo X84.here hx rfl (hb hby at_257) rfl (teq hc85).2 ?_
        show Steps p.tables e below (T84.setTop (mkF m 260 #[.val (.int p0), .val (.int p1), .val (.int p2), .val (.int p3), .val (.int p4), .val (.ref b1), .val (.int v13), .val (.int v15), .val (.ref b16), .val (.int v25), .val (.ref b26), .val (.ref b34), .val (.int v62), .val (.int v64), .val (.int v66), .val (.int v83)] [])) _
        refine XS.iconst X84.here hx rfl (hb hby at_260) ?_
        show Steps p.tables e below (T84.setTop (mkF m 261 #[.val (.int p0), .val (.int p1), .val (.int p2), .val (.int p3), .val (.int p4), .val (.ref b1), .val (.int v13), .val (.int v15), .val (.ref b16), .val (.int v25), .val (.ref b26), .val (.ref b34), .val (.int v62), .val (.int v64), .val (.int v66), .val (.int v83)] [(.int (1 : Int32))])) _
        refine XS.goto X84.here hx rfl (pc0 := 261) (pc' := 265) rfl (hb hby at_261) (by decide) (by decide) ?_
        exact castTop (by rw [hv86, if_pos hc85] <;> rfl) kt
      · show Steps p.tables e below (T84.setTop (mkF m 257 #[.val (.int p0), .val (.int p1), .val (.int p2), .val (.int p3), .val (.int p4), .val (.ref b1), .val (.int v13), .val (.int v15), .val (.ref b16), .val (.int v25), .val (.ref b26), .val (.ref b34), .val (.int v62), .val (.int v64), .val (.int v66), .val (.int v83)] [(.int v83), (.int v62)])) _
        refine XS.icmpYes X84.here hx rfl (pc0 := 257) (pc' := 264) rfl (hb hby at_257) rfl (feq hc85).2 (by decide) (by decide) ?_
        show Steps p.tables e below (T84.setTop (mkF m 264 #[.val (.int p0), .val (.int p1), .val (.int p2), .val (.int p3), .val (.int p4), .val (.ref b1), .val (.int v13), .val (.int v15), .val (.ref b16), .val (.int v25), .val (.ref b26), .val (.ref b34), .val (.int v62), .val (.int v64), .val (.int v66), .val (.int v83)] [])) _
        refine XS.iconst X84.here hx rfl (hb hby at_264) ?_
        exact castTop (by rw [hv86, if_neg hc85] <;> rfl) kt
    show Steps p.tables e below (T84.setTop (mkF m 265 #[.val (.int p0), .val (.int p1), .val (.int p2), .val (.int p3), .val (.int p4), .val (.ref b1), .val (.int v13), .val (.int v15), .val (.ref b16), .val (.int v25), .val (.ref b26), .val (.ref b34), .val (.int v62), .val (.int v64), .val (.int v66), .val (.int v83)] [(.int v86)])) _
    exact retN X84 hx (t := .boolean) Bd.returns (by simp) (hb hby at_265) hr
  · show Q0 h0 n0 _ T84.heap _
    refine ⟨?_, N84⟩
    have hfin : (nar .boolean v86) = (1 : Int32) := by
      exact (own_law p0 p1 p2 p3 p4 f3 v4 f6 v7 f9 v10 f12 v13 v15 f18 f20 f22 f24 v25 v62 v64 v66 v83 v86 hf3 hv4 hf6 hv7 hf9 hv10 hf12 hv13 hv15 hf18 hf20 hf22 hf24 hv25 hv62 hv64 hv66 hv83 hv86)
    rw [hfin]
set_option maxRecDepth 65536 in
set_option maxHeartbeats 40000000 in
theorem comes_1 {Post : Tables → Env → Array Value → State → Outcome → State → Prop} (hpost : ∀ tb e args s v u, (limb_1_1.after args s (.returned v) u = true ∧ limb_1_2.after args s (.returned v) u = true ∧ True) → FrameEnd s (.returned v) u (Jvm.fieldLocs frame_1_writes args s ++ Jvm.arrayLocs frame_1_arrays args s ++ Jvm.staticLocs frame_1_statics s) 24 128 → Post tb e args s (.returned v) u) :
    ArmFor flags0 classFile x code maxLocals ret World_1 tables_1 room_1 Calls_1 rest_1 Pre_1 Post := by
  intro l hfl _ _ p e ha hc hk s m args below hf hA hF happ hP
  obtain ⟨hcalls, hrest, hpre⟩ := hP
  obtain ⟨-, -, -, hnamed, -, -, -, hat⟩ := (Spec.applies_iff hf).mp happ
  obtain ⟨hg, hn⟩ := and_e (Cond.before_iff.mp (show (Jvm.Cond.and given_1 narrow_1).before args s = true from hpre))
  obtain ⟨gg1, gg2⟩ := and_e hg
  obtain ⟨gg3, gg4⟩ := and_e gg2
  obtain ⟨gg5, gg6⟩ := and_e gg4
  obtain ⟨gg7, gg8⟩ := and_e gg6
  obtain ⟨gg9, gg10⟩ := and_e gg8
  obtain ⟨w0, w1, w2, w3, w4, rfl⟩ : ∃ w0 w1 w2 w3 w4 : Value, args = #[w0, w1, w2, w3, w4] := by
    have hs : args.size = 5 := by simpa [Cond.value, given_1] using gg1
    obtain ⟨L⟩ := args
    match L, hs with
    | [w0, w1, w2, w3, w4], _ => exact ⟨w0, w1, w2, w3, w4, rfl⟩
  have hw := fun d (hd : d ∈ tables_1) => atoms_spec (ws := Jvm.Cond.code x code maxLocals ret :: tables_1) hat d (List.mem_cons_of_mem _ hd)
  have hfit : Fit s := fun {y c} hc i hi => by
    obtain ⟨ha, rfl⟩ := Array.getElem?_eq_some_iff.mp hc
    have q := List.all_eq_true.mp ((Array.all_eq_true_iff_forall_mem.mp hF) _ (Array.getElem_mem ha)) i (List.mem_range.mpr hi)
    simpa [Array.getElem?_eq_getElem hi] using q
  obtain ⟨i0, ei0⟩ := is_v gg3
  obtain rfl : w0 = (.int i0) := Option.some.inj ei0
  obtain ⟨i1, ei1⟩ := is_v gg5
  obtain rfl : w1 = (.int i1) := Option.some.inj ei1
  obtain ⟨i2, ei2⟩ := is_v gg7
  obtain rfl : w2 = (.int i2) := Option.some.inj ei2
  obtain ⟨i3, ei3⟩ := is_v gg9
  obtain rfl : w3 = (.int i3) := Option.some.inj ei3
  obtain ⟨i4, ei4⟩ := is_v gg10
  obtain rfl : w4 = (.int i4) := Option.some.inj ei4
  obtain ⟨n, o, h1, h2, h3, _, L, rfl, ⟨rfl, N⟩, hq⟩ := rm0 l s _ hw tables_1 i0 i1 i2 i3 i4  s.heap s.heap.size (Nat.le_refl _)  p e ha hc hk s m _ below hf ((Spec.applies_iff_loose hf).mp happ).1 ⟨rfl, State.Warmed39.refl s, rfl⟩ trivial
  refine ⟨n, _, h1, h2, h3, hpost _ _ _ _ _ _ ⟨Cond.after_iff.mpr rfl, Cond.after_iff.mpr (eq_i res_at (Term.int_eval (1)) rfl), trivial⟩ ⟨hq.1, hq.2.1, (hq.2.2.sift fun y hy => Or.inr (N y hy)).mono (by decide) (by decide)⟩⟩
theorem main_1_1 : Claimed_1_1 := comes_1 fun _ _ _ _ _ _ h hF => ⟨h.1, hF⟩
theorem main_1_2 : Claimed_1_2 := comes_1 fun _ _ _ _ _ _ h hF => ⟨h.2.1, hF⟩
end Jvm.Pilot.@@N@@
namespace Jvm.Pilot.@@N@@
open Jvm Jvm.ClassFile Sem Op Lib Jvm.Free Jvm.Stand Jvm.Pilot.@@N@@.Jvm.D
/-! MADE BY PROGRAM (witnessworld.py) out of the Statement's table words and the real class files: 12 classes; the members and pool entries that the words name. The judged class is class 1, her method 1. -/
namespace start1
open Jvm.ClassFile
def u (s : String) : CpInfo := .utf8 (stringToUtf16 s)
/-- a pool by its gaps: so many unusable entries, then the entry; so many at the end -/
def gap : Nat → List CpInfo → List CpInfo
  | 0, r => r
  | n + 1, r => .unusable :: gap n r
def poolList (es : List (Nat × CpInfo)) (last : Nat) : List CpInfo := es.foldr (fun e r => gap e.1 (e.2 :: r)) (gap last [])
def pool (es : List (Nat × CpInfo)) (last : Nat) : Array CpInfo := ⟨poolList es last⟩
def fileOf (pool : Array CpInfo) (this : Nat) (attrs : Array Attribute := #[]) (ms : Array MethodInfo := #[]) (fl : Nat := 33) (sup : Nat := 0) (ifs : Array Nat := #[]) (fds : Array FieldInfo := #[]) : ClassFile where
  minorVersion := 0
  majorVersion := 65
  constantPool := pool
  accessFlags := fl
  thisClass := this
  superClass := sup
  interfaces := ifs
  fields := fds
  methods := ms
  attributes := attrs
def plain (name : String) (sup : Option ClassId) : Class where
  name := name
  kind := .ordinary
  loader := none
  accessFlags := 33
  super := sup
  interfaces := #[]
  cf := none
  fields := #[]
  methods := #[]
  instanceTypes := #[]
  staticTypes := #[]
  resolved := #[]
  callSites := []
  init := .initialized
  statics := none
  mirror := none

def pool0 : Array CpInfo := pool [(5, u "<init>"), (0, u "()V"), (1, .class_ 10), (1, u "java/lang/Object")] 113

def k0c0 : Code := { maxStack := 0, maxLocals := 1, code := object_method_1_code, exceptionTable := #[], attributes := #[] }
def k0m0 : Method := { name := "<init>", desc := "()V", sig := { parameters := [], returnType := none }, accessFlags := 1, code := some k0c0 }
/-- java/lang/Object -/
def k0 : Class := { plain "java/lang/Object" none with
  accessFlags := 33
  interfaces := #[]
  cf := some (fileOf pool0 8 #[] #[{ accessFlags := 1, nameIndex := 5, descriptorIndex := 6, attributes := #[] }] 33 0 #[] #[])
  fields := #[]
  methods := #[k0m0]
  instanceTypes := #[]
  staticTypes := #[]
  resolved := Array.replicate 124 none
  statics := none }

def pool1 : Array CpInfo := pool [(2, .class_ 4), (1, u "java/lang/Object"), (0, u "<init>"), (0, u "()V"), (0, .integer 2147483647), (0, .long 2), (1, .class_ 11), (0, u "com/example/ezra/ezra/Lineup"), (0, .methodref 10 13), (0, .nameAndType 5 14), (0, u "(Ljava/util/List;[J[I[I[I)V"), (0, .methodref 10 16), (0, .nameAndType 17 18), (0, u "has"), (0, u "(III)Z"), (0, .methodref 20 21), (0, .class_ 22), (0, .nameAndType 23 24), (0, u "com/example/ezra/ezra/LineupHasPinLaw"), (0, u "in"), (0, u "(IIIIII)Z"), (2, u "law"), (0, u "(IIIII)Z")] 7

def k1m0 : Method := { name := "<init>", desc := "()V", sig := { parameters := [], returnType := none }, accessFlags := 1, code := none }
def k1c1 : Code := { maxStack := 7, maxLocals := 16, code := code, exceptionTable := #[], attributes := #[] }
def k1m1 : Method := { name := "law", desc := "(IIIII)Z", sig := { parameters := [.int, .int, .int, .int, .int], returnType := some .boolean }, accessFlags := 9, code := some k1c1 }
def k1c2 : Code := { maxStack := 2, maxLocals := 6, code := method_3_code, exceptionTable := #[], attributes := #[] }
def k1m2 : Method := { name := "in", desc := "(IIIIII)Z", sig := { parameters := [.int, .int, .int, .int, .int, .int], returnType := some .boolean }, accessFlags := 10, code := some k1c2 }
/-- com/example/ezra/ezra/LineupHasPinLaw -/
def k1 : Class := { plain "com/example/ezra/ezra/LineupHasPinLaw" (some 0) with
  accessFlags := 49
  interfaces := #[]
  cf := some (fileOf pool1 20 #[] #[{ accessFlags := 1, nameIndex := 5, descriptorIndex := 6, attributes := #[] }, { accessFlags := 9, nameIndex := 27, descriptorIndex := 28, attributes := #[] }, { accessFlags := 10, nameIndex := 23, descriptorIndex := 24, attributes := #[] }] 49 2 #[] #[])
  fields := #[]
  methods := #[k1m0, k1m1, k1m2]
  instanceTypes := #[]
  staticTypes := #[]
  resolved := Array.replicate 36 none
  statics := none }

def pool2 : Array CpInfo := pool [(1, .methodref 2 3), (0, .class_ 4), (0, .nameAndType 5 6), (0, u "java/lang/Object"), (0, u "<init>"), (0, u "()V"), (0, .class_ 8), (0, u "java/lang/Record")] 13

def k2c0 : Code := { maxStack := 1, maxLocals := 1, code := jdk_30_method_1_code, exceptionTable := #[], attributes := #[] }
def k2m0 : Method := { name := "<init>", desc := "()V", sig := { parameters := [], returnType := none }, accessFlags := 4, code := some k2c0 }
/-- java/lang/Record -/
def k2 : Class := { plain "java/lang/Record" (some 0) with
  accessFlags := 1057
  interfaces := #[]
  cf := some (fileOf pool2 7 #[] #[{ accessFlags := 4, nameIndex := 5, descriptorIndex := 6, attributes := #[] }] 1057 2 #[] #[])
  fields := #[]
  methods := #[k2m0]
  instanceTypes := #[]
  staticTypes := #[]
  resolved := Array.replicate 22 none
  statics := none }

def pool3 : Array CpInfo := pool [(1, .methodref 2 3), (0, .class_ 4), (0, .nameAndType 5 6), (0, u "java/lang/Record"), (0, u "<init>"), (0, u "()V"), (0, .fieldref 8 9), (0, .class_ 10), (0, .nameAndType 11 12), (0, u "com/example/ezra/ezra/Lineup"), (0, u "days"), (0, u "Ljava/util/List;"), (0, .fieldref 8 14), (0, .nameAndType 15 16), (0, u "numbers"), (0, u "[J"), (0, .fieldref 8 18), (0, .nameAndType 19 20), (0, u "start"), (0, u "[I"), (0, .fieldref 8 22), (0, .nameAndType 23 20), (0, u "day"), (0, .fieldref 8 25), (0, .nameAndType 26 20), (0, u "position"), (46, u "(Ljava/util/List;[J[I[I[I)V"), (10, .class_ 85), (0, u "com/example/ezra/ezra/Lineup$Picked"), (55, u "has"), (0, u "(III)Z")] 53

def k3c0 : Code := { maxStack := 2, maxLocals := 6, code := prog_14_method_1_code, exceptionTable := #[], attributes := #[] }
def k3m0 : Method := { name := "<init>", desc := "(Ljava/util/List;[J[I[I[I)V", sig := { parameters := [(.object "java/util/List"), (.array .long), (.array .int), (.array .int), (.array .int)], returnType := none }, accessFlags := 0, code := some k3c0 }
def k3c1 : Code := { maxStack := 4, maxLocals := 5, code := prog_14_method_6_code, exceptionTable := #[], attributes := #[] }
def k3m1 : Method := { name := "has", desc := "(III)Z", sig := { parameters := [.int, .int, .int], returnType := some .boolean }, accessFlags := 0, code := some k3c1 }
/-- com/example/ezra/ezra/Lineup -/
def k3 : Class := { plain "com/example/ezra/ezra/Lineup" (some 2) with
  accessFlags := 48
  interfaces := #[]
  cf := some (fileOf pool3 8 #[.nestMembers #[84]] #[{ accessFlags := 0, nameIndex := 5, descriptorIndex := 73, attributes := #[] }, { accessFlags := 0, nameIndex := 141, descriptorIndex := 142, attributes := #[] }] 48 2 #[] #[{ accessFlags := 18, nameIndex := 11, descriptorIndex := 12, attributes := #[] }, { accessFlags := 18, nameIndex := 15, descriptorIndex := 16, attributes := #[] }, { accessFlags := 18, nameIndex := 19, descriptorIndex := 20, attributes := #[] }, { accessFlags := 18, nameIndex := 23, descriptorIndex := 20, attributes := #[] }, { accessFlags := 18, nameIndex := 26, descriptorIndex := 20, attributes := #[] }])
  fields := #[{ name := "days", type := (.object "java/util/List"), accessFlags := 18, slot := 0, constantValue := 0 }, { name := "numbers", type := (.array .long), accessFlags := 18, slot := 1, constantValue := 0 }, { name := "start", type := (.array .int), accessFlags := 18, slot := 2, constantValue := 0 }, { name := "day", type := (.array .int), accessFlags := 18, slot := 3, constantValue := 0 }, { name := "position", type := (.array .int), accessFlags := 18, slot := 4, constantValue := 0 }]
  methods := #[k3m0, k3m1]
  instanceTypes := #[(.object "java/util/List"), (.array .long), (.array .int), (.array .int), (.array .int)]
  staticTypes := #[]
  resolved := Array.replicate 196 none
  statics := none }

def pool4 : Array CpInfo := pool [(1, u "java/lang/Cloneable"), (0, .class_ 1), (0, u "java/lang/Object"), (0, .class_ 3)] 3

/-- java/lang/Cloneable -/
def k4 : Class := { plain "java/lang/Cloneable" (some 0) with
  accessFlags := 1537
  interfaces := #[]
  cf := some (fileOf pool4 2 #[] #[] 1537 4 #[] #[])
  fields := #[]
  methods := #[]
  instanceTypes := #[]
  staticTypes := #[]
  resolved := Array.replicate 8 none
  statics := none }

def pool5 : Array CpInfo := pool [(1, u "java/io/Serializable"), (0, .class_ 1), (0, u "java/lang/Object"), (0, .class_ 3)] 3

/-- java/io/Serializable -/
def k5 : Class := { plain "java/io/Serializable" (some 0) with
  accessFlags := 1537
  interfaces := #[]
  cf := some (fileOf pool5 2 #[] #[] 1537 4 #[] #[])
  fields := #[]
  methods := #[]
  instanceTypes := #[]
  staticTypes := #[]
  resolved := Array.replicate 8 none
  statics := none }

/-- the primitive byte -/
def k6 : Class := { plain "byte" none with kind := .primitive 'B', accessFlags := 0x411 }
/-- [B -/
def k7 : Class := { plain "[B" (some 0) with kind := .array 6 .byte, interfaces := #[4, 5], accessFlags := 1041 }

/-- the primitive int -/
def k8 : Class := { plain "int" none with kind := .primitive 'I', accessFlags := 0x411 }
/-- [I -/
def k9 : Class := { plain "[I" (some 0) with kind := .array 8 .int, interfaces := #[4, 5], accessFlags := 1041 }

/-- the primitive long -/
def k10 : Class := { plain "long" none with kind := .primitive 'J', accessFlags := 0x411 }
/-- [J -/
def k11 : Class := { plain "[J" (some 0) with kind := .array 10 .long, interfaces := #[4, 5], accessFlags := 1041 }

def heap : Heap := #[]
def classes : Array Class := #[k0, k1, k2, k3, k4, k5, k6, k7, k8, k9, k10, k11]
def interned : List (Array UInt16 × Addr) := []
def slotsUsed : Nat := 0
def theMethod : MethodId := ⟨1, 1⟩
def args0 : Array Value := #[.int 5, .int 5, .int 5, .int 5, .int 5]
def aboutOver (below : List Frame) : State where
  vm := { classes := classes, interned := interned.toArray }
  heap := heap
  slotsUsed := slotsUsed
  threads := #[{ frames := .invoking theMethod args0 :: below }]
def below0 : List Frame := [.native { method := ⟨0, 0⟩, args := #[] }]
def about1 : State := aboutOver below0
def p0 : Program := .bare "" "" ""
def e0 : Env := launch0.env 0 0 0
theorem w_frames : about1.frames = Frame.invoking theMethod args0 :: below0 := rfl
set_option maxRecDepth 65536 in
theorem w_args : argsFit about1.vm theMethod args0 = true := by decide +kernel
set_option maxRecDepth 65536 in
theorem w_heap : heapFits about1 = true := by decide +kernel
set_option maxRecDepth 65536 in
theorem w_runnable : about1.curStatus? = some .runnable := by decide +kernel
set_option maxRecDepth 65536 in
theorem w_alone : about1.alone = true := by decide +kernel
set_option maxRecDepth 65536 in
theorem w_named : about1.methodNamed? x = some theMethod := by decide +kernel
set_option maxRecDepth 65536 in
theorem w_hears : about1.hears theMethod below0 = true := by decide +kernel
set_option maxRecDepth 65536 in
theorem w_ripe : about1.ripe theMethod args0 below0 = true := by decide +kernel
theorem w_running : about1.status = .running := rfl
set_option maxRecDepth 65536 in
theorem w_room : about1.hasRoom e0.platform room_1 = true :=
  launch0.hasRoom_least _ room_1 (by decide +kernel) (by decide +kernel) (by decide +kernel) (by decide +kernel) (by decide +kernel) (by decide +kernel)
theorem allAtoms_all (ts : List Jvm.Cond) (a : Array Jvm.Value) (st : Jvm.State) : (allAtoms ts).before a st = ts.all (fun c => c.before a st) := by
  induction ts with
  | nil => rfl
  | cons c t ih =>
    show (Jvm.Cond.and c (allAtoms t)).before a st = _
    rw [Jvm.Cond.before_and, ih, List.all_cons]
def words1 : List Jvm.Cond := Jvm.Cond.code x code maxLocals ret :: tables_1
/-- a 'code' word, met by the world's own term for the bytes: nothing is compared byte by byte -/
theorem code_word {y : MethodName} {bytes : ByteArray} {mx : Nat} {rt : Option FieldType} {a : Array Value} {s : State} {m : MethodId} {meth : Method} {c : Code} (h1 : s.methodNamed? y = some m) (h2 : s.vm.method? m = some meth) (h3 : meth.code = some c) (h4 : c.code = bytes)
    (h5 : (c.maxLocals == mx && c.exceptionTable.isEmpty && decide (c.maxStack ≤ mostOperands) && decide (meth.sig.returnType = rt) && !meth.locks && decide (parseMethodDescriptor y.desc = some meth.sig)) = true) : (Jvm.Cond.code y bytes mx rt).before a s = true := by
  simp only [Bool.and_eq_true, beq_iff_eq, Bool.not_eq_true', decide_eq_true_eq] at h5
  obtain ⟨⟨⟨⟨⟨g1, g2⟩, g3⟩, g4⟩, g5⟩, g6⟩ := h5
  simp [Cond.before, Cond.holds, Cond.value, h1, h2, h3, h4, g1, g2, g3, g4, g5, g6]
def isCode : Jvm.Cond → Bool
  | .code _ _ _ _ => true
  | _ => false
theorem all_split {L : List Jvm.Cond} {P : Jvm.Cond → Bool} (h1 : L.all (fun c => isCode c || P c) = true) (h2 : ∀ c ∈ L.filter isCode, P c = true) : L.all P = true := by
  refine List.all_eq_true.mpr fun c hc => ?_
  have h := List.all_eq_true.mp h1 c hc
  rcases Bool.eq_false_or_eq_true (isCode c) with hi | hi
  · exact h2 c (List.mem_filter.mpr ⟨hc, hi⟩)
  · simpa [hi] using h
set_option maxRecDepth 65536 in
theorem w_c0 : (Jvm.Cond.code x code maxLocals ret).before args0 about1 = true := code_word (m := ⟨1, 1⟩) (meth := k1m1) (c := k1c1) (by decide +kernel) rfl rfl rfl (by decide +kernel)
set_option maxRecDepth 65536 in
theorem w_c1 : (Jvm.Cond.code ({ cls := "com/example/ezra/ezra/Lineup", name := "<init>", desc := "(Ljava/util/List;[J[I[I[I)V" } : Jvm.MethodName) prog_14_method_1_code (6 : Nat) (Option.none : Option Jvm.ClassFile.FieldType)).before args0 about1 = true := code_word (m := ⟨3, 0⟩) (meth := k3m0) (c := k3c0) (by decide +kernel) rfl rfl rfl (by decide +kernel)
set_option maxRecDepth 65536 in
theorem w_c2 : (Jvm.Cond.code ({ cls := "java/lang/Record", name := "<init>", desc := "()V" } : Jvm.MethodName) jdk_30_method_1_code (1 : Nat) (Option.none : Option Jvm.ClassFile.FieldType)).before args0 about1 = true := code_word (m := ⟨2, 0⟩) (meth := k2m0) (c := k2c0) (by decide +kernel) rfl rfl rfl (by decide +kernel)
set_option maxRecDepth 65536 in
theorem w_c3 : (Jvm.Cond.code ({ cls := "java/lang/Object", name := "<init>", desc := "()V" } : Jvm.MethodName) object_method_1_code (1 : Nat) (Option.none : Option Jvm.ClassFile.FieldType)).before args0 about1 = true := code_word (m := ⟨0, 0⟩) (meth := k0m0) (c := k0c0) (by decide +kernel) rfl rfl rfl (by decide +kernel)
set_option maxRecDepth 65536 in
theorem w_c4 : (Jvm.Cond.code ({ cls := "com/example/ezra/ezra/Lineup", name := "has", desc := "(III)Z" } : Jvm.MethodName) prog_14_method_6_code (5 : Nat) (Option.some Jvm.ClassFile.FieldType.boolean)).before args0 about1 = true := code_word (m := ⟨3, 1⟩) (meth := k3m1) (c := k3c1) (by decide +kernel) rfl rfl rfl (by decide +kernel)
set_option maxRecDepth 65536 in
theorem w_c5 : (Jvm.Cond.code ({ cls := "com/example/ezra/ezra/LineupHasPinLaw", name := "in", desc := "(IIIIII)Z" } : Jvm.MethodName) method_3_code (6 : Nat) (Option.some Jvm.ClassFile.FieldType.boolean)).before args0 about1 = true := code_word (m := ⟨1, 2⟩) (meth := k1m2) (c := k1c2) (by decide +kernel) rfl rfl rfl (by decide +kernel)
def codes1 : List Jvm.Cond := [Jvm.Cond.code x code maxLocals ret, Jvm.Cond.code ({ cls := "com/example/ezra/ezra/Lineup", name := "<init>", desc := "(Ljava/util/List;[J[I[I[I)V" } : Jvm.MethodName) prog_14_method_1_code (6 : Nat) (Option.none : Option Jvm.ClassFile.FieldType), Jvm.Cond.code ({ cls := "java/lang/Record", name := "<init>", desc := "()V" } : Jvm.MethodName) jdk_30_method_1_code (1 : Nat) (Option.none : Option Jvm.ClassFile.FieldType), Jvm.Cond.code ({ cls := "java/lang/Object", name := "<init>", desc := "()V" } : Jvm.MethodName) object_method_1_code (1 : Nat) (Option.none : Option Jvm.ClassFile.FieldType), Jvm.Cond.code ({ cls := "com/example/ezra/ezra/Lineup", name := "has", desc := "(III)Z" } : Jvm.MethodName) prog_14_method_6_code (5 : Nat) (Option.some Jvm.ClassFile.FieldType.boolean), Jvm.Cond.code ({ cls := "com/example/ezra/ezra/LineupHasPinLaw", name := "in", desc := "(IIIIII)Z" } : Jvm.MethodName) method_3_code (6 : Nat) (Option.some Jvm.ClassFile.FieldType.boolean)]
set_option maxRecDepth 65536 in
theorem codes_eq : words1.filter isCode = codes1 := rfl
theorem w_codes : ∀ c ∈ words1.filter isCode, c.before args0 about1 = true := by
  rw [codes_eq]
  intro c hc
  simp only [codes1, List.mem_cons, List.not_mem_nil, or_false] at hc
  rcases hc with rfl | rfl | rfl | rfl | rfl | rfl
  · exact w_c0
  · exact w_c1
  · exact w_c2
  · exact w_c3
  · exact w_c4
  · exact w_c5
set_option maxRecDepth 65536 in
theorem w_t1 : (words1.take 24).all (fun c => isCode c || c.before args0 about1) = true := by decide +kernel
set_option maxRecDepth 65536 in
theorem w_t2 : (words1.drop 24).all (fun c => isCode c || c.before args0 about1) = true := by decide +kernel
theorem w_tables : (allAtoms (Jvm.Cond.code x code maxLocals ret :: tables_1)).before args0 about1 = true := by
  rw [allAtoms_all]
  show words1.all (fun c => c.before args0 about1) = true
  refine all_split ?_ w_codes
  rw [← List.take_append_drop 24 words1, List.all_append, w_t1, w_t2]
  rfl
set_option maxRecDepth 65536 in
theorem w_case : (Jvm.Cond.and given_1 narrow_1).before args0 about1 = true := by decide +kernel
theorem w_applies : (headSpec (Jvm.Cond.code x code maxLocals ret :: tables_1) room_1).applies x e0.platform about1 = true :=
  (Spec.applies_iff w_frames).mpr ⟨w_running, w_runnable, w_alone, w_named, w_hears, w_ripe, w_room, w_tables⟩
theorem atStart : AtStart classFile x code maxLocals ret World_1 tables_1 room_1 Calls_1 rest_1 Pre_1 launch0 p0 e0 about1 theMethod args0 below0 :=
  ⟨lists_1, trivial, launch0.admits_env _ _ _, launch0.least_env, fairChoices_fair.cas, fairChoices_fair.clock, w_frames, w_args, w_heap, w_applies, trivial, trivial, w_case⟩
end start1
theorem witness_1 : WitnessClaimed_1 := ⟨start1.p0, start1.e0, start1.about1, start1.theMethod, start1.args0, start1.below0, start1.atStart⟩
end Jvm.Pilot.@@N@@
