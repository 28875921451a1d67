import JvmDerived
import JvmDerived.Pilot.@@N@@Statement
import JvmDerived.Pilot.@@N@@Code
set_option linter.unusedVariables false
set_option linter.unusedSimpArgs false
namespace Jvm.Pilot.@@N@@
open Jvm Jvm.ClassFile Sem Op Lib Jvm.Free Jvm.Stand Jvm.LawKit Jvm.RoadKit Bundle Jvm.Pilot.@@N@@.Jvm.D
section OwnKit
variable {p : Program} {l : Launch} {e : Env} {R : Room} {s : State} {m : MethodId} {args : Array Value} {below : List Frame} {meth : Method} {c : Code} {T : State} {locs : List Loc} {cells slots : Nat} {Z : State} {h h' : Heap} {a b : Addr} {ty : FieldType} {n : Nat} {f f' : Nat → Value} {sl : Nat} {v : Value} {ws : List Addr}
theorem own_dia {t : State} {B F : JFrame} (hh : Steps p.tables e below (T.setTop F) t → Steps p.tables e below (T.setTop B) t) (k : Steps p.tables e below (T.setTop F) t) : Steps p.tables e below (T.setTop B) t := hh k
/-- the place j lies in an array of n places -/
abbrev own_in (j : Int32) (n : Nat) : Prop := 0 ≤ j.toInt ∧ j.toInt < n
theorem own_in_nat {j : Int32} (hj : own_in j n) : j.toNatClampNeg < n := by simp only [Int32.toNatClampNeg]; omega
theorem own_in_arr {cl : Cell} {j : Int32} (hs : cl.slots.size = n) (hj : own_in j n) : ¬ (j < 0 ∨ cl.slots.size ≤ j.toNatClampNeg) := by
  have := own_in_nat hj
  have k0 : (0 : Int32).toInt = 0 := by decide
  rw [Int32.lt_iff_toInt_lt, hs, k0]; omega
/-- an array: its kind, its length, and what each place holds -/
def AF (Z : State) (h : Heap) (a : Addr) (ty : FieldType) (n : Nat) (f : Nat → Value) : Prop := ∃ c : Cell, Arr Z h a c ty ∧ c.slots.size = n ∧ n < 2147483648 ∧ ∀ j, j < n → c.slots[j]? = some (f j)
theorem AF.lt (F : AF Z h a ty n f) : a < h.size := by obtain ⟨c, A, -⟩ := F; exact A.lt
theorem AF.small (F : AF Z h a ty n f) : n < 2147483648 := by obtain ⟨c, -, -, q, -⟩ := F; exact q
theorem AF.ext (F : AF Z h a ty n f) (E : Ext h h') : AF Z h' a ty n f := by obtain ⟨c, A, r⟩ := F; exact ⟨c, A.ext E, r⟩
theorem AF.other (F : AF Z h b ty n f) (W : Wr h h' a sl v) (q : b ≠ a) : AF Z h' b ty n f := by obtain ⟨c, A, r⟩ := F; exact ⟨c, A.other W q, r⟩
theorem AF.keep (F : AF Z h a ty n f) (K : Keep h h' ws) (q : a ∉ ws) : AF Z h' a ty n f := by obtain ⟨c, A, r⟩ := F; exact ⟨c, ⟨K.2.1 a c A.1 q, A.2⟩, r⟩
theorem AF.cong (F : AF Z h a ty n f) (q : ∀ j, j < n → f j = f' j) : AF Z h a ty n f' := by obtain ⟨c, A, r1, r2, r3⟩ := F; exact ⟨c, A, r1, r2, fun j hj => by rw [← q j hj]; exact r3 j hj⟩
theorem AF.new {k : ClassId} {z : Int32} (A : Arr Z h a (newA k ty z) ty) (q : ¬ z < 0) : AF Z h a ty z.toNatClampNeg (fun _ => defaultValue ty) := ⟨_, A, sz_new _ _ _, (back32 q).2, fun j hj => by simp [newA, hj]⟩
theorem AF.set (F : AF Z h a ty n f) {k : Nat} (W : Wr h h' a k v) : AF Z h' a ty n (fun i => if i = k then v else f i) := by
  obtain ⟨c, A, r1, r2, r3⟩ := F
  refine ⟨_, Arr.same W A, by rw [sz_set]; exact r1, r2, fun j hj => ?_⟩
  obtain ⟨cell, h1, -, h3, -⟩ := W
  cases h1.symm.trans A.1
  by_cases q : j = k
  · subst q; simp [Cell.setSlot, h3]
  · have q' : ¬ k = j := fun z => q z.symm
    simp only [Cell.setSlot, Array.getElem?_setIfInBounds, if_neg q, if_neg q']; exact r3 j hj
theorem own_updI {g fN : Nat → Int32} {x : Int32} {J k : Nat} (hk : k = J) (hf : fN = fun i => if i = J then x else g i) : ∀ j, j < n → (if j = k then Value.int x else Value.int (g j)) = Value.int (fN j) := by
  subst hk hf; intro j _; by_cases q : j = k <;> simp [q]
theorem own_updJ {g fN : Nat → Int64} {x : Int64} {J k : Nat} (hk : k = J) (hf : fN = fun i => if i = J then x else g i) : ∀ j, j < n → (if j = k then Value.long x else Value.long (g j)) = Value.long (fN j) := by
  subst hk hf; intro j _; by_cases q : j = k <;> simp [q]
theorem AF.ldI (X : Stand p l e R s m args below meth c T locs cells slots) (hx : p.tables.exec = Jvm.exec) (hZ : Z.Warmed39 s.vm) (eT : T.heap = h) {f : Nat → Int32} (A : AF Z h a .int n (fun j => .int (f j))) {j : Int32} (hj : own_in j n) {g : JFrame} (hg : g.method = m) {rest : List Value} (hs : g.stack = .int j :: .ref a :: rest) (hd : decode c.code g.pc = .ok (.iaload, 1)) (target : State)
    (k : Steps p.tables e below (T.setTop { g with pc := g.pc + 1, stack := .int (f j.toNatClampNeg) :: rest }) target) : Steps p.tables e below (T.setTop g) target := by
  obtain ⟨cl, A, r1, r2, r3⟩ := A
  exact X.iaload hx (j := j) (v := .int (f j.toNatClampNeg)) (by rw [eT]; exact A.1) (State.isArrayOf_alike hZ.alike A.2.1) A.2.2 (own_in_arr r1 hj) (r3 _ (own_in_nat hj)) hg hs hd _ k
theorem AF.ldJ (X : Stand p l e R s m args below meth c T locs cells slots) (hx : p.tables.exec = Jvm.exec) (hZ : Z.Warmed39 s.vm) (eT : T.heap = h) {f : Nat → Int64} (A : AF Z h a .long n (fun j => .long (f j))) {j : Int32} (hj : own_in j n) {g : JFrame} (hg : g.method = m) {rest : List Value} (hs : g.stack = .int j :: .ref a :: rest) (hd : decode c.code g.pc = .ok (.laload, 1)) (target : State)
    (k : Steps p.tables e below (T.setTop { g with pc := g.pc + 1, stack := .long (f j.toNatClampNeg) :: rest }) target) : Steps p.tables e below (T.setTop g) target := by
  obtain ⟨cl, A, r1, r2, r3⟩ := A
  exact X.laload hx (j := j) (v := .long (f j.toNatClampNeg)) (by rw [eT]; exact A.1) (State.isArrayOf_alike hZ.alike A.2.1) A.2.2 (own_in_arr r1 hj) (r3 _ (own_in_nat hj)) hg hs hd _ k
theorem AF.ldB (X : Stand p l e R s m args below meth c T locs cells slots) (hx : p.tables.exec = Jvm.exec) (hZ : Z.Warmed39 s.vm) (eT : T.heap = h) {f : Nat → Int32} (A : AF Z h a .byte n (fun j => .int (f j))) {j : Int32} (hj : own_in j n) {g : JFrame} (hg : g.method = m) {rest : List Value} (hs : g.stack = .int j :: .ref a :: rest) (hd : decode c.code g.pc = .ok (.baload, 1)) (target : State)
    (k : Steps p.tables e below (T.setTop { g with pc := g.pc + 1, stack := .int (f j.toNatClampNeg) :: rest }) target) : Steps p.tables e below (T.setTop g) target := by
  obtain ⟨cl, A, r1, r2, r3⟩ := A
  exact X.baloadBytes hx (j := j) (v := .int (f j.toNatClampNeg)) (by rw [eT]; exact A.1) (State.isArrayOf_alike hZ.alike A.2.1) A.2.2 (own_in_arr r1 hj) (r3 _ (own_in_nat hj)) hg hs hd _ k
theorem AF.len (X : Stand p l e R s m args below meth c T locs cells slots) (hx : p.tables.exec = Jvm.exec) (hZ : Z.Warmed39 s.vm) (eT : T.heap = h) (A : AF Z h a ty n f) {g : JFrame} (hg : g.method = m) {rest : List Value} (hs : g.stack = .ref a :: rest) (hd : decode c.code g.pc = .ok (.arraylength, 1)) (target : State)
    (k : Steps p.tables e below (T.setTop { g with pc := g.pc + 1, stack := .int (Int32.ofNat n) :: rest }) target) : Steps p.tables e below (T.setTop g) target := by
  obtain ⟨cl, A, r1, r2, r3⟩ := A
  subst r1
  exact X.arraylength hx (by rw [eT]; exact A.1) (State.isArrayOf_alike hZ.alike A.2.1) hg hs hd _ k
theorem AF.stI (X : Stand p l e R s m args below meth c T locs cells slots) (hx : p.tables.exec = Jvm.exec) (hZ : Z.Warmed39 s.vm) (eT : T.heap = h) (A : AF Z h a .int n f) {j x : Int32} (hj : own_in j n) {g : JFrame} (hg : g.method = m) {rest : List Value} (hs : g.stack = .int x :: .int j :: .ref a :: rest) (hd : decode c.code g.pc = .ok (.iastore, 1)) :
    ∃ T' h', Stand p l e R s m args below meth c T' (locs ++ [⟨a, j.toNatClampNeg⟩]) cells slots ∧ T'.heap = h' ∧ Wr h h' a j.toNatClampNeg (.int x) ∧ AF Z h' a .int n (fun i => if i = j.toNatClampNeg then .int x else f i) ∧ ∀ target, Steps p.tables e below (T'.setTop { g with pc := g.pc + 1, stack := rest }) target → Steps p.tables e below (T.setTop g) target := by
  have A0 := A
  obtain ⟨cl, A, r1, r2, r3⟩ := A
  obtain ⟨T', h', X', e', W, st⟩ := Jvm.RoadKit.stI X hx hZ eT A (j := j) (own_in_arr r1 hj) hg hs hd
  exact ⟨T', h', X', e', W, A0.set W, st⟩
theorem AF.stJ (X : Stand p l e R s m args below meth c T locs cells slots) (hx : p.tables.exec = Jvm.exec) (hZ : Z.Warmed39 s.vm) (eT : T.heap = h) (A : AF Z h a .long n f) {j : Int32} {x : Int64} (hj : own_in j n) {g : JFrame} (hg : g.method = m) {rest : List Value} (hs : g.stack = .long x :: .int j :: .ref a :: rest) (hd : decode c.code g.pc = .ok (.lastore, 1)) :
    ∃ T' h', Stand p l e R s m args below meth c T' (locs ++ [⟨a, j.toNatClampNeg⟩]) cells slots ∧ T'.heap = h' ∧ Wr h h' a j.toNatClampNeg (.long x) ∧ AF Z h' a .long n (fun i => if i = j.toNatClampNeg then .long x else f i) ∧ ∀ target, Steps p.tables e below (T'.setTop { g with pc := g.pc + 1, stack := rest }) target → Steps p.tables e below (T.setTop g) target := by
  have A0 := A
  obtain ⟨cl, A, r1, r2, r3⟩ := A
  obtain ⟨T', h', X', e', W, st⟩ := Jvm.RoadKit.stJ X hx hZ eT A (j := j) (own_in_arr r1 hj) hg hs hd
  exact ⟨T', h', X', e', W, A0.set W, st⟩
theorem AF.stB (X : Stand p l e R s m args below meth c T locs cells slots) (hx : p.tables.exec = Jvm.exec) (hZ : Z.Warmed39 s.vm) (eT : T.heap = h) (A : AF Z h a .byte n f) {j x : Int32} (hj : own_in j n) {g : JFrame} (hg : g.method = m) {rest : List Value} (hs : g.stack = .int x :: .int j :: .ref a :: rest) (hd : decode c.code g.pc = .ok (.bastore, 1)) :
    ∃ T' h', Stand p l e R s m args below meth c T' (locs ++ [⟨a, j.toNatClampNeg⟩]) cells slots ∧ T'.heap = h' ∧ Wr h h' a j.toNatClampNeg (.int x.toInt8.toInt32) ∧ AF Z h' a .byte n (fun i => if i = j.toNatClampNeg then .int x.toInt8.toInt32 else f i) ∧ ∀ target, Steps p.tables e below (T'.setTop { g with pc := g.pc + 1, stack := rest }) target → Steps p.tables e below (T.setTop g) target := by
  have A0 := A
  obtain ⟨cl, A, r1, r2, r3⟩ := A
  obtain ⟨T', h', X', e', W, st⟩ := Jvm.RoadKit.stB X hx hZ eT A (j := j) (own_in_arr r1 hj) hg hs hd
  exact ⟨T', h', X', e', W, A0.set W, st⟩
theorem own_cpyI {f g fN : Nat → Int32} {k : Nat} (hf : fN = fun j => if j < k then f j else g j) : ∀ j, j < n → (if j < k then Value.int (f j) else Value.int (g j)) = Value.int (fN j) := by
  subst hf; intro j _; by_cases q : j < k <;> simp [q]
theorem own_cpyJ {f g fN : Nat → Int64} {k : Nat} (hf : fN = fun j => if j < k then f j else g j) : ∀ j, j < n → (if j < k then Value.long (f j) else Value.long (g j)) = Value.long (fN j) := by
  subst hf; intro j _; by_cases q : j < k <;> simp [q]
theorem own_acW {own : String} {index : Nat} (h1 : (Jvm.Cond.methodLink own index Jvm.Stand.acN).before args s = true) (h2 : (Jvm.Cond.native Jvm.Stand.acN).before args s = true) (h3 : (Jvm.Cond.static Jvm.Stand.acN).before args s = true) (h4 : (Jvm.Cond.initialized "java/lang/System").before args s = true) : ∀ w ∈ Jvm.Free.XT.acW own index, w.before args s = true := by
  intro w hw
  change w ∈ [Jvm.Cond.methodLink own index Jvm.Stand.acN, Jvm.Cond.native Jvm.Stand.acN, Jvm.Cond.static Jvm.Stand.acN, Jvm.Cond.initialized "java/lang/System"] at hw
  simp only [List.mem_cons, List.not_mem_nil, or_false] at hw
  rcases hw with rfl | rfl | rfl | rfl
  · exact h1
  · exact h2
  · exact h3
  · exact h4
theorem own_isArr {c c' : Cell} (q : Z.isArrayOf c ty) (h1 : c'.cls = c.cls) (h2 : c'.vm = c.vm) : Z.isArrayOf c' ty := by
  obtain ⟨q1, k, q2, q3⟩ := q
  exact ⟨by rw [h2]; exact q1, k, by rw [h1]; exact q2, q3⟩
theorem AF.copy (X : Stand p l e R s m args below meth c T locs cells slots) (hx : p.tables.exec = Jvm.exec) (hZ : Z.Warmed39 s.vm) {own : String} {index : Nat} (hown : s.vm.findClass own = some m.cls) (hw : ∀ w ∈ Jvm.Free.XT.acW own index, w.before args s = true)
    (eT : T.heap = h) {k : Nat} {f' : Nat → Value} (A : AF Z h a ty n f) (B : AF Z h b ty k f') (hp : ty.isReference = false) {cnt : Nat} (hfit : ∀ j, j < cnt → fits ty (f j) = true) (h1 : cnt ≤ n) (h2 : cnt ≤ k) {jn : Int32} (hn : jn = Int32.ofNat cnt)
    {g : JFrame} (hg : g.method = m) (hsize : g.locals.size = c.maxLocals) {rest : List Value} (hs : g.stack = .int jn :: .int 0 :: .ref b :: .int 0 :: .ref a :: rest) (hd : decode c.code g.pc = .ok (.invokestatic index, 3))
    {W : Nat} (hW : 2 * g.monitorRoom + (rest.map fun v => v.category).sum ≤ W) (hfr : 1 ≤ R.frames) (hlo : W + 40 ≤ R.locals) :
    ∃ (T' : State) (h' : Heap) (L' : List Loc), Stand p l e R s m args below meth c T' (locs ++ L') cells slots ∧ T'.heap = h' ∧ (∀ y ∈ L', y.base = b) ∧ Keep h h' [b] ∧ AF Z h' b ty k (fun j => if j < cnt then f j else f' j) ∧
      ∀ target, Steps p.tables e below (T'.setTop { g with pc := g.pc + 3, stack := rest }) target → Steps p.tables e below (T.setTop g) target := by
  obtain ⟨ca, A, a1, a2, a3⟩ := A
  obtain ⟨cb, B, b1, b2, b3⟩ := B
  have tA : Jvm.Free.XT.Arr ty a ca T := ⟨by rw [eT]; exact A.1, State.isArrayOf_alike X.warmed.alike (State.isArrayOf_alike hZ.alike A.2.1), A.2.2, by omega⟩
  have tB : Jvm.Free.XT.Arr ty b cb T := ⟨by rw [eT]; exact B.1, State.isArrayOf_alike X.warmed.alike (State.isArrayOf_alike hZ.alike B.2.1), B.2.2, by omega⟩
  have ga : ∀ j, j < n → ca.slots.getD j .null = f j := fun j hj => by
    have q := a3 j hj
    rw [Array.getD_eq_getD_getElem?, q]; rfl
  obtain ⟨T', B', X', P, q1, q2, q3, q4, st⟩ := X.acopy hx (o := 0) (q := 0) (n := cnt) (jo := 0) (jq := 0) hown hw tA tB (by simp) rfl rfl hn (by omega) (by omega)
    (fun i hi => ⟨by rw [Nat.zero_add, ga i (by omega)]; exact hfit i hi, fun z => by rw [hp] at z; cases z⟩) hg hsize hs hd hW hfr hlo
  refine ⟨T', _, _, X', rfl, fun y hy => ?_, ⟨by rw [P.2.2, eT]; exact Nat.le_refl _, fun x cx hx' hn' => ?_, fun x cx hx' => ?_⟩, ⟨B', ⟨P.1, own_isArr B.2.1 q1 q2, by rw [q2]; exact B.2.2⟩, q3.trans b1, b2, fun j hj => ?_⟩, st⟩
  · simp only [copyLocs, List.mem_map] at hy
    obtain ⟨i, -, rfl⟩ := hy
    rfl
  · rw [P.2.1 x (fun z => hn' (by simp [z])), eT]; exact hx'
  · by_cases z : x = b
    · subst z
      cases hx'.symm.trans B.1
      exact ⟨B', P.1, q1, q2, q3⟩
    · exact ⟨cx, by rw [P.2.1 x z, eT]; exact hx', rfl, rfl, rfl⟩
  · show _ = some (if j < cnt then f j else f' j)
    rw [q4 j]
    by_cases z : j < cnt
    · rw [if_pos (by omega), if_pos z]
      have : 0 + (j - 0) = j := by omega
      rw [this, ga j (by omega)]
    · rw [if_neg (by omega), if_neg z]; exact b3 j hj
theorem own_nb (x : Int32) : nar .boolean x = x &&& 1 := rfl
theorem own_nar1 : nar .boolean 1 = 1 := rfl
theorem own_nar0 : nar .boolean 0 = 0 := rfl
theorem own_nbyte (x : Int32) : nar .byte x = x.toInt8.toInt32 := rfl
theorem own_nar_ite (q : Prop) [Decidable q] (x y : Int32) : nar .boolean (if q then x else y) = if q then nar .boolean x else nar .boolean y := by split <;> rfl
theorem own_pos_ne {x : Int64} (q : 0 < x) : x ≠ 0 := fun z => by subst z; exact absurd q (by decide)
theorem own_cat {w : Value} (q : w.isRef = true) : w.category = 1 := by cases w <;> first | rfl | (simp [Value.isRef] at q)
/-- a static field that holds v, in a heap that keeps all that was old at the start -/
def SO (Z : State) (n0 : Nat) (h : Heap) (C n d : String) (v : Value) : Prop := Sta Z Z.heap C n d v ∧ Old Z n0 h
theorem SO.ext {n0 : Nat} {C nm d : String} (F : SO Z n0 h C nm d v) (E : Ext h h') : SO Z n0 h' C nm d v := ⟨F.1, F.2.ext E⟩
theorem SO.wr {n0 : Nat} {C nm d : String} {w : Value} (F : SO Z n0 h C nm d v) (W : Wr h h' a sl w) (q : n0 ≤ a) : SO Z n0 h' C nm d v := ⟨F.1, F.2.wr W q⟩
theorem SO.keep {n0 : Nat} {C nm d : String} (F : SO Z n0 h C nm d v) (K : Keep h h' ws) (q : ∀ x ∈ ws, n0 ≤ x) : SO Z n0 h' C nm d v := ⟨F.1, F.2.keep K q⟩
theorem SO.sta {n0 : Nat} {C nm d : String} (F : SO Z n0 h C nm d v) : Sta Z h C nm d v := F.1.ext F.2.2
theorem own_selp {y : MethodName} {n : Nat} (wi : (Jvm.Cond.instantiable y.cls n).before args s = true) (hpriv : s.PrivateAt y) (hinst : (Jvm.Cond.instanceMethod y).before args s = true) (hy : y.cls ≠ "java/lang/invoke/MethodHandle" ∧ y.cls ≠ "java/lang/invoke/VarHandle") : (Jvm.Cond.selects y.cls y y).before args s = true := by
  obtain ⟨c, k, h1, h2, -, h4, -⟩ := Cond.instantiable_spec wi
  exact Jvm.Stand.selects_self_of_private h1 h2 (by simp only [Bool.or_eq_false_iff] at h4; exact h4.1) hpriv hinst hy
end OwnKit

theorem pn_0 : plainName "com/example/uneven_ticks/uneventicks/core/SplitMix64NextLongPinLaw" = true := by first | (simp [plainName, overriddenIn]; done) | decide +kernel
theorem d1_0 : decode prog_52_method_1_code 0 = .ok (.aload_n 0, 1) := by decide +kernel
theorem d1_1 : decode prog_52_method_1_code 1 = .ok (.invokespecial 1, 3) := by decide +kernel
theorem d1_4 : decode prog_52_method_1_code 4 = .ok (.aload_n 0, 1) := by decide +kernel
theorem d1_5 : decode prog_52_method_1_code 5 = .ok (.lload_n 1, 1) := by decide +kernel
theorem d1_6 : decode prog_52_method_1_code 6 = .ok (.putfield 7, 3) := by decide +kernel
theorem d1_9 : decode prog_52_method_1_code 9 = .ok (.return_, 1) := by decide +kernel
theorem pn_1 : plainName "com/example/uneven_ticks/uneventicks/core/SplitMix64" = true := by first | (simp [plainName, overriddenIn]; done) | decide +kernel
theorem d3_0 : decode prog_52_method_2_code 0 = .ok (.aload_n 0, 1) := by decide +kernel
theorem d3_1 : decode prog_52_method_2_code 1 = .ok (.dup, 1) := by decide +kernel
theorem d3_2 : decode prog_52_method_2_code 2 = .ok (.getfield 7, 3) := by decide +kernel
theorem d3_5 : decode prog_52_method_2_code 5 = .ok (.ldc2_w 13, 3) := by decide +kernel
theorem d3_8 : decode prog_52_method_2_code 8 = .ok (.ladd, 1) := by decide +kernel
theorem d3_9 : decode prog_52_method_2_code 9 = .ok (.putfield 7, 3) := by decide +kernel
theorem d3_12 : decode prog_52_method_2_code 12 = .ok (.aload_n 0, 1) := by decide +kernel
theorem d3_13 : decode prog_52_method_2_code 13 = .ok (.getfield 7, 3) := by decide +kernel
theorem d3_16 : decode prog_52_method_2_code 16 = .ok (.lstore_n 1, 1) := by decide +kernel
theorem d3_17 : decode prog_52_method_2_code 17 = .ok (.lload_n 1, 1) := by decide +kernel
theorem d3_18 : decode prog_52_method_2_code 18 = .ok (.lload_n 1, 1) := by decide +kernel
theorem d3_19 : decode prog_52_method_2_code 19 = .ok (.bipush 30, 2) := by decide +kernel
theorem d3_21 : decode prog_52_method_2_code 21 = .ok (.lushr, 1) := by decide +kernel
theorem d3_22 : decode prog_52_method_2_code 22 = .ok (.lxor, 1) := by decide +kernel
theorem d3_23 : decode prog_52_method_2_code 23 = .ok (.ldc2_w 15, 3) := by decide +kernel
theorem d3_26 : decode prog_52_method_2_code 26 = .ok (.lmul, 1) := by decide +kernel
theorem d3_27 : decode prog_52_method_2_code 27 = .ok (.lstore_n 1, 1) := by decide +kernel
theorem d3_28 : decode prog_52_method_2_code 28 = .ok (.lload_n 1, 1) := by decide +kernel
theorem d3_29 : decode prog_52_method_2_code 29 = .ok (.lload_n 1, 1) := by decide +kernel
theorem d3_30 : decode prog_52_method_2_code 30 = .ok (.bipush 27, 2) := by decide +kernel
theorem d3_32 : decode prog_52_method_2_code 32 = .ok (.lushr, 1) := by decide +kernel
theorem d3_33 : decode prog_52_method_2_code 33 = .ok (.lxor, 1) := by decide +kernel
theorem d3_34 : decode prog_52_method_2_code 34 = .ok (.ldc2_w 17, 3) := by decide +kernel
theorem d3_37 : decode prog_52_method_2_code 37 = .ok (.lmul, 1) := by decide +kernel
theorem d3_38 : decode prog_52_method_2_code 38 = .ok (.lstore_n 1, 1) := by decide +kernel
theorem d3_39 : decode prog_52_method_2_code 39 = .ok (.lload_n 1, 1) := by decide +kernel
theorem d3_40 : decode prog_52_method_2_code 40 = .ok (.lload_n 1, 1) := by decide +kernel
theorem d3_41 : decode prog_52_method_2_code 41 = .ok (.bipush 31, 2) := by decide +kernel
theorem d3_43 : decode prog_52_method_2_code 43 = .ok (.lushr, 1) := by decide +kernel
theorem d3_44 : decode prog_52_method_2_code 44 = .ok (.lxor, 1) := by decide +kernel
theorem d3_45 : decode prog_52_method_2_code 45 = .ok (.lreturn, 1) := by decide +kernel
theorem pn_3 : plainName "com/example/uneven_ticks/uneventicks/core/SplitMix64" = true := by first | (simp [plainName, overriddenIn]; done) | decide +kernel
theorem pd_0 : parseMethodDescriptor "(J)V" = some ⟨[.long], none⟩ := by decide +kernel
theorem pd_2 : parseMethodDescriptor "()J" = some ⟨[], some .long⟩ := by decide +kernel

theorem ef_1 (m : MethodId) (a0 : Addr) (q1 : Int64) : entryFrame m #[(.ref a0), (.long q1)] 3 = mkF m 0 #[.val (.ref a0), .val (.long q1), .second] [] := by first | (simp [entryFrame, mkF, argsToLocals, Value.category]; done) | rfl
def Q1 (Z : State) (a0 : Addr) (q1 : Int64) (w_state_a0 : Int64) (h0 : Heap) (n0 : Nat) (v : Option Value) (h : Heap) (L : List Loc) : Prop := v = none ∧ Fr n0 L ∧ Keep h0 h [a0] ∧ Exa Z h a0 "com/example/uneven_ticks/uneventicks/core/SplitMix64" ∧ Fld Z h a0 "com/example/uneven_ticks/uneventicks/core/SplitMix64" "state" "J" (.long q1)
set_option maxRecDepth 65536 in
set_option maxHeartbeats 40000000 in
theorem rm1 (l : Launch) (Z : State) (A0 : Array Value) (hw : ∀ d ∈ tables_1, d.before A0 Z = true) (ws : List Jvm.Cond) (a0 : Addr) (q1 : Int64) (w_state_a0 : Int64) (h0 : Heap) (n0 : Nat) (Z0 : n0 ≤ h0.size) (E_a0 : Exa Z h0 a0 "com/example/uneven_ticks/uneventicks/core/SplitMix64") (F_state_a0 : Fld Z h0 a0 "com/example/uneven_ticks/uneventicks/core/SplitMix64" "state" "J" (.long w_state_a0)) (nw_a0 : n0 ≤ a0) :
    MetFree l (⟨"com/example/uneven_ticks/uneventicks/core/SplitMix64", "<init>", "(J)V"⟩ : MethodName) (head1 (Jvm.Cond.code (⟨"com/example/uneven_ticks/uneventicks/core/SplitMix64", "<init>", "(J)V"⟩ : MethodName) prog_52_method_1_code 3 none :: ws) ({ frames := 1, cells := 0, slots := 0, locals := 12 } : Room)) (fun a U => a = #[(.ref a0), (.long q1)] ∧ Z.Warmed39 U.vm ∧ U.heap = h0) (fun _ _ _ _ _ => True) (fun _ U o U' => ∃ v L, o = .returned v ∧ Q1 Z a0 q1 w_state_a0 h0 n0 v U'.heap L ∧ FrameEnd U o U' L ({ frames := 1, cells := 0, slots := 0, locals := 12 } : Room).cells ({ frames := 1, cells := 0, slots := 0, locals := 12 } : Room).slots) := by
  refine MetFree.of_bodySF (plainFor_of_name pn_1) hisR ?_
  intro p e s m args below meth c s₁ Bd hml0 hP hK
  obtain ⟨rfl, hZ, hh⟩ := hP
  have hx := Bd.exec
  have hby := Bd.bytes
  have hml : c.maxLocals = 3 := hml0
  have hown : s.vm.findClass "com/example/uneven_ticks/uneventicks/core/SplitMix64" = some m.cls := findClass_of_methodNamed Bd.named
  have hnm := (name_of_methodNamed Bd.named Bd.method).1
  have X0 : Stand p l e ({ frames := 1, cells := 0, slots := 0, locals := 12 } : Room) s m #[(.ref a0), (.long q1)] below meth c s₁ [] 0 0 := Stand.of_body Bd
  have e0 : s₁.heap = h0 := by rw [← hh, Bd.state]; rfl
  have N0 := Fr.nil n0
  have pre0 : ∀ t, Steps p.tables e below (s₁.setTop (mkF m 0 #[.val (.ref a0), .val (.long q1), .second] [])) t → Steps p.tables e below (s₁.setTop (entryFrame m #[(.ref a0), (.long q1)] 3)) t := fun t k => castTop (ef_1 m a0 q1) k
  obtain ⟨T1, X1, e1, st1⟩ := initO X0 hx hZ hown (hw _ (List.mem_of_getElem? (i := 6) rfl)) (hw _ (List.mem_of_getElem? (i := 7) rfl)) (hw _ (List.mem_of_getElem? (i := 8) rfl)) e0 (g := (mkF m 1 #[.val (.ref a0), .val (.long q1), .second] [(.ref a0)])) rfl (by rw [hml]; rfl) rfl (hb hby d1_1) (by decide) (W := 0) (by show 2 * 0 + _ ≤ _; exact Nat.le_of_eq rfl) (by decide)
  obtain ⟨T2, h2, X2, e2, W2, st2⟩ := putF X1 hx hZ hown (host := "") (Or.inl (hw _ (List.mem_of_getElem? (i := 9) rfl))) Via.refl e1 F_state_a0 E_a0 (Or.inl (hw _ (List.mem_of_getElem? (i := 10) rfl))) (hw _ (List.mem_of_getElem? (i := 1) rfl)) (ty := .long) (by decide) rfl rfl (g := (mkF m 6 #[.val (.ref a0), .val (.long q1), .second] [(.long q1), (.ref a0)])) rfl rfl (hb hby d1_6)
  have K2 : Keep h0 h2 [a0] := (Keep.refl h0 [a0]).wr W2 (Or.inl (by simp))
  have Fw2 : Fld Z h2 a0 "com/example/uneven_ticks/uneventicks/core/SplitMix64" "state" "J" (.long q1) := F_state_a0.same W2
  have N2 := Fr.snoc X2 N0 nw_a0
  obtain ⟨fs, hr, hrun, hended, hW, hsame⟩ := X2.leave (v := none) (fun _ => rfl)
  refine ⟨_, _, pre0 _ ?_, hrun, hended, _, _, rfl, ?_, ⟨_, rfl⟩, hW, hsame.mono (by decide) (by decide)⟩
  · show Steps p.tables e below (s₁.setTop (mkF m 0 #[.val (.ref a0), .val (.long q1), .second] [])) _
    refine XS.aloadN X0.here hx rfl (hb hby d1_0) rfl rfl ?_
    show Steps p.tables e below (s₁.setTop (mkF m 1 #[.val (.ref a0), .val (.long q1), .second] [(.ref a0)])) _
    refine st1 _ ?_
    show Steps p.tables e below (T1.setTop (mkF m 4 #[.val (.ref a0), .val (.long q1), .second] [])) _
    refine XS.aloadN X1.here hx rfl (hb hby d1_4) rfl rfl ?_
    show Steps p.tables e below (T1.setTop (mkF m 5 #[.val (.ref a0), .val (.long q1), .second] [(.ref a0)])) _
    refine XS.lloadN X1.here hx rfl (hb hby d1_5) rfl ?_
    show Steps p.tables e below (T1.setTop (mkF m 6 #[.val (.ref a0), .val (.long q1), .second] [(.long q1), (.ref a0)])) _
    refine st2 _ ?_
    show Steps p.tables e below (T2.setTop (mkF m 9 #[.val (.ref a0), .val (.long q1), .second] [])) _
    exact X2.returnOut hx Bd.returns (hb hby d1_9) hr
  have G3 : Exa Z h2 a0 "com/example/uneven_ticks/uneventicks/core/SplitMix64" := (E_a0.wr W2)
  · show Q1 Z a0 q1 w_state_a0 h0 n0 _ T2.heap _
    rw [e2]
    exact ⟨rfl, N2, K2, G3, Fw2⟩
theorem ef_3 (m : MethodId) (a0 : Addr) : entryFrame m #[(.ref a0)] 3 = mkF m 0 #[.val (.ref a0), .unset, .unset] [] := by first | (simp [entryFrame, mkF, argsToLocals, Value.category]; done) | rfl
def own_mix (w_state_a0 : Int64) : Int64 := ((((((w_state_a0 + (-7046029254386353131 : Int64)) ^^^ (((w_state_a0 + (-7046029254386353131 : Int64)).toUInt64 >>> ((30 : Int32) &&& 0x3f).toInt64.toUInt64).toInt64)) * (-4658895280553007687 : Int64)) ^^^ (((((w_state_a0 + (-7046029254386353131 : Int64)) ^^^ (((w_state_a0 + (-7046029254386353131 : Int64)).toUInt64 >>> ((30 : Int32) &&& 0x3f).toInt64.toUInt64).toInt64)) * (-4658895280553007687 : Int64)).toUInt64 >>> ((27 : Int32) &&& 0x3f).toInt64.toUInt64).toInt64)) * (-7723592293110705685 : Int64)) ^^^ (((((((w_state_a0 + (-7046029254386353131 : Int64)) ^^^ (((w_state_a0 + (-7046029254386353131 : Int64)).toUInt64 >>> ((30 : Int32) &&& 0x3f).toInt64.toUInt64).toInt64)) * (-4658895280553007687 : Int64)) ^^^ (((((w_state_a0 + (-7046029254386353131 : Int64)) ^^^ (((w_state_a0 + (-7046029254386353131 : Int64)).toUInt64 >>> ((30 : Int32) &&& 0x3f).toInt64.toUInt64).toInt64)) * (-4658895280553007687 : Int64)).toUInt64 >>> ((27 : Int32) &&& 0x3f).toInt64.toUInt64).toInt64)) * (-7723592293110705685 : Int64)).toUInt64 >>> ((31 : Int32) &&& 0x3f).toInt64.toUInt64).toInt64))
def Q3 (Z : State) (a0 : Addr) (w_state_a0 : Int64) (h0 : Heap) (n0 : Nat) (v : Option Value) (h : Heap) (L : List Loc) : Prop := v = some (.long (own_mix w_state_a0)) ∧ Fr n0 L ∧ Keep h0 h [a0] ∧ Exa Z h a0 "com/example/uneven_ticks/uneventicks/core/SplitMix64" ∧ Fld Z h a0 "com/example/uneven_ticks/uneventicks/core/SplitMix64" "state" "J" (.long (w_state_a0 + (-7046029254386353131 : Int64)))
set_option maxRecDepth 65536 in
set_option maxHeartbeats 40000000 in
theorem rm3 (l : Launch) (Z : State) (A0 : Array Value) (hw : ∀ d ∈ tables_1, d.before A0 Z = true) (ws : List Jvm.Cond) (a0 : Addr) (w_state_a0 : Int64) (h0 : Heap) (n0 : Nat) (Z0 : n0 ≤ h0.size) (E_a0 : Exa Z h0 a0 "com/example/uneven_ticks/uneventicks/core/SplitMix64") (F_state_a0 : Fld Z h0 a0 "com/example/uneven_ticks/uneventicks/core/SplitMix64" "state" "J" (.long w_state_a0)) (nw_a0 : n0 ≤ a0) :
    MetFree l (⟨"com/example/uneven_ticks/uneventicks/core/SplitMix64", "nextLong", "()J"⟩ : MethodName) (head1 (Jvm.Cond.code (⟨"com/example/uneven_ticks/uneventicks/core/SplitMix64", "nextLong", "()J"⟩ : MethodName) prog_52_method_2_code 3 (some .long) :: ws) ({ frames := 0, cells := 0, slots := 0, locals := 0 } : Room)) (fun a U => a = #[(.ref a0)] ∧ Z.Warmed39 U.vm ∧ U.heap = h0) (fun _ _ _ _ _ => True) (fun _ U o U' => ∃ v L, o = .returned v ∧ Q3 Z a0 w_state_a0 h0 n0 v U'.heap L ∧ FrameEnd U o U' L ({ frames := 0, cells := 0, slots := 0, locals := 0 } : Room).cells ({ frames := 0, cells := 0, slots := 0, locals := 0 } : Room).slots) := by
  refine MetFree.of_bodySF (plainFor_of_name pn_3) hisR ?_
  intro p e s m args below meth c s₁ Bd hml0 hP hK
  obtain ⟨rfl, hZ, hh⟩ := hP
  have hx := Bd.exec
  have hby := Bd.bytes
  have hml : c.maxLocals = 3 := hml0
  have hown : s.vm.findClass "com/example/uneven_ticks/uneventicks/core/SplitMix64" = some m.cls := findClass_of_methodNamed Bd.named
  have hnm := (name_of_methodNamed Bd.named Bd.method).1
  have X0 : Stand p l e ({ frames := 0, cells := 0, slots := 0, locals := 0 } : Room) s m #[(.ref a0)] below meth c s₁ [] 0 0 := Stand.of_body Bd
  have e0 : s₁.heap = h0 := by rw [← hh, Bd.state]; rfl
  have N0 := Fr.nil n0
  have pre0 : ∀ t, Steps p.tables e below (s₁.setTop (mkF m 0 #[.val (.ref a0), .unset, .unset] [])) t → Steps p.tables e below (s₁.setTop (entryFrame m #[(.ref a0)] 3)) t := fun t k => castTop (ef_3 m a0) k
  obtain ⟨T1, X1, e1, st1⟩ := getF X0 hx hZ hown (host := "") (Or.inl (hw _ (List.mem_of_getElem? (i := 9) rfl))) Via.refl e0 F_state_a0 (g := (mkF m 2 #[.val (.ref a0), .unset, .unset] [(.ref a0), (.ref a0)])) rfl rfl (hb hby d3_2)
  obtain ⟨T2, h2, X2, e2, W2, st2⟩ := putF X1 hx hZ hown (host := "") (Or.inl (hw _ (List.mem_of_getElem? (i := 9) rfl))) Via.refl e1 F_state_a0 E_a0 (Or.inl (hw _ (List.mem_of_getElem? (i := 10) rfl))) (hw _ (List.mem_of_getElem? (i := 1) rfl)) (ty := .long) (by decide) rfl rfl (g := (mkF m 9 #[.val (.ref a0), .unset, .unset] [(.long (w_state_a0 + (-7046029254386353131 : Int64))), (.ref a0)])) rfl rfl (hb hby d3_9)
  have K2 : Keep h0 h2 [a0] := (Keep.refl h0 [a0]).wr W2 (Or.inl (by simp))
  have Fw2 : Fld Z h2 a0 "com/example/uneven_ticks/uneventicks/core/SplitMix64" "state" "J" (.long (w_state_a0 + (-7046029254386353131 : Int64))) := F_state_a0.same W2
  have N2 := Fr.snoc X2 N0 nw_a0
  obtain ⟨T3, X3, e3, st3⟩ := getF X2 hx hZ hown (host := "") (Or.inl (hw _ (List.mem_of_getElem? (i := 9) rfl))) Via.refl e2 Fw2 (g := (mkF m 13 #[.val (.ref a0), .unset, .unset] [(.ref a0)])) rfl rfl (hb hby d3_13)
  obtain ⟨v4, hv4⟩ : ∃ z : Int64, z = (((w_state_a0 + (-7046029254386353131 : Int64)) ^^^ (((w_state_a0 + (-7046029254386353131 : Int64)).toUInt64 >>> ((30 : Int32) &&& 0x3f).toInt64.toUInt64).toInt64)) * (-4658895280553007687 : Int64)) := ⟨_, rfl⟩
  obtain ⟨v5, hv5⟩ : ∃ z : Int64, z = ((v4 ^^^ ((v4.toUInt64 >>> ((27 : Int32) &&& 0x3f).toInt64.toUInt64).toInt64)) * (-7723592293110705685 : Int64)) := ⟨_, rfl⟩
  obtain ⟨fs, hr, hrun, hended, hW, hsame⟩ := X3.leave (v := some (.long (v5 ^^^ ((v5.toUInt64 >>> ((31 : Int32) &&& 0x3f).toInt64.toUInt64).toInt64)))) (fun h => by rw [Bd.returns] at h; cases h)
  refine ⟨_, _, pre0 _ ?_, hrun, hended, _, _, rfl, ?_, ⟨_, rfl⟩, hW, hsame.mono (by decide) (by decide)⟩
  · show Steps p.tables e below (s₁.setTop (mkF m 0 #[.val (.ref a0), .unset, .unset] [])) _
    refine XS.aloadN X0.here hx rfl (hb hby d3_0) rfl rfl ?_
    show Steps p.tables e below (s₁.setTop (mkF m 1 #[.val (.ref a0), .unset, .unset] [(.ref a0)])) _
    refine XS.dup X0.here hx rfl (hb hby d3_1) rfl rfl ?_
    show Steps p.tables e below (s₁.setTop (mkF m 2 #[.val (.ref a0), .unset, .unset] [(.ref a0), (.ref a0)])) _
    refine st1 _ ?_
    show Steps p.tables e below (T1.setTop (mkF m 5 #[.val (.ref a0), .unset, .unset] [(.long w_state_a0), (.ref a0)])) _
    refine X1.ldc2Long hx hown (mvT hZ (hw _ (List.mem_of_getElem? (i := 16) rfl))) (g := (mkF m 5 #[.val (.ref a0), .unset, .unset] [(.long w_state_a0), (.ref a0)])) rfl (hb hby d3_5) _ ?_
    show Steps p.tables e below (T1.setTop (mkF m 8 #[.val (.ref a0), .unset, .unset] [(.long (-7046029254386353131 : Int64)), (.long w_state_a0), (.ref a0)])) _
    refine XS.ladd X1.here hx rfl (hb hby d3_8) rfl ?_
    show Steps p.tables e below (T1.setTop (mkF m 9 #[.val (.ref a0), .unset, .unset] [(.long (w_state_a0 + (-7046029254386353131 : Int64))), (.ref a0)])) _
    refine st2 _ ?_
    show Steps p.tables e below (T2.setTop (mkF m 12 #[.val (.ref a0), .unset, .unset] [])) _
    refine XS.aloadN X2.here hx rfl (hb hby d3_12) rfl rfl ?_
    show Steps p.tables e below (T2.setTop (mkF m 13 #[.val (.ref a0), .unset, .unset] [(.ref a0)])) _
    refine st3 _ ?_
    show Steps p.tables e below (T3.setTop (mkF m 16 #[.val (.ref a0), .unset, .unset] [(.long (w_state_a0 + (-7046029254386353131 : Int64)))])) _
    refine XS.lstoreN X3.here hx rfl (hb hby d3_16) rfl (l' := #[.val (.ref a0), .val (.long (w_state_a0 + (-7046029254386353131 : Int64))), .second]) rfl ?_
    show Steps p.tables e below (T3.setTop (mkF m 17 #[.val (.ref a0), .val (.long (w_state_a0 + (-7046029254386353131 : Int64))), .second] [])) _
    refine XS.lloadN X3.here hx rfl (hb hby d3_17) rfl ?_
    show Steps p.tables e below (T3.setTop (mkF m 18 #[.val (.ref a0), .val (.long (w_state_a0 + (-7046029254386353131 : Int64))), .second] [(.long (w_state_a0 + (-7046029254386353131 : Int64)))])) _
    refine XS.lloadN X3.here hx rfl (hb hby d3_18) rfl ?_
    show Steps p.tables e below (T3.setTop (mkF m 19 #[.val (.ref a0), .val (.long (w_state_a0 + (-7046029254386353131 : Int64))), .second] [(.long (w_state_a0 + (-7046029254386353131 : Int64))), (.long (w_state_a0 + (-7046029254386353131 : Int64)))])) _
    refine XS.bipush X3.here hx rfl (hb hby d3_19) ?_
    show Steps p.tables e below (T3.setTop (mkF m 21 #[.val (.ref a0), .val (.long (w_state_a0 + (-7046029254386353131 : Int64))), .second] [(.int (30 : Int32)), (.long (w_state_a0 + (-7046029254386353131 : Int64))), (.long (w_state_a0 + (-7046029254386353131 : Int64)))])) _
    refine XS.lushr X3.here hx rfl (hb hby d3_21) rfl ?_
    show Steps p.tables e below (T3.setTop (mkF m 22 #[.val (.ref a0), .val (.long (w_state_a0 + (-7046029254386353131 : Int64))), .second] [(.long (((w_state_a0 + (-7046029254386353131 : Int64)).toUInt64 >>> ((30 : Int32) &&& 0x3f).toInt64.toUInt64).toInt64)), (.long (w_state_a0 + (-7046029254386353131 : Int64)))])) _
    refine XS.lxor X3.here hx rfl (hb hby d3_22) rfl ?_
    show Steps p.tables e below (T3.setTop (mkF m 23 #[.val (.ref a0), .val (.long (w_state_a0 + (-7046029254386353131 : Int64))), .second] [(.long ((w_state_a0 + (-7046029254386353131 : Int64)) ^^^ (((w_state_a0 + (-7046029254386353131 : Int64)).toUInt64 >>> ((30 : Int32) &&& 0x3f).toInt64.toUInt64).toInt64)))])) _
    refine X3.ldc2Long hx hown (mvT hZ (hw _ (List.mem_of_getElem? (i := 17) rfl))) (g := (mkF m 23 #[.val (.ref a0), .val (.long (w_state_a0 + (-7046029254386353131 : Int64))), .second] [(.long ((w_state_a0 + (-7046029254386353131 : Int64)) ^^^ (((w_state_a0 + (-7046029254386353131 : Int64)).toUInt64 >>> ((30 : Int32) &&& 0x3f).toInt64.toUInt64).toInt64)))])) rfl (hb hby d3_23) _ ?_
    show Steps p.tables e below (T3.setTop (mkF m 26 #[.val (.ref a0), .val (.long (w_state_a0 + (-7046029254386353131 : Int64))), .second] [(.long (-4658895280553007687 : Int64)), (.long ((w_state_a0 + (-7046029254386353131 : Int64)) ^^^ (((w_state_a0 + (-7046029254386353131 : Int64)).toUInt64 >>> ((30 : Int32) &&& 0x3f).toInt64.toUInt64).toInt64)))])) _
    refine XS.lmul X3.here hx rfl (hb hby d3_26) rfl ?_
    show Steps p.tables e below (T3.setTop (mkF m 27 #[.val (.ref a0), .val (.long (w_state_a0 + (-7046029254386353131 : Int64))), .second] [(.long (((w_state_a0 + (-7046029254386353131 : Int64)) ^^^ (((w_state_a0 + (-7046029254386353131 : Int64)).toUInt64 >>> ((30 : Int32) &&& 0x3f).toInt64.toUInt64).toInt64)) * (-4658895280553007687 : Int64)))])) _
    refine castTop (g' := (mkF m 27 #[.val (.ref a0), .val (.long (w_state_a0 + (-7046029254386353131 : Int64))), .second] [(.long v4)])) (by rw [hv4] <;> rfl) ?_
    show Steps p.tables e below (T3.setTop (mkF m 27 #[.val (.ref a0), .val (.long (w_state_a0 + (-7046029254386353131 : Int64))), .second] [(.long v4)])) _
    refine XS.lstoreN X3.here hx rfl (hb hby d3_27) rfl (l' := #[.val (.ref a0), .val (.long v4), .second]) rfl ?_
    show Steps p.tables e below (T3.setTop (mkF m 28 #[.val (.ref a0), .val (.long v4), .second] [])) _
    refine XS.lloadN X3.here hx rfl (hb hby d3_28) rfl ?_
    show Steps p.tables e below (T3.setTop (mkF m 29 #[.val (.ref a0), .val (.long v4), .second] [(.long v4)])) _
    refine XS.lloadN X3.here hx rfl (hb hby d3_29) rfl ?_
    show Steps p.tables e below (T3.setTop (mkF m 30 #[.val (.ref a0), .val (.long v4), .second] [(.long v4), (.long v4)])) _
    refine XS.bipush X3.here hx rfl (hb hby d3_30) ?_
    show Steps p.tables e below (T3.setTop (mkF m 32 #[.val (.ref a0), .val (.long v4), .second] [(.int (27 : Int32)), (.long v4), (.long v4)])) _
    refine XS.lushr X3.here hx rfl (hb hby d3_32) rfl ?_
    show Steps p.tables e below (T3.setTop (mkF m 33 #[.val (.ref a0), .val (.long v4), .second] [(.long ((v4.toUInt64 >>> ((27 : Int32) &&& 0x3f).toInt64.toUInt64).toInt64)), (.long v4)])) _
    refine XS.lxor X3.here hx rfl (hb hby d3_33) rfl ?_
    show Steps p.tables e below (T3.setTop (mkF m 34 #[.val (.ref a0), .val (.long v4), .second] [(.long (v4 ^^^ ((v4.toUInt64 >>> ((27 : Int32) &&& 0x3f).toInt64.toUInt64).toInt64)))])) _
    refine X3.ldc2Long hx hown (mvT hZ (hw _ (List.mem_of_getElem? (i := 18) rfl))) (g := (mkF m 34 #[.val (.ref a0), .val (.long v4), .second] [(.long (v4 ^^^ ((v4.toUInt64 >>> ((27 : Int32) &&& 0x3f).toInt64.toUInt64).toInt64)))])) rfl (hb hby d3_34) _ ?_
    show Steps p.tables e below (T3.setTop (mkF m 37 #[.val (.ref a0), .val (.long v4), .second] [(.long (-7723592293110705685 : Int64)), (.long (v4 ^^^ ((v4.toUInt64 >>> ((27 : Int32) &&& 0x3f).toInt64.toUInt64).toInt64)))])) _
    refine XS.lmul X3.here hx rfl (hb hby d3_37) rfl ?_
    show Steps p.tables e below (T3.setTop (mkF m 38 #[.val (.ref a0), .val (.long v4), .second] [(.long ((v4 ^^^ ((v4.toUInt64 >>> ((27 : Int32) &&& 0x3f).toInt64.toUInt64).toInt64)) * (-7723592293110705685 : Int64)))])) _
    refine castTop (g' := (mkF m 38 #[.val (.ref a0), .val (.long v4), .second] [(.long v5)])) (by rw [hv5] <;> rfl) ?_
    show Steps p.tables e below (T3.setTop (mkF m 38 #[.val (.ref a0), .val (.long v4), .second] [(.long v5)])) _
    refine XS.lstoreN X3.here hx rfl (hb hby d3_38) rfl (l' := #[.val (.ref a0), .val (.long v5), .second]) rfl ?_
    show Steps p.tables e below (T3.setTop (mkF m 39 #[.val (.ref a0), .val (.long v5), .second] [])) _
    refine XS.lloadN X3.here hx rfl (hb hby d3_39) rfl ?_
    show Steps p.tables e below (T3.setTop (mkF m 40 #[.val (.ref a0), .val (.long v5), .second] [(.long v5)])) _
    refine XS.lloadN X3.here hx rfl (hb hby d3_40) rfl ?_
    show Steps p.tables e below (T3.setTop (mkF m 41 #[.val (.ref a0), .val (.long v5), .second] [(.long v5), (.long v5)])) _
    refine XS.bipush X3.here hx rfl (hb hby d3_41) ?_
    show Steps p.tables e below (T3.setTop (mkF m 43 #[.val (.ref a0), .val (.long v5), .second] [(.int (31 : Int32)), (.long v5), (.long v5)])) _
    refine XS.lushr X3.here hx rfl (hb hby d3_43) rfl ?_
    show Steps p.tables e below (T3.setTop (mkF m 44 #[.val (.ref a0), .val (.long v5), .second] [(.long ((v5.toUInt64 >>> ((31 : Int32) &&& 0x3f).toInt64.toUInt64).toInt64)), (.long v5)])) _
    refine XS.lxor X3.here hx rfl (hb hby d3_44) rfl ?_
    show Steps p.tables e below (T3.setTop (mkF m 45 #[.val (.ref a0), .val (.long v5), .second] [(.long (v5 ^^^ ((v5.toUInt64 >>> ((31 : Int32) &&& 0x3f).toInt64.toUInt64).toInt64)))])) _
    exact retOut X3 hx Bd.returns rfl (Or.inr (Or.inl ⟨rfl, rfl, _, rfl⟩)) (hb hby d3_45) hr
  have G6 : Exa Z h2 a0 "com/example/uneven_ticks/uneventicks/core/SplitMix64" := (E_a0.wr W2)
  · show Q3 Z a0 w_state_a0 h0 n0 _ T3.heap _
    rw [e3]
    subst hv4 hv5
    exact ⟨rfl, N2, K2, G6, Fw2⟩
theorem own_law (q0 : Int64) (v11 : Int64) (v19 : Int64) (v21 : Int32) (v33 : Int64) (v36 : Int32) (v37 : Int32) (v40 : Int32) (v41 : Int32) (v45 : Int32) (v46 : Int32) (v47 : Int32) (hv11 : v11 = (own_mix (q0 + (-7046029254386353131 : Int64)))) (hv19 : v19 = (own_mix (q0 + (-7046029254386353131 : Int64)))) (hv21 : v21 = (if v19 = v11 then (1 : Int32) else (0 : Int32))) (hv33 : v33 = (own_mix ((0 : Int64) + (-7046029254386353131 : Int64)))) (hv36 : v36 = (if v33 = (7960286522194355700 : Int64) then (1 : Int32) else (0 : Int32))) (hv37 : v37 = (if (own_mix (0 : Int64)) = (-2152535657050944081 : Int64) then v36 else (0 : Int32))) (hv40 : v40 = (if (own_mix q0) = v11 then (1 : Int32) else (0 : Int32))) (hv41 : v41 = (if (own_mix q0) = v11 then v40 else (1 : Int32))) (hv45 : v45 = (if v41 = (0 : Int32) then (0 : Int32) else (1 : Int32))) (hv46 : v46 = (if v37 = (0 : Int32) then (0 : Int32) else v45)) (hv47 : v47 = (if v21 = (0 : Int32) then (0 : Int32) else v46)) : (nar .boolean v47) = (1 : Int32) := by
  have a1 : v21 = 1 := by rw [hv21, hv19, hv11, if_pos rfl]
  have a2 : own_mix ((0 : Int64) + (-7046029254386353131 : Int64)) = (7960286522194355700 : Int64) := by decide +kernel
  have a3 : own_mix (0 : Int64) = (-2152535657050944081 : Int64) := by decide +kernel
  have a4 : v37 = 1 := by rw [hv37, if_pos a3, hv36, hv33, if_pos a2]
  have a5 : v41 = 1 := by
    rw [hv41, hv40]
    split <;> rfl
  rw [hv47, a1, if_neg (by decide), hv46, a4, if_neg (by decide), hv45, a5, if_neg (by decide), own_nar1]
theorem ef_0 (m : MethodId) (q0 : Int64) : entryFrame m #[(.long q0)] maxLocals = mkF m 0 #[.val (.long q0), .second, .unset, .unset, .unset, .unset, .unset, .unset, .unset, .unset, .unset, .unset, .unset, .unset, .unset, .unset, .unset, .unset] [] := by first | (simp [entryFrame, mkF, argsToLocals, Value.category, maxLocals]; done) | rfl
def Q0 (h0 : Heap) (n0 : Nat) (v : Option Value) (h : Heap) (L : List Loc) : Prop := v = some (.int 1) ∧ Fr n0 L
set_option maxRecDepth 65536 in
set_option maxHeartbeats 40000000 in
theorem rm0 (l : Launch) (Z : State) (A0 : Array Value) (hw : ∀ d ∈ tables_1, d.before A0 Z = true) (ws : List Jvm.Cond) (q0 : Int64) (h0 : Heap) (n0 : Nat) (Z0 : n0 ≤ h0.size) :
    MetFree l x (head1 (Jvm.Cond.code x code maxLocals ret :: ws) room_1) (fun a U => a = #[(.long q0)] ∧ Z.Warmed39 U.vm ∧ U.heap = h0) (fun _ _ _ _ _ => True) (fun _ U o U' => ∃ v L, o = .returned v ∧ Q0 h0 n0 v U'.heap L ∧ FrameEnd U o U' L 3 3) := by
  refine MetFree.of_bodySF (plainFor_of_name pn_0) hisR ?_
  intro p e s m args below meth c s₁ Bd hml0 hP hK
  obtain ⟨rfl, hZ, hh⟩ := hP
  have hx := Bd.exec
  have hby := Bd.bytes
  have hml : c.maxLocals = 18 := hml0
  have hown : s.vm.findClass "com/example/uneven_ticks/uneventicks/core/SplitMix64NextLongPinLaw" = some m.cls := findClass_of_methodNamed Bd.named
  have hnm := (name_of_methodNamed Bd.named Bd.method).1
  have X0 : Stand p l e room_1 s m #[(.long q0)] below meth c s₁ [] 0 0 := Stand.of_body Bd
  have e0 : s₁.heap = h0 := by rw [← hh, Bd.state]; rfl
  have N0 := Fr.nil n0
  have pre0 : ∀ t, Steps p.tables e below (s₁.setTop (mkF m 0 #[.val (.long q0), .second, .unset, .unset, .unset, .unset, .unset, .unset, .unset, .unset, .unset, .unset, .unset, .unset, .unset, .unset, .unset, .unset] [])) t → Steps p.tables e below (s₁.setTop (entryFrame m #[(.long q0)] maxLocals)) t := fun t k => castTop (ef_0 m q0) k
  obtain ⟨T1, h1, X1, e1, E1, A1, D1, -, st1⟩ := newO X0 hx hZ hown (hw _ (List.mem_of_getElem? (i := 0) rfl)) (hw _ (List.mem_of_getElem? (i := 1) rfl)) (hw _ (List.mem_of_getElem? (i := 2) rfl)) e0 (g := (mkF m 0 #[.val (.long q0), .second, .unset, .unset, .unset, .unset, .unset, .unset, .unset, .unset, .unset, .unset, .unset, .unset, .unset, .unset, .unset, .unset] [])) rfl (hb hby at_0) (by decide) (by decide)
  obtain ⟨b1, g1⟩ : ∃ z, z = h0.size := ⟨_, rfl⟩
  rw [← g1] at A1 D1 st1
  have nw_b1 : n0 ≤ b1 := Nat.le_trans (Nat.le_trans Z0 (Keep.refl h0 []).1) (Nat.le_of_eq g1.symm)
  have sz_b1 : h0.size ≤ b1 := Nat.le_trans (Keep.refl h0 []).1 (Nat.le_of_eq g1.symm)
  have K1 : Keep h0 h1 [] := (Keep.refl h0 []).ext E1
  have F_state_b1 : Fld Z h1 b1 "com/example/uneven_ticks/uneventicks/core/SplitMix64" "state" "J" (.long (0 : Int64)) := D1 (Or.inl (hw _ (List.mem_of_getElem? (i := 10) rfl))) (ty := .long) (by decide)
  obtain ⟨_, _, ⟨T2, L2, k2, n2⟩, -, X2, ⟨Lc2, hQ2, l2, y2, z2⟩, st2⟩ := X1.specialBack hx (y := (⟨"com/example/uneven_ticks/uneventicks/core/SplitMix64", "<init>", "(J)V"⟩ : MethodName)) rfl hown (mvT hZ (hw _ (List.mem_of_getElem? (i := 3) rfl))) (mvT hZ (hw _ (List.mem_of_getElem? (i := 4) rfl))) (mvT hZ (hw _ (List.mem_of_getElem? (i := 5) rfl))) (by decide) (backOf (W := 1) (rm1 l Z A0 hw [] b1 q0 (0 : Int64) h1 n0 (Nat.le_trans Z0 K1.1) A1 F_state_b1 nw_b1) hZ (hw _ (List.mem_of_getElem? (i := 5) rfl)) (hw _ (List.mem_of_getElem? (i := 2) rfl)) (by decide) (by decide)) (g := (mkF m 5 #[.val (.long q0), .second, .unset, .unset, .unset, .unset, .unset, .unset, .unset, .unset, .unset, .unset, .unset, .unset, .unset, .unset, .unset, .unset] [(.long q0), (.ref b1), (.ref b1)])) rfl (by rw [hml]; rfl) (Steps.refl _) (a := b1) (argsL := [(.long q0)]) (rest := [(.ref b1)]) (lenOf pd_0 rfl) rfl (by show 2 * 0 + _ ≤ _; exact Nat.le_of_eq rfl) (hb hby at_5) (fun _ _ => ⟨rfl, e1, (by decide : 1 + 0 ≤ _), (by decide : 1 + 0 ≤ _)⟩)
  dsimp only [Pt.U, Pt.locs, Pt.cells, Pt.slots] at X2 l2 y2 z2 st2 hQ2
  subst l2 y2 z2
  obtain ⟨rfl, N2q, Kc2, P3, P4⟩ := hQ2
  have K2 : Keep h0 T2.heap [] := K1.trans Kc2 (allS (Or.inr sz_b1) all0)
  have N2 := Fr.app N0 N2q
  obtain ⟨cq5, kq5, q5a, q5b, q5c⟩ := isOf hZ rfl P3
  obtain ⟨_, _, ⟨T5, L5, k5, n5⟩, -, X5, ⟨Lc5, hQ5, l5, y5, z5⟩, st5⟩ := X2.virtualBack hx (y := (⟨"com/example/uneven_ticks/uneventicks/core/SplitMix64", "nextLong", "()J"⟩ : MethodName)) (z := (⟨"com/example/uneven_ticks/uneventicks/core/SplitMix64", "nextLong", "()J"⟩ : MethodName)) hown (mvT hZ (hw _ (List.mem_of_getElem? (i := 11) rfl))) (mvT hZ (hw _ (List.mem_of_getElem? (i := 12) rfl))) (notFace_of_selects (args := #[]) (mvT hZ (hw _ (List.mem_of_getElem? (i := 14) rfl)))) (mvT hZ (hw _ (List.mem_of_getElem? (i := 14) rfl))) (mvT hZ (hw _ (List.mem_of_getElem? (i := 13) rfl))) (by decide) (backOf (W := 0) (rm3 l Z A0 hw [] b1 q0 T2.heap n0 (Nat.le_trans Z0 K2.1) P3 P4 nw_b1) hZ (hw _ (List.mem_of_getElem? (i := 15) rfl)) (hw _ (List.mem_of_getElem? (i := 2) rfl)) (by decide) (by decide)) q5a q5c (g := (mkF m 10 #[.val (.long q0), .second, .val (.ref b1), .unset, .unset, .unset, .unset, .unset, .unset, .unset, .unset, .unset, .unset, .unset, .unset, .unset, .unset, .unset] [(.ref b1)])) rfl (by rw [hml]; rfl) (Steps.refl _) (argsL := []) (rest := []) (lenOf pd_2 rfl) rfl (by show 2 * 0 + _ ≤ _; exact Nat.le_of_eq rfl) (hb hby at_10) (fun _ _ => ⟨rfl, rfl, (by decide : 1 + 0 ≤ _), (by decide : 1 + 0 ≤ _)⟩)
  dsimp only [Pt.U, Pt.locs, Pt.cells, Pt.slots] at X5 l5 y5 z5 st5 hQ5
  subst l5 y5 z5
  obtain ⟨rfl, N5q, Kc5, P6, P7⟩ := hQ5
  have K5 : Keep h0 T5.heap [] := K2.trans Kc5 (allS (Or.inr sz_b1) all0)
  have N5 := Fr.app N2 N5q
  obtain ⟨cq8, kq8, q8a, q8b, q8c⟩ := isOf hZ rfl P6
  obtain ⟨_, _, ⟨T8, L8, k8, n8⟩, -, X8, ⟨Lc8, hQ8, l8, y8, z8⟩, st8⟩ := X5.virtualBack hx (y := (⟨"com/example/uneven_ticks/uneventicks/core/SplitMix64", "nextLong", "()J"⟩ : MethodName)) (z := (⟨"com/example/uneven_ticks/uneventicks/core/SplitMix64", "nextLong", "()J"⟩ : MethodName)) hown (mvT hZ (hw _ (List.mem_of_getElem? (i := 11) rfl))) (mvT hZ (hw _ (List.mem_of_getElem? (i := 12) rfl))) (notFace_of_selects (args := #[]) (mvT hZ (hw _ (List.mem_of_getElem? (i := 14) rfl)))) (mvT hZ (hw _ (List.mem_of_getElem? (i := 14) rfl))) (mvT hZ (hw _ (List.mem_of_getElem? (i := 13) rfl))) (by decide) (backOf (W := 0) (rm3 l Z A0 hw [] b1 (q0 + (-7046029254386353131 : Int64)) T5.heap n0 (Nat.le_trans Z0 K5.1) P6 P7 nw_b1) hZ (hw _ (List.mem_of_getElem? (i := 15) rfl)) (hw _ (List.mem_of_getElem? (i := 2) rfl)) (by decide) (by decide)) q8a q8c (g := (mkF m 15 #[.val (.long q0), .second, .val (.ref b1), .val (.long (own_mix q0)), .second, .unset, .unset, .unset, .unset, .unset, .unset, .unset, .unset, .unset, .unset, .unset, .unset, .unset] [(.ref b1)])) rfl (by rw [hml]; rfl) (Steps.refl _) (argsL := []) (rest := []) (lenOf pd_2 rfl) rfl (by show 2 * 0 + _ ≤ _; exact Nat.le_of_eq rfl) (hb hby at_15) (fun _ _ => ⟨rfl, rfl, (by decide : 1 + 0 ≤ _), (by decide : 1 + 0 ≤ _)⟩)
  dsimp only [Pt.U, Pt.locs, Pt.cells, Pt.slots] at X8 l8 y8 z8 st8 hQ8
  subst l8 y8 z8
  obtain ⟨rfl, N8q, Kc8, P9, P10⟩ := hQ8
  have K8 : Keep h0 T8.heap [] := K5.trans Kc8 (allS (Or.inr sz_b1) all0)
  have N8 := Fr.app N5 N8q
  obtain ⟨v11, hv11⟩ : ∃ z : Int64, z = (own_mix (q0 + (-7046029254386353131 : Int64))) := ⟨_, rfl⟩
  obtain ⟨T12, h12, X12, e12, E12, A12, D12, -, st12⟩ := newO X8 hx hZ hown (hw _ (List.mem_of_getElem? (i := 0) rfl)) (hw _ (List.mem_of_getElem? (i := 1) rfl)) (hw _ (List.mem_of_getElem? (i := 2) rfl)) rfl (g := (mkF m 20 #[.val (.long q0), .second, .val (.ref b1), .val (.long (own_mix q0)), .second, .val (.long v11), .second, .unset, .unset, .unset, .unset, .unset, .unset, .unset, .unset, .unset, .unset, .unset] [])) rfl (hb hby at_20) (by decide) (by decide)
  obtain ⟨b12, g12⟩ : ∃ z, z = T8.heap.size := ⟨_, rfl⟩
  rw [← g12] at A12 D12 st12
  have ne_b1_b12 : b1 ≠ b12 := Nat.ne_of_lt (Nat.lt_of_lt_of_le P9.lt (Nat.le_of_eq g12.symm))
  have nw_b12 : n0 ≤ b12 := Nat.le_trans (Nat.le_trans Z0 K8.1) (Nat.le_of_eq g12.symm)
  have sz_b12 : h0.size ≤ b12 := Nat.le_trans K8.1 (Nat.le_of_eq g12.symm)
  have K12 : Keep h0 h12 [] := K8.ext E12
  have F_state_b12 : Fld Z h12 b12 "com/example/uneven_ticks/uneventicks/core/SplitMix64" "state" "J" (.long (0 : Int64)) := D12 (Or.inl (hw _ (List.mem_of_getElem? (i := 10) rfl))) (ty := .long) (by decide)
  obtain ⟨_, _, ⟨T13, L13, k13, n13⟩, -, X13, ⟨Lc13, hQ13, l13, y13, z13⟩, st13⟩ := X12.specialBack hx (y := (⟨"com/example/uneven_ticks/uneventicks/core/SplitMix64", "<init>", "(J)V"⟩ : MethodName)) rfl hown (mvT hZ (hw _ (List.mem_of_getElem? (i := 3) rfl))) (mvT hZ (hw _ (List.mem_of_getElem? (i := 4) rfl))) (mvT hZ (hw _ (List.mem_of_getElem? (i := 5) rfl))) (by decide) (backOf (W := 1) (rm1 l Z A0 hw [] b12 (q0 + (-7046029254386353131 : Int64)) (0 : Int64) h12 n0 (Nat.le_trans Z0 K12.1) A12 F_state_b12 nw_b12) hZ (hw _ (List.mem_of_getElem? (i := 5) rfl)) (hw _ (List.mem_of_getElem? (i := 2) rfl)) (by decide) (by decide)) (g := (mkF m 29 #[.val (.long q0), .second, .val (.ref b1), .val (.long (own_mix q0)), .second, .val (.long v11), .second, .unset, .unset, .unset, .unset, .unset, .unset, .unset, .unset, .unset, .unset, .unset] [(.long (q0 + (-7046029254386353131 : Int64))), (.ref b12), (.ref b12)])) rfl (by rw [hml]; rfl) (Steps.refl _) (a := b12) (argsL := [(.long (q0 + (-7046029254386353131 : Int64)))]) (rest := [(.ref b12)]) (lenOf pd_0 rfl) rfl (by show 2 * 0 + _ ≤ _; exact Nat.le_of_eq rfl) (hb hby at_29) (fun _ _ => ⟨rfl, e12, (by decide : 2 + 0 ≤ _), (by decide : 2 + 0 ≤ _)⟩)
  dsimp only [Pt.U, Pt.locs, Pt.cells, Pt.slots] at X13 l13 y13 z13 st13 hQ13
  subst l13 y13 z13
  obtain ⟨rfl, N13q, Kc13, P14, P15⟩ := hQ13
  have K13 : Keep h0 T13.heap [] := K12.trans Kc13 (allS (Or.inr sz_b12) all0)
  have N13 := Fr.app N8 N13q
  obtain ⟨cq16, kq16, q16a, q16b, q16c⟩ := isOf hZ rfl P14
  obtain ⟨_, _, ⟨T16, L16, k16, n16⟩, -, X16, ⟨Lc16, hQ16, l16, y16, z16⟩, st16⟩ := X13.virtualBack hx (y := (⟨"com/example/uneven_ticks/uneventicks/core/SplitMix64", "nextLong", "()J"⟩ : MethodName)) (z := (⟨"com/example/uneven_ticks/uneventicks/core/SplitMix64", "nextLong", "()J"⟩ : MethodName)) hown (mvT hZ (hw _ (List.mem_of_getElem? (i := 11) rfl))) (mvT hZ (hw _ (List.mem_of_getElem? (i := 12) rfl))) (notFace_of_selects (args := #[]) (mvT hZ (hw _ (List.mem_of_getElem? (i := 14) rfl)))) (mvT hZ (hw _ (List.mem_of_getElem? (i := 14) rfl))) (mvT hZ (hw _ (List.mem_of_getElem? (i := 13) rfl))) (by decide) (backOf (W := 0) (rm3 l Z A0 hw [] b12 (q0 + (-7046029254386353131 : Int64)) T13.heap n0 (Nat.le_trans Z0 K13.1) P14 P15 nw_b12) hZ (hw _ (List.mem_of_getElem? (i := 15) rfl)) (hw _ (List.mem_of_getElem? (i := 2) rfl)) (by decide) (by decide)) q16a q16c (g := (mkF m 36 #[.val (.long q0), .second, .val (.ref b1), .val (.long (own_mix q0)), .second, .val (.long v11), .second, .val (.ref b12), .unset, .unset, .unset, .unset, .unset, .unset, .unset, .unset, .unset, .unset] [(.ref b12)])) rfl (by rw [hml]; rfl) (Steps.refl _) (argsL := []) (rest := []) (lenOf pd_2 rfl) rfl (by show 2 * 0 + _ ≤ _; exact Nat.le_of_eq rfl) (hb hby at_36) (fun _ _ => ⟨rfl, rfl, (by decide : 2 + 0 ≤ _), (by decide : 2 + 0 ≤ _)⟩)
  dsimp only [Pt.U, Pt.locs, Pt.cells, Pt.slots] at X16 l16 y16 z16 st16 hQ16
  subst l16 y16 z16
  obtain ⟨rfl, N16q, Kc16, P17, P18⟩ := hQ16
  have K16 : Keep h0 T16.heap [] := K13.trans Kc16 (allS (Or.inr sz_b12) all0)
  have N16 := Fr.app N13 N16q
  obtain ⟨v19, hv19⟩ : ∃ z : Int64, z = (own_mix (q0 + (-7046029254386353131 : Int64))) := ⟨_, rfl⟩
  obtain ⟨v21, hv21⟩ : ∃ z : Int32, z = if v19 = v11 then (1 : Int32) else (0 : Int32) := ⟨_, rfl⟩
  obtain ⟨T22, h22, X22, e22, E22, A22, D22, -, st22⟩ := newO X16 hx hZ hown (hw _ (List.mem_of_getElem? (i := 0) rfl)) (hw _ (List.mem_of_getElem? (i := 1) rfl)) (hw _ (List.mem_of_getElem? (i := 2) rfl)) rfl (g := (mkF m 56 #[.val (.long q0), .second, .val (.ref b1), .val (.long (own_mix q0)), .second, .val (.long v11), .second, .val (.ref b12), .val (.long v19), .second, .val (.int v21), .unset, .unset, .unset, .unset, .unset, .unset, .unset] [])) rfl (hb hby at_56) (by decide) (by decide)
  obtain ⟨b22, g22⟩ : ∃ z, z = T16.heap.size := ⟨_, rfl⟩
  rw [← g22] at A22 D22 st22
  have G23 : Exa Z T16.heap b1 "com/example/uneven_ticks/uneventicks/core/SplitMix64" := (((P9.ext E12).keep Kc13).keep Kc16)
  have ne_b1_b22 : b1 ≠ b22 := Nat.ne_of_lt (Nat.lt_of_lt_of_le G23.lt (Nat.le_of_eq g22.symm))
  have ne_b12_b22 : b12 ≠ b22 := Nat.ne_of_lt (Nat.lt_of_lt_of_le P17.lt (Nat.le_of_eq g22.symm))
  have nw_b22 : n0 ≤ b22 := Nat.le_trans (Nat.le_trans Z0 K16.1) (Nat.le_of_eq g22.symm)
  have sz_b22 : h0.size ≤ b22 := Nat.le_trans K16.1 (Nat.le_of_eq g22.symm)
  have K22 : Keep h0 h22 [] := K16.ext E22
  have F_state_b22 : Fld Z h22 b22 "com/example/uneven_ticks/uneventicks/core/SplitMix64" "state" "J" (.long (0 : Int64)) := D22 (Or.inl (hw _ (List.mem_of_getElem? (i := 10) rfl))) (ty := .long) (by decide)
  obtain ⟨_, _, ⟨T24, L24, k24, n24⟩, -, X24, ⟨Lc24, hQ24, l24, y24, z24⟩, st24⟩ := X22.specialBack hx (y := (⟨"com/example/uneven_ticks/uneventicks/core/SplitMix64", "<init>", "(J)V"⟩ : MethodName)) rfl hown (mvT hZ (hw _ (List.mem_of_getElem? (i := 3) rfl))) (mvT hZ (hw _ (List.mem_of_getElem? (i := 4) rfl))) (mvT hZ (hw _ (List.mem_of_getElem? (i := 5) rfl))) (by decide) (backOf (W := 1) (rm1 l Z A0 hw [] b22 (0 : Int64) (0 : Int64) h22 n0 (Nat.le_trans Z0 K22.1) A22 F_state_b22 nw_b22) hZ (hw _ (List.mem_of_getElem? (i := 5) rfl)) (hw _ (List.mem_of_getElem? (i := 2) rfl)) (by decide) (by decide)) (g := (mkF m 61 #[.val (.long q0), .second, .val (.ref b1), .val (.long (own_mix q0)), .second, .val (.long v11), .second, .val (.ref b12), .val (.long v19), .second, .val (.int v21), .unset, .unset, .unset, .unset, .unset, .unset, .unset] [(.long (0 : Int64)), (.ref b22), (.ref b22)])) rfl (by rw [hml]; rfl) (Steps.refl _) (a := b22) (argsL := [(.long (0 : Int64))]) (rest := [(.ref b22)]) (lenOf pd_0 rfl) rfl (by show 2 * 0 + _ ≤ _; exact Nat.le_of_eq rfl) (hb hby at_61) (fun _ _ => ⟨rfl, e22, (by decide : 3 + 0 ≤ _), (by decide : 3 + 0 ≤ _)⟩)
  dsimp only [Pt.U, Pt.locs, Pt.cells, Pt.slots] at X24 l24 y24 z24 st24 hQ24
  subst l24 y24 z24
  obtain ⟨rfl, N24q, Kc24, P25, P26⟩ := hQ24
  have K24 : Keep h0 T24.heap [] := K22.trans Kc24 (allS (Or.inr sz_b22) all0)
  have N24 := Fr.app N16 N24q
  obtain ⟨cq27, kq27, q27a, q27b, q27c⟩ := isOf hZ rfl P25
  obtain ⟨_, _, ⟨T27, L27, k27, n27⟩, -, X27, ⟨Lc27, hQ27, l27, y27, z27⟩, st27⟩ := X24.virtualBack hx (y := (⟨"com/example/uneven_ticks/uneventicks/core/SplitMix64", "nextLong", "()J"⟩ : MethodName)) (z := (⟨"com/example/uneven_ticks/uneventicks/core/SplitMix64", "nextLong", "()J"⟩ : MethodName)) hown (mvT hZ (hw _ (List.mem_of_getElem? (i := 11) rfl))) (mvT hZ (hw _ (List.mem_of_getElem? (i := 12) rfl))) (notFace_of_selects (args := #[]) (mvT hZ (hw _ (List.mem_of_getElem? (i := 14) rfl)))) (mvT hZ (hw _ (List.mem_of_getElem? (i := 14) rfl))) (mvT hZ (hw _ (List.mem_of_getElem? (i := 13) rfl))) (by decide) (backOf (W := 0) (rm3 l Z A0 hw [] b22 (0 : Int64) T24.heap n0 (Nat.le_trans Z0 K24.1) P25 P26 nw_b22) hZ (hw _ (List.mem_of_getElem? (i := 15) rfl)) (hw _ (List.mem_of_getElem? (i := 2) rfl)) (by decide) (by decide)) q27a q27c (g := (mkF m 68 #[.val (.long q0), .second, .val (.ref b1), .val (.long (own_mix q0)), .second, .val (.long v11), .second, .val (.ref b12), .val (.long v19), .second, .val (.int v21), .val (.ref b22), .unset, .unset, .unset, .unset, .unset, .unset] [(.ref b22)])) rfl (by rw [hml]; rfl) (Steps.refl _) (argsL := []) (rest := []) (lenOf pd_2 rfl) rfl (by show 2 * 0 + _ ≤ _; exact Nat.le_of_eq rfl) (hb hby at_68) (fun _ _ => ⟨rfl, rfl, (by decide : 3 + 0 ≤ _), (by decide : 3 + 0 ≤ _)⟩)
  dsimp only [Pt.U, Pt.locs, Pt.cells, Pt.slots] at X27 l27 y27 z27 st27 hQ27
  subst l27 y27 z27
  obtain ⟨rfl, N27q, Kc27, P28, P29⟩ := hQ27
  have K27 : Keep h0 T27.heap [] := K24.trans Kc27 (allS (Or.inr sz_b22) all0)
  have N27 := Fr.app N24 N27q
  obtain ⟨cq30, kq30, q30a, q30b, q30c⟩ := isOf hZ rfl P28
  obtain ⟨_, _, ⟨T30, L30, k30, n30⟩, -, X30, ⟨Lc30, hQ30, l30, y30, z30⟩, st30⟩ := X27.virtualBack hx (y := (⟨"com/example/uneven_ticks/uneventicks/core/SplitMix64", "nextLong", "()J"⟩ : MethodName)) (z := (⟨"com/example/uneven_ticks/uneventicks/core/SplitMix64", "nextLong", "()J"⟩ : MethodName)) hown (mvT hZ (hw _ (List.mem_of_getElem? (i := 11) rfl))) (mvT hZ (hw _ (List.mem_of_getElem? (i := 12) rfl))) (notFace_of_selects (args := #[]) (mvT hZ (hw _ (List.mem_of_getElem? (i := 14) rfl)))) (mvT hZ (hw _ (List.mem_of_getElem? (i := 14) rfl))) (mvT hZ (hw _ (List.mem_of_getElem? (i := 13) rfl))) (by decide) (backOf (W := 0) (rm3 l Z A0 hw [] b22 ((0 : Int64) + (-7046029254386353131 : Int64)) T27.heap n0 (Nat.le_trans Z0 K27.1) P28 P29 nw_b22) hZ (hw _ (List.mem_of_getElem? (i := 15) rfl)) (hw _ (List.mem_of_getElem? (i := 2) rfl)) (by decide) (by decide)) q30a q30c (g := (mkF m 75 #[.val (.long q0), .second, .val (.ref b1), .val (.long (own_mix q0)), .second, .val (.long v11), .second, .val (.ref b12), .val (.long v19), .second, .val (.int v21), .val (.ref b22), .val (.long (own_mix (0 : Int64))), .second, .unset, .unset, .unset, .unset] [(.ref b22)])) rfl (by rw [hml]; rfl) (Steps.refl _) (argsL := []) (rest := []) (lenOf pd_2 rfl) rfl (by show 2 * 0 + _ ≤ _; exact Nat.le_of_eq rfl) (hb hby at_75) (fun _ _ => ⟨rfl, rfl, (by decide : 3 + 0 ≤ _), (by decide : 3 + 0 ≤ _)⟩)
  dsimp only [Pt.U, Pt.locs, Pt.cells, Pt.slots] at X30 l30 y30 z30 st30 hQ30
  subst l30 y30 z30
  obtain ⟨rfl, N30q, Kc30, P31, P32⟩ := hQ30
  have K30 : Keep h0 T30.heap [] := K27.trans Kc30 (allS (Or.inr sz_b22) all0)
  have N30 := Fr.app N27 N30q
  obtain ⟨v33, hv33⟩ : ∃ z : Int64, z = (own_mix ((0 : Int64) + (-7046029254386353131 : Int64))) := ⟨_, rfl⟩
  obtain ⟨v36, hv36⟩ : ∃ z : Int32, z = if v33 = (7960286522194355700 : Int64) then (1 : Int32) else (0 : Int32) := ⟨_, rfl⟩
  obtain ⟨v37, hv37⟩ : ∃ z : Int32, z = if (own_mix (0 : Int64)) = (-2152535657050944081 : Int64) then v36 else (0 : Int32) := ⟨_, rfl⟩
  obtain ⟨v40, hv40⟩ : ∃ z : Int32, z = if (own_mix q0) = v11 then (1 : Int32) else (0 : Int32) := ⟨_, rfl⟩
  obtain ⟨v41, hv41⟩ : ∃ z : Int32, z = if (own_mix q0) = v11 then v40 else (1 : Int32) := ⟨_, rfl⟩
  obtain ⟨v45, hv45⟩ : ∃ z : Int32, z = if v41 = (0 : Int32) then (0 : Int32) else (1 : Int32) := ⟨_, rfl⟩
  obtain ⟨v46, hv46⟩ : ∃ z : Int32, z = if v37 = (0 : Int32) then (0 : Int32) else v45 := ⟨_, rfl⟩
  obtain ⟨v47, hv47⟩ : ∃ z : Int32, z = if v21 = (0 : Int32) then (0 : Int32) else v46 := ⟨_, rfl⟩
  obtain ⟨fs, hr, hrun, hended, hW, hsame⟩ := X30.leave (v := some (.int (nar .boolean v47))) (fun h => by rw [Bd.returns] at h; cases h)
  refine ⟨_, _, pre0 _ ?_, hrun, hended, _, _, rfl, ?_, ⟨_, rfl⟩, hW, hsame.mono (by decide) (by decide)⟩
  · show Steps p.tables e below (s₁.setTop (mkF m 0 #[.val (.long q0), .second, .unset, .unset, .unset, .unset, .unset, .unset, .unset, .unset, .unset, .unset, .unset, .unset, .unset, .unset, .unset, .unset] [])) _
    refine st1 _ ?_
    show Steps p.tables e below (T1.setTop (mkF m 3 #[.val (.long q0), .second, .unset, .unset, .unset, .unset, .unset, .unset, .unset, .unset, .unset, .unset, .unset, .unset, .unset, .unset, .unset, .unset] [(.ref b1)])) _
    refine XS.dup X1.here hx rfl (hb hby at_3) rfl rfl ?_
    show Steps p.tables e below (T1.setTop (mkF m 4 #[.val (.long q0), .second, .unset, .unset, .unset, .unset, .unset, .unset, .unset, .unset, .unset, .unset, .unset, .unset, .unset, .unset, .unset, .unset] [(.ref b1), (.ref b1)])) _
    refine XS.lloadN X1.here hx rfl (hb hby at_4) rfl ?_
    show Steps p.tables e below (T1.setTop (mkF m 5 #[.val (.long q0), .second, .unset, .unset, .unset, .unset, .unset, .unset, .unset, .unset, .unset, .unset, .unset, .unset, .unset, .unset, .unset, .unset] [(.long q0), (.ref b1), (.ref b1)])) _
    refine st2.trans ?_
    show Steps p.tables e below (T2.setTop (mkF m 8 #[.val (.long q0), .second, .unset, .unset, .unset, .unset, .unset, .unset, .unset, .unset, .unset, .unset, .unset, .unset, .unset, .unset, .unset, .unset] [(.ref b1)])) _
    refine XS.astoreN X2.here hx rfl (hb hby at_8) rfl rfl (l' := #[.val (.long q0), .second, .val (.ref b1), .unset, .unset, .unset, .unset, .unset, .unset, .unset, .unset, .unset, .unset, .unset, .unset, .unset, .unset, .unset]) rfl ?_
    show Steps p.tables e below (T2.setTop (mkF m 9 #[.val (.long q0), .second, .val (.ref b1), .unset, .unset, .unset, .unset, .unset, .unset, .unset, .unset, .unset, .unset, .unset, .unset, .unset, .unset, .unset] [])) _
    refine XS.aloadN X2.here hx rfl (hb hby at_9) rfl rfl ?_
    show Steps p.tables e below (T2.setTop (mkF m 10 #[.val (.long q0), .second, .val (.ref b1), .unset, .unset, .unset, .unset, .unset, .unset, .unset, .unset, .unset, .unset, .unset, .unset, .unset, .unset, .unset] [(.ref b1)])) _
    refine st5.trans ?_
    show Steps p.tables e below (T5.setTop (mkF m 13 #[.val (.long q0), .second, .val (.ref b1), .unset, .unset, .unset, .unset, .unset, .unset, .unset, .unset, .unset, .unset, .unset, .unset, .unset, .unset, .unset] [(.long (own_mix q0))])) _
    refine XS.lstoreN X5.here hx rfl (hb hby at_13) rfl (l' := #[.val (.long q0), .second, .val (.ref b1), .val (.long (own_mix q0)), .second, .unset, .unset, .unset, .unset, .unset, .unset, .unset, .unset, .unset, .unset, .unset, .unset, .unset]) rfl ?_
    show Steps p.tables e below (T5.setTop (mkF m 14 #[.val (.long q0), .second, .val (.ref b1), .val (.long (own_mix q0)), .second, .unset, .unset, .unset, .unset, .unset, .unset, .unset, .unset, .unset, .unset, .unset, .unset, .unset] [])) _
    refine XS.aloadN X5.here hx rfl (hb hby at_14) rfl rfl ?_
    show Steps p.tables e below (T5.setTop (mkF m 15 #[.val (.long q0), .second, .val (.ref b1), .val (.long (own_mix q0)), .second, .unset, .unset, .unset, .unset, .unset, .unset, .unset, .unset, .unset, .unset, .unset, .unset, .unset] [(.ref b1)])) _
    refine st8.trans ?_
    show Steps p.tables e below (T8.setTop (mkF m 18 #[.val (.long q0), .second, .val (.ref b1), .val (.long (own_mix q0)), .second, .unset, .unset, .unset, .unset, .unset, .unset, .unset, .unset, .unset, .unset, .unset, .unset, .unset] [(.long (own_mix (q0 + (-7046029254386353131 : Int64))))])) _
    refine castTop (g' := (mkF m 18 #[.val (.long q0), .second, .val (.ref b1), .val (.long (own_mix q0)), .second, .unset, .unset, .unset, .unset, .unset, .unset, .unset, .unset, .unset, .unset, .unset, .unset, .unset] [(.long v11)])) (by rw [hv11] <;> rfl) ?_
    show Steps p.tables e below (T8.setTop (mkF m 18 #[.val (.long q0), .second, .val (.ref b1), .val (.long (own_mix q0)), .second, .unset, .unset, .unset, .unset, .unset, .unset, .unset, .unset, .unset, .unset, .unset, .unset, .unset] [(.long v11)])) _
    refine XS.lstore X8.here hx rfl (hb hby at_18) rfl (l' := #[.val (.long q0), .second, .val (.ref b1), .val (.long (own_mix q0)), .second, .val (.long v11), .second, .unset, .unset, .unset, .unset, .unset, .unset, .unset, .unset, .unset, .unset, .unset]) rfl ?_
    show Steps p.tables e below (T8.setTop (mkF m 20 #[.val (.long q0), .second, .val (.ref b1), .val (.long (own_mix q0)), .second, .val (.long v11), .second, .unset, .unset, .unset, .unset, .unset, .unset, .unset, .unset, .unset, .unset, .unset] [])) _
    refine st12 _ ?_
    show Steps p.tables e below (T12.setTop (mkF m 23 #[.val (.long q0), .second, .val (.ref b1), .val (.long (own_mix q0)), .second, .val (.long v11), .second, .unset, .unset, .unset, .unset, .unset, .unset, .unset, .unset, .unset, .unset, .unset] [(.ref b12)])) _
    refine XS.dup X12.here hx rfl (hb hby at_23) rfl rfl ?_
    show Steps p.tables e below (T12.setTop (mkF m 24 #[.val (.long q0), .second, .val (.ref b1), .val (.long (own_mix q0)), .second, .val (.long v11), .second, .unset, .unset, .unset, .unset, .unset, .unset, .unset, .unset, .unset, .unset, .unset] [(.ref b12), (.ref b12)])) _
    refine XS.lloadN X12.here hx rfl (hb hby at_24) rfl ?_
    show Steps p.tables e below (T12.setTop (mkF m 25 #[.val (.long q0), .second, .val (.ref b1), .val (.long (own_mix q0)), .second, .val (.long v11), .second, .unset, .unset, .unset, .unset, .unset, .unset, .unset, .unset, .unset, .unset, .unset] [(.long q0), (.ref b12), (.ref b12)])) _
    refine X12.ldc2Long hx hown (mvT hZ (hw _ (List.mem_of_getElem? (i := 19) rfl))) (g := (mkF m 25 #[.val (.long q0), .second, .val (.ref b1), .val (.long (own_mix q0)), .second, .val (.long v11), .second, .unset, .unset, .unset, .unset, .unset, .unset, .unset, .unset, .unset, .unset, .unset] [(.long q0), (.ref b12), (.ref b12)])) rfl (hb hby at_25) _ ?_
    show Steps p.tables e below (T12.setTop (mkF m 28 #[.val (.long q0), .second, .val (.ref b1), .val (.long (own_mix q0)), .second, .val (.long v11), .second, .unset, .unset, .unset, .unset, .unset, .unset, .unset, .unset, .unset, .unset, .unset] [(.long (-7046029254386353131 : Int64)), (.long q0), (.ref b12), (.ref b12)])) _
    refine XS.ladd X12.here hx rfl (hb hby at_28) rfl ?_
    show Steps p.tables e below (T12.setTop (mkF m 29 #[.val (.long q0), .second, .val (.ref b1), .val (.long (own_mix q0)), .second, .val (.long v11), .second, .unset, .unset, .unset, .unset, .unset, .unset, .unset, .unset, .unset, .unset, .unset] [(.long (q0 + (-7046029254386353131 : Int64))), (.ref b12), (.ref b12)])) _
    refine st13.trans ?_
    show Steps p.tables e below (T13.setTop (mkF m 32 #[.val (.long q0), .second, .val (.ref b1), .val (.long (own_mix q0)), .second, .val (.long v11), .second, .unset, .unset, .unset, .unset, .unset, .unset, .unset, .unset, .unset, .unset, .unset] [(.ref b12)])) _
    refine XS.astore X13.here hx rfl (hb hby at_32) rfl rfl (l' := #[.val (.long q0), .second, .val (.ref b1), .val (.long (own_mix q0)), .second, .val (.long v11), .second, .val (.ref b12), .unset, .unset, .unset, .unset, .unset, .unset, .unset, .unset, .unset, .unset]) rfl ?_
    show Steps p.tables e below (T13.setTop (mkF m 34 #[.val (.long q0), .second, .val (.ref b1), .val (.long (own_mix q0)), .second, .val (.long v11), .second, .val (.ref b12), .unset, .unset, .unset, .unset, .unset, .unset, .unset, .unset, .unset, .unset] [])) _
    refine XS.aload X13.here hx rfl (hb hby at_34) rfl rfl ?_
    show Steps p.tables e below (T13.setTop (mkF m 36 #[.val (.long q0), .second, .val (.ref b1), .val (.long (own_mix q0)), .second, .val (.long v11), .second, .val (.ref b12), .unset, .unset, .unset, .unset, .unset, .unset, .unset, .unset, .unset, .unset] [(.ref b12)])) _
    refine st16.trans ?_
    show Steps p.tables e below (T16.setTop (mkF m 39 #[.val (.long q0), .second, .val (.ref b1), .val (.long (own_mix q0)), .second, .val (.long v11), .second, .val (.ref b12), .unset, .unset, .unset, .unset, .unset, .unset, .unset, .unset, .unset, .unset] [(.long (own_mix (q0 + (-7046029254386353131 : Int64))))])) _
    refine castTop (g' := (mkF m 39 #[.val (.long q0), .second, .val (.ref b1), .val (.long (own_mix q0)), .second, .val (.long v11), .second, .val (.ref b12), .unset, .unset, .unset, .unset, .unset, .unset, .unset, .unset, .unset, .unset] [(.long v19)])) (by rw [hv19] <;> rfl) ?_
    show Steps p.tables e below (T16.setTop (mkF m 39 #[.val (.long q0), .second, .val (.ref b1), .val (.long (own_mix q0)), .second, .val (.long v11), .second, .val (.ref b12), .unset, .unset, .unset, .unset, .unset, .unset, .unset, .unset, .unset, .unset] [(.long v19)])) _
    refine XS.lstore X16.here hx rfl (hb hby at_39) rfl (l' := #[.val (.long q0), .second, .val (.ref b1), .val (.long (own_mix q0)), .second, .val (.long v11), .second, .val (.ref b12), .val (.long v19), .second, .unset, .unset, .unset, .unset, .unset, .unset, .unset, .unset]) rfl ?_
    show Steps p.tables e below (T16.setTop (mkF m 41 #[.val (.long q0), .second, .val (.ref b1), .val (.long (own_mix q0)), .second, .val (.long v11), .second, .val (.ref b12), .val (.long v19), .second, .unset, .unset, .unset, .unset, .unset, .unset, .unset, .unset] [])) _
    refine XS.lload X16.here hx rfl (hb hby at_41) rfl ?_
    show Steps p.tables e below (T16.setTop (mkF m 43 #[.val (.long q0), .second, .val (.ref b1), .val (.long (own_mix q0)), .second, .val (.long v11), .second, .val (.ref b12), .val (.long v19), .second, .unset, .unset, .unset, .unset, .unset, .unset, .unset, .unset] [(.long v19)])) _
    refine XS.lload X16.here hx rfl (hb hby at_43) rfl ?_
    show Steps p.tables e below (T16.setTop (mkF m 45 #[.val (.long q0), .second, .val (.ref b1), .val (.long (own_mix q0)), .second, .val (.long v11), .second, .val (.ref b12), .val (.long v19), .second, .unset, .unset, .unset, .unset, .unset, .unset, .unset, .unset] [(.long v11), (.long v19)])) _
    refine XS.lcmp X16.here hx rfl (hb hby at_45) rfl ?_
    show Steps p.tables e below (T16.setTop (mkF m 46 #[.val (.long q0), .second, .val (.ref b1), .val (.long (own_mix q0)), .second, .val (.long v11), .second, .val (.ref b12), .val (.long v19), .second, .unset, .unset, .unset, .unset, .unset, .unset, .unset, .unset] [(.int (lcmpW v19 v11))])) _
    refine own_dia (F := (mkF m 54 #[.val (.long q0), .second, .val (.ref b1), .val (.long (own_mix q0)), .second, .val (.long v11), .second, .val (.ref b12), .val (.long v19), .second, .unset, .unset, .unset, .unset, .unset, .unset, .unset, .unset] [(.int v21)])) ?_ ?_
    · intro kt
      by_cases hc20 : v19 = v11
      · show Steps p.tables e below (T16.setTop (mkF m 46 #[.val (.long q0), .second, .val (.ref b1), .val (.long (own_mix q0)), .second, .val (.long v11), .second, .val (.ref b12), .val (.long v19), .second, .unset, .unset, .unset, .unset, .unset, .unset, .unset, .unset] [(.int (lcmpW v19 v11))])) _
        refine XS.ifNo X16.here hx rfl (hb hby at_46) rfl ((if0 _ _).trans (teq ((lw_eq v19 v11).mpr hc20)).2) ?_
        show Steps p.tables e below (T16.setTop (mkF m 49 #[.val (.long q0), .second, .val (.ref b1), .val (.long (own_mix q0)), .second, .val (.long v11), .second, .val (.ref b12), .val (.long v19), .second, .unset, .unset, .unset, .unset, .unset, .unset, .unset, .unset] [])) _
        refine XS.iconst X16.here hx rfl (hb hby at_49) ?_
        show Steps p.tables e below (T16.setTop (mkF m 50 #[.val (.long q0), .second, .val (.ref b1), .val (.long (own_mix q0)), .second, .val (.long v11), .second, .val (.ref b12), .val (.long v19), .second, .unset, .unset, .unset, .unset, .unset, .unset, .unset, .unset] [(.int (1 : Int32))])) _
        refine XS.goto X16.here hx rfl (pc0 := 50) (pc' := 54) rfl (hb hby at_50) (by decide) (by decide) ?_
        exact castTop (by rw [hv21, if_pos hc20] <;> rfl) kt
      · show Steps p.tables e below (T16.setTop (mkF m 46 #[.val (.long q0), .second, .val (.ref b1), .val (.long (own_mix q0)), .second, .val (.long v11), .second, .val (.ref b12), .val (.long v19), .second, .unset, .unset, .unset, .unset, .unset, .unset, .unset, .unset] [(.int (lcmpW v19 v11))])) _
        refine XS.ifYes X16.here hx rfl (pc0 := 46) (pc' := 53) rfl (hb hby at_46) rfl ((if0 _ _).trans (feq (fun q => hc20 ((lw_eq v19 v11).mp q))).2) (by decide) (by decide) ?_
        show Steps p.tables e below (T16.setTop (mkF m 53 #[.val (.long q0), .second, .val (.ref b1), .val (.long (own_mix q0)), .second, .val (.long v11), .second, .val (.ref b12), .val (.long v19), .second, .unset, .unset, .unset, .unset, .unset, .unset, .unset, .unset] [])) _
        refine XS.iconst X16.here hx rfl (hb hby at_53) ?_
        exact castTop (by rw [hv21, if_neg hc20] <;> rfl) kt
    show Steps p.tables e below (T16.setTop (mkF m 54 #[.val (.long q0), .second, .val (.ref b1), .val (.long (own_mix q0)), .second, .val (.long v11), .second, .val (.ref b12), .val (.long v19), .second, .unset, .unset, .unset, .unset, .unset, .unset, .unset, .unset] [(.int v21)])) _
    refine XS.istore X16.here hx rfl (hb hby at_54) rfl (l' := #[.val (.long q0), .second, .val (.ref b1), .val (.long (own_mix q0)), .second, .val (.long v11), .second, .val (.ref b12), .val (.long v19), .second, .val (.int v21), .unset, .unset, .unset, .unset, .unset, .unset, .unset]) rfl ?_
    show Steps p.tables e below (T16.setTop (mkF m 56 #[.val (.long q0), .second, .val (.ref b1), .val (.long (own_mix q0)), .second, .val (.long v11), .second, .val (.ref b12), .val (.long v19), .second, .val (.int v21), .unset, .unset, .unset, .unset, .unset, .unset, .unset] [])) _
    refine st22 _ ?_
    show Steps p.tables e below (T22.setTop (mkF m 59 #[.val (.long q0), .second, .val (.ref b1), .val (.long (own_mix q0)), .second, .val (.long v11), .second, .val (.ref b12), .val (.long v19), .second, .val (.int v21), .unset, .unset, .unset, .unset, .unset, .unset, .unset] [(.ref b22)])) _
    refine XS.dup X22.here hx rfl (hb hby at_59) rfl rfl ?_
    show Steps p.tables e below (T22.setTop (mkF m 60 #[.val (.long q0), .second, .val (.ref b1), .val (.long (own_mix q0)), .second, .val (.long v11), .second, .val (.ref b12), .val (.long v19), .second, .val (.int v21), .unset, .unset, .unset, .unset, .unset, .unset, .unset] [(.ref b22), (.ref b22)])) _
    refine XS.lconst X22.here hx rfl (hb hby at_60) ?_
    show Steps p.tables e below (T22.setTop (mkF m 61 #[.val (.long q0), .second, .val (.ref b1), .val (.long (own_mix q0)), .second, .val (.long v11), .second, .val (.ref b12), .val (.long v19), .second, .val (.int v21), .unset, .unset, .unset, .unset, .unset, .unset, .unset] [(.long (0 : Int64)), (.ref b22), (.ref b22)])) _
    refine st24.trans ?_
    show Steps p.tables e below (T24.setTop (mkF m 64 #[.val (.long q0), .second, .val (.ref b1), .val (.long (own_mix q0)), .second, .val (.long v11), .second, .val (.ref b12), .val (.long v19), .second, .val (.int v21), .unset, .unset, .unset, .unset, .unset, .unset, .unset] [(.ref b22)])) _
    refine XS.astore X24.here hx rfl (hb hby at_64) rfl rfl (l' := #[.val (.long q0), .second, .val (.ref b1), .val (.long (own_mix q0)), .second, .val (.long v11), .second, .val (.ref b12), .val (.long v19), .second, .val (.int v21), .val (.ref b22), .unset, .unset, .unset, .unset, .unset, .unset]) rfl ?_
    show Steps p.tables e below (T24.setTop (mkF m 66 #[.val (.long q0), .second, .val (.ref b1), .val (.long (own_mix q0)), .second, .val (.long v11), .second, .val (.ref b12), .val (.long v19), .second, .val (.int v21), .val (.ref b22), .unset, .unset, .unset, .unset, .unset, .unset] [])) _
    refine XS.aload X24.here hx rfl (hb hby at_66) rfl rfl ?_
    show Steps p.tables e below (T24.setTop (mkF m 68 #[.val (.long q0), .second, .val (.ref b1), .val (.long (own_mix q0)), .second, .val (.long v11), .second, .val (.ref b12), .val (.long v19), .second, .val (.int v21), .val (.ref b22), .unset, .unset, .unset, .unset, .unset, .unset] [(.ref b22)])) _
    refine st27.trans ?_
    show Steps p.tables e below (T27.setTop (mkF m 71 #[.val (.long q0), .second, .val (.ref b1), .val (.long (own_mix q0)), .second, .val (.long v11), .second, .val (.ref b12), .val (.long v19), .second, .val (.int v21), .val (.ref b22), .unset, .unset, .unset, .unset, .unset, .unset] [(.long (own_mix (0 : Int64)))])) _
    refine XS.lstore X27.here hx rfl (hb hby at_71) rfl (l' := #[.val (.long q0), .second, .val (.ref b1), .val (.long (own_mix q0)), .second, .val (.long v11), .second, .val (.ref b12), .val (.long v19), .second, .val (.int v21), .val (.ref b22), .val (.long (own_mix (0 : Int64))), .second, .unset, .unset, .unset, .unset]) rfl ?_
    show Steps p.tables e below (T27.setTop (mkF m 73 #[.val (.long q0), .second, .val (.ref b1), .val (.long (own_mix q0)), .second, .val (.long v11), .second, .val (.ref b12), .val (.long v19), .second, .val (.int v21), .val (.ref b22), .val (.long (own_mix (0 : Int64))), .second, .unset, .unset, .unset, .unset] [])) _
    refine XS.aload X27.here hx rfl (hb hby at_73) rfl rfl ?_
    show Steps p.tables e below (T27.setTop (mkF m 75 #[.val (.long q0), .second, .val (.ref b1), .val (.long (own_mix q0)), .second, .val (.long v11), .second, .val (.ref b12), .val (.long v19), .second, .val (.int v21), .val (.ref b22), .val (.long (own_mix (0 : Int64))), .second, .unset, .unset, .unset, .unset] [(.ref b22)])) _
    refine st30.trans ?_
    show Steps p.tables e below (T30.setTop (mkF m 78 #[.val (.long q0), .second, .val (.ref b1), .val (.long (own_mix q0)), .second, .val (.long v11), .second, .val (.ref b12), .val (.long v19), .second, .val (.int v21), .val (.ref b22), .val (.long (own_mix (0 : Int64))), .second, .unset, .unset, .unset, .unset] [(.long (own_mix ((0 : Int64) + (-7046029254386353131 : Int64))))])) _
    refine castTop (g' := (mkF m 78 #[.val (.long q0), .second, .val (.ref b1), .val (.long (own_mix q0)), .second, .val (.long v11), .second, .val (.ref b12), .val (.long v19), .second, .val (.int v21), .val (.ref b22), .val (.long (own_mix (0 : Int64))), .second, .unset, .unset, .unset, .unset] [(.long v33)])) (by rw [hv33] <;> rfl) ?_
    show Steps p.tables e below (T30.setTop (mkF m 78 #[.val (.long q0), .second, .val (.ref b1), .val (.long (own_mix q0)), .second, .val (.long v11), .second, .val (.ref b12), .val (.long v19), .second, .val (.int v21), .val (.ref b22), .val (.long (own_mix (0 : Int64))), .second, .unset, .unset, .unset, .unset] [(.long v33)])) _
    refine XS.lstore X30.here hx rfl (hb hby at_78) rfl (l' := #[.val (.long q0), .second, .val (.ref b1), .val (.long (own_mix q0)), .second, .val (.long v11), .second, .val (.ref b12), .val (.long v19), .second, .val (.int v21), .val (.ref b22), .val (.long (own_mix (0 : Int64))), .second, .val (.long v33), .second, .unset, .unset]) rfl ?_
    show Steps p.tables e below (T30.setTop (mkF m 80 #[.val (.long q0), .second, .val (.ref b1), .val (.long (own_mix q0)), .second, .val (.long v11), .second, .val (.ref b12), .val (.long v19), .second, .val (.int v21), .val (.ref b22), .val (.long (own_mix (0 : Int64))), .second, .val (.long v33), .second, .unset, .unset] [])) _
    refine XS.lload X30.here hx rfl (hb hby at_80) rfl ?_
    show Steps p.tables e below (T30.setTop (mkF m 82 #[.val (.long q0), .second, .val (.ref b1), .val (.long (own_mix q0)), .second, .val (.long v11), .second, .val (.ref b12), .val (.long v19), .second, .val (.int v21), .val (.ref b22), .val (.long (own_mix (0 : Int64))), .second, .val (.long v33), .second, .unset, .unset] [(.long (own_mix (0 : Int64)))])) _
    refine X30.ldc2Long hx hown (mvT hZ (hw _ (List.mem_of_getElem? (i := 20) rfl))) (g := (mkF m 82 #[.val (.long q0), .second, .val (.ref b1), .val (.long (own_mix q0)), .second, .val (.long v11), .second, .val (.ref b12), .val (.long v19), .second, .val (.int v21), .val (.ref b22), .val (.long (own_mix (0 : Int64))), .second, .val (.long v33), .second, .unset, .unset] [(.long (own_mix (0 : Int64)))])) rfl (hb hby at_82) _ ?_
    show Steps p.tables e below (T30.setTop (mkF m 85 #[.val (.long q0), .second, .val (.ref b1), .val (.long (own_mix q0)), .second, .val (.long v11), .second, .val (.ref b12), .val (.long v19), .second, .val (.int v21), .val (.ref b22), .val (.long (own_mix (0 : Int64))), .second, .val (.long v33), .second, .unset, .unset] [(.long (-2152535657050944081 : Int64)), (.long (own_mix (0 : Int64)))])) _
    refine XS.lcmp X30.here hx rfl (hb hby at_85) rfl ?_
    show Steps p.tables e below (T30.setTop (mkF m 86 #[.val (.long q0), .second, .val (.ref b1), .val (.long (own_mix q0)), .second, .val (.long v11), .second, .val (.ref b12), .val (.long v19), .second, .val (.int v21), .val (.ref b22), .val (.long (own_mix (0 : Int64))), .second, .val (.long v33), .second, .unset, .unset] [(.int (lcmpW (own_mix (0 : Int64)) (-2152535657050944081 : Int64)))])) _
    refine own_dia (F := (mkF m 103 #[.val (.long q0), .second, .val (.ref b1), .val (.long (own_mix q0)), .second, .val (.long v11), .second, .val (.ref b12), .val (.long v19), .second, .val (.int v21), .val (.ref b22), .val (.long (own_mix (0 : Int64))), .second, .val (.long v33), .second, .unset, .unset] [(.int v37)])) ?_ ?_
    · intro kt
      by_cases hc34 : (own_mix (0 : Int64)) = (-2152535657050944081 : Int64)
      · show Steps p.tables e below (T30.setTop (mkF m 86 #[.val (.long q0), .second, .val (.ref b1), .val (.long (own_mix q0)), .second, .val (.long v11), .second, .val (.ref b12), .val (.long v19), .second, .val (.int v21), .val (.ref b22), .val (.long (own_mix (0 : Int64))), .second, .val (.long v33), .second, .unset, .unset] [(.int (lcmpW (own_mix (0 : Int64)) (-2152535657050944081 : Int64)))])) _
        refine XS.ifNo X30.here hx rfl (hb hby at_86) rfl ((if0 _ _).trans (teq ((lw_eq (own_mix (0 : Int64)) (-2152535657050944081 : Int64)).mpr hc34)).2) ?_
        show Steps p.tables e below (T30.setTop (mkF m 89 #[.val (.long q0), .second, .val (.ref b1), .val (.long (own_mix q0)), .second, .val (.long v11), .second, .val (.ref b12), .val (.long v19), .second, .val (.int v21), .val (.ref b22), .val (.long (own_mix (0 : Int64))), .second, .val (.long v33), .second, .unset, .unset] [])) _
        refine XS.lload X30.here hx rfl (hb hby at_89) rfl ?_
        show Steps p.tables e below (T30.setTop (mkF m 91 #[.val (.long q0), .second, .val (.ref b1), .val (.long (own_mix q0)), .second, .val (.long v11), .second, .val (.ref b12), .val (.long v19), .second, .val (.int v21), .val (.ref b22), .val (.long (own_mix (0 : Int64))), .second, .val (.long v33), .second, .unset, .unset] [(.long v33)])) _
        refine X30.ldc2Long hx hown (mvT hZ (hw _ (List.mem_of_getElem? (i := 21) rfl))) (g := (mkF m 91 #[.val (.long q0), .second, .val (.ref b1), .val (.long (own_mix q0)), .second, .val (.long v11), .second, .val (.ref b12), .val (.long v19), .second, .val (.int v21), .val (.ref b22), .val (.long (own_mix (0 : Int64))), .second, .val (.long v33), .second, .unset, .unset] [(.long v33)])) rfl (hb hby at_91) _ ?_
        show Steps p.tables e below (T30.setTop (mkF m 94 #[.val (.long q0), .second, .val (.ref b1), .val (.long (own_mix q0)), .second, .val (.long v11), .second, .val (.ref b12), .val (.long v19), .second, .val (.int v21), .val (.ref b22), .val (.long (own_mix (0 : Int64))), .second, .val (.long v33), .second, .unset, .unset] [(.long (7960286522194355700 : Int64)), (.long v33)])) _
        refine XS.lcmp X30.here hx rfl (hb hby at_94) rfl ?_
        show Steps p.tables e below (T30.setTop (mkF m 95 #[.val (.long q0), .second, .val (.ref b1), .val (.long (own_mix q0)), .second, .val (.long v11), .second, .val (.ref b12), .val (.long v19), .second, .val (.int v21), .val (.ref b22), .val (.long (own_mix (0 : Int64))), .second, .val (.long v33), .second, .unset, .unset] [(.int (lcmpW v33 (7960286522194355700 : Int64)))])) _
        refine own_dia (F := (mkF m 103 #[.val (.long q0), .second, .val (.ref b1), .val (.long (own_mix q0)), .second, .val (.long v11), .second, .val (.ref b12), .val (.long v19), .second, .val (.int v21), .val (.ref b22), .val (.long (own_mix (0 : Int64))), .second, .val (.long v33), .second, .unset, .unset] [(.int v36)])) ?_ ?_
        · intro kt
          by_cases hc35 : v33 = (7960286522194355700 : Int64)
          · show Steps p.tables e below (T30.setTop (mkF m 95 #[.val (.long q0), .second, .val (.ref b1), .val (.long (own_mix q0)), .second, .val (.long v11), .second, .val (.ref b12), .val (.long v19), .second, .val (.int v21), .val (.ref b22), .val (.long (own_mix (0 : Int64))), .second, .val (.long v33), .second, .unset, .unset] [(.int (lcmpW v33 (7960286522194355700 : Int64)))])) _
            refine XS.ifNo X30.here hx rfl (hb hby at_95) rfl ((if0 _ _).trans (teq ((lw_eq v33 (7960286522194355700 : Int64)).mpr hc35)).2) ?_
            show Steps p.tables e below (T30.setTop (mkF m 98 #[.val (.long q0), .second, .val (.ref b1), .val (.long (own_mix q0)), .second, .val (.long v11), .second, .val (.ref b12), .val (.long v19), .second, .val (.int v21), .val (.ref b22), .val (.long (own_mix (0 : Int64))), .second, .val (.long v33), .second, .unset, .unset] [])) _
            refine XS.iconst X30.here hx rfl (hb hby at_98) ?_
            show Steps p.tables e below (T30.setTop (mkF m 99 #[.val (.long q0), .second, .val (.ref b1), .val (.long (own_mix q0)), .second, .val (.long v11), .second, .val (.ref b12), .val (.long v19), .second, .val (.int v21), .val (.ref b22), .val (.long (own_mix (0 : Int64))), .second, .val (.long v33), .second, .unset, .unset] [(.int (1 : Int32))])) _
            refine XS.goto X30.here hx rfl (pc0 := 99) (pc' := 103) rfl (hb hby at_99) (by decide) (by decide) ?_
            exact castTop (by rw [hv36, if_pos hc35] <;> rfl) kt
          · show Steps p.tables e below (T30.setTop (mkF m 95 #[.val (.long q0), .second, .val (.ref b1), .val (.long (own_mix q0)), .second, .val (.long v11), .second, .val (.ref b12), .val (.long v19), .second, .val (.int v21), .val (.ref b22), .val (.long (own_mix (0 : Int64))), .second, .val (.long v33), .second, .unset, .unset] [(.int (lcmpW v33 (7960286522194355700 : Int64)))])) _
            refine XS.ifYes X30.here hx rfl (pc0 := 95) (pc' := 102) rfl (hb hby at_95) rfl ((if0 _ _).trans (feq (fun q => hc35 ((lw_eq v33 (7960286522194355700 : Int64)).mp q))).2) (by decide) (by decide) ?_
            show Steps p.tables e below (T30.setTop (mkF m 102 #[.val (.long q0), .second, .val (.ref b1), .val (.long (own_mix q0)), .second, .val (.long v11), .second, .val (.ref b12), .val (.long v19), .second, .val (.int v21), .val (.ref b22), .val (.long (own_mix (0 : Int64))), .second, .val (.long v33), .second, .unset, .unset] [])) _
            refine XS.iconst X30.here hx rfl (hb hby at_102) ?_
            exact castTop (by rw [hv36, if_neg hc35] <;> rfl) kt
        exact castTop (by rw [hv37, if_pos hc34] <;> rfl) kt
      · show Steps p.tables e below (T30.setTop (mkF m 86 #[.val (.long q0), .second, .val (.ref b1), .val (.long (own_mix q0)), .second, .val (.long v11), .second, .val (.ref b12), .val (.long v19), .second, .val (.int v21), .val (.ref b22), .val (.long (own_mix (0 : Int64))), .second, .val (.long v33), .second, .unset, .unset] [(.int (lcmpW (own_mix (0 : Int64)) (-2152535657050944081 : Int64)))])) _
        refine XS.ifYes X30.here hx rfl (pc0 := 86) (pc' := 102) rfl (hb hby at_86) rfl ((if0 _ _).trans (feq (fun q => hc34 ((lw_eq (own_mix (0 : Int64)) (-2152535657050944081 : Int64)).mp q))).2) (by decide) (by decide) ?_
        show Steps p.tables e below (T30.setTop (mkF m 102 #[.val (.long q0), .second, .val (.ref b1), .val (.long (own_mix q0)), .second, .val (.long v11), .second, .val (.ref b12), .val (.long v19), .second, .val (.int v21), .val (.ref b22), .val (.long (own_mix (0 : Int64))), .second, .val (.long v33), .second, .unset, .unset] [])) _
        refine XS.iconst X30.here hx rfl (hb hby at_102) ?_
        exact castTop (by rw [hv37, if_neg hc34] <;> rfl) kt
    show Steps p.tables e below (T30.setTop (mkF m 103 #[.val (.long q0), .second, .val (.ref b1), .val (.long (own_mix q0)), .second, .val (.long v11), .second, .val (.ref b12), .val (.long v19), .second, .val (.int v21), .val (.ref b22), .val (.long (own_mix (0 : Int64))), .second, .val (.long v33), .second, .unset, .unset] [(.int v37)])) _
    refine XS.istore X30.here hx rfl (hb hby at_103) rfl (l' := #[.val (.long q0), .second, .val (.ref b1), .val (.long (own_mix q0)), .second, .val (.long v11), .second, .val (.ref b12), .val (.long v19), .second, .val (.int v21), .val (.ref b22), .val (.long (own_mix (0 : Int64))), .second, .val (.long v33), .second, .val (.int v37), .unset]) rfl ?_
    show Steps p.tables e below (T30.setTop (mkF m 105 #[.val (.long q0), .second, .val (.ref b1), .val (.long (own_mix q0)), .second, .val (.long v11), .second, .val (.ref b12), .val (.long v19), .second, .val (.int v21), .val (.ref b22), .val (.long (own_mix (0 : Int64))), .second, .val (.long v33), .second, .val (.int v37), .unset] [])) _
    refine XS.lloadN X30.here hx rfl (hb hby at_105) rfl ?_
    show Steps p.tables e below (T30.setTop (mkF m 106 #[.val (.long q0), .second, .val (.ref b1), .val (.long (own_mix q0)), .second, .val (.long v11), .second, .val (.ref b12), .val (.long v19), .second, .val (.int v21), .val (.ref b22), .val (.long (own_mix (0 : Int64))), .second, .val (.long v33), .second, .val (.int v37), .unset] [(.long (own_mix q0))])) _
    refine XS.lload X30.here hx rfl (hb hby at_106) rfl ?_
    show Steps p.tables e below (T30.setTop (mkF m 108 #[.val (.long q0), .second, .val (.ref b1), .val (.long (own_mix q0)), .second, .val (.long v11), .second, .val (.ref b12), .val (.long v19), .second, .val (.int v21), .val (.ref b22), .val (.long (own_mix (0 : Int64))), .second, .val (.long v33), .second, .val (.int v37), .unset] [(.long v11), (.long (own_mix q0))])) _
    refine XS.lcmp X30.here hx rfl (hb hby at_108) rfl ?_
    show Steps p.tables e below (T30.setTop (mkF m 109 #[.val (.long q0), .second, .val (.ref b1), .val (.long (own_mix q0)), .second, .val (.long v11), .second, .val (.ref b12), .val (.long v19), .second, .val (.int v21), .val (.ref b22), .val (.long (own_mix (0 : Int64))), .second, .val (.long v33), .second, .val (.int v37), .unset] [(.int (lcmpW (own_mix q0) v11))])) _
    refine own_dia (F := (mkF m 124 #[.val (.long q0), .second, .val (.ref b1), .val (.long (own_mix q0)), .second, .val (.long v11), .second, .val (.ref b12), .val (.long v19), .second, .val (.int v21), .val (.ref b22), .val (.long (own_mix (0 : Int64))), .second, .val (.long v33), .second, .val (.int v37), .unset] [(.int v41)])) ?_ ?_
    · intro kt
      by_cases hc38 : (own_mix q0) = v11
      · show Steps p.tables e below (T30.setTop (mkF m 109 #[.val (.long q0), .second, .val (.ref b1), .val (.long (own_mix q0)), .second, .val (.long v11), .second, .val (.ref b12), .val (.long v19), .second, .val (.int v21), .val (.ref b22), .val (.long (own_mix (0 : Int64))), .second, .val (.long v33), .second, .val (.int v37), .unset] [(.int (lcmpW (own_mix q0) v11))])) _
        refine XS.ifNo X30.here hx rfl (hb hby at_109) rfl ((if0 _ _).trans (teq ((lw_eq (own_mix q0) v11).mpr hc38)).2) ?_
        show Steps p.tables e below (T30.setTop (mkF m 112 #[.val (.long q0), .second, .val (.ref b1), .val (.long (own_mix q0)), .second, .val (.long v11), .second, .val (.ref b12), .val (.long v19), .second, .val (.int v21), .val (.ref b22), .val (.long (own_mix (0 : Int64))), .second, .val (.long v33), .second, .val (.int v37), .unset] [])) _
        refine XS.lloadN X30.here hx rfl (hb hby at_112) rfl ?_
        show Steps p.tables e below (T30.setTop (mkF m 113 #[.val (.long q0), .second, .val (.ref b1), .val (.long (own_mix q0)), .second, .val (.long v11), .second, .val (.ref b12), .val (.long v19), .second, .val (.int v21), .val (.ref b22), .val (.long (own_mix (0 : Int64))), .second, .val (.long v33), .second, .val (.int v37), .unset] [(.long (own_mix q0))])) _
        refine XS.lload X30.here hx rfl (hb hby at_113) rfl ?_
        show Steps p.tables e below (T30.setTop (mkF m 115 #[.val (.long q0), .second, .val (.ref b1), .val (.long (own_mix q0)), .second, .val (.long v11), .second, .val (.ref b12), .val (.long v19), .second, .val (.int v21), .val (.ref b22), .val (.long (own_mix (0 : Int64))), .second, .val (.long v33), .second, .val (.int v37), .unset] [(.long v11), (.long (own_mix q0))])) _
        refine XS.lcmp X30.here hx rfl (hb hby at_115) rfl ?_
        show Steps p.tables e below (T30.setTop (mkF m 116 #[.val (.long q0), .second, .val (.ref b1), .val (.long (own_mix q0)), .second, .val (.long v11), .second, .val (.ref b12), .val (.long v19), .second, .val (.int v21), .val (.ref b22), .val (.long (own_mix (0 : Int64))), .second, .val (.long v33), .second, .val (.int v37), .unset] [(.int (lcmpW (own_mix q0) v11))])) _
        refine own_dia (F := (mkF m 124 #[.val (.long q0), .second, .val (.ref b1), .val (.long (own_mix q0)), .second, .val (.long v11), .second, .val (.ref b12), .val (.long v19), .second, .val (.int v21), .val (.ref b22), .val (.long (own_mix (0 : Int64))), .second, .val (.long v33), .second, .val (.int v37), .unset] [(.int v40)])) ?_ ?_
        · intro kt
          by_cases hc39 : (own_mix q0) = v11
          · show Steps p.tables e below (T30.setTop (mkF m 116 #[.val (.long q0), .second, .val (.ref b1), .val (.long (own_mix q0)), .second, .val (.long v11), .second, .val (.ref b12), .val (.long v19), .second, .val (.int v21), .val (.ref b22), .val (.long (own_mix (0 : Int64))), .second, .val (.long v33), .second, .val (.int v37), .unset] [(.int (lcmpW (own_mix q0) v11))])) _
            refine XS.ifNo X30.here hx rfl (hb hby at_116) rfl ((if0 _ _).trans (teq ((lw_eq (own_mix q0) v11).mpr hc39)).2) ?_
            show Steps p.tables e below (T30.setTop (mkF m 119 #[.val (.long q0), .second, .val (.ref b1), .val (.long (own_mix q0)), .second, .val (.long v11), .second, .val (.ref b12), .val (.long v19), .second, .val (.int v21), .val (.ref b22), .val (.long (own_mix (0 : Int64))), .second, .val (.long v33), .second, .val (.int v37), .unset] [])) _
            refine XS.iconst X30.here hx rfl (hb hby at_119) ?_
            show Steps p.tables e below (T30.setTop (mkF m 120 #[.val (.long q0), .second, .val (.ref b1), .val (.long (own_mix q0)), .second, .val (.long v11), .second, .val (.ref b12), .val (.long v19), .second, .val (.int v21), .val (.ref b22), .val (.long (own_mix (0 : Int64))), .second, .val (.long v33), .second, .val (.int v37), .unset] [(.int (1 : Int32))])) _
            refine XS.goto X30.here hx rfl (pc0 := 120) (pc' := 124) rfl (hb hby at_120) (by decide) (by decide) ?_
            exact castTop (by rw [hv40, if_pos hc39] <;> rfl) kt
          · show Steps p.tables e below (T30.setTop (mkF m 116 #[.val (.long q0), .second, .val (.ref b1), .val (.long (own_mix q0)), .second, .val (.long v11), .second, .val (.ref b12), .val (.long v19), .second, .val (.int v21), .val (.ref b22), .val (.long (own_mix (0 : Int64))), .second, .val (.long v33), .second, .val (.int v37), .unset] [(.int (lcmpW (own_mix q0) v11))])) _
            refine XS.ifYes X30.here hx rfl (pc0 := 116) (pc' := 123) rfl (hb hby at_116) rfl ((if0 _ _).trans (feq (fun q => hc39 ((lw_eq (own_mix q0) v11).mp q))).2) (by decide) (by decide) ?_
            show Steps p.tables e below (T30.setTop (mkF m 123 #[.val (.long q0), .second, .val (.ref b1), .val (.long (own_mix q0)), .second, .val (.long v11), .second, .val (.ref b12), .val (.long v19), .second, .val (.int v21), .val (.ref b22), .val (.long (own_mix (0 : Int64))), .second, .val (.long v33), .second, .val (.int v37), .unset] [])) _
            refine XS.iconst X30.here hx rfl (hb hby at_123) ?_
            exact castTop (by rw [hv40, if_neg hc39] <;> rfl) kt
        exact castTop (by rw [hv41, if_pos hc38] <;> rfl) kt
      · show Steps p.tables e below (T30.setTop (mkF m 109 #[.val (.long q0), .second, .val (.ref b1), .val (.long (own_mix q0)), .second, .val (.long v11), .second, .val (.ref b12), .val (.long v19), .second, .val (.int v21), .val (.ref b22), .val (.long (own_mix (0 : Int64))), .second, .val (.long v33), .second, .val (.int v37), .unset] [(.int (lcmpW (own_mix q0) v11))])) _
        refine XS.ifYes X30.here hx rfl (pc0 := 109) (pc' := 119) rfl (hb hby at_109) rfl ((if0 _ _).trans (feq (fun q => hc38 ((lw_eq (own_mix q0) v11).mp q))).2) (by decide) (by decide) ?_
        show Steps p.tables e below (T30.setTop (mkF m 119 #[.val (.long q0), .second, .val (.ref b1), .val (.long (own_mix q0)), .second, .val (.long v11), .second, .val (.ref b12), .val (.long v19), .second, .val (.int v21), .val (.ref b22), .val (.long (own_mix (0 : Int64))), .second, .val (.long v33), .second, .val (.int v37), .unset] [])) _
        refine XS.iconst X30.here hx rfl (hb hby at_119) ?_
        show Steps p.tables e below (T30.setTop (mkF m 120 #[.val (.long q0), .second, .val (.ref b1), .val (.long (own_mix q0)), .second, .val (.long v11), .second, .val (.ref b12), .val (.long v19), .second, .val (.int v21), .val (.ref b22), .val (.long (own_mix (0 : Int64))), .second, .val (.long v33), .second, .val (.int v37), .unset] [(.int (1 : Int32))])) _
        refine XS.goto X30.here hx rfl (pc0 := 120) (pc' := 124) rfl (hb hby at_120) (by decide) (by decide) ?_
        exact castTop (by rw [hv41, if_neg hc38] <;> rfl) kt
    show Steps p.tables e below (T30.setTop (mkF m 124 #[.val (.long q0), .second, .val (.ref b1), .val (.long (own_mix q0)), .second, .val (.long v11), .second, .val (.ref b12), .val (.long v19), .second, .val (.int v21), .val (.ref b22), .val (.long (own_mix (0 : Int64))), .second, .val (.long v33), .second, .val (.int v37), .unset] [(.int v41)])) _
    refine XS.istore X30.here hx rfl (hb hby at_124) rfl (l' := #[.val (.long q0), .second, .val (.ref b1), .val (.long (own_mix q0)), .second, .val (.long v11), .second, .val (.ref b12), .val (.long v19), .second, .val (.int v21), .val (.ref b22), .val (.long (own_mix (0 : Int64))), .second, .val (.long v33), .second, .val (.int v37), .val (.int v41)]) rfl ?_
    show Steps p.tables e below (T30.setTop (mkF m 126 #[.val (.long q0), .second, .val (.ref b1), .val (.long (own_mix q0)), .second, .val (.long v11), .second, .val (.ref b12), .val (.long v19), .second, .val (.int v21), .val (.ref b22), .val (.long (own_mix (0 : Int64))), .second, .val (.long v33), .second, .val (.int v37), .val (.int v41)] [])) _
    refine XS.iload X30.here hx rfl (hb hby at_126) rfl ?_
    show Steps p.tables e below (T30.setTop (mkF m 128 #[.val (.long q0), .second, .val (.ref b1), .val (.long (own_mix q0)), .second, .val (.long v11), .second, .val (.ref b12), .val (.long v19), .second, .val (.int v21), .val (.ref b22), .val (.long (own_mix (0 : Int64))), .second, .val (.long v33), .second, .val (.int v37), .val (.int v41)] [(.int v21)])) _
    refine own_dia (F := (mkF m 146 #[.val (.long q0), .second, .val (.ref b1), .val (.long (own_mix q0)), .second, .val (.long v11), .second, .val (.ref b12), .val (.long v19), .second, .val (.int v21), .val (.ref b22), .val (.long (own_mix (0 : Int64))), .second, .val (.long v33), .second, .val (.int v37), .val (.int v41)] [(.int v47)])) ?_ ?_
    · intro kt
      by_cases hc42 : v21 = (0 : Int32)
      · show Steps p.tables e below (T30.setTop (mkF m 128 #[.val (.long q0), .second, .val (.ref b1), .val (.long (own_mix q0)), .second, .val (.long v11), .second, .val (.ref b12), .val (.long v19), .second, .val (.int v21), .val (.ref b22), .val (.long (own_mix (0 : Int64))), .second, .val (.long v33), .second, .val (.int v37), .val (.int v41)] [(.int v21)])) _
        refine XS.ifYes X30.here hx rfl (pc0 := 128) (pc' := 145) rfl (hb hby at_128) rfl ((if0 _ _).trans (teq hc42).1) (by decide) (by decide) ?_
        show Steps p.tables e below (T30.setTop (mkF m 145 #[.val (.long q0), .second, .val (.ref b1), .val (.long (own_mix q0)), .second, .val (.long v11), .second, .val (.ref b12), .val (.long v19), .second, .val (.int v21), .val (.ref b22), .val (.long (own_mix (0 : Int64))), .second, .val (.long v33), .second, .val (.int v37), .val (.int v41)] [])) _
        refine XS.iconst X30.here hx rfl (hb hby at_145) ?_
        exact castTop (by rw [hv47, if_pos hc42] <;> rfl) kt
      · show Steps p.tables e below (T30.setTop (mkF m 128 #[.val (.long q0), .second, .val (.ref b1), .val (.long (own_mix q0)), .second, .val (.long v11), .second, .val (.ref b12), .val (.long v19), .second, .val (.int v21), .val (.ref b22), .val (.long (own_mix (0 : Int64))), .second, .val (.long v33), .second, .val (.int v37), .val (.int v41)] [(.int v21)])) _
        refine XS.ifNo X30.here hx rfl (hb hby at_128) rfl ((if0 _ _).trans (feq hc42).1) ?_
        show Steps p.tables e below (T30.setTop (mkF m 131 #[.val (.long q0), .second, .val (.ref b1), .val (.long (own_mix q0)), .second, .val (.long v11), .second, .val (.ref b12), .val (.long v19), .second, .val (.int v21), .val (.ref b22), .val (.long (own_mix (0 : Int64))), .second, .val (.long v33), .second, .val (.int v37), .val (.int v41)] [])) _
        refine XS.iload X30.here hx rfl (hb hby at_131) rfl ?_
        show Steps p.tables e below (T30.setTop (mkF m 133 #[.val (.long q0), .second, .val (.ref b1), .val (.long (own_mix q0)), .second, .val (.long v11), .second, .val (.ref b12), .val (.long v19), .second, .val (.int v21), .val (.ref b22), .val (.long (own_mix (0 : Int64))), .second, .val (.long v33), .second, .val (.int v37), .val (.int v41)] [(.int v37)])) _
        refine own_dia (F := (mkF m 146 #[.val (.long q0), .second, .val (.ref b1), .val (.long (own_mix q0)), .second, .val (.long v11), .second, .val (.ref b12), .val (.long v19), .second, .val (.int v21), .val (.ref b22), .val (.long (own_mix (0 : Int64))), .second, .val (.long v33), .second, .val (.int v37), .val (.int v41)] [(.int v46)])) ?_ ?_
        · intro kt
          by_cases hc43 : v37 = (0 : Int32)
          · show Steps p.tables e below (T30.setTop (mkF m 133 #[.val (.long q0), .second, .val (.ref b1), .val (.long (own_mix q0)), .second, .val (.long v11), .second, .val (.ref b12), .val (.long v19), .second, .val (.int v21), .val (.ref b22), .val (.long (own_mix (0 : Int64))), .second, .val (.long v33), .second, .val (.int v37), .val (.int v41)] [(.int v37)])) _
            refine XS.ifYes X30.here hx rfl (pc0 := 133) (pc' := 145) rfl (hb hby at_133) rfl ((if0 _ _).trans (teq hc43).1) (by decide) (by decide) ?_
            show Steps p.tables e below (T30.setTop (mkF m 145 #[.val (.long q0), .second, .val (.ref b1), .val (.long (own_mix q0)), .second, .val (.long v11), .second, .val (.ref b12), .val (.long v19), .second, .val (.int v21), .val (.ref b22), .val (.long (own_mix (0 : Int64))), .second, .val (.long v33), .second, .val (.int v37), .val (.int v41)] [])) _
            refine XS.iconst X30.here hx rfl (hb hby at_145) ?_
            exact castTop (by rw [hv46, if_pos hc43] <;> rfl) kt
          · show Steps p.tables e below (T30.setTop (mkF m 133 #[.val (.long q0), .second, .val (.ref b1), .val (.long (own_mix q0)), .second, .val (.long v11), .second, .val (.ref b12), .val (.long v19), .second, .val (.int v21), .val (.ref b22), .val (.long (own_mix (0 : Int64))), .second, .val (.long v33), .second, .val (.int v37), .val (.int v41)] [(.int v37)])) _
            refine XS.ifNo X30.here hx rfl (hb hby at_133) rfl ((if0 _ _).trans (feq hc43).1) ?_
            show Steps p.tables e below (T30.setTop (mkF m 136 #[.val (.long q0), .second, .val (.ref b1), .val (.long (own_mix q0)), .second, .val (.long v11), .second, .val (.ref b12), .val (.long v19), .second, .val (.int v21), .val (.ref b22), .val (.long (own_mix (0 : Int64))), .second, .val (.long v33), .second, .val (.int v37), .val (.int v41)] [])) _
            refine XS.iload X30.here hx rfl (hb hby at_136) rfl ?_
            show Steps p.tables e below (T30.setTop (mkF m 138 #[.val (.long q0), .second, .val (.ref b1), .val (.long (own_mix q0)), .second, .val (.long v11), .second, .val (.ref b12), .val (.long v19), .second, .val (.int v21), .val (.ref b22), .val (.long (own_mix (0 : Int64))), .second, .val (.long v33), .second, .val (.int v37), .val (.int v41)] [(.int v41)])) _
            refine own_dia (F := (mkF m 146 #[.val (.long q0), .second, .val (.ref b1), .val (.long (own_mix q0)), .second, .val (.long v11), .second, .val (.ref b12), .val (.long v19), .second, .val (.int v21), .val (.ref b22), .val (.long (own_mix (0 : Int64))), .second, .val (.long v33), .second, .val (.int v37), .val (.int v41)] [(.int v45)])) ?_ ?_
            · intro kt
              by_cases hc44 : v41 = (0 : Int32)
              · show Steps p.tables e below (T30.setTop (mkF m 138 #[.val (.long q0), .second, .val (.ref b1), .val (.long (own_mix q0)), .second, .val (.long v11), .second, .val (.ref b12), .val (.long v19), .second, .val (.int v21), .val (.ref b22), .val (.long (own_mix (0 : Int64))), .second, .val (.long v33), .second, .val (.int v37), .val (.int v41)] [(.int v41)])) _
                refine XS.ifYes X30.here hx rfl (pc0 := 138) (pc' := 145) rfl (hb hby at_138) rfl ((if0 _ _).trans (teq hc44).1) (by decide) (by decide) ?_
                show Steps p.tables e below (T30.setTop (mkF m 145 #[.val (.long q0), .second, .val (.ref b1), .val (.long (own_mix q0)), .second, .val (.long v11), .second, .val (.ref b12), .val (.long v19), .second, .val (.int v21), .val (.ref b22), .val (.long (own_mix (0 : Int64))), .second, .val (.long v33), .second, .val (.int v37), .val (.int v41)] [])) _
                refine XS.iconst X30.here hx rfl (hb hby at_145) ?_
                exact castTop (by rw [hv45, if_pos hc44] <;> rfl) kt
              · show Steps p.tables e below (T30.setTop (mkF m 138 #[.val (.long q0), .second, .val (.ref b1), .val (.long (own_mix q0)), .second, .val (.long v11), .second, .val (.ref b12), .val (.long v19), .second, .val (.int v21), .val (.ref b22), .val (.long (own_mix (0 : Int64))), .second, .val (.long v33), .second, .val (.int v37), .val (.int v41)] [(.int v41)])) _
                refine XS.ifNo X30.here hx rfl (hb hby at_138) rfl ((if0 _ _).trans (feq hc44).1) ?_
                show Steps p.tables e below (T30.setTop (mkF m 141 #[.val (.long q0), .second, .val (.ref b1), .val (.long (own_mix q0)), .second, .val (.long v11), .second, .val (.ref b12), .val (.long v19), .second, .val (.int v21), .val (.ref b22), .val (.long (own_mix (0 : Int64))), .second, .val (.long v33), .second, .val (.int v37), .val (.int v41)] [])) _
                refine XS.iconst X30.here hx rfl (hb hby at_141) ?_
                show Steps p.tables e below (T30.setTop (mkF m 142 #[.val (.long q0), .second, .val (.ref b1), .val (.long (own_mix q0)), .second, .val (.long v11), .second, .val (.ref b12), .val (.long v19), .second, .val (.int v21), .val (.ref b22), .val (.long (own_mix (0 : Int64))), .second, .val (.long v33), .second, .val (.int v37), .val (.int v41)] [(.int (1 : Int32))])) _
                refine XS.goto X30.here hx rfl (pc0 := 142) (pc' := 146) rfl (hb hby at_142) (by decide) (by decide) ?_
                exact castTop (by rw [hv45, if_neg hc44] <;> rfl) kt
            exact castTop (by rw [hv46, if_neg hc43] <;> rfl) kt
        exact castTop (by rw [hv47, if_neg hc42] <;> rfl) kt
    show Steps p.tables e below (T30.setTop (mkF m 146 #[.val (.long q0), .second, .val (.ref b1), .val (.long (own_mix q0)), .second, .val (.long v11), .second, .val (.ref b12), .val (.long v19), .second, .val (.int v21), .val (.ref b22), .val (.long (own_mix (0 : Int64))), .second, .val (.long v33), .second, .val (.int v37), .val (.int v41)] [(.int v47)])) _
    exact retN X30 hx (t := .boolean) Bd.returns (by simp) (hb hby at_146) hr
  · show Q0 h0 n0 _ T30.heap _
    refine ⟨?_, N30⟩
    have hfin : (nar .boolean v47) = (1 : Int32) := by
      exact (own_law q0 v11 v19 v21 v33 v36 v37 v40 v41 v45 v46 v47 hv11 hv19 hv21 hv33 hv36 hv37 hv40 hv41 hv45 hv46 hv47)
    rw [hfin]
set_option maxRecDepth 65536 in
set_option maxHeartbeats 40000000 in
theorem comes_1 {Post : Tables → Env → Array Value → State → Outcome → State → Prop} (hpost : ∀ tb e args s v u, (limb_1_1.after args s (.returned v) u = true ∧ limb_1_2.after args s (.returned v) u = true ∧ True) → FrameEnd s (.returned v) u (Jvm.fieldLocs frame_1_writes args s ++ Jvm.arrayLocs frame_1_arrays args s ++ Jvm.staticLocs frame_1_statics s) 16 128 → Post tb e args s (.returned v) u) :
    ArmFor flags0 classFile x code maxLocals ret World_1 tables_1 room_1 Calls_1 rest_1 Pre_1 Post := by
  intro l hfl _ _ p e ha hc hk s m args below hf hA hF happ hP
  obtain ⟨hcalls, hrest, hpre⟩ := hP
  obtain ⟨-, -, -, hnamed, -, -, -, hat⟩ := (Spec.applies_iff hf).mp happ
  obtain ⟨hg, hn⟩ := and_e (Cond.before_iff.mp (show (Jvm.Cond.and given_1 narrow_1).before args s = true from hpre))
  obtain ⟨gg1, gg2⟩ := and_e hg
  obtain ⟨w0, rfl⟩ : ∃ w0 : Value, args = #[w0] := by
    have hs : args.size = 1 := by simpa [Cond.value, given_1] using gg1
    obtain ⟨L⟩ := args
    match L, hs with
    | [w0], _ => exact ⟨w0, rfl⟩
  have hw := fun d (hd : d ∈ tables_1) => atoms_spec (ws := Jvm.Cond.code x code maxLocals ret :: tables_1) hat d (List.mem_cons_of_mem _ hd)
  have hfit : Fit s := fun {y c} hc i hi => by
    obtain ⟨ha, rfl⟩ := Array.getElem?_eq_some_iff.mp hc
    have q := List.all_eq_true.mp ((Array.all_eq_true_iff_forall_mem.mp hF) _ (Array.getElem_mem ha)) i (List.mem_range.mpr hi)
    simpa [Array.getElem?_eq_getElem hi] using q
  obtain ⟨i0, ei0⟩ := isL_v gg2
  obtain rfl : w0 = (.long i0) := Option.some.inj ei0
  obtain ⟨n, o, h1, h2, h3, _, L, rfl, ⟨rfl, N⟩, hq⟩ := rm0 l s _ hw tables_1 i0  s.heap s.heap.size (Nat.le_refl _)  p e ha hc hk s m _ below hf ((Spec.applies_iff_loose hf).mp happ).1 ⟨rfl, State.Warmed39.refl s, rfl⟩ trivial
  refine ⟨n, _, h1, h2, h3, hpost _ _ _ _ _ _ ⟨Cond.after_iff.mpr rfl, Cond.after_iff.mpr (eq_i res_at (Term.int_eval (1)) rfl), trivial⟩ ⟨hq.1, hq.2.1, (hq.2.2.sift fun y hy => Or.inr (N y hy)).mono (by decide) (by decide)⟩⟩
theorem main_1_1 : Claimed_1_1 := comes_1 fun _ _ _ _ _ _ h hF => ⟨h.1, hF⟩
theorem main_1_2 : Claimed_1_2 := comes_1 fun _ _ _ _ _ _ h hF => ⟨h.2.1, hF⟩
end Jvm.Pilot.@@N@@
namespace Jvm.Pilot.@@N@@
open Jvm Jvm.ClassFile Sem Op Lib Jvm.Free Jvm.Stand Jvm.Pilot.@@N@@.Jvm.D
/-! MADE BY PROGRAM (witnessworld.py) out of the Statement's table words and the real class files: 9 classes; the members and pool entries that the words name. The judged class is class 1, her method 1. -/
namespace start1
open Jvm.ClassFile
def u (s : String) : CpInfo := .utf8 (stringToUtf16 s)
/-- a pool by its gaps: so many unusable entries, then the entry; so many at the end -/
def gap : Nat → List CpInfo → List CpInfo
  | 0, r => r
  | n + 1, r => .unusable :: gap n r
def poolList (es : List (Nat × CpInfo)) (last : Nat) : List CpInfo := es.foldr (fun e r => gap e.1 (e.2 :: r)) (gap last [])
def pool (es : List (Nat × CpInfo)) (last : Nat) : Array CpInfo := ⟨poolList es last⟩
def fileOf (pool : Array CpInfo) (this : Nat) (attrs : Array Attribute := #[]) (ms : Array MethodInfo := #[]) (fl : Nat := 33) (sup : Nat := 0) (ifs : Array Nat := #[]) (fds : Array FieldInfo := #[]) : ClassFile where
  minorVersion := 0
  majorVersion := 65
  constantPool := pool
  accessFlags := fl
  thisClass := this
  superClass := sup
  interfaces := ifs
  fields := fds
  methods := ms
  attributes := attrs
def plain (name : String) (sup : Option ClassId) : Class where
  name := name
  kind := .ordinary
  loader := none
  accessFlags := 33
  super := sup
  interfaces := #[]
  cf := none
  fields := #[]
  methods := #[]
  instanceTypes := #[]
  staticTypes := #[]
  resolved := #[]
  callSites := []
  init := .initialized
  statics := none
  mirror := none

def pool0 : Array CpInfo := pool [(5, u "<init>"), (0, u "()V"), (1, .class_ 10), (1, u "java/lang/Object")] 113

def k0c0 : Code := { maxStack := 0, maxLocals := 1, code := object_method_1_code, exceptionTable := #[], attributes := #[] }
def k0m0 : Method := { name := "<init>", desc := "()V", sig := { parameters := [], returnType := none }, accessFlags := 1, code := some k0c0 }
/-- java/lang/Object -/
def k0 : Class := { plain "java/lang/Object" none with
  accessFlags := 33
  interfaces := #[]
  cf := some (fileOf pool0 8 #[] #[{ accessFlags := 1, nameIndex := 5, descriptorIndex := 6, attributes := #[] }] 33 0 #[] #[])
  fields := #[]
  methods := #[k0m0]
  instanceTypes := #[]
  staticTypes := #[]
  resolved := Array.replicate 124 none
  statics := none }

def pool1 : Array CpInfo := pool [(2, .class_ 4), (1, u "java/lang/Object"), (0, u "<init>"), (0, u "()V"), (0, .class_ 8), (0, u "com/example/uneven_ticks/uneventicks/core/SplitMix64"), (0, .methodref 7 10), (0, .nameAndType 5 11), (0, u "(J)V"), (0, .methodref 7 13), (0, .nameAndType 14 15), (0, u "nextLong"), (0, u "()J"), (0, .class_ 17), (0, u "com/example/uneven_ticks/uneventicks/core/SplitMix64NextLongPinLaw"), (0, .long 11400714819323198485), (1, .long 16294208416658607535), (1, .long 7960286522194355700), (1, u "GAMMA"), (0, u "J"), (3, u "law"), (0, u "(J)Z")] 3

def k1m0 : Method := { name := "<init>", desc := "()V", sig := { parameters := [], returnType := none }, accessFlags := 1, code := none }
def k1c1 : Code := { maxStack := 6, maxLocals := 18, code := code, exceptionTable := #[], attributes := #[] }
def k1m1 : Method := { name := "law", desc := "(J)Z", sig := { parameters := [.long], returnType := some .boolean }, accessFlags := 9, code := some k1c1 }
/-- com/example/uneven_ticks/uneventicks/core/SplitMix64NextLongPinLaw -/
def k1 : Class := { plain "com/example/uneven_ticks/uneventicks/core/SplitMix64NextLongPinLaw" (some 0) with
  accessFlags := 49
  interfaces := #[]
  cf := some (fileOf pool1 16 #[] #[{ accessFlags := 1, nameIndex := 5, descriptorIndex := 6, attributes := #[] }, { accessFlags := 9, nameIndex := 29, descriptorIndex := 30, attributes := #[] }] 49 2 #[] #[{ accessFlags := 26, nameIndex := 24, descriptorIndex := 25, attributes := #[] }])
  fields := #[{ name := "GAMMA", type := .long, accessFlags := 26, slot := 0, constantValue := 0 }]
  methods := #[k1m0, k1m1]
  instanceTypes := #[]
  staticTypes := #[.long]
  resolved := Array.replicate 34 none
  statics := none }

def pool2 : Array CpInfo := pool [(1, .methodref 2 3), (0, .class_ 4), (0, .nameAndType 5 6), (0, u "java/lang/Object"), (0, u "<init>"), (0, u "()V"), (0, .fieldref 8 9), (0, .class_ 10), (0, .nameAndType 11 12), (0, u "com/example/uneven_ticks/uneventicks/core/SplitMix64"), (0, u "state"), (0, u "J"), (0, .long 11400714819323198485), (1, .long 13787848793156543929), (1, .long 10723151780598845931), (3, u "nextLong"), (0, u "()J"), (0, u "GAMMA"), (1, u "(J)V")] 9

def k2c0 : Code := { maxStack := 3, maxLocals := 3, code := prog_52_method_1_code, exceptionTable := #[], attributes := #[] }
def k2m0 : Method := { name := "<init>", desc := "(J)V", sig := { parameters := [.long], returnType := none }, accessFlags := 0, code := some k2c0 }
def k2c1 : Code := { maxStack := 5, maxLocals := 3, code := prog_52_method_2_code, exceptionTable := #[], attributes := #[] }
def k2m1 : Method := { name := "nextLong", desc := "()J", sig := { parameters := [], returnType := some .long }, accessFlags := 0, code := some k2c1 }
/-- com/example/uneven_ticks/uneventicks/core/SplitMix64 -/
def k2 : Class := { plain "com/example/uneven_ticks/uneventicks/core/SplitMix64" (some 0) with
  accessFlags := 32
  interfaces := #[]
  cf := some (fileOf pool2 8 #[] #[{ accessFlags := 0, nameIndex := 5, descriptorIndex := 25, attributes := #[] }, { accessFlags := 0, nameIndex := 21, descriptorIndex := 22, attributes := #[] }] 32 2 #[] #[{ accessFlags := 26, nameIndex := 23, descriptorIndex := 12, attributes := #[] }, { accessFlags := 2, nameIndex := 11, descriptorIndex := 12, attributes := #[] }])
  fields := #[{ name := "GAMMA", type := .long, accessFlags := 26, slot := 0, constantValue := 0 }, { name := "state", type := .long, accessFlags := 2, slot := 0, constantValue := 0 }]
  methods := #[k2m0, k2m1]
  instanceTypes := #[.long]
  staticTypes := #[.long]
  resolved := Array.replicate 35 none
  statics := none }

def pool3 : Array CpInfo := pool [(1, u "java/lang/Cloneable"), (0, .class_ 1), (0, u "java/lang/Object"), (0, .class_ 3)] 3

/-- java/lang/Cloneable -/
def k3 : Class := { plain "java/lang/Cloneable" (some 0) with
  accessFlags := 1537
  interfaces := #[]
  cf := some (fileOf pool3 2 #[] #[] 1537 4 #[] #[])
  fields := #[]
  methods := #[]
  instanceTypes := #[]
  staticTypes := #[]
  resolved := Array.replicate 8 none
  statics := none }

def pool4 : Array CpInfo := pool [(1, u "java/io/Serializable"), (0, .class_ 1), (0, u "java/lang/Object"), (0, .class_ 3)] 3

/-- java/io/Serializable -/
def k4 : Class := { plain "java/io/Serializable" (some 0) with
  accessFlags := 1537
  interfaces := #[]
  cf := some (fileOf pool4 2 #[] #[] 1537 4 #[] #[])
  fields := #[]
  methods := #[]
  instanceTypes := #[]
  staticTypes := #[]
  resolved := Array.replicate 8 none
  statics := none }

/-- the primitive byte -/
def k5 : Class := { plain "byte" none with kind := .primitive 'B', accessFlags := 0x411 }
/-- [B -/
def k6 : Class := { plain "[B" (some 0) with kind := .array 5 .byte, interfaces := #[3, 4], accessFlags := 1041 }

/-- the primitive int -/
def k7 : Class := { plain "int" none with kind := .primitive 'I', accessFlags := 0x411 }
/-- [I -/
def k8 : Class := { plain "[I" (some 0) with kind := .array 7 .int, interfaces := #[3, 4], accessFlags := 1041 }

def heap : Heap := #[]
def classes : Array Class := #[k0, k1, k2, k3, k4, k5, k6, k7, k8]
def interned : List (Array UInt16 × Addr) := []
def slotsUsed : Nat := 0
def theMethod : MethodId := ⟨1, 1⟩
def args0 : Array Value := #[.long 5]
def aboutOver (below : List Frame) : State where
  vm := { classes := classes, interned := interned.toArray }
  heap := heap
  slotsUsed := slotsUsed
  threads := #[{ frames := .invoking theMethod args0 :: below }]
def below0 : List Frame := [.native { method := ⟨0, 0⟩, args := #[] }]
def about1 : State := aboutOver below0
def p0 : Program := .bare "" "" ""
def e0 : Env := launch0.env 0 0 0
theorem w_frames : about1.frames = Frame.invoking theMethod args0 :: below0 := rfl
set_option maxRecDepth 65536 in
theorem w_args : argsFit about1.vm theMethod args0 = true := by decide +kernel
set_option maxRecDepth 65536 in
theorem w_heap : heapFits about1 = true := by decide +kernel
set_option maxRecDepth 65536 in
theorem w_runnable : about1.curStatus? = some .runnable := by decide +kernel
set_option maxRecDepth 65536 in
theorem w_alone : about1.alone = true := by decide +kernel
set_option maxRecDepth 65536 in
theorem w_named : about1.methodNamed? x = some theMethod := by decide +kernel
set_option maxRecDepth 65536 in
theorem w_hears : about1.hears theMethod below0 = true := by decide +kernel
set_option maxRecDepth 65536 in
theorem w_ripe : about1.ripe theMethod args0 below0 = true := by decide +kernel
theorem w_running : about1.status = .running := rfl
set_option maxRecDepth 65536 in
theorem w_room : about1.hasRoom e0.platform room_1 = true :=
  launch0.hasRoom_least _ room_1 (by decide +kernel) (by decide +kernel) (by decide +kernel) (by decide +kernel) (by decide +kernel) (by decide +kernel)
theorem allAtoms_all (ts : List Jvm.Cond) (a : Array Jvm.Value) (st : Jvm.State) : (allAtoms ts).before a st = ts.all (fun c => c.before a st) := by
  induction ts with
  | nil => rfl
  | cons c t ih =>
    show (Jvm.Cond.and c (allAtoms t)).before a st = _
    rw [Jvm.Cond.before_and, ih, List.all_cons]
def words1 : List Jvm.Cond := Jvm.Cond.code x code maxLocals ret :: tables_1
/-- a 'code' word, met by the world's own term for the bytes: nothing is compared byte by byte -/
theorem code_word {y : MethodName} {bytes : ByteArray} {mx : Nat} {rt : Option FieldType} {a : Array Value} {s : State} {m : MethodId} {meth : Method} {c : Code} (h1 : s.methodNamed? y = some m) (h2 : s.vm.method? m = some meth) (h3 : meth.code = some c) (h4 : c.code = bytes)
    (h5 : (c.maxLocals == mx && c.exceptionTable.isEmpty && decide (c.maxStack ≤ mostOperands) && decide (meth.sig.returnType = rt) && !meth.locks && decide (parseMethodDescriptor y.desc = some meth.sig)) = true) : (Jvm.Cond.code y bytes mx rt).before a s = true := by
  simp only [Bool.and_eq_true, beq_iff_eq, Bool.not_eq_true', decide_eq_true_eq] at h5
  obtain ⟨⟨⟨⟨⟨g1, g2⟩, g3⟩, g4⟩, g5⟩, g6⟩ := h5
  simp [Cond.before, Cond.holds, Cond.value, h1, h2, h3, h4, g1, g2, g3, g4, g5, g6]
def isCode : Jvm.Cond → Bool
  | .code _ _ _ _ => true
  | _ => false
theorem all_split {L : List Jvm.Cond} {P : Jvm.Cond → Bool} (h1 : L.all (fun c => isCode c || P c) = true) (h2 : ∀ c ∈ L.filter isCode, P c = true) : L.all P = true := by
  refine List.all_eq_true.mpr fun c hc => ?_
  have h := List.all_eq_true.mp h1 c hc
  rcases Bool.eq_false_or_eq_true (isCode c) with hi | hi
  · exact h2 c (List.mem_filter.mpr ⟨hc, hi⟩)
  · simpa [hi] using h
set_option maxRecDepth 65536 in
theorem w_c0 : (Jvm.Cond.code x code maxLocals ret).before args0 about1 = true := code_word (m := ⟨1, 1⟩) (meth := k1m1) (c := k1c1) (by decide +kernel) rfl rfl rfl (by decide +kernel)
set_option maxRecDepth 65536 in
theorem w_c1 : (Jvm.Cond.code ({ cls := "com/example/uneven_ticks/uneventicks/core/SplitMix64", name := "<init>", desc := "(J)V" } : Jvm.MethodName) prog_52_method_1_code (3 : Nat) (Option.none : Option Jvm.ClassFile.FieldType)).before args0 about1 = true := code_word (m := ⟨2, 0⟩) (meth := k2m0) (c := k2c0) (by decide +kernel) rfl rfl rfl (by decide +kernel)
set_option maxRecDepth 65536 in
theorem w_c2 : (Jvm.Cond.code ({ cls := "java/lang/Object", name := "<init>", desc := "()V" } : Jvm.MethodName) object_method_1_code (1 : Nat) (Option.none : Option Jvm.ClassFile.FieldType)).before args0 about1 = true := code_word (m := ⟨0, 0⟩) (meth := k0m0) (c := k0c0) (by decide +kernel) rfl rfl rfl (by decide +kernel)
set_option maxRecDepth 65536 in
theorem w_c3 : (Jvm.Cond.code ({ cls := "com/example/uneven_ticks/uneventicks/core/SplitMix64", name := "nextLong", desc := "()J" } : Jvm.MethodName) prog_52_method_2_code (3 : Nat) (Option.some Jvm.ClassFile.FieldType.long)).before args0 about1 = true := code_word (m := ⟨2, 1⟩) (meth := k2m1) (c := k2c1) (by decide +kernel) rfl rfl rfl (by decide +kernel)
def codes1 : List Jvm.Cond := [Jvm.Cond.code x code maxLocals ret, Jvm.Cond.code ({ cls := "com/example/uneven_ticks/uneventicks/core/SplitMix64", name := "<init>", desc := "(J)V" } : Jvm.MethodName) prog_52_method_1_code (3 : Nat) (Option.none : Option Jvm.ClassFile.FieldType), Jvm.Cond.code ({ cls := "java/lang/Object", name := "<init>", desc := "()V" } : Jvm.MethodName) object_method_1_code (1 : Nat) (Option.none : Option Jvm.ClassFile.FieldType), Jvm.Cond.code ({ cls := "com/example/uneven_ticks/uneventicks/core/SplitMix64", name := "nextLong", desc := "()J" } : Jvm.MethodName) prog_52_method_2_code (3 : Nat) (Option.some Jvm.ClassFile.FieldType.long)]
set_option maxRecDepth 65536 in
theorem codes_eq : words1.filter isCode = codes1 := rfl
theorem w_codes : ∀ c ∈ words1.filter isCode, c.before args0 about1 = true := by
  rw [codes_eq]
  intro c hc
  simp only [codes1, List.mem_cons, List.not_mem_nil, or_false] at hc
  rcases hc with rfl | rfl | rfl | rfl
  · exact w_c0
  · exact w_c1
  · exact w_c2
  · exact w_c3
set_option maxRecDepth 65536 in
theorem w_t1 : words1.all (fun c => isCode c || c.before args0 about1) = true := by decide +kernel
theorem w_tables : (allAtoms (Jvm.Cond.code x code maxLocals ret :: tables_1)).before args0 about1 = true := by
  rw [allAtoms_all]
  show words1.all (fun c => c.before args0 about1) = true
  refine all_split ?_ w_codes
  rw [w_t1]
set_option maxRecDepth 65536 in
theorem w_case : (Jvm.Cond.and given_1 narrow_1).before args0 about1 = true := by decide +kernel
theorem w_applies : (headSpec (Jvm.Cond.code x code maxLocals ret :: tables_1) room_1).applies x e0.platform about1 = true :=
  (Spec.applies_iff w_frames).mpr ⟨w_running, w_runnable, w_alone, w_named, w_hears, w_ripe, w_room, w_tables⟩
theorem atStart : AtStart classFile x code maxLocals ret World_1 tables_1 room_1 Calls_1 rest_1 Pre_1 launch0 p0 e0 about1 theMethod args0 below0 :=
  ⟨lists_1, trivial, launch0.admits_env _ _ _, launch0.least_env, fairChoices_fair.cas, fairChoices_fair.clock, w_frames, w_args, w_heap, w_applies, trivial, trivial, w_case⟩
end start1
theorem witness_1 : WitnessClaimed_1 := ⟨start1.p0, start1.e0, start1.about1, start1.theMethod, start1.args0, start1.below0, start1.atStart⟩
end Jvm.Pilot.@@N@@
